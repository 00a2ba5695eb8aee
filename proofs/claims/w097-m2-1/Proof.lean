import JvmDerived
import JvmDerived.Pilot.@@N@@Statement
import JvmDerived.Pilot.@@N@@Code
set_option linter.unusedVariables false
set_option linter.unusedSimpArgs false
/- laws to paste: Road.backV, Road.eqW, Road.codOf (cut by pick.py; bodies as the Statement names them) -/
namespace Jvm.Pilot.@@N@@
namespace StrChars
open Jvm Sem ClassFile Op Lib Jvm.Stand Jvm.Free.XT Jvm.Free.ALB Jvm.Free.JM Jvm.Free
open Jvm.Lib.Cold (StaticIs)
/-- a char array whose places are chars -/
def Ch (a : Addr) (A : Cell) (U : State) : Prop := Arr .char a A U ∧ Typed .char A
theorem Ch.mv {a : Addr} {A : Cell} {U U' : State} (h : Ch a A U) (hal : U.vm.Alike U'.vm) (hh : U'.heap = U.heap) : Ch a A U' := ⟨h.1.mv hal hh, h.2⟩
theorem Ch.keep {a : Addr} {A : Cell} {U U' : State} (h : Ch a A U) (hal : U.vm.Alike U'.vm) (hk : U'.heap[a]? = some A) : Ch a A U' := ⟨h.1.keep hal hk, h.2⟩
/-- what place i of a char[]'s cell holds -/
def cv (A : Cell) (i : Nat) : Int32 := match A.slots[i]? with | some (.int x) => x | _ => 0
theorem Ch.get {a : Addr} {A : Cell} {U : State} (h : Ch a A U) {i : Nat} (hi : i < A.slots.size) : A.slots[i]? = some (.int (cv A i)) := by
  have e := Array.getElem?_eq_getElem hi
  have f := h.2 i _ e
  unfold cv; rw [e]
  generalize A.slots[i] = v at f
  cases v <;> simp [fits] at f ⊢
/-- the byte that i2b leaves of a char -/
def lo8 (x : Int32) : Int32 := x.toInt8.toInt32
theorem fits_lo8 (y : Int32) : fits .byte (.int (lo8 y)) = true := by
  have h1 := y.toInt8.le_toInt
  have h2 := y.toInt8.toInt_lt
  simp only [lo8, fits, Bool.and_eq_true, decide_eq_true_eq, Int32.le_iff_toInt_le, Int8.toInt_toInt32, show (-128 : Int32).toInt = -128 from by decide, show (127 : Int32).toInt = 127 from by decide]
  omega
/-- A' is A but that each place j of lo .. hi - 1 holds f j -/
def Laid (A A' : Cell) (lo hi : Nat) (f : Nat → Value) : Prop := A'.cls = A.cls ∧ A'.vm = A.vm ∧ A'.slots.size = A.slots.size ∧ ∀ i, A'.slots[i]? = if lo ≤ i ∧ i < hi then some (f i) else A.slots[i]?
theorem Laid.zero (A : Cell) (lo : Nat) (f : Nat → Value) : Laid A A lo (lo + 0) f := ⟨rfl, rfl, rfl, fun i => by rw [if_neg (by omega)]⟩
theorem Laid.step {A Ak : Cell} {lo k : Nat} {f : Nat → Value} {v : Value} (h : Laid A Ak lo k f) (hlo : lo ≤ k) (hk : k < Ak.slots.size) (hv : v = f k) : Laid A (Ak.setSlot k v) lo (k + 1) f := by
  refine ⟨h.1, h.2.1, by simpa [Cell.setSlot] using h.2.2.1, fun i => ?_⟩
  by_cases e : k = i
  · subst e; rw [Cell.slots_setSlot_self v hk, if_pos (by omega), hv]
  · rw [Cell.slots_setSlot_ne v e, h.2.2.2 i]
    by_cases q : lo ≤ i ∧ i < k
    · rw [if_pos q, if_pos (by omega)]
    · rw [if_neg q, if_neg (by omega)]
def U16 : String := "java/lang/StringUTF16"
namespace Cmp5
def yN : MethodName := ⟨"java/lang/StringUTF16", "compress", "([CI[BII)I"⟩
abbrev yB : ByteArray := jdk_52_method_21_code
theorem d0 : decode yB 0 = .ok (.iconst 0, 1) := by decide +kernel
theorem d1 : decode yB 1 = .ok (.istore 5, 2) := by decide +kernel
theorem d3 : decode yB 3 = .ok (.iload 5, 2) := by decide +kernel
theorem d5 : decode yB 5 = .ok (.iload 4, 2) := by decide +kernel
theorem d7 : decode yB 7 = .ok (.if_icmp (.ge) 37, 3) := by decide +kernel
theorem d10 : decode yB 10 = .ok (.aload_n 0, 1) := by decide +kernel
theorem d11 : decode yB 11 = .ok (.iload_n 1, 1) := by decide +kernel
theorem d12 : decode yB 12 = .ok (.caload, 1) := by decide +kernel
theorem d13 : decode yB 13 = .ok (.istore 6, 2) := by decide +kernel
theorem d15 : decode yB 15 = .ok (.iload 6, 2) := by decide +kernel
theorem d17 : decode yB 17 = .ok (.sipush 255, 3) := by decide +kernel
theorem d20 : decode yB 20 = .ok (.if_icmp (.le) 6, 3) := by decide +kernel
theorem d26 : decode yB 26 = .ok (.aload_n 2, 1) := by decide +kernel
theorem d27 : decode yB 27 = .ok (.iload_n 3, 1) := by decide +kernel
theorem d28 : decode yB 28 = .ok (.iload 6, 2) := by decide +kernel
theorem d30 : decode yB 30 = .ok (.i2b, 1) := by decide +kernel
theorem d31 : decode yB 31 = .ok (.bastore, 1) := by decide +kernel
theorem d32 : decode yB 32 = .ok (.iinc 1 1, 3) := by decide +kernel
theorem d35 : decode yB 35 = .ok (.iinc 3 1, 3) := by decide +kernel
theorem d38 : decode yB 38 = .ok (.iinc 5 1, 3) := by decide +kernel
theorem d41 : decode yB 41 = .ok (.goto (-38), 3) := by decide +kernel
theorem d44 : decode yB 44 = .ok (.iload 4, 2) := by decide +kernel
theorem d46 : decode yB 46 = .ok (.ireturn, 1) := by decide +kernel
def site : List Cond := []
def tab : Cond := tabOf yN yB 7 (some .int) site
def P (b : Addr) (A : Cell) (d : Addr) (B : Cell) (o q len : Nat) (args : Array Value) (s : State) : Prop := args = #[.ref b, .int (Int32.ofNat o), .ref d, .int (Int32.ofNat q), .int (Int32.ofNat len)] ∧ Ch b A s ∧ Arr .byte d B s ∧ b ≠ d ∧ o + len ≤ A.slots.size ∧ q + len ≤ B.slots.size ∧ ∀ i, i < len → ¬ 255 < cv A (o + i)
def E (b : Addr) (A : Cell) (d : Addr) (B : Cell) (o q len : Nat) (r : Option Value) (s u : State) : Prop := r = some (.int (Int32.ofNat len)) ∧ ∃ B', Put d B' s u ∧ Laid B B' q (q + len) (fun j => Value.int (lo8 (cv A (o + (j - q)))))
/-- no char of the range above 255: len; the places written hold each char's low byte -/
theorem law (l : Launch) (b : Addr) (A : Cell) (d : Addr) (B : Cell) (o q len : Nat) : Law l yN 5 5 0 0 yB 7 (some .int) site (P b A d B o q len) (E b A d B o q len) (copyLocs d q len) 0 0 := by
  refine Law.of_walk (plainFor_of_name (by decide +kernel)) (by decide +kernel) (by decide +kernel) (by decide) (fun _ _ h => by rw [h.1]; rfl) (fun _ U U' hal hh h => ⟨h.1, h.2.1.mv hal hh, h.2.2.1.mv hal hh, h.2.2.2⟩) (fun r U U' V V' h1 hal h2 h => ⟨h.1, h.2.elim fun B' q => ⟨B', q.1.mv h1 h2, q.2⟩⟩) ?_
  intro p e s m args below meth c s₁ X0 hexec hbytes hml hret hlk hnm hown hh0 W hP
  obtain ⟨rfl, hA, hB, hne, l1, l2, hp⟩ := hP
  have c1 : Steps p.tables e below (s₁.setTop (entryFrame m #[.ref b, .int (Int32.ofNat o), .ref d, .int (Int32.ofNat q), .int (Int32.ofNat len)] 7)) (s₁.setTop (mkF m 0 #[.val (.ref b), .val (.int (Int32.ofNat o)), .val (.ref d), .val (.int (Int32.ofNat q)), .val (.int (Int32.ofNat len)), .unset, .unset] [])) := entry rfl
  have hA0 := hA.1.mv X0.warmed.alike hh0
  have hB0 := hB.mv X0.warmed.alike hh0
  have a31 := hA.1.2.2.2
  have c2 : Steps p.tables e below (s₁.setTop (entryFrame m #[.ref b, .int (Int32.ofNat o), .ref d, .int (Int32.ofNat q), .int (Int32.ofNat len)] 7)) (s₁.setTop (mkF m 3 #[.val (.ref b), .val (.int (Int32.ofNat o)), .val (.ref d), .val (.int (Int32.ofNat q)), .val (.int (Int32.ofNat len)), .val (.int 0), .unset] [])) := c1.trans (by
    refine iconstV X0.here hexec rfl 0 (hb hbytes d0) (by decide) ?_
    refine XS.istore X0.here hexec rfl (hb hbytes d1) rfl rfl ?_
    exact Steps.refl _)
  have loop : ∀ (r i : Nat), i + r = len → ∀ (z : Slot), (z = .unset ∨ ∃ w, z = .val w ∧ w.category = 1) → ∀ (Tl : State) (Bk : Cell), Stand p l e { frames := 0, locals := 0, cells := 0, slots := 0 } s m #[.ref b, .int (Int32.ofNat o), .ref d, .int (Int32.ofNat q), .int (Int32.ofNat len)] below meth c Tl ([] ++ copyLocs d q i) 0 0 → Put d Bk s₁ Tl → Laid B Bk q (q + i) (fun j => Value.int (lo8 (cv A (o + (j - q))))) →
      Steps p.tables e below (s₁.setTop (entryFrame m #[.ref b, .int (Int32.ofNat o), .ref d, .int (Int32.ofNat q), .int (Int32.ofNat len)] 7)) (Tl.setTop (mkF m 3 #[.val (.ref b), .val (.int (Int32.ofNat (o + i))), .val (.ref d), .val (.int (Int32.ofNat (q + i))), .val (.int (Int32.ofNat len)), .val (.int (Int32.ofNat i)), z] [])) → ∃ (T' : State) (B' : Cell) (z' : Slot), Stand p l e { frames := 0, locals := 0, cells := 0, slots := 0 } s m #[.ref b, .int (Int32.ofNat o), .ref d, .int (Int32.ofNat q), .int (Int32.ofNat len)] below meth c T' ([] ++ copyLocs d q len) 0 0 ∧ Put d B' s₁ T' ∧ Laid B B' q (q + len) (fun j => Value.int (lo8 (cv A (o + (j - q))))) ∧
      Steps p.tables e below (s₁.setTop (entryFrame m #[.ref b, .int (Int32.ofNat o), .ref d, .int (Int32.ofNat q), .int (Int32.ofNat len)] 7)) (T'.setTop (mkF m 3 #[.val (.ref b), .val (.int (Int32.ofNat (o + len))), .val (.ref d), .val (.int (Int32.ofNat (q + len))), .val (.int (Int32.ofNat len)), .val (.int (Int32.ofNat len)), z'] [])) := by
    intro r
    induction r with
    | zero =>
      intro i hi z hz Tl Bk Xl pl fl cl
      have hil : i = len := by omega
      rw [hil] at Xl fl cl
      exact ⟨Tl, Bk, z, Xl, pl, fl, cl⟩
    | succ r ih =>
      intro i hi z hz Tl Bk Xl pl fl cl
      have all := X0.warmed.alike.symm.trans Xl.warmed.alike
      have hAl := hA0.keep all (pl.other hne hA0.1)
      have hBk := hB0.like all pl.1 fl.1 fl.2.1 fl.2.2.1
      have hlt : q + i < Bk.slots.size := by rw [fl.2.2.1]; omega
      have c3 : Steps p.tables e below (s₁.setTop (entryFrame m #[.ref b, .int (Int32.ofNat o), .ref d, .int (Int32.ofNat q), .int (Int32.ofNat len)] 7)) (Tl.setTop (mkF m 12 #[.val (.ref b), .val (.int (Int32.ofNat (o + i))), .val (.ref d), .val (.int (Int32.ofNat (q + i))), .val (.int (Int32.ofNat len)), .val (.int (Int32.ofNat i)), z] [.int (Int32.ofNat (o + i)), .ref b])) := cl.trans (by
        refine XS.iload Xl.here hexec rfl (hb hbytes d3) rfl ?_
        refine XS.iload Xl.here hexec rfl (hb hbytes d5) rfl ?_
        refine XS.icmpNo Xl.here hexec rfl (hb hbytes d7) rfl (ii_ge_f (lt32 (by omega) (by omega))) ?_
        refine XS.aloadN Xl.here hexec rfl (hb hbytes d10) rfl rfl ?_
        refine XS.iloadN Xl.here hexec rfl (hb hbytes d11) rfl ?_
        exact Steps.refl _)
      have c4 : Steps p.tables e below (s₁.setTop (entryFrame m #[.ref b, .int (Int32.ofNat o), .ref d, .int (Int32.ofNat q), .int (Int32.ofNat len)] 7)) (Tl.setTop (mkF m 13 #[.val (.ref b), .val (.int (Int32.ofNat (o + i))), .val (.ref d), .val (.int (Int32.ofNat (q + i))), .val (.int (Int32.ofNat len)), .val (.int (Int32.ofNat i)), z] [.int (cv A (o + i))])) := c3.trans (by
        refine Xl.aget hexec hAl rfl (hA.get (i := o + i) (by omega)) rfl rfl (hb hbytes d12) ?_
        exact Steps.refl _)
      have c5 : Steps p.tables e below (s₁.setTop (entryFrame m #[.ref b, .int (Int32.ofNat o), .ref d, .int (Int32.ofNat q), .int (Int32.ofNat len)] 7)) (Tl.setTop (mkF m 15 #[.val (.ref b), .val (.int (Int32.ofNat (o + i))), .val (.ref d), .val (.int (Int32.ofNat (q + i))), .val (.int (Int32.ofNat len)), .val (.int (Int32.ofNat i)), .val (.int (cv A (o + i)))] [])) := c4.trans (by
        refine XS.istoreS Xl.here hexec rfl (hb hbytes d13) rfl rfl hz ?_
        exact Steps.refl _)
      have c6 : Steps p.tables e below (s₁.setTop (entryFrame m #[.ref b, .int (Int32.ofNat o), .ref d, .int (Int32.ofNat q), .int (Int32.ofNat len)] 7)) (Tl.setTop (mkF m 31 #[.val (.ref b), .val (.int (Int32.ofNat (o + i))), .val (.ref d), .val (.int (Int32.ofNat (q + i))), .val (.int (Int32.ofNat len)), .val (.int (Int32.ofNat i)), .val (.int (cv A (o + i)))] [.int (lo8 (cv A (o + i))), .int (Int32.ofNat (q + i)), .ref d])) := c5.trans (by
        refine XS.iload Xl.here hexec rfl (hb hbytes d15) rfl ?_
        refine sipushV Xl.here hexec rfl 255 (hb hbytes d17) (by decide) ?_
        refine XS.icmpYes Xl.here hexec rfl (pc0 := 20) rfl (hb hbytes d20) rfl (ii_le_t (hp i (by omega))) (by decide) rfl ?_
        refine XS.aloadN Xl.here hexec rfl (hb hbytes d26) rfl rfl ?_
        refine XS.iloadN Xl.here hexec rfl (hb hbytes d27) rfl ?_
        refine XS.iload Xl.here hexec rfl (hb hbytes d28) rfl ?_
        refine i2b Xl.here hexec rfl (hb hbytes d30) rfl ?_
        exact Steps.refl _)
      obtain ⟨T7, X7, p7, st7⟩ := Xl.aput hexec hBk rfl hlt rfl (fits_lo8 (cv A (o + i))) (g := (mkF m 31 #[.val (.ref b), .val (.int (Int32.ofNat (o + i))), .val (.ref d), .val (.int (Int32.ofNat (q + i))), .val (.int (Int32.ofNat len)), .val (.int (Int32.ofNat i)), .val (.int (cv A (o + i)))] [.int (lo8 (cv A (o + i))), .int (Int32.ofNat (q + i)), .ref d])) rfl (rest := []) rfl (hb hbytes d31)
      have c8 : Steps p.tables e below (s₁.setTop (entryFrame m #[.ref b, .int (Int32.ofNat o), .ref d, .int (Int32.ofNat q), .int (Int32.ofNat len)] 7)) (T7.setTop (mkF m 32 #[.val (.ref b), .val (.int (Int32.ofNat (o + i))), .val (.ref d), .val (.int (Int32.ofNat (q + i))), .val (.int (Int32.ofNat len)), .val (.int (Int32.ofNat i)), .val (.int (cv A (o + i)))] [])) := c6.trans (st7 _ (Steps.refl _))
      have c9 : Steps p.tables e below (s₁.setTop (entryFrame m #[.ref b, .int (Int32.ofNat o), .ref d, .int (Int32.ofNat q), .int (Int32.ofNat len)] 7)) (T7.setTop (mkF m 3 #[.val (.ref b), .val (.int (Int32.ofNat (o + i) + 1)), .val (.ref d), .val (.int (Int32.ofNat (q + i) + 1)), .val (.int (Int32.ofNat len)), .val (.int (Int32.ofNat i + 1)), .val (.int (cv A (o + i)))] [])) := c8.trans (by
        refine iincV X7.here hexec rfl 1 (hb hbytes d32) (by decide) rfl rfl ?_
        refine iincV X7.here hexec rfl 1 (hb hbytes d35) (by decide) rfl rfl ?_
        refine iincV X7.here hexec rfl 1 (hb hbytes d38) (by decide) rfl rfl ?_
        refine XS.goto X7.here hexec rfl (pc0 := 41) rfl (hb hbytes d41) (by decide) rfl ?_
        exact Steps.refl _)
      have c10 : Steps p.tables e below (s₁.setTop (entryFrame m #[.ref b, .int (Int32.ofNat o), .ref d, .int (Int32.ofNat q), .int (Int32.ofNat len)] 7)) (T7.setTop (mkF m 3 #[.val (.ref b), .val (.int (Int32.ofNat (o + (i + 1)))), .val (.ref d), .val (.int (Int32.ofNat (q + (i + 1)))), .val (.int (Int32.ofNat len)), .val (.int (Int32.ofNat (i + 1))), .val (.int (cv A (o + i)))] [])) := by
        have := c9
        rw [succ32, succ32, succ32] at this
        exact this
      exact ih (i + 1) (by omega) _ (Or.inr ⟨_, rfl, rfl⟩) T7 _ (by rw [copyLocs_step, ← List.append_assoc]; exact X7) (pl.trans p7) (fl.step (by omega) hlt (by simp)) c10
  obtain ⟨T9, B9, z9, X9, p9, f9, g9⟩ := loop len 0 (by omega) .unset (Or.inl rfl) s₁ B (by simpa [copyLocs] using X0) ⟨hB0.1, fun _ _ => rfl, rfl⟩ (Laid.zero _ _ _) c2
  have c11 : Steps p.tables e below (s₁.setTop (entryFrame m #[.ref b, .int (Int32.ofNat o), .ref d, .int (Int32.ofNat q), .int (Int32.ofNat len)] 7)) (T9.setTop (mkF m 46 #[.val (.ref b), .val (.int (Int32.ofNat (o + len))), .val (.ref d), .val (.int (Int32.ofNat (q + len))), .val (.int (Int32.ofNat len)), .val (.int (Int32.ofNat len)), z9] [.int (Int32.ofNat len)])) := g9.trans (by
    refine XS.iload X9.here hexec rfl (hb hbytes d3) rfl ?_
    refine XS.iload X9.here hexec rfl (hb hbytes d5) rfl ?_
    refine XS.icmpYes X9.here hexec rfl (pc0 := 7) rfl (hb hbytes d7) rfl (ii_ge_t (nlt32 (by omega) (Nat.le_refl _))) (by decide) rfl ?_
    refine XS.iload X9.here hexec rfl (hb hbytes d44) rfl ?_
    exact Steps.refl _)
  exact ⟨T9, some (.int (Int32.ofNat len)), _, _, _, X9, by simp, rfl, rfl, (fun h => by cases h), ⟨rfl, B9, p9.from hh0, f9⟩, fun fs hl => c11.trans (X9.ireturnOut hexec hret rfl (Or.inl rfl) (hb hbytes d46) hl)⟩
end Cmp5
namespace Cmp3
def yN : MethodName := ⟨"java/lang/StringUTF16", "compress", "([CII)[B"⟩
abbrev yB : ByteArray := jdk_52_method_16_code
theorem d0 : decode yB 0 = .ok (.iload_n 2, 1) := by decide +kernel
theorem d1 : decode yB 1 = .ok (.newarray .byte, 2) := by decide +kernel
theorem d3 : decode yB 3 = .ok (.astore_n 3, 1) := by decide +kernel
theorem d4 : decode yB 4 = .ok (.aload_n 0, 1) := by decide +kernel
theorem d5 : decode yB 5 = .ok (.iload_n 1, 1) := by decide +kernel
theorem d6 : decode yB 6 = .ok (.aload_n 3, 1) := by decide +kernel
theorem d7 : decode yB 7 = .ok (.iconst 0, 1) := by decide +kernel
theorem d8 : decode yB 8 = .ok (.iload_n 2, 1) := by decide +kernel
theorem d9 : decode yB 9 = .ok (.invokestatic 115, 3) := by decide +kernel
theorem d12 : decode yB 12 = .ok (.istore 4, 2) := by decide +kernel
theorem d14 : decode yB 14 = .ok (.iload 4, 2) := by decide +kernel
theorem d16 : decode yB 16 = .ok (.iload_n 2, 1) := by decide +kernel
theorem d17 : decode yB 17 = .ok (.if_icmp (.eq) 40, 3) := by decide +kernel
theorem d57 : decode yB 57 = .ok (.aload_n 3, 1) := by decide +kernel
theorem d58 : decode yB 58 = .ok (.areturn, 1) := by decide +kernel
def site : List Cond := [.arrayClass .byte, Cmp5.tab] ++ staticW U16 115 Cmp5.yN
def tab : Cond := tabOf yN yB 6 (some (.array .byte)) site
def P (b : Addr) (A : Cell) (o len : Nat) (args : Array Value) (s : State) : Prop := args = #[.ref b, .int (Int32.ofNat o), .int (Int32.ofNat len)] ∧ Ch b A s ∧ o + len ≤ A.slots.size ∧ len ≤ 536870912 ∧ ∀ i, i < len → ¬ 255 < cv A (o + i)
def E (b : Addr) (A : Cell) (o len : Nat) (r : Option Value) (s u : State) : Prop := NewArr .byte "[B" len (fun j => .int (lo8 (cv A (o + j)))) r s u ∧ u.heap.size = s.heap.size + 1
/-- no char of the range above 255: a new byte[] of their low bytes -/
theorem law (l : Launch) (b : Addr) (A : Cell) (o len : Nat) : Law l yN 3 3 1 18 yB 6 (some (.array .byte)) site (P b A o len) (E b A o len) [] 1 len := by
  refine Law.of_walk (plainFor_of_name (by decide +kernel)) (by decide +kernel) (by decide +kernel) (by decide) (fun _ _ h => by rw [h.1]; rfl) (fun _ U U' hal hh h => ⟨h.1, h.2.1.mv hal hh, h.2.2⟩) (fun r U U' V V' h1 hal h2 h => ⟨NewArr.mv r U U' V V' h1 hal h2 h.1, by rw [h1, h2]; exact h.2⟩) ?_
  intro p e s m args below meth c s₁ X0 hexec hbytes hml hret hlk hnm hown hh0 W hP
  obtain ⟨rfl, hA, l1, l2, hp⟩ := hP
  have a31 := hA.1.2.2.2
  have c1 : Steps p.tables e below (s₁.setTop (entryFrame m #[.ref b, .int (Int32.ofNat o), .int (Int32.ofNat len)] 6)) (s₁.setTop (mkF m 0 #[.val (.ref b), .val (.int (Int32.ofNat o)), .val (.int (Int32.ofNat len)), .unset, .unset, .unset] [])) := entry rfl
  have c2 : Steps p.tables e below (s₁.setTop (entryFrame m #[.ref b, .int (Int32.ofNat o), .int (Int32.ofNat len)] 6)) (s₁.setTop (mkF m 1 #[.val (.ref b), .val (.int (Int32.ofNat o)), .val (.int (Int32.ofNat len)), .unset, .unset, .unset] [.int (Int32.ofNat len)])) := c1.trans (by
    refine XS.iloadN X0.here hexec rfl (hb hbytes d0) rfl ?_
    exact Steps.refl _)
  obtain ⟨T3, B3, X3, ba3, bs3, bv3, bh3, bf3, st3⟩ := X0.anew hexec (atype := .byte) (wk W (.arrayClass .byte)) rfl (by show len * 1 ≤ _; omega) (by omega) (g := (mkF m 1 #[.val (.ref b), .val (.int (Int32.ofNat o)), .val (.int (Int32.ofNat len)), .unset, .unset, .unset] [.int (Int32.ofNat len)])) rfl (hb hbytes d1) (rest := []) rfl (Nat.le_refl _) (by show 0 + len ≤ len; omega)
  rw [hh0] at ba3 st3
  have kp3 : XT.Kept s T3 := (XT.Kept.of_eq hh0).push bh3
  have hA3 := hA.keep X3.warmed.alike (kp3 _ _ hA.1.1)
  have hne : b ≠ s.heap.size := hA.1.ne
  have c4 : Steps p.tables e below (s₁.setTop (entryFrame m #[.ref b, .int (Int32.ofNat o), .int (Int32.ofNat len)] 6)) (T3.setTop (mkF m 3 #[.val (.ref b), .val (.int (Int32.ofNat o)), .val (.int (Int32.ofNat len)), .unset, .unset, .unset] [.ref s.heap.size])) := c2.trans (st3 _ (Steps.refl _))
  have c5 : Steps p.tables e below (s₁.setTop (entryFrame m #[.ref b, .int (Int32.ofNat o), .int (Int32.ofNat len)] 6)) (T3.setTop (mkF m 9 #[.val (.ref b), .val (.int (Int32.ofNat o)), .val (.int (Int32.ofNat len)), .val (.ref s.heap.size), .unset, .unset] [.int (Int32.ofNat len), .int 0, .ref s.heap.size, .int (Int32.ofNat o), .ref b])) := c4.trans (by
    refine XS.astoreN X3.here hexec rfl (hb hbytes d3) rfl rfl rfl ?_
    refine XS.aloadN X3.here hexec rfl (hb hbytes d4) rfl rfl ?_
    refine XS.iloadN X3.here hexec rfl (hb hbytes d5) rfl ?_
    refine XS.aloadN X3.here hexec rfl (hb hbytes d6) rfl rfl ?_
    refine iconstV X3.here hexec rfl 0 (hb hbytes d7) (by decide) ?_
    refine XS.iloadN X3.here hexec rfl (hb hbytes d8) rfl ?_
    exact Steps.refl _)
  obtain ⟨v6, T6, X6, E6, g6⟩ := X3.callS hexec (Cmp5.law l b A s.heap.size B3 o 0 len) hown (wks W (staticW U16 115 Cmp5.yN)) (wk W Cmp5.tab) (W := 0) (Nat.le_of_ble_eq_true rfl) (Nat.le_of_ble_eq_true rfl) (Nat.le_refl _) (by show 0 + len + 0 ≤ len; omega) (g := (mkF m 9 #[.val (.ref b), .val (.int (Int32.ofNat o)), .val (.int (Int32.ofNat len)), .val (.ref s.heap.size), .unset, .unset] [.int (Int32.ofNat len), .int (Int32.ofNat 0), .ref s.heap.size, .int (Int32.ofNat o), .ref b])) rfl (by rw [hml]; rfl) c5 (argsL := [.ref b, .int (Int32.ofNat o), .ref s.heap.size, .int (Int32.ofNat 0), .int (Int32.ofNat len)]) (rest := []) rfl rfl (by show 2 * 0 + 0 ≤ _; decide) (hb hbytes d9) (⟨rfl, hA3, ba3, hne, l1, by rw [bs3]; simp, hp⟩)
  obtain ⟨rfl, B6, p6, f6⟩ := E6
  have c7 : Steps p.tables e below (s₁.setTop (entryFrame m #[.ref b, .int (Int32.ofNat o), .int (Int32.ofNat len)] 6)) (T6.setTop (mkF m 12 #[.val (.ref b), .val (.int (Int32.ofNat o)), .val (.int (Int32.ofNat len)), .val (.ref s.heap.size), .unset, .unset] [.int (Int32.ofNat len)])) := g6
  have c8 : Steps p.tables e below (s₁.setTop (entryFrame m #[.ref b, .int (Int32.ofNat o), .int (Int32.ofNat len)] 6)) (T6.setTop (mkF m 58 #[.val (.ref b), .val (.int (Int32.ofNat o)), .val (.int (Int32.ofNat len)), .val (.ref s.heap.size), .val (.int (Int32.ofNat len)), .unset] [.ref s.heap.size])) := c7.trans (by
    refine XS.istore X6.here hexec rfl (hb hbytes d12) rfl rfl ?_
    refine XS.iload X6.here hexec rfl (hb hbytes d14) rfl ?_
    refine XS.iloadN X6.here hexec rfl (hb hbytes d16) rfl ?_
    refine XS.icmpYes X6.here hexec rfl (pc0 := 17) rfl (hb hbytes d17) rfl (ii_eq_t rfl) (by decide) rfl ?_
    refine XS.aloadN X6.here hexec rfl (hb hbytes d57) rfl rfl ?_
    exact Steps.refl _)
  have X8 := X6.wide (L' := []) (cells' := 1) (slots' := len) (fun x hx hlt => by
    simp only [List.nil_append, copyLocs, List.mem_map, List.mem_range] at hx
    obtain ⟨i, -, rfl⟩ := hx
    exact absurd hlt (Nat.lt_irrefl _)) (Nat.le_refl _) (by omega)
  exact ⟨T6, some (.ref s.heap.size), _, _, _, X8, rfl, rfl, rfl, (fun h => by cases h), ⟨⟨rfl, B6, ba3.like (X3.warmed.alike.symm.trans X6.warmed.alike) p6.1 f6.1 f6.2.1 f6.2.2.1, f6.2.1.trans bv3, by rw [X6.warmed.alike.findClass, f6.1]; exact bf3, by rw [f6.2.2.1, bs3]; simp, fun j hj => by rw [f6.2.2.2 j, if_pos (by omega)]; rfl, kp3.put p6 (Nat.le_refl _)⟩, by rw [p6.2.2, bh3, hh0]; simp⟩, fun fs hl => c8.trans (X8.areturnOut hexec rfl hret rfl (hb hbytes d58) hl)⟩
end Cmp3
namespace CodL
def yN : MethodName := ⟨"java/lang/StringUTF16", "coderFromArrayLen", "([BI)B"⟩
abbrev yB : ByteArray := jdk_52_method_15_code
theorem d0 : decode yB 0 = .ok (.iload_n 1, 1) := by decide +kernel
theorem d1 : decode yB 1 = .ok (.aload_n 0, 1) := by decide +kernel
theorem d2 : decode yB 2 = .ok (.arraylength, 1) := by decide +kernel
theorem d3 : decode yB 3 = .ok (.isub, 1) := by decide +kernel
theorem d4 : decode yB 4 = .ok (.bipush 31, 2) := by decide +kernel
theorem d6 : decode yB 6 = .ok (.iushr, 1) := by decide +kernel
theorem d7 : decode yB 7 = .ok (.i2b, 1) := by decide +kernel
theorem d8 : decode yB 8 = .ok (.ireturn, 1) := by decide +kernel
def site : List Cond := []
def tab : Cond := tabOf yN yB 2 (some .byte) site
def P (d : Addr) (B : Cell) (args : Array Value) (s : State) : Prop := args = #[.ref d, .int (Int32.ofNat B.slots.size)] ∧ Arr .byte d B s
def E (r : Option Value) (s u : State) : Prop := XT.PureE (some (.int 0)) r s u
/-- an array as long as the number of chars: LATIN1 -/
theorem law (l : Launch) (d : Addr) (B : Cell) : Law l yN 2 2 0 0 yB 2 (some .byte) site (P d B) E [] 0 0 := by
  refine Law.of_walk (plainFor_of_name (by decide +kernel)) (by decide +kernel) (by decide +kernel) (by decide) (fun _ _ h => by rw [h.1]; rfl) (fun _ U U' hal hh h => ⟨h.1, h.2.mv hal hh⟩) (fun r U U' V V' h1 hal h2 h => XT.PureE.mv r U U' V V' h1 hal h2 h) ?_
  intro p e s m args below meth c s₁ X0 hexec hbytes hml hret hlk hnm hown hh0 W hP
  obtain ⟨rfl, hB⟩ := hP
  have hB0 := hB.mv X0.warmed.alike hh0
  have c1 : Steps p.tables e below (s₁.setTop (entryFrame m #[.ref d, .int (Int32.ofNat B.slots.size)] 2)) (s₁.setTop (mkF m 0 #[.val (.ref d), .val (.int (Int32.ofNat B.slots.size))] [])) := entry rfl
  have c2 : Steps p.tables e below (s₁.setTop (entryFrame m #[.ref d, .int (Int32.ofNat B.slots.size)] 2)) (s₁.setTop (mkF m 2 #[.val (.ref d), .val (.int (Int32.ofNat B.slots.size))] [.ref d, .int (Int32.ofNat B.slots.size)])) := c1.trans (by
    refine XS.iloadN X0.here hexec rfl (hb hbytes d0) rfl ?_
    refine XS.aloadN X0.here hexec rfl (hb hbytes d1) rfl rfl ?_
    exact Steps.refl _)
  have c3 : Steps p.tables e below (s₁.setTop (entryFrame m #[.ref d, .int (Int32.ofNat B.slots.size)] 2)) (s₁.setTop (mkF m 8 #[.val (.ref d), .val (.int (Int32.ofNat B.slots.size))] [.int (lo8 (ushr (Int32.ofNat B.slots.size - Int32.ofNat B.slots.size) 31))])) := c2.trans (by
    refine X0.alen hexec hB0 rfl rfl (hb hbytes d2) ?_
    refine XS.isub X0.here hexec rfl (hb hbytes d3) rfl ?_
    refine bipushV X0.here hexec rfl 31 (hb hbytes d4) (by decide) ?_
    refine iushr X0.here hexec rfl (hb hbytes d6) rfl ?_
    refine i2b X0.here hexec rfl (hb hbytes d7) rfl ?_
    exact Steps.refl _)
  have e0 : lo8 (ushr (Int32.ofNat B.slots.size - Int32.ofNat B.slots.size) 31) = 0 := by rw [Int32.sub_self]; decide
  rw [e0] at c3
  exact ⟨s₁, some (.int 0), _, _, _, X0, rfl, rfl, rfl, (fun h => by cases h), ⟨rfl, hh0⟩, fun fs hl => c3.trans (X0.ireturnOut hexec hret rfl (Or.inr (Or.inr (Or.inl rfl))) (hb hbytes d8) hl)⟩
end CodL
/-- the String at a is Latin-1 over a new byte[] (the heap's one new cell): the low bytes of the len chars of A from o on; every cell but a is kept -/
def Got (a : Addr) (D : Cell) (fV fC : Field) (A : Cell) (o len : Nat) (r : Option Value) (s u : State) : Prop := r = none ∧ ∃ D' V : Cell, Blank "java/lang/String" a D' u ∧ Same D D' [fV.slot, fC.slot] ∧ D'.slots[fV.slot]? = some (.ref s.heap.size) ∧ D'.slots[fC.slot]? = some (.int 0) ∧ Arr .byte s.heap.size V u ∧ V.vm = .none ∧ u.vm.findClass "[B" = some V.cls ∧ V.slots.size = len ∧ (∀ j, j < len → V.slots[j]? = some (.int (lo8 (cv A (o + j))))) ∧ (∀ (y : Addr) (c : Cell), y ≠ a → s.heap[y]? = some c → u.heap[y]? = some c) ∧ u.heap.size = s.heap.size + 1
theorem Got.mv {a : Addr} {D A : Cell} {fV fC : Field} {o len : Nat} : ∀ r (U U' V V' : State), U'.heap = U.heap → V.vm.Alike V'.vm → V'.heap = V.heap → Got a D fV fC A o len r U V → Got a D fV fC A o len r U' V' :=
  fun r U U' V V' h1 hal h2 ⟨e0, D', X, a1, a2, a3, a4, a5, a6, a7, a8, a9, a10, a11⟩ => ⟨e0, D', X, a1.mv hal h2, a2, by rw [h1]; exact a3, a4, by rw [h1]; exact a5.mv hal h2, a6, by rw [hal.findClass]; exact a7, a8, a9, by rw [h1, h2]; exact a10, by rw [h1, h2]; exact a11⟩
namespace New4
def yN : MethodName := ⟨"java/lang/String", "<init>", "([CIILjava/lang/Void;)V"⟩
abbrev yB : ByteArray := jdk_42_method_149_code
theorem d0 : decode yB 0 = .ok (.aload_n 0, 1) := by decide +kernel
theorem d1 : decode yB 1 = .ok (.invokespecial 1, 3) := by decide +kernel
theorem d4 : decode yB 4 = .ok (.iload_n 3, 1) := by decide +kernel
theorem d5 : decode yB 5 = .ok (.ifCond (.ne) 22, 3) := by decide +kernel
theorem d27 : decode yB 27 = .ok (.getstatic 38, 3) := by decide +kernel
theorem d30 : decode yB 30 = .ok (.ifCond (.eq) 28, 3) := by decide +kernel
theorem d33 : decode yB 33 = .ok (.aload_n 1, 1) := by decide +kernel
theorem d34 : decode yB 34 = .ok (.iload_n 2, 1) := by decide +kernel
theorem d35 : decode yB 35 = .ok (.iload_n 3, 1) := by decide +kernel
theorem d36 : decode yB 36 = .ok (.invokestatic 177, 3) := by decide +kernel
theorem d39 : decode yB 39 = .ok (.astore 5, 2) := by decide +kernel
theorem d41 : decode yB 41 = .ok (.aload_n 0, 1) := by decide +kernel
theorem d42 : decode yB 42 = .ok (.aload 5, 2) := by decide +kernel
theorem d44 : decode yB 44 = .ok (.iload_n 3, 1) := by decide +kernel
theorem d45 : decode yB 45 = .ok (.invokestatic 47, 3) := by decide +kernel
theorem d48 : decode yB 48 = .ok (.putfield 15, 3) := by decide +kernel
theorem d51 : decode yB 51 = .ok (.aload_n 0, 1) := by decide +kernel
theorem d52 : decode yB 52 = .ok (.aload 5, 2) := by decide +kernel
theorem d54 : decode yB 54 = .ok (.putfield 9, 3) := by decide +kernel
theorem d57 : decode yB 57 = .ok (.return_, 1) := by decide +kernel
def site : List Cond := [.fieldLink "java/lang/String" 38 "java/lang/String" "COMPACT_STRINGS" "Z", Cmp3.tab, CodL.tab, .laysFinal "java/lang/String" "java/lang/String" "value" "[B", .fieldLink "java/lang/String" 9 "java/lang/String" "value" "[B", .laysFinal "java/lang/String" "java/lang/String" "coder" "B", .fieldLink "java/lang/String" 15 "java/lang/String" "coder" "B"] ++ objW "java/lang/String" 1 ++ staticW "java/lang/String" 177 Cmp3.yN ++ staticW "java/lang/String" 47 CodL.yN
def tab : Cond := tabOf yN yB 6 none site
def P (a : Addr) (D : Cell) (fV fC : Field) (b : Addr) (A : Cell) (z : Int32) (o len : Nat) (args : Array Value) (s : State) : Prop := args = #[.ref a, .ref b, .int (Int32.ofNat o), .int (Int32.ofNat len), .null] ∧ Blank "java/lang/String" a D s ∧ Found "java/lang/String" "value" "[B" fV s ∧ Found "java/lang/String" "coder" "B" fC s ∧ Ch b A s ∧ StaticIs s "java/lang/String" "COMPACT_STRINGS" "Z" (.int z) ∧ ¬ z = 0 ∧ 0 < len ∧ o + len ≤ A.slots.size ∧ len ≤ 536870912 ∧ ∀ i, i < len → ¬ 255 < cv A (o + i)
def E (a : Addr) (D : Cell) (fV fC : Field) (A : Cell) (o len : Nat) (r : Option Value) (s u : State) : Prop := Got a D fV fC A o len r s u
/-- len > 0, no char of the range above 255: a Latin-1 String of their low bytes -/
theorem law (l : Launch) (a : Addr) (D : Cell) (fV fC : Field) (b : Addr) (A : Cell) (z : Int32) (o len : Nat) : Law l yN 5 4 2 35 yB 6 none site (P a D fV fC b A z o len) (E a D fV fC A o len) [⟨a, fC.slot⟩, ⟨a, fV.slot⟩] 1 len := by
  refine Law.of_walk (plainFor_of_name (by decide +kernel)) (by decide +kernel) (by decide +kernel) (by decide) (fun _ _ h => by rw [h.1]; rfl) (fun _ U U' hal hh h => ⟨h.1, h.2.1.mv hal hh, h.2.2.1.al hal, h.2.2.2.1.al hal, h.2.2.2.2.1.mv hal hh, h.2.2.2.2.2.1.there hal hh, h.2.2.2.2.2.2⟩) (fun r U U' V V' h1 hal h2 h => Got.mv r U U' V V' h1 hal h2 h) ?_
  intro p e s m args below meth c s₁ X0 hexec hbytes hml hret hlk hnm hown hh0 W hP
  obtain ⟨rfl, hB, f1, f2, hA, s1, hz, l0, l1, l2, hp⟩ := hP
  have a31 := hA.1.2.2.2
  have c1 : Steps p.tables e below (s₁.setTop (entryFrame m #[.ref a, .ref b, .int (Int32.ofNat o), .int (Int32.ofNat len), .null] 6)) (s₁.setTop (mkF m 0 #[.val (.ref a), .val (.ref b), .val (.int (Int32.ofNat o)), .val (.int (Int32.ofNat len)), .val .null, .unset] [])) := entry rfl
  have c2 : Steps p.tables e below (s₁.setTop (entryFrame m #[.ref a, .ref b, .int (Int32.ofNat o), .int (Int32.ofNat len), .null] 6)) (s₁.setTop (mkF m 1 #[.val (.ref a), .val (.ref b), .val (.int (Int32.ofNat o)), .val (.int (Int32.ofNat len)), .val .null, .unset] [.ref a])) := c1.trans (by
    refine XS.aloadN X0.here hexec rfl (hb hbytes d0) rfl rfl ?_
    exact Steps.refl _)
  obtain ⟨T3, X3, q3, st3⟩ := X0.oinit hexec hown (wks W (objW "java/lang/String" 1)) (g := (mkF m 1 #[.val (.ref a), .val (.ref b), .val (.int (Int32.ofNat o)), .val (.int (Int32.ofNat len)), .val .null, .unset] [.ref a])) rfl (by rw [hml]; rfl) (rest := []) rfl (hb hbytes d1) (W := 0) (by show 2 * 0 + 0 ≤ _; decide) (Nat.le_of_ble_eq_true rfl) (Nat.le_of_ble_eq_true rfl)
  have hh3 := q3.trans hh0
  have c4 : Steps p.tables e below (s₁.setTop (entryFrame m #[.ref a, .ref b, .int (Int32.ofNat o), .int (Int32.ofNat len), .null] 6)) (T3.setTop (mkF m 27 #[.val (.ref a), .val (.ref b), .val (.int (Int32.ofNat o)), .val (.int (Int32.ofNat len)), .val .null, .unset] [])) := (c2.trans (st3 _ (Steps.refl _))).trans (by
    refine XS.iloadN X3.here hexec rfl (hb hbytes d4) rfl ?_
    refine XS.ifYes X3.here hexec rfl (pc0 := 5) rfl (hb hbytes d5) rfl (i0_ne_t (nz32 (by omega) l0)) (by decide) rfl ?_
    exact Steps.refl _)
  obtain ⟨T5, X5, q5, st5⟩ := X3.sget hexec hown (wk W (.fieldLink "java/lang/String" 38 "java/lang/String" "COMPACT_STRINGS" "Z")) s1 (fun _ _ h => by rw [hh3]; exact h) (g := (mkF m 27 #[.val (.ref a), .val (.ref b), .val (.int (Int32.ofNat o)), .val (.int (Int32.ofNat len)), .val .null, .unset] [])) rfl (hb hbytes d27)
  have hh5 := q5.trans hh3
  have c6 : Steps p.tables e below (s₁.setTop (entryFrame m #[.ref a, .ref b, .int (Int32.ofNat o), .int (Int32.ofNat len), .null] 6)) (T5.setTop (mkF m 30 #[.val (.ref a), .val (.ref b), .val (.int (Int32.ofNat o)), .val (.int (Int32.ofNat len)), .val .null, .unset] [.int z])) := c4.trans (st5 _ (Steps.refl _))
  have c7 : Steps p.tables e below (s₁.setTop (entryFrame m #[.ref a, .ref b, .int (Int32.ofNat o), .int (Int32.ofNat len), .null] 6)) (T5.setTop (mkF m 36 #[.val (.ref a), .val (.ref b), .val (.int (Int32.ofNat o)), .val (.int (Int32.ofNat len)), .val .null, .unset] [.int (Int32.ofNat len), .int (Int32.ofNat o), .ref b])) := c6.trans (by
    refine XS.ifNo X5.here hexec rfl (hb hbytes d30) rfl (i0_eq_f hz) ?_
    refine XS.aloadN X5.here hexec rfl (hb hbytes d33) rfl rfl ?_
    refine XS.iloadN X5.here hexec rfl (hb hbytes d34) rfl ?_
    refine XS.iloadN X5.here hexec rfl (hb hbytes d35) rfl ?_
    exact Steps.refl _)
  obtain ⟨v8, T8, X8, E8, g8⟩ := X5.callS hexec (Cmp3.law l b A o len) hown (wks W (staticW "java/lang/String" 177 Cmp3.yN)) (wk W Cmp3.tab) (W := 0) (Nat.le_of_ble_eq_true rfl) (Nat.le_of_ble_eq_true rfl) (Nat.le_refl _) (by show 0 + len ≤ len; omega) (g := (mkF m 36 #[.val (.ref a), .val (.ref b), .val (.int (Int32.ofNat o)), .val (.int (Int32.ofNat len)), .val .null, .unset] [.int (Int32.ofNat len), .int (Int32.ofNat o), .ref b])) rfl (by rw [hml]; rfl) c7 (argsL := [.ref b, .int (Int32.ofNat o), .int (Int32.ofNat len)]) (rest := []) rfl rfl (by show 2 * 0 + 0 ≤ _; decide) (hb hbytes d36) (⟨rfl, hA.mv X5.warmed.alike hh5, l1, l2, hp⟩)
  obtain ⟨e8, z8⟩ := E8
  obtain ⟨rfl, N, n1, n2, n3, n4, n5, n6⟩ := NewArr.mv _ T5 s _ _ hh5.symm (Vm.Alike.refl _) rfl e8
  rw [hh5] at z8
  have hB1 := hB.keep X8.warmed.alike (n6 _ _ hB.1)
  have hne : s.heap.size ≠ a := (Nat.ne_of_lt (Array.getElem?_eq_some_iff.mp hB.1).1).symm
  have c9 : Steps p.tables e below (s₁.setTop (entryFrame m #[.ref a, .ref b, .int (Int32.ofNat o), .int (Int32.ofNat len), .null] 6)) (T8.setTop (mkF m 39 #[.val (.ref a), .val (.ref b), .val (.int (Int32.ofNat o)), .val (.int (Int32.ofNat len)), .val .null, .unset] [.ref s.heap.size])) := g8
  have c10 : Steps p.tables e below (s₁.setTop (entryFrame m #[.ref a, .ref b, .int (Int32.ofNat o), .int (Int32.ofNat len), .null] 6)) (T8.setTop (mkF m 45 #[.val (.ref a), .val (.ref b), .val (.int (Int32.ofNat o)), .val (.int (Int32.ofNat len)), .val .null, .val (.ref s.heap.size)] [.int (Int32.ofNat N.slots.size), .ref s.heap.size, .ref a])) := by
    have hc : Steps p.tables e below (s₁.setTop (entryFrame m #[.ref a, .ref b, .int (Int32.ofNat o), .int (Int32.ofNat len), .null] 6)) (T8.setTop (mkF m 45 #[.val (.ref a), .val (.ref b), .val (.int (Int32.ofNat o)), .val (.int (Int32.ofNat len)), .val .null, .val (.ref s.heap.size)] [.int (Int32.ofNat len), .ref s.heap.size, .ref a])) := c9.trans (by
      refine XS.astore X8.here hexec rfl (hb hbytes d39) rfl rfl rfl ?_
      refine XS.aloadN X8.here hexec rfl (hb hbytes d41) rfl rfl ?_
      refine XS.aload X8.here hexec rfl (hb hbytes d42) rfl rfl ?_
      refine XS.iloadN X8.here hexec rfl (hb hbytes d44) rfl ?_
      exact Steps.refl _)
    rw [n4]; exact hc
  obtain ⟨v11, T11, X11, E11, g11⟩ := X8.callS hexec (CodL.law l s.heap.size N) hown (wks W (staticW "java/lang/String" 47 CodL.yN)) (wk W CodL.tab) (W := 1) (Nat.le_of_ble_eq_true rfl) (Nat.le_of_ble_eq_true rfl) (Nat.le_refl _) (by show 0 + len + 0 ≤ len; omega) (g := (mkF m 45 #[.val (.ref a), .val (.ref b), .val (.int (Int32.ofNat o)), .val (.int (Int32.ofNat len)), .val .null, .val (.ref s.heap.size)] [.int (Int32.ofNat N.slots.size), .ref s.heap.size, .ref a])) rfl (by rw [hml]; rfl) c10 (argsL := [.ref s.heap.size, .int (Int32.ofNat N.slots.size)]) (rest := [.ref a]) rfl rfl (by show 2 * 0 + (1 + 0) ≤ _; decide) (hb hbytes d45) (⟨rfl, n1⟩)
  obtain ⟨rfl, q11⟩ := E11
  have hB11 := hB1.mv (X8.warmed.alike.symm.trans X11.warmed.alike) q11
  have c12 : Steps p.tables e below (s₁.setTop (entryFrame m #[.ref a, .ref b, .int (Int32.ofNat o), .int (Int32.ofNat len), .null] 6)) (T11.setTop (mkF m 48 #[.val (.ref a), .val (.ref b), .val (.int (Int32.ofNat o)), .val (.int (Int32.ofNat len)), .val .null, .val (.ref s.heap.size)] [.int 0, .ref a])) := g11
  obtain ⟨T13, X13, p13, bl13, sl13, st13⟩ := X11.finit hexec hown (wk W (.fieldLink "java/lang/String" 15 "java/lang/String" "coder" "B")) (Or.inr ⟨_, (wk W (.laysFinal "java/lang/String" "java/lang/String" "coder" "B"))⟩) (Or.inl ⟨rfl, hnm⟩) f2 (Or.inl rfl) hB11 (t := .byte) (by decide +kernel) rfl (g := (mkF m 48 #[.val (.ref a), .val (.ref b), .val (.int (Int32.ofNat o)), .val (.int (Int32.ofNat len)), .val .null, .val (.ref s.heap.size)] [.int 0, .ref a])) rfl (rest := []) rfl (hb hbytes d48)
  have c14 : Steps p.tables e below (s₁.setTop (entryFrame m #[.ref a, .ref b, .int (Int32.ofNat o), .int (Int32.ofNat len), .null] 6)) (T13.setTop (mkF m 54 #[.val (.ref a), .val (.ref b), .val (.int (Int32.ofNat o)), .val (.int (Int32.ofNat len)), .val .null, .val (.ref s.heap.size)] [.ref s.heap.size, .ref a])) := (c12.trans (st13 _ (Steps.refl _))).trans (by
    refine XS.aloadN X13.here hexec rfl (hb hbytes d51) rfl rfl ?_
    refine XS.aload X13.here hexec rfl (hb hbytes d52) rfl rfl ?_
    exact Steps.refl _)
  obtain ⟨T15, X15, p15, bl15, sl15, st15⟩ := X13.finit hexec hown (wk W (.fieldLink "java/lang/String" 9 "java/lang/String" "value" "[B")) (Or.inr ⟨_, (wk W (.laysFinal "java/lang/String" "java/lang/String" "value" "[B"))⟩) (Or.inl ⟨rfl, hnm⟩) f1 (Or.inl rfl) bl13 (t := (.array .byte)) (by decide +kernel) rfl (g := (mkF m 54 #[.val (.ref a), .val (.ref b), .val (.int (Int32.ofNat o)), .val (.int (Int32.ofNat len)), .val .null, .val (.ref s.heap.size)] [.ref s.heap.size, .ref a])) rfl (rest := []) rfl (hb hbytes d54)
  have c16 : Steps p.tables e below (s₁.setTop (entryFrame m #[.ref a, .ref b, .int (Int32.ofNat o), .int (Int32.ofNat len), .null] 6)) (T15.setTop (mkF m 57 #[.val (.ref a), .val (.ref b), .val (.int (Int32.ofNat o)), .val (.int (Int32.ofNat len)), .val .null, .val (.ref s.heap.size)] [])) := c14.trans (st15 _ (Steps.refl _))
  have ap := apart (Or.inr ⟨_, (wk W (.laysFinal "java/lang/String" "java/lang/String" "value" "[B"))⟩) (Or.inr ⟨_, (wk W (.laysFinal "java/lang/String" "java/lang/String" "coder" "B"))⟩) f1 f2 (t₁ := .array .byte) (t₂ := .byte) (by decide +kernel) (by decide +kernel) (by decide)
  have al := X8.warmed.alike.symm.trans X15.warmed.alike
  have n7 : T11.heap[s.heap.size]? = some N := by rw [q11]; exact n1.1
  exact ⟨T15, none, _, _, _, X15, by simp, rfl, by omega, (fun _ => rfl), ⟨rfl, _, N, bl15, ((Same.refl D _).set _ (by simp)).set _ (by simp), sl15, (Cell.slots_setSlot_ne _ ap).trans sl13, n1.keep al (p15.other hne (p13.other hne n7)), n2, by rw [al.findClass]; exact n3, n4, n5, fun y c h1 h2 => p15.other h1 (p13.other h1 (by rw [q11]; exact n6 y c h2)), by rw [p15.2.2, p13.2.2, q11]; exact z8⟩, fun fs hl => c16.trans (X15.returnOut hexec hret (hb hbytes d57) hl)⟩
end New4
namespace New1
def yN : MethodName := ⟨"java/lang/String", "<init>", "([C)V"⟩
abbrev yB : ByteArray := jdk_42_method_3_code
theorem d0 : decode yB 0 = .ok (.aload_n 0, 1) := by decide +kernel
theorem d1 : decode yB 1 = .ok (.aload_n 1, 1) := by decide +kernel
theorem d2 : decode yB 2 = .ok (.iconst 0, 1) := by decide +kernel
theorem d3 : decode yB 3 = .ok (.aload_n 1, 1) := by decide +kernel
theorem d4 : decode yB 4 = .ok (.arraylength, 1) := by decide +kernel
theorem d5 : decode yB 5 = .ok (.aconst_null, 1) := by decide +kernel
theorem d6 : decode yB 6 = .ok (.invokespecial 27, 3) := by decide +kernel
theorem d9 : decode yB 9 = .ok (.return_, 1) := by decide +kernel
def site : List Cond := [New4.tab] ++ initW "java/lang/String" 27 New4.yN
def tab : Cond := tabOf yN yB 2 none site
def P (a : Addr) (D : Cell) (fV fC : Field) (b : Addr) (A : Cell) (z : Int32) (args : Array Value) (s : State) : Prop := args = #[.ref a, .ref b] ∧ Blank "java/lang/String" a D s ∧ Found "java/lang/String" "value" "[B" fV s ∧ Found "java/lang/String" "coder" "B" fC s ∧ Ch b A s ∧ StaticIs s "java/lang/String" "COMPACT_STRINGS" "Z" (.int z) ∧ ¬ z = 0 ∧ 0 < A.slots.size ∧ A.slots.size ≤ 536870912 ∧ ∀ i, i < A.slots.size → ¬ 255 < cv A i
def E (a : Addr) (D : Cell) (fV fC : Field) (A : Cell) (r : Option Value) (s u : State) : Prop := Got a D fV fC A 0 A.slots.size r s u
/-- new String(chars), not empty, no char above 255: a Latin-1 String of their low bytes -/
theorem law (l : Launch) (a : Addr) (D : Cell) (fV fC : Field) (b : Addr) (A : Cell) (z : Int32) : Law l yN 2 1 3 52 yB 2 none site (P a D fV fC b A z) (E a D fV fC A) [⟨a, fC.slot⟩, ⟨a, fV.slot⟩] 1 A.slots.size := by
  refine Law.of_walk (plainFor_of_name (by decide +kernel)) (by decide +kernel) (by decide +kernel) (by decide) (fun _ _ h => by rw [h.1]; rfl) (fun _ U U' hal hh h => ⟨h.1, h.2.1.mv hal hh, h.2.2.1.al hal, h.2.2.2.1.al hal, h.2.2.2.2.1.mv hal hh, h.2.2.2.2.2.1.there hal hh, h.2.2.2.2.2.2⟩) (fun r U U' V V' h1 hal h2 h => Got.mv r U U' V V' h1 hal h2 h) ?_
  intro p e s m args below meth c s₁ X0 hexec hbytes hml hret hlk hnm hown hh0 W hP
  obtain ⟨rfl, hB, f1, f2, hA, s1, hz, l0, l2, hp⟩ := hP
  have c1 : Steps p.tables e below (s₁.setTop (entryFrame m #[.ref a, .ref b] 2)) (s₁.setTop (mkF m 0 #[.val (.ref a), .val (.ref b)] [])) := entry rfl
  have c2 : Steps p.tables e below (s₁.setTop (entryFrame m #[.ref a, .ref b] 2)) (s₁.setTop (mkF m 6 #[.val (.ref a), .val (.ref b)] [.null, .int (Int32.ofNat A.slots.size), .int 0, .ref b, .ref a])) := c1.trans (by
    refine XS.aloadN X0.here hexec rfl (hb hbytes d0) rfl rfl ?_
    refine XS.aloadN X0.here hexec rfl (hb hbytes d1) rfl rfl ?_
    refine iconstV X0.here hexec rfl 0 (hb hbytes d2) (by decide) ?_
    refine XS.aloadN X0.here hexec rfl (hb hbytes d3) rfl rfl ?_
    refine X0.alen hexec (hA.1.mv X0.warmed.alike hh0) rfl rfl (hb hbytes d4) ?_
    refine XS.aconstNull X0.here hexec rfl (hb hbytes d5) ?_
    exact Steps.refl _)
  obtain ⟨v3, T3, X3, E3, g3⟩ := X0.callN hexec (New4.law l a D fV fC b A z 0 A.slots.size) rfl hown (wks W (initW "java/lang/String" 27 New4.yN)) (W New4.tab (by simp only [site, List.mem_cons, List.mem_append, true_or, or_true])) (W := 0) (Nat.le_of_ble_eq_true rfl) (Nat.le_of_ble_eq_true rfl) (Nat.le_refl _) (by show 0 + A.slots.size ≤ A.slots.size; omega) (g := (mkF m 6 #[.val (.ref a), .val (.ref b)] [.null, .int (Int32.ofNat A.slots.size), .int (Int32.ofNat 0), .ref b, .ref a])) rfl (by rw [hml]; rfl) c2 (argsL := [.ref b, .int (Int32.ofNat 0), .int (Int32.ofNat A.slots.size), .null]) (rest := []) rfl rfl (by show 2 * 0 + 0 ≤ _; decide) (hb hbytes d6) (⟨rfl, hB.mv X0.warmed.alike hh0, f1.al X0.warmed.alike, f2.al X0.warmed.alike, hA.mv X0.warmed.alike hh0, s1.there X0.warmed.alike hh0, hz, l0, by omega, l2, fun i hi => by rw [Nat.zero_add]; exact hp i hi⟩)
  have e0 := Got.mv _ s₁ s _ _ hh0.symm (Vm.Alike.refl _) rfl E3
  obtain rfl := e0.1
  have c4 : Steps p.tables e below (s₁.setTop (entryFrame m #[.ref a, .ref b] 2)) (T3.setTop (mkF m 9 #[.val (.ref a), .val (.ref b)] [])) := g3
  exact ⟨T3, none, _, _, _, X3, by simp, rfl, by omega, (fun _ => rfl), e0, fun fs hl => c4.trans (X3.returnOut hexec hret (hb hbytes d9) hl)⟩
theorem pays {l : Launch} {R : Room} {p : Program} {e : Env} {below : List Frame} {s : State} {sargs : Array Value} {len W : Nat} (a : Addr) (D : Cell) (fV fC : Field) (b : Addr) (A : Cell) (z : Int32) (htab : tab.before sargs s = true) (hfr : 4 ≤ R.frames) (hlo : W + 65 ≤ R.locals) :
    Back l R p e below s sargs yN len W (fun A₁ a₁ => A₁.cells + 1 ≤ R.cells ∧ A₁.slots + A.slots.size ≤ R.slots ∧ P a D fV fC b A z a₁ A₁.U) (fun A₁ _ v₁ B₁ => E a D fV fC A v₁ A₁.U B₁.U ∧ B₁.locs = A₁.locs ++ [⟨a, fC.slot⟩, ⟨a, fV.slot⟩] ∧ B₁.cells = A₁.cells + 1 ∧ B₁.slots = A₁.slots + A.slots.size) :=
  (law l a D fV fC b A z).pays htab hfr (by omega)
end New1
/-- the byte, read back as charAt reads it, is the char -/
theorem lo8_mask {x : Int32} (h0 : ¬ x < 0) (h1 : ¬ 255 < x) : lo8 x &&& 255 = x := by
  have t : ∀ k : Fin 256, lo8 (Int32.ofNat k.val) &&& 255 = Int32.ofNat k.val := by decide +kernel
  rw [Int32.lt_iff_toInt_lt] at h0 h1
  have e0 : (0 : Int32).toInt = 0 := rfl
  have e1 : (255 : Int32).toInt = 255 := rfl
  obtain ⟨k, hk⟩ : ∃ k : Nat, x.toInt = k := ⟨x.toInt.toNat, by omega⟩
  have hx : x = Int32.ofNat k := Int32.toInt_inj.mp (by rw [hk, Int32.toInt_ofNat_small (by omega)])
  rw [hx]
  exact t ⟨k, by omega⟩
end StrChars
namespace StrChars.Road
open Jvm Sem ClassFile Op Lib Jvm.Stand Jvm.Free Jvm.Free.XT
open Jvm.Lib.Cold (StaticIs)
abbrev ST : String := "java/lang/String"
/-- every table word that New1's law asks, flat -/
abbrev words : List Jvm.Cond := [.code New1.yN New1.yB 2 none, .initialized ST, .methodLink ST 27 New4.yN, .instanceMethod New4.yN,
  .code New4.yN New4.yB 6 none, .fieldLink ST 38 ST "COMPACT_STRINGS" "Z", .laysFinal ST ST "value" "[B", .fieldLink ST 9 ST "value" "[B", .laysFinal ST ST "coder" "B", .fieldLink ST 15 ST "coder" "B",
  .methodLink ST 1 Lib.objectInit, .instanceMethod Lib.objectInit, .code Lib.objectInit ⟨#[0xb1]⟩ 1 none, .methodLink ST 177 Cmp3.yN, .static Cmp3.yN, .methodLink ST 47 CodL.yN, .static CodL.yN,
  .code Cmp3.yN Cmp3.yB 6 (some (.array .byte)), .initialized U16, .arrayClass .byte, .methodLink U16 115 Cmp5.yN, .static Cmp5.yN, .code Cmp5.yN Cmp5.yB 7 (some .int), .code CodL.yN CodL.yB 2 (some .byte)]
theorem tab_of {a : Array Value} {s : State} (h : ∀ w ∈ words, w.before a s = true) : New1.tab.before a s = true := by
  have h5 : Cmp5.tab.before a s = true := unparts (wk h (.code Cmp5.yN Cmp5.yB 7 (some .int))) (wks h (.initialized Cmp5.yN.cls :: Cmp5.site))
  have hc : CodL.tab.before a s = true := unparts (wk h (.code CodL.yN CodL.yB 2 (some .byte))) (wks h (.initialized CodL.yN.cls :: CodL.site))
  have q5 : ∀ w ∈ Cmp5.tab :: words, w.before a s = true := fun w hw => (List.mem_cons.mp hw).elim (fun e => e ▸ h5) (h w)
  have h3 : Cmp3.tab.before a s = true := unparts (wk q5 (.code Cmp3.yN Cmp3.yB 6 (some (.array .byte)))) (wks q5 (.initialized Cmp3.yN.cls :: Cmp3.site))
  have q3 : ∀ w ∈ Cmp3.tab :: CodL.tab :: words, w.before a s = true := fun w hw => (List.mem_cons.mp hw).elim (fun e => e ▸ h3) fun hw => (List.mem_cons.mp hw).elim (fun e => e ▸ hc) (h w)
  have h4 : New4.tab.before a s = true := unparts (wk q3 (.code New4.yN New4.yB 6 none)) (wks q3 (.initialized New4.yN.cls :: New4.site))
  have q4 : ∀ w ∈ New4.tab :: words, w.before a s = true := fun w hw => (List.mem_cons.mp hw).elim (fun e => e ▸ h4) (h w)
  exact unparts (wk q4 (.code New1.yN New1.yB 2 none)) (wks q4 (.initialized New1.yN.cls :: New1.site))
/-- the words ride from the start Z to the walk's own state -/
theorem moved {Z s : State} {a0 args : Array Value} (hZ : Z.Warmed39 s.vm) (hw : ∀ d ∈ words, d.before a0 Z = true) : ∀ d ∈ words, d.before args s = true := fun d hd => by
  have q := hw d hd
  have t : ∀ d ∈ words, d = .arrayClass .byte ∨ (d.onTables && d.keepsFace) = true := by decide +kernel
  rcases t d hd with rfl | t
  · exact RoadKit.mvA hZ q
  · exact RoadKit.mv hZ q t
/-- WHAT COMES BACK, over the tables of the start Z: h the heap at the call, h' behind it -/
def Q (Z : State) (x : Addr) (A : Cell) (h : Heap) (v : Option Value) (h' : Heap) (L : List Loc) : Prop := v = none ∧ (∀ y ∈ L, y.base = x) ∧ RoadKit.Keep h h' [x] ∧ h'.size = h.size + 1 ∧ RoadKit.Exa Z h' x ST ∧ RoadKit.Fld Z h' x ST "value" "[B" (.ref h.size) ∧ RoadKit.Fld Z h' x ST "coder" "B" (.int 0) ∧
  (∃ V : Cell, RoadKit.Arr Z h' h.size V .byte ∧ V.vm = .none ∧ Z.vm.findClass "[B" = some V.cls ∧ V.slots.size = A.slots.size ∧ ∀ j, j < A.slots.size → V.slots[j]? = some (.int (lo8 (cv A j)))) ∧
  ∀ (O n d : String) (w : Value), RoadKit.Fld Z h x O n d w → RoadKit.slotOf Z O n d ≠ RoadKit.slotOf Z ST "value" "[B" → RoadKit.slotOf Z O n d ≠ RoadKit.slotOf Z ST "coder" "B" → RoadKit.Fld Z h' x O n d w
/-- **new String(chars) AT A CALL, IN THE ROAD'S FORM**: for specialBack behind newO: x the fresh String, b the char[] with the cell A -/
theorem back {p : Program} {l : Launch} {e : Env} {R : Room} {s : State} {args : Array Value} {below : List Frame} {len W : Nat} {Z : State} {a0 : Array Value} {h : Heap} (hZ : Z.Warmed39 s.vm) (hw : ∀ d ∈ words, d.before a0 Z = true) {kI : Nat} (wi : (Jvm.Cond.instantiable ST kI).before a0 Z = true)
    {x b : Addr} {A : Cell} {z : Int32} {v0 c0 : Value} (E : RoadKit.Exa Z h x ST) (V : RoadKit.Fld Z h x ST "value" "[B" v0) (C : RoadKit.Fld Z h x ST "coder" "B" c0) (K : RoadKit.Arr Z h b A .char) (hty : Typed .char A) (S : RoadKit.Sta Z h ST "COMPACT_STRINGS" "Z" (.int z)) (hz : ¬ z = 0)
    (l0 : 0 < A.slots.size) (l2 : A.slots.size ≤ 536870912) (hp : ∀ i, i < A.slots.size → ¬ 255 < cv A i) (hfr : 4 ≤ R.frames) (hlo : W + 65 ≤ R.locals) :
    Back l R p e below s args New1.yN len W (fun P a => a = #[.ref x, .ref b] ∧ P.U.heap = h ∧ P.cells + 1 ≤ R.cells ∧ P.slots + A.slots.size ≤ R.slots)
      (fun P _ v B => ∃ L, Q Z x A h v B.U.heap L ∧ B.locs = P.locs ++ L ∧ B.cells = P.cells + 1 ∧ B.slots = P.slots + A.slots.size) := by
  intro m meth c P g ig mk a X hg hsize hdg hW hn hp'
  obtain ⟨rfl, rfl, r1, r2⟩ := hp'
  have al : Z.vm.Alike P.U.vm := hZ.alike.trans X.warmed.alike
  obtain ⟨D, cfV, kV, iV, fV, hD, gV, stV, knV, obV, asV, slV⟩ := id V
  obtain ⟨D', cfC, kC, iC, fC, hD', gC, stC, -, -, asC, slC⟩ := id C
  cases hD.symm.trans hD'
  obtain ⟨D2, kD, e1, e2, e3, e4, e5⟩ := id E
  cases hD.symm.trans e1
  obtain ⟨c2, k2, i1, i2, i3, -⟩ := Cond.instantiable_spec wi
  cases e2.symm.trans i1
  cases e3.symm.trans i2
  obtain ⟨kU, u1, u2⟩ := al.2.2 _ _ e3
  have hB : Blank ST x D P.U := ⟨hD, ⟨knV, fun q hq => by rw [hq] at obV; cases obV⟩, by rw [al.findClass]; exact e2, kU, u1, by rw [u2]; exact i3, by rw [u2]; exact e5 i3⟩
  have F1 : Found ST "value" "[B" fV P.U := ⟨SBG.found_only al ⟨cfV, kV, iV, gV⟩, stV⟩
  have F2 : Found ST "coder" "B" fC P.U := ⟨SBG.found_only al ⟨cfC, kC, iC, gC⟩, stC⟩
  have hA : Ch b A P.U := ⟨⟨K.1, State.isArrayOf_alike al K.2.1, K.2.2, by omega⟩, hty⟩
  have hS : StaticIs P.U ST "COMPACT_STRINGS" "Z" (.int z) := by
    obtain ⟨cfS, iS, kS, fS, st, cS, t1, t2, t3, t4, t5, t6, t7⟩ := S
    exact StaticIs.there (s := { Z with heap := P.U.heap }) ⟨cfS, iS, kS, fS, st, cS, t1, t2, t3, t4, t5, (fun q => by rw [q] at t6; cases t6), t7⟩ al rfl
  obtain ⟨v, B, X', ⟨⟨hv, E', V', q1, q2, q3, q4, q5, q6, q7, q8, q9, q10, q11⟩, hl, hc, hs⟩, st⟩ := New1.pays x D fV fC b A z (tab_of (moved hZ hw)) hfr hlo m meth c P g ig mk _ X hg hsize hdg hW hn ⟨r1, r2, rfl, hB, F1, F2, hA, hS, hz, l0, l2, hp⟩
  have al' : Z.vm.Alike B.U.vm := hZ.alike.trans X'.warmed.alike
  have hsz : E'.slots.size = D.slots.size := by
    obtain ⟨-, -, -, kB, w1, w2, w3⟩ := q1
    obtain ⟨kB', y1, y2⟩ := al'.2.2 _ _ e3
    rw [q2.2.1] at w1
    cases w1.symm.trans y1
    rw [w3, e5 i3, y2]
  refine ⟨v, B, X', ⟨_, ⟨hv, ?_, ⟨by omega, fun y cy hy hn' => q10 y cy (by simpa using hn') hy, fun y cy hy => ?_⟩, q11, ⟨E', _, q1.1, by rw [q2.2.1]; exact e2, by rw [q2.2.1]; exact e3, by rw [q2.1]; exact obV, fun _ => by rw [hsz]; exact e5 i3⟩,
    ⟨E', cfV, kV, iV, fV, q1.1, gV, stV, by rw [q2.1]; exact knV, by rw [q2.1]; exact obV, by rw [q2.2.1]; exact asV, q3⟩, ⟨E', cfC, kC, iC, fC, q1.1, gC, stC, by rw [q2.1]; exact knV, by rw [q2.1]; exact obV, by rw [q2.2.1]; exact asC, q4⟩,
    ⟨V', ⟨q5.1, State.isArrayOf_alike al'.symm q5.2.1, q5.2.2.1⟩, q6, by rw [← al'.findClass]; exact q7, q8, fun j hj => by have := q9 j hj; rwa [Nat.zero_add] at this⟩, fun O n d w F n1 n2 => ?_⟩, hl, hc, hs⟩, st⟩
  · intro y hy
    simp only [List.mem_cons, List.not_mem_nil, or_false] at hy
    rcases hy with rfl | rfl <;> rfl
  · by_cases q : y = x
    · subst q
      cases hD.symm.trans hy
      exact ⟨E', q1.1, q2.2.1, q2.1, hsz⟩
    · exact ⟨cy, q10 y cy q hy, rfl, rfl, rfl⟩
  · obtain ⟨D3, cf, k, i, f, g1, g2, g3, g4, g5, g6, g7⟩ := F
    cases hD.symm.trans g1
    simp only [RoadKit.slotOf, g2, gV, gC, Option.map_some, Option.getD_some] at n1 n2
    exact ⟨E', cf, k, i, f, q1.1, g2, g3, by rw [q2.1]; exact g4, by rw [q2.1]; exact g5, by rw [q2.2.1]; exact g6, by rw [q2.2.2 f.slot (by simp [n1, n2])]; exact g7⟩
end StrChars.Road
namespace StrChars.Road
open Jvm Sem ClassFile Op Lib Jvm.Stand Jvm.Free Jvm.Free.XT
/-- WHAT COMES BACK, the byte[] as a list of values -/
def QA (Z : State) (x : Addr) (zn : Int32) (cs : List Int32) (h : Heap) (v : Option Value) (h' : Heap) (L : List Loc) : Prop := v = none ∧ (∀ y ∈ L, y.base = x) ∧ RoadKit.Keep h h' [x] ∧ h'.size = h.size + 1 ∧ RoadKit.Exa Z h' x ST ∧ RoadKit.Fld Z h' x ST "value" "[B" (.ref h.size) ∧ RoadKit.Fld Z h' x ST "coder" "B" (.int 0) ∧
  (∃ kb, Z.vm.findClass "[B" = some kb ∧ RoadKit.Arv Z h' h.size kb .byte zn (cs.map fun c => .int (lo8 c)) (.int 0)) ∧
  ∀ (O n d : String) (w : Value), RoadKit.Fld Z h x O n d w → RoadKit.slotOf Z O n d ≠ RoadKit.slotOf Z ST "value" "[B" → RoadKit.slotOf Z O n d ≠ RoadKit.slotOf Z ST "coder" "B" → RoadKit.Fld Z h' x O n d w
/-- **new String(chars) AT A CALL, THE ARRAYS AS LISTS**: the char[] at b holds cs, not empty, no char above 255 -/
theorem backArv {p : Program} {l : Launch} {e : Env} {R : Room} {s : State} {args : Array Value} {below : List Frame} {len W : Nat} {Z : State} {a0 : Array Value} {h : Heap} (hZ : Z.Warmed39 s.vm) (hw : ∀ d ∈ words, d.before a0 Z = true) {kI : Nat} (wi : (Jvm.Cond.instantiable ST kI).before a0 Z = true)
    {x b : Addr} {k : ClassId} {zn z : Int32} {cs : List Int32} {dv v0 c0 : Value} (E : RoadKit.Exa Z h x ST) (V : RoadKit.Fld Z h x ST "value" "[B" v0) (C : RoadKit.Fld Z h x ST "coder" "B" c0) (K : RoadKit.Arv Z h b k .char zn (cs.map Value.int) dv) (S : RoadKit.Sta Z h ST "COMPACT_STRINGS" "Z" (.int z)) (hz : ¬ z = 0)
    (hlen : zn.toNatClampNeg = cs.length) (h0 : 0 < cs.length) (hbig : cs.length ≤ 536870912) (hall : ∀ c ∈ cs, ¬ 255 < c) (hfr : 4 ≤ R.frames) (hlo : W + 65 ≤ R.locals) :
    Back l R p e below s args New1.yN len W (fun P a => a = #[.ref x, .ref b] ∧ P.U.heap = h ∧ P.cells + 1 ≤ R.cells ∧ P.slots + cs.length ≤ R.slots)
      (fun P _ v B => ∃ L, QA Z x zn cs h v B.U.heap L ∧ B.locs = P.locs ++ L ∧ B.cells = P.cells + 1 ∧ B.slots = P.slots + cs.length) := by
  obtain ⟨A, K1, K2, K3, K4, K5, K6⟩ := K
  have e : A.slots.size = cs.length := K3.trans hlen
  have hat : ∀ (i : Nat) (hi : i < cs.length), A.slots[i]? = some (.int cs[i]) := fun i hi => by rw [K5 i (by omega)]; simp [List.getD_eq_getElem?_getD, hi]
  have hcv : ∀ (i : Nat) (hi : i < cs.length), cv A i = cs[i] := fun i hi => by unfold cv; rw [hat i hi]
  have hty : Typed .char A := fun i v hv => by
    have hi : i < A.slots.size := (Array.getElem?_eq_some_iff.mp hv).1
    have q := K5 i hi
    rw [hv] at q
    rw [Option.some.inj q]
    exact K6 i hi
  refine Back.mono (back hZ hw wi E V C K1 hty S hz (by omega) (by omega) (fun i hi => by rw [hcv i (by omega)]; exact hall _ (List.getElem_mem _)) hfr hlo) (fun P a hp => ⟨hp.1, hp.2.1, hp.2.2.1, by rw [e]; exact hp.2.2.2⟩) (fun P a v B hp hq => ?_)
  obtain ⟨L, ⟨q1, q2, q3, q4, q5, q6, q7, ⟨V', v1, v2, v3, v4, v5⟩, q9⟩, hl, hc, hs⟩ := hq
  refine ⟨L, ⟨q1, q2, q3, q4, q5, q6, q7, ⟨V'.cls, v3, V', v1, rfl, by rw [v4, e, hlen], K4, fun i hi => ?_, fun i hi => ?_⟩, q9⟩, hl, hc, by rw [hs, e]⟩
  · have hi' : i < cs.length := by omega
    rw [v5 i (by omega), hcv i hi']; simp [List.getD_eq_getElem?_getD, hi']
  · have hi' : i < cs.length := by omega
    simp only [List.getD_eq_getElem?_getD, List.getElem?_map, List.getElem?_eq_getElem hi', Option.map_some, Option.getD_some]
    exact fits_lo8 _
end StrChars.Road
namespace StrChars.Road
open Jvm Sem ClassFile Op Lib Jvm.Stand Jvm.Free Jvm.Free.XT
/-- WHAT COMES BACK, in the writer's own shape -/
def QV (Z : State) (x : Addr) (N : Int32) (bs : List Int32) (h : Heap) (n0 : Nat) (v : Option Value) (h' : Heap) (L : List Loc) : Prop := v = none ∧ RoadKit.Fr n0 L ∧ RoadKit.Keep h h' [x] ∧ RoadKit.Exa Z h' x ST ∧ RoadKit.Fld Z h' x ST "coder" "B" (.int 0) ∧
  ∃ (t : Addr) (kb : ClassId), n0 ≤ t ∧ h.size ≤ t ∧ ¬ t = x ∧ RoadKit.Fld Z h' x ST "value" "[B" (.ref t) ∧ RoadKit.Arv Z h' t kb .byte N (bs.map Value.int) (.int 0)
/-- **new String(chars) AT A CALL, FOR THE WRITER**: a char[] of n known ints, each 0 to 255 -/
theorem backV {p : Program} {l : Launch} {e : Env} {R : Room} {s : State} {args : Array Value} {below : List Frame} {len W : Nat} {Z : State} {a0 : Array Value} {h : Heap} (hZ : Z.Warmed39 s.vm) (hw : ∀ d ∈ words, d.before a0 Z = true) {kI : Nat} (wi : (Jvm.Cond.instantiable ST kI).before a0 Z = true)
    {x b : Addr} {kC : ClassId} {cs bs : List Int32} {d v0 c0 : Value} {z N : Int32} {n n0 : Nat} (hx0 : n0 ≤ x) (hh0 : n0 ≤ h.size) (E : RoadKit.Exa Z h x ST) (V : RoadKit.Fld Z h x ST "value" "[B" v0) (C : RoadKit.Fld Z h x ST "coder" "B" c0) (K : RoadKit.Arv Z h b kC .char N (cs.map Value.int) d) (S : RoadKit.Sta Z h ST "COMPACT_STRINGS" "Z" (.int z)) (hz : ¬ z = 0)
    (hn : cs.length = n) (hN : N = Int32.ofNat n) (l0 : 0 < n) (l2 : n ≤ 4000) (hp : ∀ c ∈ cs, ¬ c < 0 ∧ ¬ (255 : Int32) < c) (hb : bs = cs.map (fun c => c.toInt8.toInt32)) (hfr : 4 ≤ R.frames) (hlo : W + 65 ≤ R.locals) :
    Back l R p e below s args (⟨"java/lang/String", "<init>", "([C)V"⟩ : MethodName) len W (fun P a => a = #[.ref x, .ref b] ∧ P.U.heap = h ∧ P.cells + 1 ≤ R.cells ∧ P.slots + n ≤ R.slots)
      (fun P _ v B => ∃ L, QV Z x N bs h n0 v B.U.heap L ∧ B.locs = P.locs ++ L ∧ B.cells = P.cells + 1 ∧ B.slots = P.slots + n) := by
  subst hn hN hb
  refine Back.mono (backArv hZ hw wi E V C K S hz (n32 (by omega)) l0 (by omega) (fun c hc => (hp c hc).2) hfr hlo) (fun P a hp => hp) (fun P a v B hp hq => ?_)
  obtain ⟨L, ⟨q1, q2, q3, q4, q5, q6, q7, ⟨kb, v1, v2⟩, q9⟩, hl, hc, hs⟩ := hq
  exact ⟨L, ⟨q1, fun y hy => by rw [q2 y hy]; exact hx0, q3, q5, q7, h.size, kb, hh0, Nat.le_refl _, Nat.ne_of_gt E.lt, q6, by rw [List.map_map]; exact v2⟩, hl, hc, hs⟩
end StrChars.Road
namespace StrChars
open Jvm Sem ClassFile Op Lib Jvm.Stand Jvm.Free.XT Jvm.Free.ALB Jvm.Free.JM Jvm.Free
open Jvm.Lib.Cold (StaticIs)
def hi8 (x : Int32) : Int32 := lo8 (x >>> ((8 : Int32) &&& 31))
/-- what StringUTF16.getChar makes of two bytes -/
def pairCh (u v : Int32) : Int32 := (((u &&& 255) <<< ((0 : Int32) &&& 31)) ||| ((v &&& 255) <<< ((8 : Int32) &&& 31))).toUInt32.toUInt16.toUInt32.toInt32
theorem lo8_and (x : Int32) : (lo8 x &&& 255).toBitVec.toNat = x.toBitVec.toNat % 256 := by
  have h : (lo8 x).toBitVec = (x.toBitVec.signExtend 8).signExtend 32 := by rw [lo8, Int8.toBitVec_toInt32, Int32.toBitVec_toInt8]
  rw [Int32.toBitVec_and, BitVec.toNat_and, h]
  have e : ((x.toBitVec.signExtend 8).signExtend 32).toNat % 256 = x.toBitVec.toNat % 256 := by
    rw [BitVec.toNat_signExtend]
    have hlt := x.toBitVec.isLt
    simp only [BitVec.toNat_setWidth, BitVec.toNat_signExtend]
    split <;> split <;> omega
  rw [← e]
  exact Nat.and_two_pow_sub_one_eq_mod _ 8
theorem pair_says {c : Int32} (h0 : ¬ c < 0) (h1 : ¬ 65535 < c) : pairCh (lo8 c) (hi8 c) = c := by
  rw [Int32.lt_iff_toInt_lt] at h0 h1
  have e0 : (0 : Int32).toInt = 0 := rfl
  have e1 : (65535 : Int32).toInt = 65535 := rfl
  have hc : c.toInt = c.toBitVec.toNat := by
    have := c.toBitVec.isLt
    have e : c.toInt = c.toBitVec.toInt := rfl
    rw [e] at h0 h1
    rw [e]
    rw [BitVec.toInt_eq_toNat_cond] at h0 h1 ⊢
    split at h0 <;> split <;> omega
  have hn : c.toBitVec.toNat < 65536 := by omega
  have a1 := lo8_and c
  have a2 : (hi8 c &&& 255).toBitVec.toNat = c.toBitVec.toNat / 256 := by
    rw [hi8, lo8_and]
    have e : ((8 : Int32) &&& 31) = 8 := by decide
    rw [e, Int32.toBitVec_shiftRight]
    have e2 : ((8 : Int32).toBitVec.smod 32) = 8#32 := by decide
    rw [e2, BitVec.sshiftRight_eq', BitVec.toNat_sshiftRight_of_msb_false (by rw [BitVec.msb_eq_false_iff_two_mul_lt]; omega)]
    show c.toBitVec.toNat >>> 8 % 256 = _
    rw [Nat.shiftRight_eq_div_pow]
    omega
  unfold pairCh
  apply Int32.toBitVec_inj.mp
  apply BitVec.eq_of_toNat_eq
  have f0 : ((0 : Int32) &&& 31) = 0 := by decide
  have f8 : ((8 : Int32) &&& 31) = 8 := by decide
  rw [f0, f8]
  have g : (((lo8 c &&& 255) <<< (0 : Int32)) ||| ((hi8 c &&& 255) <<< (8 : Int32))).toBitVec.toNat = c.toBitVec.toNat := by
    rw [Int32.toBitVec_or, Int32.toBitVec_shiftLeft, Int32.toBitVec_shiftLeft]
    have s0 : ((0 : Int32).toBitVec.smod 32) = 0#32 := by decide
    have s8 : ((8 : Int32).toBitVec.smod 32) = 8#32 := by decide
    rw [s0, s8, BitVec.toNat_or]
    simp only [BitVec.shiftLeft_eq', BitVec.toNat_shiftLeft, a1, a2]
    show (c.toBitVec.toNat % 256) <<< 0 % 2 ^ 32 ||| (c.toBitVec.toNat / 256) <<< 8 % 2 ^ 32 = _
    rw [Nat.shiftLeft_zero, Nat.mod_eq_of_lt (show c.toBitVec.toNat % 256 < 2 ^ 32 by omega), Nat.mod_eq_of_lt (show (c.toBitVec.toNat / 256) <<< 8 < 2 ^ 32 by rw [Nat.shiftLeft_eq]; omega), Nat.or_comm, ← Nat.shiftLeft_add_eq_or_of_lt (by omega), Nat.shiftLeft_eq]
    omega
  show BitVec.toNat (((((lo8 c &&& 255) <<< (0 : Int32)) ||| ((hi8 c &&& 255) <<< (8 : Int32))).toBitVec.setWidth 16).setWidth 32) = _
  rw [BitVec.toNat_setWidth, BitVec.toNat_setWidth, g]
  omega
end StrChars
namespace StrChars
open Jvm Sem ClassFile Op Lib Jvm.Stand Jvm.Free.XT Jvm.Free.ALB Jvm.Free.JM Jvm.Free
open Jvm.Lib.Cold (StaticIs)
/-- the array's cell V codes the n chars f 0 .. f (n - 1) by the coder cd, as the JDK does: coder 1 just where some char is above 255 -/
def Cod (cd : Int32) (n : Nat) (f : Nat → Int32) (V : Cell) : Prop := (cd = 0 ∧ V.slots.size = n ∧ ∀ j, j < n → V.slots[j]? = some (.int (lo8 (f j))) ∧ ¬ 255 < f j) ∨ (cd = 1 ∧ V.slots.size = 2 * n ∧ (∀ j, j < n → V.slots[2 * j]? = some (.int (lo8 (f j))) ∧ V.slots[2 * j + 1]? = some (.int (hi8 (f j)))) ∧ ∃ j, j < n ∧ 255 < f j)
/-- **x is a String of the n chars f 0 .. f (n - 1)**, Latin-1 or UTF-16; its array at t has the cell V -/
def Txt (x t : Addr) (V : Cell) (cd : Int32) (n : Nat) (f : Nat → Int32) (U : State) : Prop := Exact "java/lang/String" x U ∧ Has x "java/lang/String" "value" "[B" (.ref t) U ∧ Has x "java/lang/String" "coder" "B" (.int cd) U ∧ XT.Arr .byte t V U ∧ Cod cd n f V ∧ ∀ j, j < n → ¬ f j < 0 ∧ ¬ 65535 < f j
theorem Txt.mv {x t : Addr} {V : Cell} {cd : Int32} {n : Nat} {f : Nat → Int32} {U U' : State} (h : Txt x t V cd n f U) (hal : U.vm.Alike U'.vm) (hh : U'.heap = U.heap) : Txt x t V cd n f U' := ⟨h.1.mv hal hh, h.2.1.mv hal hh, h.2.2.1.mv hal hh, h.2.2.2.1.mv hal hh, h.2.2.2.2⟩
end StrChars
namespace StrChars.Road
open Jvm Sem ClassFile Op Lib Jvm.Stand Jvm.Free Jvm.Free.XT
open Jvm.Lib.Cold (StaticIs)
theorem consq {a : Array Value} {s : State} {c : Jvm.Cond} {L : List Jvm.Cond} (h0 : c.before a s = true) (h : ∀ w ∈ L, w.before a s = true) : ∀ w ∈ c :: L, w.before a s = true := fun w hw => (List.mem_cons.mp hw).elim (fun e => e ▸ h0) (h w)
/-- the bytes of the chars cs, low before high -/
def wideBytes : List Int32 → List Value
  | [] => []
  | c :: cs => .int (lo8 c) :: .int (hi8 c) :: wideBytes cs
theorem wide_lo (d : Value) : ∀ (cs : List Int32) (j : Nat), j < cs.length → (wideBytes cs).getD (2 * j) d = .int (lo8 (cs.getD j 0))
  | [], j, h => absurd h (Nat.not_lt_zero j)
  | c :: cs, 0, _ => rfl
  | c :: cs, j + 1, h => by
    have q := wide_lo d cs j (by simpa using h)
    rw [show 2 * (j + 1) = 2 * j + 1 + 1 from by omega]
    simpa [wideBytes] using q
theorem wide_hi (d : Value) : ∀ (cs : List Int32) (j : Nat), j < cs.length → (wideBytes cs).getD (2 * j + 1) d = .int (hi8 (cs.getD j 0))
  | [], j, h => absurd h (Nat.not_lt_zero j)
  | c :: cs, 0, _ => rfl
  | c :: cs, j + 1, h => by
    have q := wide_hi d cs j (by simpa using h)
    rw [show 2 * (j + 1) + 1 = 2 * j + 1 + 1 + 1 from by omega]
    simpa [wideBytes] using q
theorem low_at (d : Value) (cs : List Int32) (j : Nat) (h : j < cs.length) : (cs.map fun c => Value.int (lo8 c)).getD j d = .int (lo8 (cs.getD j 0)) := by
  simp [List.getD_eq_getElem?_getD, h]
/-- an array of N2 bytes vs codes the chars cs by the coder cd -/
def CodA (cs : List Int32) (cd N2 : Int32) (vs : List Value) : Prop := (cd = 0 ∧ N2 = Int32.ofNat cs.length ∧ vs = (cs.map fun c => Value.int (lo8 c)) ∧ ∀ c ∈ cs, ¬ 255 < c) ∨ (cd = 1 ∧ N2 = Int32.ofNat (2 * cs.length) ∧ vs = wideBytes cs ∧ ∃ c ∈ cs, 255 < c)
theorem CodA.cod {cs : List Int32} {cd N2 : Int32} {vs : List Value} {V : Cell} (h : CodA cs cd N2 vs) (hn : 2 * cs.length < 2 ^ 31) (hs : V.slots.size = N2.toNatClampNeg) (hv : RoadKit.Has V vs (.int 0)) : Cod cd cs.length (fun j => cs.getD j 0) V := by
  rcases h with ⟨rfl, rfl, rfl, h⟩ | ⟨rfl, rfl, rfl, c, hc, hw⟩
  · rw [n32 (by omega)] at hs
    exact Or.inl ⟨rfl, hs, fun j hj => ⟨by rw [hv j (by omega), low_at _ _ _ hj], by
      have e : cs.getD j 0 = cs[j] := by simp [List.getD_eq_getElem?_getD, hj]
      show ¬ 255 < cs.getD j 0
      rw [e]; exact h _ (List.getElem_mem _)⟩⟩
  · rw [n32 (by omega)] at hs
    obtain ⟨j, hj, rfl⟩ := List.getElem_of_mem hc
    exact Or.inr ⟨rfl, hs, fun j hj => ⟨by rw [hv _ (by omega), wide_lo _ _ _ hj], by rw [hv _ (by omega), wide_hi _ _ _ hj]⟩, j, hj, by
      have e : cs.getD j 0 = cs[j] := by simp [List.getD_eq_getElem?_getD, hj]
      show 255 < cs.getD j 0
      rw [e]; exact hw⟩
/-- an object of exactly java/lang/String, its two fields found: as the laws ask it -/
theorem strObj {Z U : State} {a0 : Array Value} {kI : Nat} (wi : (Jvm.Cond.instantiable ST kI).before a0 Z = true) (al : Z.vm.Alike U.vm) {x : Addr} {v0 c0 : Value} (E : RoadKit.Exa Z U.heap x ST) (V : RoadKit.Fld Z U.heap x ST "value" "[B" v0) (C : RoadKit.Fld Z U.heap x ST "coder" "B" c0) :
    ∃ (D : Cell) (fV fC : Field), Blank ST x D U ∧ Found ST "value" "[B" fV U ∧ Found ST "coder" "B" fC U ∧ D.slots[fV.slot]? = some v0 ∧ D.slots[fC.slot]? = some c0 ∧ RoadKit.slotOf Z ST "value" "[B" = fV.slot ∧ RoadKit.slotOf Z ST "coder" "B" = fC.slot := by
  obtain ⟨D, cfV, kV, iV, fV, hD, gV, stV, knV, obV, asV, slV⟩ := V
  obtain ⟨D', cfC, kC, iC, fC, hD', gC, stC, -, -, asC, slC⟩ := C
  cases hD.symm.trans hD'
  obtain ⟨D2, kD, e1, e2, e3, e4, e5⟩ := E
  cases hD.symm.trans e1
  obtain ⟨c2, k2, i1, i2, i3, -⟩ := Cond.instantiable_spec wi
  cases e2.symm.trans i1
  cases e3.symm.trans i2
  obtain ⟨kU, u1, u2⟩ := al.2.2 _ _ e3
  exact ⟨D, fV, fC, ⟨hD, ⟨knV, fun q hq => by rw [hq] at obV; cases obV⟩, by rw [al.findClass]; exact e2, kU, u1, by rw [u2]; exact i3, by rw [u2]; exact e5 i3⟩, ⟨SBG.found_only al ⟨cfV, kV, iV, gV⟩, stV⟩, ⟨SBG.found_only al ⟨cfC, kC, iC, gC⟩, stC⟩, slV, slC, by simp [RoadKit.slotOf, gV], by simp [RoadKit.slotOf, gC]⟩
theorem sta_is {Z U : State} (al : Z.vm.Alike U.vm) {C n d : String} {v : Value} (S : RoadKit.Sta Z U.heap C n d v) : StaticIs U C n d v := by
  obtain ⟨cfS, iS, kS, fS, st, cS, t1, t2, t3, t4, t5, t6, t7⟩ := S
  exact StaticIs.there (s := { Z with heap := U.heap }) ⟨cfS, iS, kS, fS, st, cS, t1, t2, t3, t4, t5, (fun q => by rw [q] at t6; cases t6), t7⟩ al rfl
end StrChars.Road
namespace StrChars
open Jvm Sem ClassFile Op Lib Jvm.Stand Jvm.Free.XT Jvm.Free.ALB Jvm.Free.JM Jvm.Free
open Jvm.Lib.Cold (StaticIs)
/-- what place i of a byte[]'s cell holds -/
def yv (A : Cell) (i : Nat) : Int32 := match A.slots[i]? with | some (.int x) => x | _ => 0
theorem yv_get {a : Addr} {A : Cell} {U : State} (h : XT.Arr .byte a A U) (ht : Typed .byte A) {i : Nat} (hi : i < A.slots.size) : A.slots[i]? = some (.int (yv A i)) := by
  have e := Array.getElem?_eq_getElem hi
  have f := ht i _ e
  unfold yv; rw [e]
  generalize A.slots[i] = v at f
  cases v <;> simp [fits] at f ⊢
/-- the two arrays are equal, place for place -/
def EqC (A B : Cell) : Prop := A.slots.size = B.slots.size ∧ ∀ i, i < A.slots.size → yv A i = yv B i
/-- a boolean that says whether p -/
def Says01 (q : Prop) (r : Option Value) (s u : State) : Prop := ∃ v : Int32, r = some (.int v) ∧ u.heap = s.heap ∧ ((v = 1 ∧ q) ∨ (v = 0 ∧ ¬ q))
theorem Says01.mv {q : Prop} : ∀ r (U U' V V' : State), U'.heap = U.heap → V.vm.Alike V'.vm → V'.heap = V.heap → Says01 q r U V → Says01 q r U' V' :=
  fun r U U' V V' h1 _ h2 ⟨v, a, b, c⟩ => ⟨v, a, by rw [h1, h2]; exact b, c⟩
namespace LEq
def yN : MethodName := ⟨"java/lang/StringLatin1", "equals", "([B[B)Z"⟩
abbrev yB : ByteArray := jdk_43_method_13_code
theorem d0 : decode yB 0 = .ok (.aload_n 0, 1) := by decide +kernel
theorem d1 : decode yB 1 = .ok (.arraylength, 1) := by decide +kernel
theorem d2 : decode yB 2 = .ok (.aload_n 1, 1) := by decide +kernel
theorem d3 : decode yB 3 = .ok (.arraylength, 1) := by decide +kernel
theorem d4 : decode yB 4 = .ok (.if_icmp (.ne) 30, 3) := by decide +kernel
theorem d7 : decode yB 7 = .ok (.iconst 0, 1) := by decide +kernel
theorem d8 : decode yB 8 = .ok (.istore_n 2, 1) := by decide +kernel
theorem d9 : decode yB 9 = .ok (.iload_n 2, 1) := by decide +kernel
theorem d10 : decode yB 10 = .ok (.aload_n 0, 1) := by decide +kernel
theorem d11 : decode yB 11 = .ok (.arraylength, 1) := by decide +kernel
theorem d12 : decode yB 12 = .ok (.if_icmp (.ge) 20, 3) := by decide +kernel
theorem d15 : decode yB 15 = .ok (.aload_n 0, 1) := by decide +kernel
theorem d16 : decode yB 16 = .ok (.iload_n 2, 1) := by decide +kernel
theorem d17 : decode yB 17 = .ok (.baload, 1) := by decide +kernel
theorem d18 : decode yB 18 = .ok (.aload_n 1, 1) := by decide +kernel
theorem d19 : decode yB 19 = .ok (.iload_n 2, 1) := by decide +kernel
theorem d20 : decode yB 20 = .ok (.baload, 1) := by decide +kernel
theorem d21 : decode yB 21 = .ok (.if_icmp (.eq) 5, 3) := by decide +kernel
theorem d24 : decode yB 24 = .ok (.iconst 0, 1) := by decide +kernel
theorem d25 : decode yB 25 = .ok (.ireturn, 1) := by decide +kernel
theorem d26 : decode yB 26 = .ok (.iinc 2 1, 3) := by decide +kernel
theorem d29 : decode yB 29 = .ok (.goto (-20), 3) := by decide +kernel
theorem d32 : decode yB 32 = .ok (.iconst 1, 1) := by decide +kernel
theorem d33 : decode yB 33 = .ok (.ireturn, 1) := by decide +kernel
theorem d34 : decode yB 34 = .ok (.iconst 0, 1) := by decide +kernel
theorem d35 : decode yB 35 = .ok (.ireturn, 1) := by decide +kernel
def site : List Cond := []
def tab : Cond := tabOf yN yB 3 (some .boolean) site
def P (a : Addr) (A : Cell) (b : Addr) (B : Cell) (args : Array Value) (s : State) : Prop := args = #[.ref a, .ref b] ∧ XT.Arr .byte a A s ∧ Typed .byte A ∧ XT.Arr .byte b B s ∧ Typed .byte B
/-- whether two byte[] are equal, place for place -/
theorem law (l : Launch) (a : Addr) (A : Cell) (b : Addr) (B : Cell) : Law l yN 2 2 0 0 yB 3 (some .boolean) site (P a A b B) (Says01 (EqC A B)) [] 0 0 := by
  refine Law.of_walk (plainFor_of_name (by decide +kernel)) (by decide +kernel) (by decide +kernel) (by decide) (fun _ _ h => by rw [h.1]; rfl) (fun _ U U' hal hh h => ⟨h.1, h.2.1.mv hal hh, h.2.2.1, h.2.2.2.1.mv hal hh, h.2.2.2.2⟩) (fun r U U' V V' h1 hal h2 h => Says01.mv r U U' V V' h1 hal h2 h) ?_
  intro p e s m args below meth c s₁ X0 hexec hbytes hml hret hlk hnm hown hh0 W hP
  obtain ⟨rfl, hA, tA, hB, tB⟩ := hP
  have a31 := hA.2.2.2
  have b31 := hB.2.2.2
  have hA0 := hA.mv X0.warmed.alike hh0
  have hB0 := hB.mv X0.warmed.alike hh0
  have c1 : Steps p.tables e below (s₁.setTop (entryFrame m #[.ref a, .ref b] 3)) (s₁.setTop (mkF m 0 #[.val (.ref a), .val (.ref b), .unset] [])) := entry rfl
  have c2 : Steps p.tables e below (s₁.setTop (entryFrame m #[.ref a, .ref b] 3)) (s₁.setTop (mkF m 4 #[.val (.ref a), .val (.ref b), .unset] [.int (Int32.ofNat B.slots.size), .int (Int32.ofNat A.slots.size)])) := c1.trans (by
    refine XS.aloadN X0.here hexec rfl (hb hbytes d0) rfl rfl ?_
    refine X0.alen hexec hA0 rfl rfl (hb hbytes d1) ?_
    refine XS.aloadN X0.here hexec rfl (hb hbytes d2) rfl rfl ?_
    refine X0.alen hexec hB0 rfl rfl (hb hbytes d3) ?_
    exact Steps.refl _)
  by_cases hs : A.slots.size = B.slots.size
  · have c3 : Steps p.tables e below (s₁.setTop (entryFrame m #[.ref a, .ref b] 3)) (s₁.setTop (mkF m 9 #[.val (.ref a), .val (.ref b), .val (.int 0)] [])) := c2.trans (by
      refine XS.icmpNo X0.here hexec rfl (hb hbytes d4) rfl (ii_ne_f (by rw [hs])) ?_
      refine iconstV X0.here hexec rfl 0 (hb hbytes d7) (by decide) ?_
      refine XS.istoreN X0.here hexec rfl (hb hbytes d8) rfl rfl ?_
      exact Steps.refl _)
    have loop : ∀ (r i : Nat), i + r = A.slots.size → (∀ j, j < i → yv A j = yv B j) → Steps p.tables e below (s₁.setTop (entryFrame m #[.ref a, .ref b] 3)) (s₁.setTop (mkF m 9 #[.val (.ref a), .val (.ref b), .val (.int (Int32.ofNat i))] [])) → ∃ (pc : Nat) (Ls : Array Slot) (v : Int32), (pc = 25 ∨ pc = 33) ∧ ((v = 1 ∧ EqC A B) ∨ (v = 0 ∧ ¬ EqC A B)) ∧ Steps p.tables e below (s₁.setTop (entryFrame m #[.ref a, .ref b] 3)) (s₁.setTop (mkF m pc Ls [.int v])) := by
      intro r
      induction r with
      | zero =>
        intro i hi he cl
        exact ⟨33, _, 1, Or.inr rfl, Or.inl ⟨rfl, hs, fun j hj => he j (by omega)⟩, cl.trans (by
          refine XS.iloadN X0.here hexec rfl (hb hbytes d9) rfl ?_
          refine XS.aloadN X0.here hexec rfl (hb hbytes d10) rfl rfl ?_
          refine X0.alen hexec hA0 rfl rfl (hb hbytes d11) ?_
          refine XS.icmpYes X0.here hexec rfl (pc0 := 12) rfl (hb hbytes d12) rfl (ii_ge_t (nlt32 (by omega) (by omega))) (by decide) rfl ?_
          refine iconstV X0.here hexec rfl 1 (hb hbytes d32) (by decide) ?_
          exact Steps.refl _)⟩
      | succ r ih =>
        intro i hi he cl
        have c4 : Steps p.tables e below (s₁.setTop (entryFrame m #[.ref a, .ref b] 3)) (s₁.setTop (mkF m 21 #[.val (.ref a), .val (.ref b), .val (.int (Int32.ofNat i))] [.int (yv B i), .int (yv A i)])) := cl.trans (by
          refine XS.iloadN X0.here hexec rfl (hb hbytes d9) rfl ?_
          refine XS.aloadN X0.here hexec rfl (hb hbytes d10) rfl rfl ?_
          refine X0.alen hexec hA0 rfl rfl (hb hbytes d11) ?_
          refine XS.icmpNo X0.here hexec rfl (hb hbytes d12) rfl (ii_ge_f (lt32 (by omega) (by omega))) ?_
          refine XS.aloadN X0.here hexec rfl (hb hbytes d15) rfl rfl ?_
          refine XS.iloadN X0.here hexec rfl (hb hbytes d16) rfl ?_
          refine X0.aget hexec hA0 rfl (yv_get hA tA (i := i) (by omega)) rfl rfl (hb hbytes d17) ?_
          refine XS.aloadN X0.here hexec rfl (hb hbytes d18) rfl rfl ?_
          refine XS.iloadN X0.here hexec rfl (hb hbytes d19) rfl ?_
          refine X0.aget hexec hB0 rfl (yv_get hB tB (i := i) (by omega)) rfl rfl (hb hbytes d20) ?_
          exact Steps.refl _)
        by_cases hv : yv A i = yv B i
        · have c5 : Steps p.tables e below (s₁.setTop (entryFrame m #[.ref a, .ref b] 3)) (s₁.setTop (mkF m 9 #[.val (.ref a), .val (.ref b), .val (.int (Int32.ofNat i + 1))] [])) := c4.trans (by
            refine XS.icmpYes X0.here hexec rfl (pc0 := 21) rfl (hb hbytes d21) rfl (ii_eq_t hv) (by decide) rfl ?_
            refine iincV X0.here hexec rfl 1 (hb hbytes d26) (by decide) rfl rfl ?_
            refine XS.goto X0.here hexec rfl (pc0 := 29) rfl (hb hbytes d29) (by decide) rfl ?_
            exact Steps.refl _)
          rw [succ32] at c5
          exact ih (i + 1) (by omega) (fun j hj => by
            by_cases e : j = i
            · rw [e]; exact hv
            · exact he j (by omega)) c5
        · exact ⟨25, _, 0, Or.inl rfl, Or.inr ⟨rfl, fun q => hv (q.2 i (by omega))⟩, c4.trans (by
            refine XS.icmpNo X0.here hexec rfl (hb hbytes d21) rfl (ii_eq_f hv) ?_
            refine iconstV X0.here hexec rfl 0 (hb hbytes d24) (by decide) ?_
            exact Steps.refl _)⟩
    obtain ⟨pc, Ls, v, hpc, hv, cz⟩ := loop A.slots.size 0 (by omega) (fun j hj => absurd hj (Nat.not_lt_zero j)) c3
    have nv : narrow .boolean (.int v) = .int v := by rcases hv with ⟨rfl, -⟩ | ⟨rfl, -⟩ <;> rfl
    rcases hpc with rfl | rfl
    · exact ⟨s₁, some (.int v), _, _, _, X0, rfl, rfl, rfl, (fun h => by cases h), ⟨v, rfl, hh0, hv⟩, fun fs hl => cz.trans (X0.ireturnOut hexec hret nv (Or.inr (Or.inl rfl)) (hb hbytes d25) hl)⟩
    · exact ⟨s₁, some (.int v), _, _, _, X0, rfl, rfl, rfl, (fun h => by cases h), ⟨v, rfl, hh0, hv⟩, fun fs hl => cz.trans (X0.ireturnOut hexec hret nv (Or.inr (Or.inl rfl)) (hb hbytes d33) hl)⟩
  · have c3 : Steps p.tables e below (s₁.setTop (entryFrame m #[.ref a, .ref b] 3)) (s₁.setTop (mkF m 35 #[.val (.ref a), .val (.ref b), .unset] [.int 0])) := c2.trans (by
      refine XS.icmpYes X0.here hexec rfl (pc0 := 4) rfl (hb hbytes d4) rfl (ii_ne_t (ne32 a31 b31 hs)) (by decide) rfl ?_
      refine iconstV X0.here hexec rfl 0 (hb hbytes d34) (by decide) ?_
      exact Steps.refl _)
    exact ⟨s₁, some (.int 0), _, _, _, X0, rfl, rfl, rfl, (fun h => by cases h), ⟨0, rfl, hh0, Or.inr ⟨rfl, fun q => hs q.1⟩⟩, fun fs hl => c3.trans (X0.ireturnOut hexec hret rfl (Or.inr (Or.inl rfl)) (hb hbytes d35) hl)⟩
end LEq
theorem Cod.ty {cd : Int32} {n : Nat} {f : Nat → Int32} {V : Cell} (h : Cod cd n f V) : Typed .byte V := fun i v hv => by
  have hi : i < V.slots.size := (Array.getElem?_eq_some_iff.mp hv).1
  rcases h with ⟨-, k1, k2⟩ | ⟨-, k1, k2, -⟩
  · rw [(k2 i (by omega)).1] at hv; cases hv; exact fits_lo8 _
  · rcases Nat.mod_two_eq_zero_or_one i with e | e
    · obtain ⟨j, rfl⟩ : ∃ j, i = 2 * j := ⟨i / 2, by omega⟩
      rw [(k2 j (by omega)).1] at hv; cases hv; exact fits_lo8 _
    · obtain ⟨j, rfl⟩ : ∃ j, i = 2 * j + 1 := ⟨i / 2, by omega⟩
      rw [(k2 j (by omega)).2] at hv; cases hv; exact fits_lo8 _
/-- the same text -/
def SameT (n : Nat) (f : Nat → Int32) (k : Nat) (g : Nat → Int32) : Prop := n = k ∧ ∀ j, j < n → f j = g j
theorem lo8_inj {x y : Int32} (h0 : ¬ x < 0) (h1 : ¬ 255 < x) (k0 : ¬ y < 0) (k1 : ¬ 255 < y) (h : lo8 x = lo8 y) : x = y := by
  rw [← lo8_mask h0 h1, ← lo8_mask k0 k1, h]
/-- arrays coded by one coder are equal just where the texts are -/
theorem Cod.eqv {cd : Int32} {n k : Nat} {f g : Nat → Int32} {V V' : Cell} (h : Cod cd n f V) (h' : Cod cd k g V') (hf : ∀ j, j < n → ¬ f j < 0 ∧ ¬ 65535 < f j) (hg : ∀ j, j < k → ¬ g j < 0 ∧ ¬ 65535 < g j) : EqC V V' ↔ SameT n f k g := by
  have yvv : ∀ {W : Cell} {i : Nat} {x : Int32}, W.slots[i]? = some (.int x) → yv W i = x := fun q => by unfold yv; rw [q]
  rcases h with ⟨rfl, k1, k2⟩ | ⟨rfl, k1, k2, -⟩
  · rcases h' with ⟨-, m1, m2⟩ | ⟨e, -⟩
    · constructor
      · rintro ⟨e1, e2⟩
        refine ⟨by omega, fun j hj => ?_⟩
        have q := e2 j (by omega)
        rw [yvv (k2 j hj).1, yvv (m2 j (by omega)).1] at q
        exact lo8_inj (hf j hj).1 (k2 j hj).2 (hg j (by omega)).1 (m2 j (by omega)).2 q
      · rintro ⟨rfl, e2⟩
        refine ⟨by omega, fun j hj => ?_⟩
        rw [yvv (k2 j (by omega)).1, yvv (m2 j (by omega)).1, e2 j (by omega)]
    · exact absurd e (by decide)
  · rcases h' with ⟨e, -⟩ | ⟨-, m1, m2, -⟩
    · exact absurd e (by decide)
    · constructor
      · rintro ⟨e1, e2⟩
        refine ⟨by omega, fun j hj => ?_⟩
        have q1 := e2 (2 * j) (by omega)
        have q2 := e2 (2 * j + 1) (by omega)
        rw [yvv (k2 j hj).1, yvv (m2 j (by omega)).1] at q1
        rw [yvv (k2 j hj).2, yvv (m2 j (by omega)).2] at q2
        rw [← pair_says (hf j hj).1 (hf j hj).2, ← pair_says (hg j (by omega)).1 (hg j (by omega)).2, q1, q2]
      · rintro ⟨rfl, e2⟩
        refine ⟨by omega, fun i hi => ?_⟩
        rcases Nat.mod_two_eq_zero_or_one i with e | e
        · obtain ⟨j, rfl⟩ : ∃ j, i = 2 * j := ⟨i / 2, by omega⟩
          rw [yvv (k2 j (by omega)).1, yvv (m2 j (by omega)).1, e2 j (by omega)]
        · obtain ⟨j, rfl⟩ : ∃ j, i = 2 * j + 1 := ⟨i / 2, by omega⟩
          rw [yvv (k2 j (by omega)).2, yvv (m2 j (by omega)).2, e2 j (by omega)]
/-- two codings differ: so do the texts -/
theorem Cod.dif {cd cd' : Int32} {n k : Nat} {f g : Nat → Int32} {V V' : Cell} (h : Cod cd n f V) (h' : Cod cd' k g V') (hne : ¬ cd = cd') : ¬ SameT n f k g := by
  rintro ⟨rfl, e⟩
  rcases h with ⟨rfl, -, k2⟩ | ⟨rfl, -, -, j, hj, hw⟩
  · rcases h' with ⟨rfl, -⟩ | ⟨-, -, -, j, hj, hw⟩
    · exact hne rfl
    · exact (k2 j hj).2 (by rw [e j hj]; exact hw)
  · rcases h' with ⟨-, -, m2⟩ | ⟨rfl, -⟩
    · exact (m2 j hj).2 (by rw [← e j hj]; exact hw)
    · exact hne rfl
/-- an object of exactly C is an instance of C -/
theorem cinst {p : Program} {l : Launch} {e : Env} {R : Room} {s : State} {m : MethodId} {args : Array Value} {below : List Frame} {meth : Method} {c : Code} {T : State} {locs : List Loc} {cells slots : Nat} (X : Stand p l e R s m args below meth c T locs cells slots) (hexec : p.tables.exec = Jvm.exec) {own C : String} {index : Nat} (hown : s.vm.findClass own = some m.cls) (hlink : (Cond.classLink own index C).before args s = true) {a : Addr} (hE : Exact C a T)
    {g : JFrame} (hg : g.method = m) {rest : List Value} (hstack : g.stack = .ref a :: rest) (hdg : decode c.code g.pc = .ok (.instanceof index, 3)) :
    ∃ T', Stand p l e R s m args below meth c T' locs cells slots ∧ T'.heap = T.heap ∧ ∀ target, Steps p.tables e below (T'.setTop { g with pc := g.pc + 3, stack := .int 1 :: rest }) target → Steps p.tables e below (T.setTop g) target := by
  obtain ⟨cB, h1, D, h2, h3, h4⟩ := hE
  have h1' : s.vm.findClass C = some cB := by rw [← X.warmed.alike.findClass]; exact h1
  obtain ⟨vm', X', st⟩ := X.instanceofYes hexec hown hlink h2 h4 h1' (by rw [h3]; exact Jvm.Free.SB.assignable_self _ _) hg hstack hdg
  exact ⟨_, X', rfl, st⟩
theorem cself {p : Program} {l : Launch} {e : Env} {R : Room} {s : State} {m : MethodId} {args : Array Value} {below : List Frame} {meth : Method} {c : Code} {T : State} {locs : List Loc} {cells slots : Nat} (X : Stand p l e R s m args below meth c T locs cells slots) (hexec : p.tables.exec = Jvm.exec) {own C : String} {index : Nat} (hown : s.vm.findClass own = some m.cls) (hlink : (Cond.classLink own index C).before args s = true) {a : Addr} (hE : Exact C a T)
    {g : JFrame} (hg : g.method = m) {rest : List Value} (hstack : g.stack = .ref a :: rest) (hdg : decode c.code g.pc = .ok (.checkcast index, 3)) :
    ∃ T', Stand p l e R s m args below meth c T' locs cells slots ∧ T'.heap = T.heap ∧ ∀ target, Steps p.tables e below (T'.setTop { g with pc := g.pc + 3, stack := .ref a :: rest }) target → Steps p.tables e below (T.setTop g) target := by
  obtain ⟨cB, h1, D, h2, h3, h4⟩ := hE
  have h1' : s.vm.findClass C = some cB := by rw [← X.warmed.alike.findClass]; exact h1
  obtain ⟨vm', X', st⟩ := X.checkcastYes hexec hown hlink h2 h4 h1' (by rw [h3]; exact Jvm.Free.SB.assignable_self _ _) hg hstack hdg
  exact ⟨_, X', rfl, fun t h => st t (by rw [← hstack] at h; exact h)⟩
namespace SEq
def yN : MethodName := ⟨"java/lang/String", "equals", "(Ljava/lang/Object;)Z"⟩
abbrev yB : ByteArray := jdk_42_method_66_code
theorem d0 : decode yB 0 = .ok (.aload_n 0, 1) := by decide +kernel
theorem d1 : decode yB 1 = .ok (.aload_n 1, 1) := by decide +kernel
theorem d2 : decode yB 2 = .ok (.if_acmp (.ne) 5, 3) := by decide +kernel
theorem d5 : decode yB 5 = .ok (.iconst 1, 1) := by decide +kernel
theorem d6 : decode yB 6 = .ok (.ireturn, 1) := by decide +kernel
theorem d7 : decode yB 7 = .ok (.aload_n 1, 1) := by decide +kernel
theorem d8 : decode yB 8 = .ok (.instanceof 10, 3) := by decide +kernel
theorem d11 : decode yB 11 = .ok (.ifCond (.eq) 43, 3) := by decide +kernel
theorem d14 : decode yB 14 = .ok (.aload_n 1, 1) := by decide +kernel
theorem d15 : decode yB 15 = .ok (.checkcast 10, 3) := by decide +kernel
theorem d18 : decode yB 18 = .ok (.astore_n 2, 1) := by decide +kernel
theorem d19 : decode yB 19 = .ok (.getstatic 38, 3) := by decide +kernel
theorem d22 : decode yB 22 = .ok (.ifCond (.eq) 14, 3) := by decide +kernel
theorem d25 : decode yB 25 = .ok (.aload_n 0, 1) := by decide +kernel
theorem d26 : decode yB 26 = .ok (.getfield 15, 3) := by decide +kernel
theorem d29 : decode yB 29 = .ok (.aload_n 2, 1) := by decide +kernel
theorem d30 : decode yB 30 = .ok (.getfield 15, 3) := by decide +kernel
theorem d33 : decode yB 33 = .ok (.if_icmp (.ne) 21, 3) := by decide +kernel
theorem d36 : decode yB 36 = .ok (.aload_n 0, 1) := by decide +kernel
theorem d37 : decode yB 37 = .ok (.getfield 9, 3) := by decide +kernel
theorem d40 : decode yB 40 = .ok (.aload_n 2, 1) := by decide +kernel
theorem d41 : decode yB 41 = .ok (.getfield 9, 3) := by decide +kernel
theorem d44 : decode yB 44 = .ok (.invokestatic 541, 3) := by decide +kernel
theorem d47 : decode yB 47 = .ok (.ifCond (.eq) 7, 3) := by decide +kernel
theorem d50 : decode yB 50 = .ok (.iconst 1, 1) := by decide +kernel
theorem d51 : decode yB 51 = .ok (.goto 4, 3) := by decide +kernel
theorem d54 : decode yB 54 = .ok (.iconst 0, 1) := by decide +kernel
theorem d55 : decode yB 55 = .ok (.ireturn, 1) := by decide +kernel
def site : List Cond := [.classLink "java/lang/String" 10 "java/lang/String", .fieldLink "java/lang/String" 38 "java/lang/String" "COMPACT_STRINGS" "Z", .fieldLink "java/lang/String" 15 "java/lang/String" "coder" "B", .fieldLink "java/lang/String" 9 "java/lang/String" "value" "[B", LEq.tab] ++ staticW "java/lang/String" 541 LEq.yN
def tab : Cond := tabOf yN yB 3 (some .boolean) site
def P (x t : Addr) (V : Cell) (cd : Int32) (n : Nat) (f : Nat → Int32) (y t' : Addr) (V' : Cell) (cd' : Int32) (k : Nat) (g : Nat → Int32) (z : Int32) (args : Array Value) (s : State) : Prop := args = #[.ref x, .ref y] ∧ Txt x t V cd n f s ∧ Txt y t' V' cd' k g s ∧ StaticIs s "java/lang/String" "COMPACT_STRINGS" "Z" (.int z) ∧ ¬ z = 0
/-- equals(Object) of two Strings: whether the texts are the same -/
theorem law (l : Launch) (x t : Addr) (V : Cell) (cd : Int32) (n : Nat) (f : Nat → Int32) (y t' : Addr) (V' : Cell) (cd' : Int32) (k : Nat) (g : Nat → Int32) (z : Int32) : Law l yN 2 1 1 14 yB 3 (some .boolean) site (P x t V cd n f y t' V' cd' k g z) (Says01 (SameT n f k g)) [] 0 0 := by
  refine Law.of_walk (plainFor_of_name (by decide +kernel)) (by decide +kernel) (by decide +kernel) (by decide) (fun _ _ h => by rw [h.1]; rfl) (fun _ U U' hal hh h => ⟨h.1, h.2.1.mv hal hh, h.2.2.1.mv hal hh, h.2.2.2.1.there hal hh, h.2.2.2.2⟩) (fun r U U' V V' h1 hal h2 h => Says01.mv r U U' V V' h1 hal h2 h) ?_
  intro p e s m args below meth c s₁ X0 hexec hbytes hml hret hlk hnm hown hh0 W hP
  obtain ⟨rfl, hx, hy, s1, hz⟩ := hP
  have c1 : Steps p.tables e below (s₁.setTop (entryFrame m #[.ref x, .ref y] 3)) (s₁.setTop (mkF m 2 #[.val (.ref x), .val (.ref y), .unset] [.ref y, .ref x])) := Steps.trans (entry rfl) (by
    show Steps p.tables e below (s₁.setTop (mkF m 0 #[.val (.ref x), .val (.ref y), .unset] [])) _
    refine XS.aloadN X0.here hexec rfl (hb hbytes d0) rfl rfl ?_
    refine XS.aloadN X0.here hexec rfl (hb hbytes d1) rfl rfl ?_
    exact Steps.refl _)
  by_cases hxy : x = y
  · have c2 : Steps p.tables e below (s₁.setTop (entryFrame m #[.ref x, .ref y] 3)) (s₁.setTop (mkF m 6 #[.val (.ref x), .val (.ref y), .unset] [.int 1])) := c1.trans (by
      refine acmpNo X0.here hexec rfl (hb hbytes d2) rfl rfl rfl (by simp [acmp, hxy]) ?_
      refine iconstV X0.here hexec rfl 1 (hb hbytes d5) (by decide) ?_
      exact Steps.refl _)
    subst hxy
    have ec : cd = cd' := by
      obtain ⟨D, fd, a1, a2, a3⟩ := hx.2.2.1
      obtain ⟨D', fd', b1, b2, b3⟩ := hy.2.2.1
      cases a1.symm.trans b1
      obtain ⟨q1, q2, q3, q4⟩ := a2.1
      obtain ⟨r1, r2, r3, r4⟩ := b2.1
      cases q4.symm.trans r4
      cases a3.symm.trans b3; rfl
    have et : t = t' := by
      obtain ⟨D, fd, a1, a2, a3⟩ := hx.2.1
      obtain ⟨D', fd', b1, b2, b3⟩ := hy.2.1
      cases a1.symm.trans b1
      obtain ⟨q1, q2, q3, q4⟩ := a2.1
      obtain ⟨r1, r2, r3, r4⟩ := b2.1
      cases q4.symm.trans r4
      cases a3.symm.trans b3; rfl
    subst ec et
    have ev : V = V' := by cases hx.2.2.2.1.1.symm.trans hy.2.2.2.1.1; rfl
    subst ev
    have hs : SameT n f k g := (Cod.eqv hx.2.2.2.2.1 hy.2.2.2.2.1 hx.2.2.2.2.2 hy.2.2.2.2.2).mp ⟨rfl, fun _ _ => rfl⟩
    exact ⟨s₁, some (.int 1), _, _, _, X0, rfl, rfl, rfl, (fun h => by cases h), ⟨1, rfl, hh0, Or.inl ⟨rfl, hs⟩⟩, fun fs hl => c2.trans (X0.ireturnOut hexec hret rfl (Or.inr (Or.inl rfl)) (hb hbytes d6) hl)⟩
  · have c2 : Steps p.tables e below (s₁.setTop (entryFrame m #[.ref x, .ref y] 3)) (s₁.setTop (mkF m 8 #[.val (.ref x), .val (.ref y), .unset] [.ref y])) := c1.trans (by
      refine acmpYes X0.here hexec rfl (pc0 := 2) rfl (hb hbytes d2) rfl rfl rfl (by simp [acmp, hxy]) (by decide) rfl ?_
      refine XS.aloadN X0.here hexec rfl (hb hbytes d7) rfl rfl ?_
      exact Steps.refl _)
    obtain ⟨T3, X3, q3, st3⟩ := cinst X0 hexec hown (wk W (.classLink "java/lang/String" 10 "java/lang/String")) (hy.mv X0.warmed.alike hh0).1 (g := (mkF m 8 #[.val (.ref x), .val (.ref y), .unset] [.ref y])) rfl (rest := []) rfl (hb hbytes d8)
    have hh3 := q3.trans hh0
    have c4 : Steps p.tables e below (s₁.setTop (entryFrame m #[.ref x, .ref y] 3)) (T3.setTop (mkF m 15 #[.val (.ref x), .val (.ref y), .unset] [.ref y])) := (c2.trans (st3 _ (Steps.refl _))).trans (by
      refine XS.ifNo X3.here hexec rfl (hb hbytes d11) rfl (i0_eq_f (by decide)) ?_
      refine XS.aloadN X3.here hexec rfl (hb hbytes d14) rfl rfl ?_
      exact Steps.refl _)
    obtain ⟨T5, X5, q5, st5⟩ := cself X3 hexec hown (wk W (.classLink "java/lang/String" 10 "java/lang/String")) (hy.mv X3.warmed.alike hh3).1 (g := (mkF m 15 #[.val (.ref x), .val (.ref y), .unset] [.ref y])) rfl (rest := []) rfl (hb hbytes d15)
    have hh5 := q5.trans hh3
    have c6 : Steps p.tables e below (s₁.setTop (entryFrame m #[.ref x, .ref y] 3)) (T5.setTop (mkF m 19 #[.val (.ref x), .val (.ref y), .val (.ref y)] [])) := (c4.trans (st5 _ (Steps.refl _))).trans (by
      refine XS.astoreN X5.here hexec rfl (hb hbytes d18) rfl rfl rfl ?_
      exact Steps.refl _)
    obtain ⟨T7, X7, q7, st7⟩ := X5.sget hexec hown (wk W (.fieldLink "java/lang/String" 38 "java/lang/String" "COMPACT_STRINGS" "Z")) s1 (fun _ _ h => by rw [hh5]; exact h) (g := (mkF m 19 #[.val (.ref x), .val (.ref y), .val (.ref y)] [])) rfl (hb hbytes d19)
    have hh7 := q7.trans hh5
    have c8 : Steps p.tables e below (s₁.setTop (entryFrame m #[.ref x, .ref y] 3)) (T7.setTop (mkF m 26 #[.val (.ref x), .val (.ref y), .val (.ref y)] [.ref x])) := (c6.trans (st7 _ (Steps.refl _))).trans (by
      refine XS.ifNo X7.here hexec rfl (hb hbytes d22) rfl (i0_eq_f hz) ?_
      refine XS.aloadN X7.here hexec rfl (hb hbytes d25) rfl rfl ?_
      exact Steps.refl _)
    obtain ⟨T9, X9, q9, st9⟩ := X7.hget hexec hown (wk W (.fieldLink "java/lang/String" 15 "java/lang/String" "coder" "B")) (hx.mv X7.warmed.alike hh7).2.2.1 (g := (mkF m 26 #[.val (.ref x), .val (.ref y), .val (.ref y)] [.ref x])) rfl (rest := []) rfl (hb hbytes d26)
    have hh9 := q9.trans hh7
    have c10 : Steps p.tables e below (s₁.setTop (entryFrame m #[.ref x, .ref y] 3)) (T9.setTop (mkF m 30 #[.val (.ref x), .val (.ref y), .val (.ref y)] [.ref y, .int cd])) := (c8.trans (st9 _ (Steps.refl _))).trans (by
      refine XS.aloadN X9.here hexec rfl (hb hbytes d29) rfl rfl ?_
      exact Steps.refl _)
    obtain ⟨T11, X11, q11, st11⟩ := X9.hget hexec hown (wk W (.fieldLink "java/lang/String" 15 "java/lang/String" "coder" "B")) (hy.mv X9.warmed.alike hh9).2.2.1 (g := (mkF m 30 #[.val (.ref x), .val (.ref y), .val (.ref y)] [.ref y, .int cd])) rfl (rest := [.int cd]) rfl (hb hbytes d30)
    have hh11 := q11.trans hh9
    have c12 : Steps p.tables e below (s₁.setTop (entryFrame m #[.ref x, .ref y] 3)) (T11.setTop (mkF m 33 #[.val (.ref x), .val (.ref y), .val (.ref y)] [.int cd', .int cd])) := c10.trans (st11 _ (Steps.refl _))
    by_cases hcd : cd = cd'
    · subst hcd
      have c13 : Steps p.tables e below (s₁.setTop (entryFrame m #[.ref x, .ref y] 3)) (T11.setTop (mkF m 37 #[.val (.ref x), .val (.ref y), .val (.ref y)] [.ref x])) := c12.trans (by
        refine XS.icmpNo X11.here hexec rfl (hb hbytes d33) rfl (ii_ne_f rfl) ?_
        refine XS.aloadN X11.here hexec rfl (hb hbytes d36) rfl rfl ?_
        exact Steps.refl _)
      obtain ⟨T14, X14, q14, st14⟩ := X11.hget hexec hown (wk W (.fieldLink "java/lang/String" 9 "java/lang/String" "value" "[B")) (hx.mv X11.warmed.alike hh11).2.1 (g := (mkF m 37 #[.val (.ref x), .val (.ref y), .val (.ref y)] [.ref x])) rfl (rest := []) rfl (hb hbytes d37)
      have hh14 := q14.trans hh11
      have c15 : Steps p.tables e below (s₁.setTop (entryFrame m #[.ref x, .ref y] 3)) (T14.setTop (mkF m 41 #[.val (.ref x), .val (.ref y), .val (.ref y)] [.ref y, .ref t])) := (c13.trans (st14 _ (Steps.refl _))).trans (by
        refine XS.aloadN X14.here hexec rfl (hb hbytes d40) rfl rfl ?_
        exact Steps.refl _)
      obtain ⟨T16, X16, q16, st16⟩ := X14.hget hexec hown (wk W (.fieldLink "java/lang/String" 9 "java/lang/String" "value" "[B")) (hy.mv X14.warmed.alike hh14).2.1 (g := (mkF m 41 #[.val (.ref x), .val (.ref y), .val (.ref y)] [.ref y, .ref t])) rfl (rest := [.ref t]) rfl (hb hbytes d41)
      have hh16 := q16.trans hh14
      have c17 : Steps p.tables e below (s₁.setTop (entryFrame m #[.ref x, .ref y] 3)) (T16.setTop (mkF m 44 #[.val (.ref x), .val (.ref y), .val (.ref y)] [.ref t', .ref t])) := c15.trans (st16 _ (Steps.refl _))
      obtain ⟨v18, T18, X18, E18, g18⟩ := X16.callS hexec (LEq.law l t V t' V') hown (wks W (staticW "java/lang/String" 541 LEq.yN)) (wk W LEq.tab) (W := 0) (Nat.le_of_ble_eq_true rfl) (Nat.le_of_ble_eq_true rfl) (Nat.le_refl _) (Nat.le_refl _) (g := (mkF m 44 #[.val (.ref x), .val (.ref y), .val (.ref y)] [.ref t', .ref t])) rfl (by rw [hml]; rfl) c17 (argsL := [.ref t, .ref t']) (rest := []) rfl rfl (by show 2 * 0 + 0 ≤ _; decide) (hb hbytes d44) (⟨rfl, hx.2.2.2.1.mv X16.warmed.alike hh16, hx.2.2.2.2.1.ty, hy.2.2.2.1.mv X16.warmed.alike hh16, hy.2.2.2.2.1.ty⟩)
      obtain ⟨v, rfl, q18, hv⟩ := E18
      have iff := Cod.eqv hx.2.2.2.2.1 hy.2.2.2.2.1 hx.2.2.2.2.2 hy.2.2.2.2.2
      rcases hv with ⟨rfl, he⟩ | ⟨rfl, he⟩
      · have c19 : Steps p.tables e below (s₁.setTop (entryFrame m #[.ref x, .ref y] 3)) (T18.setTop (mkF m 55 #[.val (.ref x), .val (.ref y), .val (.ref y)] [.int 1])) := Steps.trans g18 (by
          refine XS.ifNo X18.here hexec rfl (hb hbytes d47) rfl (i0_eq_f (by decide)) ?_
          refine iconstV X18.here hexec rfl 1 (hb hbytes d50) (by decide) ?_
          refine XS.goto X18.here hexec rfl (pc0 := 51) rfl (hb hbytes d51) (by decide) rfl ?_
          exact Steps.refl _)
        exact ⟨T18, some (.int 1), _, _, _, X18, rfl, rfl, rfl, (fun h => by cases h), ⟨1, rfl, q18.trans hh16, Or.inl ⟨rfl, iff.mp he⟩⟩, fun fs hl => c19.trans (X18.ireturnOut hexec hret rfl (Or.inr (Or.inl rfl)) (hb hbytes d55) hl)⟩
      · have c19 : Steps p.tables e below (s₁.setTop (entryFrame m #[.ref x, .ref y] 3)) (T18.setTop (mkF m 55 #[.val (.ref x), .val (.ref y), .val (.ref y)] [.int 0])) := Steps.trans g18 (by
          refine XS.ifYes X18.here hexec rfl (pc0 := 47) rfl (hb hbytes d47) rfl (i0_eq_t rfl) (by decide) rfl ?_
          refine iconstV X18.here hexec rfl 0 (hb hbytes d54) (by decide) ?_
          exact Steps.refl _)
        exact ⟨T18, some (.int 0), _, _, _, X18, rfl, rfl, rfl, (fun h => by cases h), ⟨0, rfl, q18.trans hh16, Or.inr ⟨rfl, fun q => he (iff.mpr q)⟩⟩, fun fs hl => c19.trans (X18.ireturnOut hexec hret rfl (Or.inr (Or.inl rfl)) (hb hbytes d55) hl)⟩
    · have c13 : Steps p.tables e below (s₁.setTop (entryFrame m #[.ref x, .ref y] 3)) (T11.setTop (mkF m 55 #[.val (.ref x), .val (.ref y), .val (.ref y)] [.int 0])) := c12.trans (by
        refine XS.icmpYes X11.here hexec rfl (pc0 := 33) rfl (hb hbytes d33) rfl (ii_ne_t hcd) (by decide) rfl ?_
        refine iconstV X11.here hexec rfl 0 (hb hbytes d54) (by decide) ?_
        exact Steps.refl _)
      exact ⟨T11, some (.int 0), _, _, _, X11, rfl, rfl, rfl, (fun h => by cases h), ⟨0, rfl, hh11, Or.inr ⟨rfl, Cod.dif hx.2.2.2.2.1 hy.2.2.2.2.1 hcd⟩⟩, fun fs hl => c13.trans (X11.ireturnOut hexec hret rfl (Or.inr (Or.inl rfl)) (hb hbytes d55) hl)⟩
theorem pays {l : Launch} {R : Room} {p : Program} {e : Env} {below : List Frame} {s : State} {sargs : Array Value} {len W : Nat} (x t : Addr) (V : Cell) (cd : Int32) (n : Nat) (f : Nat → Int32) (y t' : Addr) (V' : Cell) (cd' : Int32) (k : Nat) (g : Nat → Int32) (z : Int32) (htab : tab.before sargs s = true) (hfr : 2 ≤ R.frames) (hlo : W + 28 ≤ R.locals) :
    Back l R p e below s sargs yN len W (fun A₁ a₁ => A₁.cells + 0 ≤ R.cells ∧ A₁.slots + 0 ≤ R.slots ∧ P x t V cd n f y t' V' cd' k g z a₁ A₁.U) (fun A₁ _ v₁ B₁ => Says01 (SameT n f k g) v₁ A₁.U B₁.U ∧ B₁.locs = A₁.locs ++ [] ∧ B₁.cells = A₁.cells + 0 ∧ B₁.slots = A₁.slots + 0) :=
  (law l x t V cd n f y t' V' cd' k g z).pays htab hfr (by omega)
end SEq
end StrChars
namespace StrChars.Road
open Jvm Sem ClassFile Op Lib Jvm.Stand Jvm.Free Jvm.Free.XT
open Jvm.Lib.Cold (StaticIs)
/-- the words of String.equals(Object) -/
abbrev wordsEq : List Jvm.Cond := [.code SEq.yN SEq.yB 3 (some .boolean), .initialized ST, .classLink ST 10 ST, .fieldLink ST 38 ST "COMPACT_STRINGS" "Z", .fieldLink ST 15 ST "coder" "B", .fieldLink ST 9 ST "value" "[B", .methodLink ST 541 LEq.yN, .static LEq.yN, .code LEq.yN LEq.yB 3 (some .boolean), .initialized "java/lang/StringLatin1"]
theorem tabEq_of {a : Array Value} {s : State} (h : ∀ w ∈ wordsEq, w.before a s = true) : SEq.tab.before a s = true := by
  have hl : LEq.tab.before a s = true := unparts (wk h (.code LEq.yN LEq.yB 3 (some .boolean))) (wks h (.initialized LEq.yN.cls :: LEq.site))
  have q := consq hl h
  exact unparts (wk q (.code SEq.yN SEq.yB 3 (some .boolean))) (wks q (.initialized SEq.yN.cls :: SEq.site))
theorem movedEq {Z s : State} {a0 args : Array Value} (hZ : Z.Warmed39 s.vm) (hw : ∀ d ∈ wordsEq, d.before a0 Z = true) : ∀ d ∈ wordsEq, d.before args s = true := fun d hd => by
  have t : ∀ d ∈ wordsEq, (d.onTables && d.keepsFace) = true := by decide +kernel
  exact RoadKit.mv hZ (hw d hd) (t d hd)
/-- the road's facts of a String, as the laws ask it -/
theorem txt_of {Z U : State} {a0 : Array Value} {kI : Nat} (wi : (Jvm.Cond.instantiable ST kI).before a0 Z = true) (al : Z.vm.Alike U.vm) {x t : Addr} {kb : ClassId} {cs : List Int32} {cd N2 : Int32} {vs : List Value} (E : RoadKit.Exa Z U.heap x ST) (V : RoadKit.Fld Z U.heap x ST "value" "[B" (.ref t)) (C : RoadKit.Fld Z U.heap x ST "coder" "B" (.int cd)) (K : RoadKit.Arv Z U.heap t kb .byte N2 vs (.int 0)) (hc : CodA cs cd N2 vs) (hb : ∀ c ∈ cs, ¬ c < 0 ∧ ¬ (65535 : Int32) < c) (l2 : cs.length ≤ 4000) :
    ∃ A, Txt x t A cd cs.length (fun j => cs.getD j 0) U := by
  obtain ⟨A, K1, K2, K3, K4, K5, K6⟩ := K
  have hcod := hc.cod (by omega) K3 K5
  obtain ⟨D, fV, fC, hB, F1, F2, g1, g2, -, -⟩ := strObj wi al E V C
  exact ⟨A, ⟨_, hB.2.2.1, D, hB.1, rfl, by cases q : D.vm <;> first | rfl | exact absurd q (hB.2.1.2 _)⟩, Has.of hB F1 g1, Has.of hB F2 g2, ⟨K1.1, State.isArrayOf_alike al K1.2.1, K1.2.2, by rcases hcod with ⟨-, q, -⟩ | ⟨-, q, -⟩ <;> omega⟩, hcod, fun j hj => by
    have e : cs.getD j 0 = cs[j] := by simp [List.getD_eq_getElem?_getD, hj]
    show ¬ cs.getD j 0 < 0 ∧ ¬ 65535 < cs.getD j 0
    rw [e]; exact hb _ (List.getElem_mem _)⟩
theorem same_list (cs ds : List Int32) : SameT cs.length (fun j => cs.getD j 0) ds.length (fun j => ds.getD j 0) ↔ cs = ds := by
  constructor
  · rintro ⟨e, q⟩
    refine List.ext_getElem e fun j h1 h2 => ?_
    have := q j h1
    simpa [List.getD_eq_getElem?_getD, h1, h2] using this
  · rintro rfl
    exact ⟨rfl, fun _ _ => rfl⟩
/-- **equals(Object) OF TWO SUCH STRINGS**: 1 just where the chars are the same -/
theorem eqW {p : Program} {l : Launch} {e : Env} {R : Room} {s : State} {args : Array Value} {below : List Frame} {len W : Nat} {Z : State} {a0 : Array Value} {h : Heap} (hZ : Z.Warmed39 s.vm) (hw : ∀ d ∈ wordsEq, d.before a0 Z = true) {kI : Nat} (wi : (Jvm.Cond.instantiable ST kI).before a0 Z = true)
    {x t : Addr} {kb : ClassId} {cs : List Int32} {cd N2 : Int32} {vs : List Value} (E : RoadKit.Exa Z h x ST) (V : RoadKit.Fld Z h x ST "value" "[B" (.ref t)) (C : RoadKit.Fld Z h x ST "coder" "B" (.int cd)) (K : RoadKit.Arv Z h t kb .byte N2 vs (.int 0)) (hc : CodA cs cd N2 vs) (hb : ∀ c ∈ cs, ¬ c < 0 ∧ ¬ (65535 : Int32) < c) (l2 : cs.length ≤ 4000)
    {y t' : Addr} {kb' : ClassId} {ds : List Int32} {cd' N2' : Int32} {vs' : List Value} (E' : RoadKit.Exa Z h y ST) (V' : RoadKit.Fld Z h y ST "value" "[B" (.ref t')) (C' : RoadKit.Fld Z h y ST "coder" "B" (.int cd')) (K' : RoadKit.Arv Z h t' kb' .byte N2' vs' (.int 0)) (hc' : CodA ds cd' N2' vs') (hb' : ∀ c ∈ ds, ¬ c < 0 ∧ ¬ (65535 : Int32) < c) (l2' : ds.length ≤ 4000)
    {z : Int32} (S : RoadKit.Sta Z h ST "COMPACT_STRINGS" "Z" (.int z)) (hz : ¬ z = 0) (hfr : 2 ≤ R.frames) (hlo : W + 28 ≤ R.locals) :
    Back l R p e below s args (⟨"java/lang/String", "equals", "(Ljava/lang/Object;)Z"⟩ : MethodName) len W (fun P a => a = #[.ref x, .ref y] ∧ P.U.heap = h ∧ P.cells + 0 ≤ R.cells ∧ P.slots + 0 ≤ R.slots)
      (fun P _ v B => ∃ L, (((v = some (.int 1) ∧ cs = ds) ∨ (v = some (.int 0) ∧ ¬ cs = ds)) ∧ L = [] ∧ B.U.heap = h) ∧ B.locs = P.locs ++ L ∧ B.cells = P.cells + 0 ∧ B.slots = P.slots + 0) := by
  intro m meth c P g ig mk a X hg hsize hdg hW hn hp'
  obtain ⟨rfl, rfl, r1, r2⟩ := hp'
  have al : Z.vm.Alike P.U.vm := hZ.alike.trans X.warmed.alike
  obtain ⟨A, hx⟩ := txt_of wi al E V C K hc hb l2
  obtain ⟨A', hy⟩ := txt_of wi al E' V' C' K' hc' hb' l2'
  obtain ⟨v, B, X', ⟨⟨w, hv, hh, hq⟩, hl, hk, hs⟩, st⟩ := SEq.pays x t A cd cs.length (fun j => cs.getD j 0) y t' A' cd' ds.length (fun j => ds.getD j 0) z (tabEq_of (movedEq hZ hw)) hfr hlo m meth c P g ig mk _ X hg hsize hdg hW hn ⟨r1, r2, rfl, hx, hy, sta_is al S, hz⟩
  refine ⟨v, B, X', ⟨[], ⟨?_, rfl, hh⟩, hl, hk, hs⟩, st⟩
  rcases hq with ⟨rfl, q⟩ | ⟨rfl, q⟩
  · exact Or.inl ⟨hv, (same_list cs ds).mp q⟩
  · exact Or.inr ⟨hv, fun e => q ((same_list cs ds).mpr e)⟩
end StrChars.Road
namespace StrChars.Road
open Jvm Sem ClassFile Op Lib Jvm.Stand Jvm.Free Jvm.Free.XT
open Jvm.Lib.Cold (StaticIs)
/-- what backV says of its String, as the contracts of this text ask it: cs's low bytes, coder 0 -/
theorem codOf {cs : List Int32} {n : Nat} (hn : cs.length = n) (hb : ∀ c ∈ cs, ¬ 255 < c) : CodA cs 0 (Int32.ofNat n) ((cs.map lo8).map Value.int) := Or.inl ⟨rfl, by rw [hn], by simp [List.map_map, Function.comp_def], hb⟩
end StrChars.Road
end Jvm.Pilot.@@N@@
namespace Jvm.Pilot.@@N@@
open Jvm Sem ClassFile Op Lib Jvm.Stand Jvm.Free Jvm.LawKit Jvm.RoadKit
section New
variable {p : Program} {l : Launch} {e : Env} {R : Room} {s : State} {m : MethodId} {args : Array Value} {below : List Frame} {meth : Method} {c : Code} {T : State} {locs : List Loc} {cells slots : Nat}
theorem retI (X : Stand p l e R s m args below meth c T locs cells slots) (hx : p.tables.exec = Jvm.exec) {pc : Nat} {Ls : Array Slot} {z : Int32} {rest : List Value} (hret : meth.sig.returnType = some .int) (hd : decode c.code pc = .ok (.ireturn, 1)) {fs : List Frame}
    (hl : ∀ (f : JFrame) (acts : List Action), f.method = m → f.locked = none → f.entered = [] → (doReturn e (T.setTop f) acts (some (.int z))).1 = T.setFrames fs) : Steps p.tables e below (T.setTop (mkF m pc Ls (.int z :: rest))) (T.setFrames fs) :=
  retOut X hx hret rfl (Or.inl ⟨rfl, Or.inl rfl, z, rfl⟩) hd hl
end New
end Jvm.Pilot.@@N@@
namespace Jvm.Pilot.@@N@@
open Jvm Jvm.ClassFile Sem Op Lib Jvm.Free Jvm.Stand Jvm.LawKit Jvm.RoadKit Bundle Jvm.Pilot.@@N@@.Jvm.D
theorem S.iload {tb : Tables} [Ours tb] {e : Env} {below : List Frame} {T t : State} {m : MethodId} {c : Code} {pc : Nat} {L : Array Slot} {S : List Value} (h : At T m c below) (hx : tb.exec = Jvm.exec) {k : Nat} {v : Int32} (hd : decode c.code pc = .ok (.iload k, 2)) (hl : L[k]? = some (.val (.int v))) (hr : Steps tb e below (T.setTop (mkF m (pc + 2) L (.int v :: S))) t) : Steps tb e below (T.setTop (mkF m pc L (S))) t := XS.iload h hx rfl hd hl hr
theorem S.iloadN {tb : Tables} [Ours tb] {e : Env} {below : List Frame} {T t : State} {m : MethodId} {c : Code} {pc : Nat} {L : Array Slot} {S : List Value} (h : At T m c below) (hx : tb.exec = Jvm.exec) {k : Fin 4} {v : Int32} (hd : decode c.code pc = .ok (.iload_n k, 1)) (hl : L[k.val]? = some (.val (.int v))) (hr : Steps tb e below (T.setTop (mkF m (pc + 1) L (.int v :: S))) t) : Steps tb e below (T.setTop (mkF m pc L (S))) t := XS.iloadN h hx rfl hd hl hr
theorem S.lload {tb : Tables} [Ours tb] {e : Env} {below : List Frame} {T t : State} {m : MethodId} {c : Code} {pc : Nat} {L : Array Slot} {S : List Value} (h : At T m c below) (hx : tb.exec = Jvm.exec) {k : Nat} {v : Int64} (hd : decode c.code pc = .ok (.lload k, 2)) (hl : L[k]? = some (.val (.long v))) (hr : Steps tb e below (T.setTop (mkF m (pc + 2) L (.long v :: S))) t) : Steps tb e below (T.setTop (mkF m pc L (S))) t := XS.lload h hx rfl hd hl hr
theorem S.lloadN {tb : Tables} [Ours tb] {e : Env} {below : List Frame} {T t : State} {m : MethodId} {c : Code} {pc : Nat} {L : Array Slot} {S : List Value} (h : At T m c below) (hx : tb.exec = Jvm.exec) {k : Fin 4} {v : Int64} (hd : decode c.code pc = .ok (.lload_n k, 1)) (hl : L[k.val]? = some (.val (.long v))) (hr : Steps tb e below (T.setTop (mkF m (pc + 1) L (.long v :: S))) t) : Steps tb e below (T.setTop (mkF m pc L (S))) t := XS.lloadN h hx rfl hd hl hr
theorem S.aload {tb : Tables} [Ours tb] {e : Env} {below : List Frame} {T t : State} {m : MethodId} {c : Code} {pc : Nat} {L : Array Slot} {S : List Value} (h : At T m c below) (hx : tb.exec = Jvm.exec) {k : Nat} {v : Value} (hd : decode c.code pc = .ok (.aload k, 2)) (hl : L[k]? = some (.val v)) (hv : v.isRef = true) (hr : Steps tb e below (T.setTop (mkF m (pc + 2) L (v :: S))) t) : Steps tb e below (T.setTop (mkF m pc L (S))) t := XS.aload h hx rfl hd hl hv hr
theorem S.aloadN {tb : Tables} [Ours tb] {e : Env} {below : List Frame} {T t : State} {m : MethodId} {c : Code} {pc : Nat} {L : Array Slot} {S : List Value} (h : At T m c below) (hx : tb.exec = Jvm.exec) {k : Fin 4} {v : Value} (hd : decode c.code pc = .ok (.aload_n k, 1)) (hl : L[k.val]? = some (.val v)) (hv : v.isRef = true) (hr : Steps tb e below (T.setTop (mkF m (pc + 1) L (v :: S))) t) : Steps tb e below (T.setTop (mkF m pc L (S))) t := XS.aloadN h hx rfl hd hl hv hr
theorem S.istore {tb : Tables} [Ours tb] {e : Env} {below : List Frame} {T t : State} {m : MethodId} {c : Code} {pc : Nat} {L : Array Slot} {S : List Value} (h : At T m c below) (hx : tb.exec = Jvm.exec) {k : Nat} {x : Int32} (hd : decode c.code pc = .ok (.istore k, 2)) (L' : Array Slot) (hl : storeLocals L k (.int x) = some L') (hr : Steps tb e below (T.setTop (mkF m (pc + 2) L' (S))) t) : Steps tb e below (T.setTop (mkF m pc L (.int x :: S))) t := XS.istore h hx rfl hd rfl hl hr
theorem S.istoreN {tb : Tables} [Ours tb] {e : Env} {below : List Frame} {T t : State} {m : MethodId} {c : Code} {pc : Nat} {L : Array Slot} {S : List Value} (h : At T m c below) (hx : tb.exec = Jvm.exec) {k : Fin 4} {x : Int32} (hd : decode c.code pc = .ok (.istore_n k, 1)) (L' : Array Slot) (hl : storeLocals L k.val (.int x) = some L') (hr : Steps tb e below (T.setTop (mkF m (pc + 1) L' (S))) t) : Steps tb e below (T.setTop (mkF m pc L (.int x :: S))) t := XS.istoreN h hx rfl hd rfl hl hr
theorem S.lstore {tb : Tables} [Ours tb] {e : Env} {below : List Frame} {T t : State} {m : MethodId} {c : Code} {pc : Nat} {L : Array Slot} {S : List Value} (h : At T m c below) (hx : tb.exec = Jvm.exec) {k : Nat} {x : Int64} (hd : decode c.code pc = .ok (.lstore k, 2)) (L' : Array Slot) (hl : storeLocals L k (.long x) = some L') (hr : Steps tb e below (T.setTop (mkF m (pc + 2) L' (S))) t) : Steps tb e below (T.setTop (mkF m pc L (.long x :: S))) t := XS.lstore h hx rfl hd rfl hl hr
theorem S.lstoreN {tb : Tables} [Ours tb] {e : Env} {below : List Frame} {T t : State} {m : MethodId} {c : Code} {pc : Nat} {L : Array Slot} {S : List Value} (h : At T m c below) (hx : tb.exec = Jvm.exec) {k : Fin 4} {x : Int64} (hd : decode c.code pc = .ok (.lstore_n k, 1)) (L' : Array Slot) (hl : storeLocals L k.val (.long x) = some L') (hr : Steps tb e below (T.setTop (mkF m (pc + 1) L' (S))) t) : Steps tb e below (T.setTop (mkF m pc L (.long x :: S))) t := XS.lstoreN h hx rfl hd rfl hl hr
theorem S.astore {tb : Tables} [Ours tb] {e : Env} {below : List Frame} {T t : State} {m : MethodId} {c : Code} {pc : Nat} {L : Array Slot} {S : List Value} (h : At T m c below) (hx : tb.exec = Jvm.exec) {k : Nat} {x : Value} (hd : decode c.code pc = .ok (.astore k, 2)) (hv : x.isRef = true) (L' : Array Slot) (hl : storeLocals L k x = some L') (hr : Steps tb e below (T.setTop (mkF m (pc + 2) L' (S))) t) : Steps tb e below (T.setTop (mkF m pc L (x :: S))) t := XS.astore h hx rfl hd rfl hv hl hr
theorem S.astoreN {tb : Tables} [Ours tb] {e : Env} {below : List Frame} {T t : State} {m : MethodId} {c : Code} {pc : Nat} {L : Array Slot} {S : List Value} (h : At T m c below) (hx : tb.exec = Jvm.exec) {k : Fin 4} {x : Value} (hd : decode c.code pc = .ok (.astore_n k, 1)) (hv : x.isRef = true) (L' : Array Slot) (hl : storeLocals L k.val x = some L') (hr : Steps tb e below (T.setTop (mkF m (pc + 1) L' (S))) t) : Steps tb e below (T.setTop (mkF m pc L (x :: S))) t := XS.astoreN h hx rfl hd rfl hv hl hr
theorem S.iconst {tb : Tables} [Ours tb] {e : Env} {below : List Frame} {T t : State} {m : MethodId} {c : Code} {pc : Nat} {L : Array Slot} {S : List Value} (h : At T m c below) (hx : tb.exec = Jvm.exec) {i : Int} (v : Int32) (hd : decode c.code pc = .ok (.iconst i, 1)) (hv : Int32.ofInt i = v) (hr : Steps tb e below (T.setTop (mkF m (pc + 1) L (.int v :: S))) t) : Steps tb e below (T.setTop (mkF m pc L (S))) t := XS.iconst h hx rfl hd (hv ▸ hr)
theorem S.bipush {tb : Tables} [Ours tb] {e : Env} {below : List Frame} {T t : State} {m : MethodId} {c : Code} {pc : Nat} {L : Array Slot} {S : List Value} (h : At T m c below) (hx : tb.exec = Jvm.exec) {i : Int} (v : Int32) (hd : decode c.code pc = .ok (.bipush i, 2)) (hv : (Int8.ofInt i).toInt32 = v) (hr : Steps tb e below (T.setTop (mkF m (pc + 2) L (.int v :: S))) t) : Steps tb e below (T.setTop (mkF m pc L (S))) t := XS.bipush h hx rfl hd (hv ▸ hr)
theorem S.sipush {tb : Tables} [Ours tb] {e : Env} {below : List Frame} {T t : State} {m : MethodId} {c : Code} {pc : Nat} {L : Array Slot} {S : List Value} (h : At T m c below) (hx : tb.exec = Jvm.exec) {i : Int} (v : Int32) (hd : decode c.code pc = .ok (.sipush i, 3)) (hv : (Int16.ofInt i).toInt32 = v) (hr : Steps tb e below (T.setTop (mkF m (pc + 3) L (.int v :: S))) t) : Steps tb e below (T.setTop (mkF m pc L (S))) t := XS.sipush h hx rfl hd (hv ▸ hr)
theorem S.lconst {tb : Tables} [Ours tb] {e : Env} {below : List Frame} {T t : State} {m : MethodId} {c : Code} {pc : Nat} {L : Array Slot} {S : List Value} (h : At T m c below) (hx : tb.exec = Jvm.exec) {k : Fin 2} (v : Int64) (hd : decode c.code pc = .ok (.lconst k, 1)) (hv : Int64.ofNat k = v) (hr : Steps tb e below (T.setTop (mkF m (pc + 1) L (.long v :: S))) t) : Steps tb e below (T.setTop (mkF m pc L (S))) t := XS.lconst h hx rfl hd (hv ▸ hr)
theorem S.aconstNull {tb : Tables} [Ours tb] {e : Env} {below : List Frame} {T t : State} {m : MethodId} {c : Code} {pc : Nat} {L : Array Slot} {S : List Value} (h : At T m c below) (hx : tb.exec = Jvm.exec)  (hd : decode c.code pc = .ok (.aconst_null, 1)) (hr : Steps tb e below (T.setTop (mkF m (pc + 1) L (.null :: S))) t) : Steps tb e below (T.setTop (mkF m pc L (S))) t := XS.aconstNull h hx rfl hd hr
theorem S.iadd {tb : Tables} [Ours tb] {e : Env} {below : List Frame} {T t : State} {m : MethodId} {c : Code} {pc : Nat} {L : Array Slot} {S : List Value} (h : At T m c below) (hx : tb.exec = Jvm.exec) {x y : Int32} (hd : decode c.code pc = .ok (.iadd, 1)) (hr : Steps tb e below (T.setTop (mkF m (pc + 1) L (.int (x + y) :: S))) t) : Steps tb e below (T.setTop (mkF m pc L (.int y :: .int x :: S))) t := XS.iadd h hx rfl hd rfl hr
theorem S.isub {tb : Tables} [Ours tb] {e : Env} {below : List Frame} {T t : State} {m : MethodId} {c : Code} {pc : Nat} {L : Array Slot} {S : List Value} (h : At T m c below) (hx : tb.exec = Jvm.exec) {x y : Int32} (hd : decode c.code pc = .ok (.isub, 1)) (hr : Steps tb e below (T.setTop (mkF m (pc + 1) L (.int (x - y) :: S))) t) : Steps tb e below (T.setTop (mkF m pc L (.int y :: .int x :: S))) t := XS.isub h hx rfl hd rfl hr
theorem S.imul {tb : Tables} [Ours tb] {e : Env} {below : List Frame} {T t : State} {m : MethodId} {c : Code} {pc : Nat} {L : Array Slot} {S : List Value} (h : At T m c below) (hx : tb.exec = Jvm.exec) {x y : Int32} (hd : decode c.code pc = .ok (.imul, 1)) (hr : Steps tb e below (T.setTop (mkF m (pc + 1) L (.int (x * y) :: S))) t) : Steps tb e below (T.setTop (mkF m pc L (.int y :: .int x :: S))) t := XS.imul h hx rfl hd rfl hr
theorem S.iand {tb : Tables} [Ours tb] {e : Env} {below : List Frame} {T t : State} {m : MethodId} {c : Code} {pc : Nat} {L : Array Slot} {S : List Value} (h : At T m c below) (hx : tb.exec = Jvm.exec) {x y : Int32} (hd : decode c.code pc = .ok (.iand, 1)) (hr : Steps tb e below (T.setTop (mkF m (pc + 1) L (.int (x &&& y) :: S))) t) : Steps tb e below (T.setTop (mkF m pc L (.int y :: .int x :: S))) t := XS.iand h hx rfl hd rfl hr
theorem S.ior {tb : Tables} [Ours tb] {e : Env} {below : List Frame} {T t : State} {m : MethodId} {c : Code} {pc : Nat} {L : Array Slot} {S : List Value} (h : At T m c below) (hx : tb.exec = Jvm.exec) {x y : Int32} (hd : decode c.code pc = .ok (.ior, 1)) (hr : Steps tb e below (T.setTop (mkF m (pc + 1) L (.int (x ||| y) :: S))) t) : Steps tb e below (T.setTop (mkF m pc L (.int y :: .int x :: S))) t := XS.ior h hx rfl hd rfl hr
theorem S.ixor {tb : Tables} [Ours tb] {e : Env} {below : List Frame} {T t : State} {m : MethodId} {c : Code} {pc : Nat} {L : Array Slot} {S : List Value} (h : At T m c below) (hx : tb.exec = Jvm.exec) {x y : Int32} (hd : decode c.code pc = .ok (.ixor, 1)) (hr : Steps tb e below (T.setTop (mkF m (pc + 1) L (.int (x ^^^ y) :: S))) t) : Steps tb e below (T.setTop (mkF m pc L (.int y :: .int x :: S))) t := XS.ixor h hx rfl hd rfl hr
theorem S.ladd {tb : Tables} [Ours tb] {e : Env} {below : List Frame} {T t : State} {m : MethodId} {c : Code} {pc : Nat} {L : Array Slot} {S : List Value} (h : At T m c below) (hx : tb.exec = Jvm.exec) {x y : Int64} (hd : decode c.code pc = .ok (.ladd, 1)) (hr : Steps tb e below (T.setTop (mkF m (pc + 1) L (.long (x + y) :: S))) t) : Steps tb e below (T.setTop (mkF m pc L (.long y :: .long x :: S))) t := XS.ladd h hx rfl hd rfl hr
theorem S.lsub {tb : Tables} [Ours tb] {e : Env} {below : List Frame} {T t : State} {m : MethodId} {c : Code} {pc : Nat} {L : Array Slot} {S : List Value} (h : At T m c below) (hx : tb.exec = Jvm.exec) {x y : Int64} (hd : decode c.code pc = .ok (.lsub, 1)) (hr : Steps tb e below (T.setTop (mkF m (pc + 1) L (.long (x - y) :: S))) t) : Steps tb e below (T.setTop (mkF m pc L (.long y :: .long x :: S))) t := XS.lsub h hx rfl hd rfl hr
theorem S.lmul {tb : Tables} [Ours tb] {e : Env} {below : List Frame} {T t : State} {m : MethodId} {c : Code} {pc : Nat} {L : Array Slot} {S : List Value} (h : At T m c below) (hx : tb.exec = Jvm.exec) {x y : Int64} (hd : decode c.code pc = .ok (.lmul, 1)) (hr : Steps tb e below (T.setTop (mkF m (pc + 1) L (.long (x * y) :: S))) t) : Steps tb e below (T.setTop (mkF m pc L (.long y :: .long x :: S))) t := XS.lmul h hx rfl hd rfl hr
theorem S.land {tb : Tables} [Ours tb] {e : Env} {below : List Frame} {T t : State} {m : MethodId} {c : Code} {pc : Nat} {L : Array Slot} {S : List Value} (h : At T m c below) (hx : tb.exec = Jvm.exec) {x y : Int64} (hd : decode c.code pc = .ok (.land, 1)) (hr : Steps tb e below (T.setTop (mkF m (pc + 1) L (.long (x &&& y) :: S))) t) : Steps tb e below (T.setTop (mkF m pc L (.long y :: .long x :: S))) t := XS.land h hx rfl hd rfl hr
theorem S.lor {tb : Tables} [Ours tb] {e : Env} {below : List Frame} {T t : State} {m : MethodId} {c : Code} {pc : Nat} {L : Array Slot} {S : List Value} (h : At T m c below) (hx : tb.exec = Jvm.exec) {x y : Int64} (hd : decode c.code pc = .ok (.lor, 1)) (hr : Steps tb e below (T.setTop (mkF m (pc + 1) L (.long (x ||| y) :: S))) t) : Steps tb e below (T.setTop (mkF m pc L (.long y :: .long x :: S))) t := XS.lor h hx rfl hd rfl hr
theorem S.lxor {tb : Tables} [Ours tb] {e : Env} {below : List Frame} {T t : State} {m : MethodId} {c : Code} {pc : Nat} {L : Array Slot} {S : List Value} (h : At T m c below) (hx : tb.exec = Jvm.exec) {x y : Int64} (hd : decode c.code pc = .ok (.lxor, 1)) (hr : Steps tb e below (T.setTop (mkF m (pc + 1) L (.long (x ^^^ y) :: S))) t) : Steps tb e below (T.setTop (mkF m pc L (.long y :: .long x :: S))) t := XS.lxor h hx rfl hd rfl hr
theorem S.iaddV {tb : Tables} [Ours tb] {e : Env} {below : List Frame} {T t : State} {m : MethodId} {c : Code} {pc : Nat} {L : Array Slot} {S : List Value} (h : At T m c below) (hx : tb.exec = Jvm.exec) {x y : Int32} (v : Int32) (hd : decode c.code pc = .ok (.iadd, 1)) (hv : x + y = v) (hr : Steps tb e below (T.setTop (mkF m (pc + 1) L (.int v :: S))) t) : Steps tb e below (T.setTop (mkF m pc L (.int y :: .int x :: S))) t := XS.iadd h hx rfl hd rfl (hv ▸ hr)
theorem S.isubV {tb : Tables} [Ours tb] {e : Env} {below : List Frame} {T t : State} {m : MethodId} {c : Code} {pc : Nat} {L : Array Slot} {S : List Value} (h : At T m c below) (hx : tb.exec = Jvm.exec) {x y : Int32} (v : Int32) (hd : decode c.code pc = .ok (.isub, 1)) (hv : x - y = v) (hr : Steps tb e below (T.setTop (mkF m (pc + 1) L (.int v :: S))) t) : Steps tb e below (T.setTop (mkF m pc L (.int y :: .int x :: S))) t := XS.isub h hx rfl hd rfl (hv ▸ hr)
theorem S.imulV {tb : Tables} [Ours tb] {e : Env} {below : List Frame} {T t : State} {m : MethodId} {c : Code} {pc : Nat} {L : Array Slot} {S : List Value} (h : At T m c below) (hx : tb.exec = Jvm.exec) {x y : Int32} (v : Int32) (hd : decode c.code pc = .ok (.imul, 1)) (hv : x * y = v) (hr : Steps tb e below (T.setTop (mkF m (pc + 1) L (.int v :: S))) t) : Steps tb e below (T.setTop (mkF m pc L (.int y :: .int x :: S))) t := XS.imul h hx rfl hd rfl (hv ▸ hr)
theorem S.ishl {tb : Tables} [Ours tb] {e : Env} {below : List Frame} {T t : State} {m : MethodId} {c : Code} {pc : Nat} {L : Array Slot} {S : List Value} (h : At T m c below) (hx : tb.exec = Jvm.exec) {x : Int32} {y : Int32} (hd : decode c.code pc = .ok (.ishl, 1)) (hr : Steps tb e below (T.setTop (mkF m (pc + 1) L (.int (x <<< (y &&& 31)) :: S))) t) : Steps tb e below (T.setTop (mkF m pc L (.int y :: .int x :: S))) t := XS.ishl h hx rfl hd rfl hr
theorem S.ishr {tb : Tables} [Ours tb] {e : Env} {below : List Frame} {T t : State} {m : MethodId} {c : Code} {pc : Nat} {L : Array Slot} {S : List Value} (h : At T m c below) (hx : tb.exec = Jvm.exec) {x : Int32} {y : Int32} (hd : decode c.code pc = .ok (.ishr, 1)) (hr : Steps tb e below (T.setTop (mkF m (pc + 1) L (.int (x >>> (y &&& 31)) :: S))) t) : Steps tb e below (T.setTop (mkF m pc L (.int y :: .int x :: S))) t := XS.ishr h hx rfl hd rfl hr
theorem S.iushr {tb : Tables} [Ours tb] {e : Env} {below : List Frame} {T t : State} {m : MethodId} {c : Code} {pc : Nat} {L : Array Slot} {S : List Value} (h : At T m c below) (hx : tb.exec = Jvm.exec) {x : Int32} {y : Int32} (hd : decode c.code pc = .ok (.iushr, 1)) (hr : Steps tb e below (T.setTop (mkF m (pc + 1) L (.int ((x.toUInt32 >>> (y &&& 31).toUInt32).toInt32) :: S))) t) : Steps tb e below (T.setTop (mkF m pc L (.int y :: .int x :: S))) t := XS.iushr h hx rfl hd rfl hr
theorem S.lshl {tb : Tables} [Ours tb] {e : Env} {below : List Frame} {T t : State} {m : MethodId} {c : Code} {pc : Nat} {L : Array Slot} {S : List Value} (h : At T m c below) (hx : tb.exec = Jvm.exec) {x : Int64} {y : Int32} (hd : decode c.code pc = .ok (.lshl, 1)) (hr : Steps tb e below (T.setTop (mkF m (pc + 1) L (.long (x <<< (y &&& 0x3f).toInt64) :: S))) t) : Steps tb e below (T.setTop (mkF m pc L (.int y :: .long x :: S))) t := XS.lshl h hx rfl hd rfl hr
theorem S.lshr {tb : Tables} [Ours tb] {e : Env} {below : List Frame} {T t : State} {m : MethodId} {c : Code} {pc : Nat} {L : Array Slot} {S : List Value} (h : At T m c below) (hx : tb.exec = Jvm.exec) {x : Int64} {y : Int32} (hd : decode c.code pc = .ok (.lshr, 1)) (hr : Steps tb e below (T.setTop (mkF m (pc + 1) L (.long (x >>> (y &&& 0x3f).toInt64) :: S))) t) : Steps tb e below (T.setTop (mkF m pc L (.int y :: .long x :: S))) t := XS.lshr h hx rfl hd rfl hr
theorem S.lushr {tb : Tables} [Ours tb] {e : Env} {below : List Frame} {T t : State} {m : MethodId} {c : Code} {pc : Nat} {L : Array Slot} {S : List Value} (h : At T m c below) (hx : tb.exec = Jvm.exec) {x : Int64} {y : Int32} (hd : decode c.code pc = .ok (.lushr, 1)) (hr : Steps tb e below (T.setTop (mkF m (pc + 1) L (.long ((x.toUInt64 >>> (y &&& 0x3f).toInt64.toUInt64).toInt64) :: S))) t) : Steps tb e below (T.setTop (mkF m pc L (.int y :: .long x :: S))) t := XS.lushr h hx rfl hd rfl hr
theorem S.i2c {tb : Tables} [Ours tb] {e : Env} {below : List Frame} {T t : State} {m : MethodId} {c : Code} {pc : Nat} {L : Array Slot} {S : List Value} (h : At T m c below) (hx : tb.exec = Jvm.exec) {x : Int32} (hd : decode c.code pc = .ok (.i2c, 1)) (hr : Steps tb e below (T.setTop (mkF m (pc + 1) L (.int (x.toUInt32.toUInt16.toUInt32.toInt32) :: S))) t) : Steps tb e below (T.setTop (mkF m pc L (.int x :: S))) t := XS.i2c h hx rfl hd rfl hr
theorem S.i2b {tb : Tables} [Ours tb] {e : Env} {below : List Frame} {T t : State} {m : MethodId} {c : Code} {pc : Nat} {L : Array Slot} {S : List Value} (h : At T m c below) (hx : tb.exec = Jvm.exec) {x : Int32} (hd : decode c.code pc = .ok (.i2b, 1)) (hr : Steps tb e below (T.setTop (mkF m (pc + 1) L (.int (x.toInt8.toInt32) :: S))) t) : Steps tb e below (T.setTop (mkF m pc L (.int x :: S))) t := XS.i2b h hx rfl hd rfl hr
theorem S.i2l {tb : Tables} [Ours tb] {e : Env} {below : List Frame} {T t : State} {m : MethodId} {c : Code} {pc : Nat} {L : Array Slot} {S : List Value} (h : At T m c below) (hx : tb.exec = Jvm.exec) {x : Int32} (hd : decode c.code pc = .ok (.i2l, 1)) (hr : Steps tb e below (T.setTop (mkF m (pc + 1) L (.long (x.toInt64) :: S))) t) : Steps tb e below (T.setTop (mkF m pc L (.int x :: S))) t := XS.i2l h hx rfl hd rfl hr
theorem S.l2i {tb : Tables} [Ours tb] {e : Env} {below : List Frame} {T t : State} {m : MethodId} {c : Code} {pc : Nat} {L : Array Slot} {S : List Value} (h : At T m c below) (hx : tb.exec = Jvm.exec) {x : Int64} (hd : decode c.code pc = .ok (.l2i, 1)) (hr : Steps tb e below (T.setTop (mkF m (pc + 1) L (.int (x.toInt32) :: S))) t) : Steps tb e below (T.setTop (mkF m pc L (.long x :: S))) t := XS.l2i h hx rfl hd rfl hr
theorem S.ineg {tb : Tables} [Ours tb] {e : Env} {below : List Frame} {T t : State} {m : MethodId} {c : Code} {pc : Nat} {L : Array Slot} {S : List Value} (h : At T m c below) (hx : tb.exec = Jvm.exec) {x : Int32} (hd : decode c.code pc = .ok (.ineg, 1)) (hr : Steps tb e below (T.setTop (mkF m (pc + 1) L (.int (-x) :: S))) t) : Steps tb e below (T.setTop (mkF m pc L (.int x :: S))) t := XS.ineg h hx rfl hd rfl hr
theorem S.i2cM {tb : Tables} [Ours tb] {e : Env} {below : List Frame} {T t : State} {m : MethodId} {c : Code} {pc : Nat} {L : Array Slot} {S : List Value} (h : At T m c below) (hx : tb.exec = Jvm.exec) {x : Int32} (hd : decode c.code pc = .ok (.i2c, 1)) (hr : Steps tb e below (T.setTop (mkF m (pc + 1) L (.int (x &&& 255) :: S))) t) : Steps tb e below (T.setTop (mkF m pc L (.int (x &&& 255) :: S))) t := XS.i2c h hx rfl hd rfl (by rw [i2c_mask]; exact hr)
theorem S.iinc {tb : Tables} [Ours tb] {e : Env} {below : List Frame} {T t : State} {m : MethodId} {c : Code} {pc : Nat} {L : Array Slot} {S : List Value} (h : At T m c below) (hx : tb.exec = Jvm.exec) {k : Nat} {d : Int} {x : Int32} (v : Int32) (hd : decode c.code pc = .ok (.iinc k d, 3)) (hl : L[k]? = some (.val (.int x))) (hv : x + Int32.ofInt d = v) (L' : Array Slot) (hl' : storeLocals L k (.int v) = some L') (hr : Steps tb e below (T.setTop (mkF m (pc + 3) L' (S))) t) : Steps tb e below (T.setTop (mkF m pc L (S))) t := XS.iinc h hx rfl hd hl (hv ▸ hl') hr
theorem S.dup {tb : Tables} [Ours tb] {e : Env} {below : List Frame} {T t : State} {m : MethodId} {c : Code} {pc : Nat} {L : Array Slot} {S : List Value} (h : At T m c below) (hx : tb.exec = Jvm.exec) {x : Value} (hd : decode c.code pc = .ok (.dup, 1)) (hc : x.category = 1) (hr : Steps tb e below (T.setTop (mkF m (pc + 1) L (x :: x :: S))) t) : Steps tb e below (T.setTop (mkF m pc L (x :: S))) t := XS.dup h hx rfl hd rfl hc hr
theorem S.pop {tb : Tables} [Ours tb] {e : Env} {below : List Frame} {T t : State} {m : MethodId} {c : Code} {pc : Nat} {L : Array Slot} {S : List Value} (h : At T m c below) (hx : tb.exec = Jvm.exec) {x : Value} (hd : decode c.code pc = .ok (.pop, 1)) (hc : x.category = 1) (hr : Steps tb e below (T.setTop (mkF m (pc + 1) L (S))) t) : Steps tb e below (T.setTop (mkF m pc L (x :: S))) t := XS.pop h hx rfl hd rfl hc hr
theorem S.lcmp {tb : Tables} [Ours tb] {e : Env} {below : List Frame} {T t : State} {m : MethodId} {c : Code} {pc : Nat} {L : Array Slot} {S : List Value} (h : At T m c below) (hx : tb.exec = Jvm.exec) {x y : Int64} (hd : decode c.code pc = .ok (.lcmp, 1)) (hr : Steps tb e below (T.setTop (mkF m (pc + 1) L (.int (if x > y then 1 else if x = y then 0 else -1) :: S))) t) : Steps tb e below (T.setTop (mkF m pc L (.long y :: .long x :: S))) t := XS.lcmp h hx rfl hd rfl hr
theorem S.goto {tb : Tables} [Ours tb] {e : Env} {below : List Frame} {T t : State} {m : MethodId} {c : Code} {pc : Nat} {L : Array Slot} {S : List Value} (h : At T m c below) (hx : tb.exec = Jvm.exec) {o : Int} (pc' : Nat) (hd : decode c.code pc = .ok (.goto o, 3)) (ho : 0 ≤ (pc : Int) + o) (hp : ((pc : Int) + o).toNat = pc') (hr : Steps tb e below (T.setTop (mkF m (pc') L (S))) t) : Steps tb e below (T.setTop (mkF m pc L (S))) t := XS.goto h hx rfl rfl hd ho hp hr
theorem S.ifYes {tb : Tables} [Ours tb] {e : Env} {below : List Frame} {T t : State} {m : MethodId} {c : Code} {pc : Nat} {L : Array Slot} {S : List Value} (h : At T m c below) (hx : tb.exec = Jvm.exec) {cd : ClassFile.Cond} {x : Int32} {o : Int} (pc' : Nat) (hd : decode c.code pc = .ok (.ifCond cd o, 3)) (hc : ifCond.holds cd x = true) (ho : 0 ≤ (pc : Int) + o) (hp : ((pc : Int) + o).toNat = pc') (hr : Steps tb e below (T.setTop (mkF m (pc') L (S))) t) : Steps tb e below (T.setTop (mkF m pc L (.int x :: S))) t := XS.ifYes h hx rfl rfl hd rfl hc ho hp hr
theorem S.ifNo {tb : Tables} [Ours tb] {e : Env} {below : List Frame} {T t : State} {m : MethodId} {c : Code} {pc : Nat} {L : Array Slot} {S : List Value} (h : At T m c below) (hx : tb.exec = Jvm.exec) {cd : ClassFile.Cond} {x : Int32} {o : Int} (hd : decode c.code pc = .ok (.ifCond cd o, 3)) (hc : ifCond.holds cd x = false) (hr : Steps tb e below (T.setTop (mkF m (pc + 3) L (S))) t) : Steps tb e below (T.setTop (mkF m pc L (.int x :: S))) t := XS.ifNo h hx rfl hd rfl hc hr
theorem S.icmpYes {tb : Tables} [Ours tb] {e : Env} {below : List Frame} {T t : State} {m : MethodId} {c : Code} {pc : Nat} {L : Array Slot} {S : List Value} (h : At T m c below) (hx : tb.exec = Jvm.exec) {cd : ClassFile.Cond} {x y : Int32} {o : Int} (pc' : Nat) (hd : decode c.code pc = .ok (.if_icmp cd o, 3)) (hc : if_icmp.holds cd x y = true) (ho : 0 ≤ (pc : Int) + o) (hp : ((pc : Int) + o).toNat = pc') (hr : Steps tb e below (T.setTop (mkF m (pc') L (S))) t) : Steps tb e below (T.setTop (mkF m pc L (.int y :: .int x :: S))) t := XS.icmpYes h hx rfl rfl hd rfl hc ho hp hr
theorem S.icmpNo {tb : Tables} [Ours tb] {e : Env} {below : List Frame} {T t : State} {m : MethodId} {c : Code} {pc : Nat} {L : Array Slot} {S : List Value} (h : At T m c below) (hx : tb.exec = Jvm.exec) {cd : ClassFile.Cond} {x y : Int32} {o : Int} (hd : decode c.code pc = .ok (.if_icmp cd o, 3)) (hc : if_icmp.holds cd x y = false) (hr : Steps tb e below (T.setTop (mkF m (pc + 3) L (S))) t) : Steps tb e below (T.setTop (mkF m pc L (.int y :: .int x :: S))) t := XS.icmpNo h hx rfl hd rfl hc hr
theorem S.ifnullYes {tb : Tables} [Ours tb] {e : Env} {below : List Frame} {T t : State} {m : MethodId} {c : Code} {pc : Nat} {L : Array Slot} {S : List Value} (h : At T m c below) (hx : tb.exec = Jvm.exec) {o : Int} (pc' : Nat) (hd : decode c.code pc = .ok (.ifnull o, 3)) (ho : 0 ≤ (pc : Int) + o) (hp : ((pc : Int) + o).toNat = pc') (hr : Steps tb e below (T.setTop (mkF m (pc') L (S))) t) : Steps tb e below (T.setTop (mkF m pc L (.null :: S))) t := XS.ifnullYes h hx rfl rfl hd rfl ho hp hr
theorem S.ifnullNo {tb : Tables} [Ours tb] {e : Env} {below : List Frame} {T t : State} {m : MethodId} {c : Code} {pc : Nat} {L : Array Slot} {S : List Value} (h : At T m c below) (hx : tb.exec = Jvm.exec) {o : Int} {b : Addr} (hd : decode c.code pc = .ok (.ifnull o, 3)) (hr : Steps tb e below (T.setTop (mkF m (pc + 3) L (S))) t) : Steps tb e below (T.setTop (mkF m pc L (.ref b :: S))) t := XS.ifnullNo h hx rfl hd rfl hr
theorem S.ifnonnullYes {tb : Tables} [Ours tb] {e : Env} {below : List Frame} {T t : State} {m : MethodId} {c : Code} {pc : Nat} {L : Array Slot} {S : List Value} (h : At T m c below) (hx : tb.exec = Jvm.exec) {o : Int} {b : Addr} (pc' : Nat) (hd : decode c.code pc = .ok (.ifnonnull o, 3)) (ho : 0 ≤ (pc : Int) + o) (hp : ((pc : Int) + o).toNat = pc') (hr : Steps tb e below (T.setTop (mkF m (pc') L (S))) t) : Steps tb e below (T.setTop (mkF m pc L (.ref b :: S))) t := XS.ifnonnullYes h hx rfl rfl hd rfl ho hp hr
theorem S.ifnonnullNo {tb : Tables} [Ours tb] {e : Env} {below : List Frame} {T t : State} {m : MethodId} {c : Code} {pc : Nat} {L : Array Slot} {S : List Value} (h : At T m c below) (hx : tb.exec = Jvm.exec) {o : Int} (hd : decode c.code pc = .ok (.ifnonnull o, 3)) (hr : Steps tb e below (T.setTop (mkF m (pc + 3) L (S))) t) : Steps tb e below (T.setTop (mkF m pc L (.null :: S))) t := XS.ifnonnullNo h hx rfl hd rfl hr
end Jvm.Pilot.@@N@@
namespace Jvm.Pilot.@@N@@
open Jvm Jvm.ClassFile Sem Op Lib Jvm.Free Jvm.Stand Jvm.LawKit Jvm.RoadKit Bundle Jvm.Pilot.@@N@@.Jvm.D
section OwnKit
variable {p : Program} {l : Launch} {e : Env} {R : Room} {s : State} {m : MethodId} {args : Array Value} {below : List Frame} {meth : Method} {c : Code} {Z : State} {a0 : Array Value} {EL : List (String × Nat)} {n0 : Nat} {own : String} {nw : Bool} {st : State} {vm0 : Vm} {h : Heap} {g g' : JFrame} {cells slots : Nat}
/-- where a walk stands: the heap h, the frame g, so many cells and slots made; nw: nothing interned since its start -/
def Wk (p : Program) (l : Launch) (e : Env) (R : Room) (s : State) (m : MethodId) (args : Array Value) (below : List Frame) (meth : Method) (c : Code) (Z : State) (a0 : Array Value) (EL : List (String × Nat)) (n0 : Nat) (own : String) (nw : Bool) (st : State) (vm0 : Vm) (h : Heap) (g : JFrame) (cells slots : Nat) : Prop :=
  ∃ (T : State) (locs : List Loc) (k0 : Nat), Stand p l e R (s.setVm vm0) m args below meth c T locs cells slots ∧ T.heap = h ∧ s.Since vm0 k0 ∧ k0 ≤ h.size ∧ Z.Warmed39 vm0 ∧ vm0.findClass own = some m.cls ∧ Fr n0 locs ∧ (nw = true → vm0 = s.vm) ∧ EW Z a0 EL ∧ CHr Z EL s.vm s.heap vm0 h ∧ p.tables.exec = Jvm.exec ∧ ∀ t, Steps p.tables e below (T.setTop g) t → Steps p.tables e below st t
theorem exlt {h : Heap} {a : Addr} {C : String} (E : Exa Z h a C) : h.size > a := E.lt
theorem arlt {h : Heap} {a : Addr} {k : ClassId} {ty : FieldType} {z : Int32} {vs : List Value} {d : Value} (V : Arv Z h a k ty z vs d) : h.size > a := V.lt
theorem nne {a b : Nat} (h : a < b ∨ b < a) : a ≠ b := by omega
theorem safe0 {vm : Vm} {h : Heap} {x : Addr} : Safe Z [] vm h x := fun ⟨_, hp, _⟩ => nomatch hp
theorem chv0 {vm : Vm} {h : Heap} : CHv Z [] vm h := fun _ hp => nomatch hp
theorem Wk.start {x : MethodName} {S : Spec} {code : ByteArray} {maxLocals : Nat} {ret : Option FieldType} {s₁ : State} (Bd : BodyLoose p l x S code maxLocals ret e s m args below meth c s₁) (hZ : Z.Warmed39 s.vm) (hh : s.heap = h) (hE : EW Z a0 EL) (hC : CHv Z EL s.vm h) (ef : entryFrame m args maxLocals = g) (R : Room) (hR : S.room = R) :
    Wk p l e R s m args below meth c Z a0 EL n0 x.cls nw (s₁.setTop (entryFrame m args maxLocals)) s.vm h g 0 0 := by
  subst hh hR
  exact ⟨s₁, [], s.heap.size, Stand.of_body Bd, by rw [Bd.state]; rfl, (State.WarmedH.refl s).since _, Nat.le_refl _, hZ, findClass_of_methodNamed Bd.named, Fr.nil _, fun _ => rfl, hE, CHr.refl hC, Bd.exec, fun t k => castTop ef k⟩
theorem Wk.hZ (w : Wk p l e R s m args below meth c Z a0 EL n0 own nw st vm0 h g cells slots) : Z.Warmed39 (s.setVm vm0).vm := by
  obtain ⟨T, locs, k0, X, eT, hS, hk, hZ, hown, N, hnw, hE, hC, hx, pre⟩ := w; exact hZ
theorem Wk.al (w : Wk p l e R s m args below meth c Z a0 EL n0 own nw st vm0 h g cells slots) : Z.vm.Alike vm0 := State.Warmed39.alike (s := Z) w.hZ
theorem Wk.chv (w : Wk p l e R s m args below meth c Z a0 EL n0 own nw st vm0 h g cells slots) : CHv Z EL vm0 h := by
  obtain ⟨T, locs, k0, X, eT, hS, hk, hZ, hown, N, hnw, hE, hC, hx, pre⟩ := w; exact hC.1
theorem Wk.pure (w : Wk p l e R s m args below meth c Z a0 EL n0 own nw st vm0 h g cells slots) (g' : JFrame)
    (k : ∀ {T : State} {locs : List Loc} {t : State}, Stand p l e R (s.setVm vm0) m args below meth c T locs cells slots → T.heap = h → Z.Warmed39 (s.setVm vm0).vm → (s.setVm vm0).vm.findClass own = some m.cls → Steps p.tables e below (T.setTop g') t → Steps p.tables e below (T.setTop g) t) :
    Wk p l e R s m args below meth c Z a0 EL n0 own nw st vm0 h g' cells slots := by
  obtain ⟨T, locs, k0, X, eT, hS, hk, hZ, hown, N, hnw, hE, hC, hx, pre⟩ := w
  exact ⟨T, locs, k0, X, eT, hS, hk, hZ, hown, N, hnw, hE, hC, hx, fun t q => pre t (k X eT hZ hown q)⟩
/-- a step that moves the tables alone -/
theorem Wk.same (w : Wk p l e R s m args below meth c Z a0 EL n0 own nw st vm0 h g cells slots) (g' : JFrame)
    (k : ∀ {T : State} {locs : List Loc}, Stand p l e R (s.setVm vm0) m args below meth c T locs cells slots → T.heap = h → Z.Warmed39 (s.setVm vm0).vm → (s.setVm vm0).vm.findClass own = some m.cls → ∃ T', Stand p l e R (s.setVm vm0) m args below meth c T' locs cells slots ∧ T'.heap = h ∧ ∀ t, Steps p.tables e below (T'.setTop g') t → Steps p.tables e below (T.setTop g) t) :
    Wk p l e R s m args below meth c Z a0 EL n0 own nw st vm0 h g' cells slots := by
  obtain ⟨T, locs, k0, X, eT, hS, hk, hZ, hown, N, hnw, hE, hC, hx, pre⟩ := w
  obtain ⟨T', X', e', q⟩ := k X eT hZ hown
  exact ⟨T', locs, k0, X', e', hS, hk, hZ, hown, N, hnw, hE, hC, hx, fun t z => pre t (q t z)⟩
theorem Wk.more (w : Wk p l e R s m args below meth c Z a0 EL n0 own nw st vm0 h g cells slots) {k n : Nat} (hc : cells ≤ k) (hn : slots ≤ n) : Wk p l e R s m args below meth c Z a0 EL n0 own nw st vm0 h g k n := by
  obtain ⟨T, locs, k0, X, eT, hS, hk, hZ, hown, N, hnw, hE, hC, hx, pre⟩ := w
  exact ⟨T, locs, k0, X.mono hc hn, eT, hS, hk, hZ, hown, N, hnw, hE, hC, hx, pre⟩
theorem Wk.newO (w : Wk p l e R s m args below meth c Z a0 EL n0 own nw st vm0 h g cells slots) (hx : p.tables.exec = Jvm.exec) {C : String} {index n : Nat} (w1 : (Cond.classLink own index C).before a0 Z = true) (w2 : (Cond.instantiable C n).before a0 Z = true) (w3 : (Cond.initialized C).before a0 Z = true)
    (hg : g.method = m) (hd : decode c.code g.pc = .ok (.new index, 3)) (hc : cells + 1 ≤ R.cells) (hl : slots + n ≤ R.slots) (g' : Addr → JFrame) (hg' : ∀ x, g' x = { g with pc := g.pc + 3, stack := .ref x :: g.stack }) :
    ∃ (x : Nat) (h' : Heap), x = h.size ∧ Ext h h' ∧ h'.size > x ∧ Exa Z h' x C ∧ (∀ {O nm d : String} {ty : FieldType}, Laid Z a0 C O nm d → parseFieldDescriptor d = some ty → Fld Z h' x O nm d (defaultValue ty)) ∧ Safe Z EL vm0 h' x ∧ Wk p l e R s m args below meth c Z a0 EL n0 own nw st vm0 h' (g' x) (cells + 1) (slots + n) := by
  obtain ⟨T, locs, k0, X, eT, hS, hk, hZ, hown, N, hnw, hE, hC, -, pre⟩ := w
  obtain ⟨T', h', X', e', E, A, D, -, st'⟩ := RoadKit.newO X hx hZ hown w1 w2 w3 eT hg hd hc hl
  exact ⟨h.size, h', rfl, E, A.lt, A, D, Safe.ext E hC.1 (Safe.new (Nat.le_refl _)), T', locs, k0, X', e', hS, Nat.le_trans hk E.1, hZ, hown, N, hnw, hE, hC.trans (CHr.ext E hC.1), hx, fun t k => pre t (st' t (hg' h.size ▸ k))⟩
theorem Wk.newP (w : Wk p l e R s m args below meth c Z a0 EL n0 own nw st vm0 h g cells slots) (hx : p.tables.exec = Jvm.exec) {aty : ArrayType} (w1 : (Cond.arrayClass (newarray.typeOf aty)).before a0 Z = true) (hg : g.method = m) (hd : decode c.code g.pc = .ok (.newarray aty, 2)) {n : Int32} {rest : List Value} (hs : g.stack = .int n :: rest)
    (hn : ¬ n < 0) (cap : Nat) (hcap : n.toNatClampNeg ≤ cap) (hb : cap * 8 ≤ 536870912) (hc : cells + 1 ≤ R.cells) (hl : slots + cap ≤ R.slots) (g' : Addr → JFrame) (hg' : ∀ x, g' x = { g with pc := g.pc + 2, stack := .ref x :: rest }) :
    ∃ (x : Nat) (h' : Heap) (k : ClassId), x = h.size ∧ Ext h h' ∧ h'.size > x ∧ Arv Z h' x k (newarray.typeOf aty) n [] (defaultValue (newarray.typeOf aty)) ∧ Safe Z EL vm0 h' x ∧ Wk p l e R s m args below meth c Z a0 EL n0 own nw st vm0 h' (g' x) (cells + 1) (slots + cap) := by
  obtain ⟨T, locs, k0, X, eT, hS, hk, hZ, hown, N, hnw, hE, hC, -, pre⟩ := w
  obtain ⟨T', h', k, X', e', E, A, st'⟩ := RoadKit.newP X hx hZ w1 eT hg hd hs hn hcap hb hc hl
  exact ⟨h.size, h', k, rfl, E, A.lt, Arv.new A hn, Safe.ext E hC.1 (Safe.new (Nat.le_refl _)), T', locs, k0, X', e', hS, Nat.le_trans hk E.1, hZ, hown, N, hnw, hE, hC.trans (CHr.ext E hC.1), hx, fun t q => pre t (st' t (hg' h.size ▸ q))⟩
theorem Wk.putF (w : Wk p l e R s m args below meth c Z a0 EL n0 own nw st vm0 h g cells slots) (hx : p.tables.exec = Jvm.exec) {R0 O n d host C : String} {index kk : Nat} {ty : FieldType} (w1 : (Cond.fieldLink own index R0 n d).before a0 Z = true ∨ (Cond.fieldLinkNest own index R0 n d host).before a0 Z = true) (via : Via Z R0 O n d)
    {a : Addr} {v old : Value} (F : Fld Z h a O n d old) (E : Exa Z h a C) (L : (Cond.lays C O n d).before a0 Z = true ∨ ((Cond.laysFinal C O n d).before a0 Z = true ∧ own = O ∧ meth.name = "<init>")) (wi : (Cond.instantiable C kk).before a0 Z = true)
    (hty : parseFieldDescriptor d = some ty) (hn : narrow ty v = v) (hf : fits ty v = true) (hg : g.method = m) {rest : List Value} (hs : g.stack = v :: .ref a :: rest) (hd : decode c.code g.pc = .ok (.putfield index, 3)) (na : n0 ≤ a) (sf : Safe Z EL vm0 h a) (g' : JFrame) (hg' : g' = { g with pc := g.pc + 3, stack := rest }) :
    ∃ h', Wr h h' a (RoadKit.slotOf Z O n d) v ∧ h'.size = h.size ∧ Fld Z h' a O n d v ∧ Wk p l e R s m args below meth c Z a0 EL n0 own nw st vm0 h' g' cells slots := by
  obtain ⟨T, locs, k0, X, eT, hS, hk, hZ, hown, N, hnw, hE, hC, -, pre⟩ := w
  obtain ⟨T', h', X', e', W, st'⟩ := RoadKit.putF X hx hZ hown w1 via eT F E L wi hty hn hf hg hs hd
  exact ⟨h', W, W.size, F.same W, T', _, k0, X', e', hS, by rw [W.size]; exact hk, hZ, hown, Fr.snoc X' N na, hnw, hE, hC.trans (CHr.wr W sf hC.1), hx, fun t q => pre t (st' t (hg' ▸ q))⟩
theorem Wk.putFN (w : Wk p l e R s m args below meth c Z a0 EL n0 own nw st vm0 h g cells slots) (hx : p.tables.exec = Jvm.exec) {R0 O n d C : String} {index kk : Nat} {ty : FieldType} (w1 : (Cond.fieldLink own index R0 n d).before a0 Z = true) (via : Via Z R0 O n d)
    {a : Addr} {v old : Value} (v' : Value) (F : Fld Z h a O n d old) (E : Exa Z h a C) (L : (Cond.lays C O n d).before a0 Z = true ∨ ((Cond.laysFinal C O n d).before a0 Z = true ∧ own = O ∧ meth.name = "<init>")) (wi : (Cond.instantiable C kk).before a0 Z = true)
    (hty : parseFieldDescriptor d = some ty) (hn : narrow ty v = v') (hf : fits ty v' = true) (hg : g.method = m) {rest : List Value} (hs : g.stack = v :: .ref a :: rest) (hd : decode c.code g.pc = .ok (.putfield index, 3)) (na : n0 ≤ a) (sf : Safe Z EL vm0 h a) (g' : JFrame) (hg' : g' = { g with pc := g.pc + 3, stack := rest }) :
    ∃ h', Wr h h' a (RoadKit.slotOf Z O n d) v' ∧ h'.size = h.size ∧ Fld Z h' a O n d v' ∧ Wk p l e R s m args below meth c Z a0 EL n0 own nw st vm0 h' g' cells slots := by
  obtain ⟨T, locs, k0, X, eT, hS, hk, hZ, hown, N, hnw, hE, hC, -, pre⟩ := w
  obtain ⟨T', h', X', e', W, st'⟩ := RoadKit.putFN X hx hZ hown w1 via eT F E L wi hty hn hf hg hs hd
  exact ⟨h', W, W.size, F.same W, T', _, k0, X', e', hS, by rw [W.size]; exact hk, hZ, hown, Fr.snoc X' N na, hnw, hE, hC.trans (CHr.wr W sf hC.1), hx, fun t q => pre t (st' t (hg' ▸ q))⟩
theorem Wk.stC (w : Wk p l e R s m args below meth c Z a0 EL n0 own nw st vm0 h g cells slots) (hx : p.tables.exec = Jvm.exec) {a : Addr} {k : ClassId} {z : Int32} {vs : List Value} {dv : Value} (V : Arv Z h a k .char z vs dv) {j x : Int32} (i : Nat) (hj : j.toNatClampNeg = i) (hi : i < vs.length) (hin : ¬ j < 0 ∧ j < z)
    (hg : g.method = m) {rest : List Value} (hs : g.stack = .int x :: .int j :: .ref a :: rest) (hd : decode c.code g.pc = .ok (.castore, 1)) (na : n0 ≤ a) (g' : JFrame) (hg' : g' = { g with pc := g.pc + 1, stack := rest }) :
    ∃ h', Wr h h' a j.toNatClampNeg (.int (nar .char x)) ∧ h'.size = h.size ∧ Arv Z h' a k .char z (vs.set i (.int (nar .char x))) dv ∧ Wk p l e R s m args below meth c Z a0 EL n0 own nw st vm0 h' g' cells slots := by
  obtain ⟨T, locs, k0, X, eT, hS, hk, hZ, hown, N, hnw, hE, hC, -, pre⟩ := w
  obtain ⟨cl, A, q, S, M, H, U⟩ := id V
  obtain ⟨T', h', X', e', W, st'⟩ := RoadKit.stC X hx hZ eT A (inb_of S hin) hg hs hd
  exact ⟨h', W, W.size, Arv.set A q S M H U (fits_nar_char _) W i hj hi, T', _, k0, X', e', hS, by rw [W.size]; exact hk, hZ, hown, Fr.snoc X' N na, hnw, hE, hC.trans (CHr.wr W (Safe.arv (State.Warmed39.alike (s := Z) hZ) V (by decide)) hC.1), hx, fun t q => pre t (st' t (hg' ▸ q))⟩
theorem Wk.stI (w : Wk p l e R s m args below meth c Z a0 EL n0 own nw st vm0 h g cells slots) (hx : p.tables.exec = Jvm.exec) {a : Addr} {k : ClassId} {z : Int32} {vs : List Value} {dv : Value} (V : Arv Z h a k .int z vs dv) {j x : Int32} (i : Nat) (hj : j.toNatClampNeg = i) (hi : i < vs.length) (hin : ¬ j < 0 ∧ j < z)
    (hg : g.method = m) {rest : List Value} (hs : g.stack = .int x :: .int j :: .ref a :: rest) (hd : decode c.code g.pc = .ok (.iastore, 1)) (na : n0 ≤ a) (g' : JFrame) (hg' : g' = { g with pc := g.pc + 1, stack := rest }) :
    ∃ h', Wr h h' a j.toNatClampNeg (.int x) ∧ h'.size = h.size ∧ Arv Z h' a k .int z (vs.set i (.int x)) dv ∧ Wk p l e R s m args below meth c Z a0 EL n0 own nw st vm0 h' g' cells slots := by
  obtain ⟨T, locs, k0, X, eT, hS, hk, hZ, hown, N, hnw, hE, hC, -, pre⟩ := w
  obtain ⟨cl, A, q, S, M, H, U⟩ := id V
  obtain ⟨T', h', X', e', W, st'⟩ := RoadKit.stI X hx hZ eT A (inb_of S hin) hg hs hd
  exact ⟨h', W, W.size, Arv.set A q S M H U rfl W i hj hi, T', _, k0, X', e', hS, by rw [W.size]; exact hk, hZ, hown, Fr.snoc X' N na, hnw, hE, hC.trans (CHr.wr W (Safe.arv (State.Warmed39.alike (s := Z) hZ) V (by decide)) hC.1), hx, fun t q => pre t (st' t (hg' ▸ q))⟩
theorem Wk.stB (w : Wk p l e R s m args below meth c Z a0 EL n0 own nw st vm0 h g cells slots) (hx : p.tables.exec = Jvm.exec) {a : Addr} {k : ClassId} {z : Int32} {vs : List Value} {dv : Value} (V : Arv Z h a k .byte z vs dv) (sf : Safe Z EL vm0 h a) {j x : Int32} (i : Nat) (hj : j.toNatClampNeg = i) (hi : i < vs.length) (hin : ¬ j < 0 ∧ j < z)
    (hg : g.method = m) {rest : List Value} (hs : g.stack = .int x :: .int j :: .ref a :: rest) (hd : decode c.code g.pc = .ok (.bastore, 1)) (na : n0 ≤ a) (g' : JFrame) (hg' : g' = { g with pc := g.pc + 1, stack := rest }) :
    ∃ h', Wr h h' a j.toNatClampNeg (.int x.toInt8.toInt32) ∧ h'.size = h.size ∧ Arv Z h' a k .byte z (vs.set i (.int x.toInt8.toInt32)) dv ∧ Wk p l e R s m args below meth c Z a0 EL n0 own nw st vm0 h' g' cells slots := by
  obtain ⟨T, locs, k0, X, eT, hS, hk, hZ, hown, N, hnw, hE, hC, -, pre⟩ := w
  obtain ⟨cl, A, q, S, M, H, U⟩ := id V
  obtain ⟨T', h', X', e', W, st'⟩ := RoadKit.stB X hx hZ eT A (inb_of S hin) hg hs hd
  exact ⟨h', W, W.size, Arv.set A q S M H U (fits_nar_byte _) W i hj hi, T', _, k0, X', e', hS, by rw [W.size]; exact hk, hZ, hown, Fr.snoc X' N na, hnw, hE, hC.trans (CHr.wr W sf hC.1), hx, fun t q => pre t (st' t (hg' ▸ q))⟩
/-! single steps that read an array -/
section Reads
variable {T : State} {locs : List Loc} {target : State}
theorem caV (X : Stand p l e R s m args below meth c T locs cells slots) (hx : p.tables.exec = Jvm.exec) (eT : T.heap = h) (hZ : Z.Warmed39 s.vm) {a : Addr} {k : ClassId} {z : Int32} {vs : List Value} {dv v : Value} (V : Arv Z h a k .char z vs dv) {j : Int32} (hin : ¬ j < 0 ∧ j < z) (hv : vs.getD j.toNatClampNeg dv = v)
    (hg : g.method = m) {rest : List Value} (hs : g.stack = .int j :: .ref a :: rest) (hd : decode c.code g.pc = .ok (.caload, 1)) (hr : Steps p.tables e below (T.setTop { g with pc := g.pc + 1, stack := v :: rest }) target) : Steps p.tables e below (T.setTop g) target := by
  obtain ⟨cl, A, q, S, M, H, U⟩ := V
  exact X.caload hx (by rw [eT]; exact A.1) (State.isArrayOf_alike hZ.alike A.2.1) A.2.2 (inb_of S hin) (H.at (inb_of S hin) hv) hg hs hd _ hr
theorem iaV (X : Stand p l e R s m args below meth c T locs cells slots) (hx : p.tables.exec = Jvm.exec) (eT : T.heap = h) (hZ : Z.Warmed39 s.vm) {a : Addr} {k : ClassId} {z : Int32} {vs : List Value} {dv v : Value} (V : Arv Z h a k .int z vs dv) {j : Int32} (hin : ¬ j < 0 ∧ j < z) (hv : vs.getD j.toNatClampNeg dv = v)
    (hg : g.method = m) {rest : List Value} (hs : g.stack = .int j :: .ref a :: rest) (hd : decode c.code g.pc = .ok (.iaload, 1)) (hr : Steps p.tables e below (T.setTop { g with pc := g.pc + 1, stack := v :: rest }) target) : Steps p.tables e below (T.setTop g) target := by
  obtain ⟨cl, A, q, S, M, H, U⟩ := V
  exact X.iaload hx (by rw [eT]; exact A.1) (State.isArrayOf_alike hZ.alike A.2.1) A.2.2 (inb_of S hin) (H.at (inb_of S hin) hv) hg hs hd _ hr
theorem baV (X : Stand p l e R s m args below meth c T locs cells slots) (hx : p.tables.exec = Jvm.exec) (eT : T.heap = h) (hZ : Z.Warmed39 s.vm) {a : Addr} {k : ClassId} {z : Int32} {vs : List Value} {dv v : Value} (V : Arv Z h a k .byte z vs dv) {j : Int32} (hin : ¬ j < 0 ∧ j < z) (hv : vs.getD j.toNatClampNeg dv = v)
    (hg : g.method = m) {rest : List Value} (hs : g.stack = .int j :: .ref a :: rest) (hd : decode c.code g.pc = .ok (.baload, 1)) (hr : Steps p.tables e below (T.setTop { g with pc := g.pc + 1, stack := v :: rest }) target) : Steps p.tables e below (T.setTop g) target := by
  obtain ⟨cl, A, q, S, M, H, U⟩ := V
  exact X.baloadBytes hx (by rw [eT]; exact A.1) (State.isArrayOf_alike hZ.alike A.2.1) A.2.2 (inb_of S hin) (H.at (inb_of S hin) hv) hg hs hd _ hr
theorem aaV (X : Stand p l e R s m args below meth c T locs cells slots) (hx : p.tables.exec = Jvm.exec) (eT : T.heap = h) (hZ : Z.Warmed39 s.vm) {a : Addr} {k : ClassId} {z : Int32} {vs : List Value} {dv v : Value} {ty : FieldType} (V : Arv Z h a k ty z vs dv) (hty : ty.isReference = true) {j : Int32} (hin : ¬ j < 0 ∧ j < z) (hv : vs.getD j.toNatClampNeg dv = v)
    (hg : g.method = m) {rest : List Value} (hs : g.stack = .int j :: .ref a :: rest) (hd : decode c.code g.pc = .ok (.aaload, 1)) (hr : Steps p.tables e below (T.setTop { g with pc := g.pc + 1, stack := v :: rest }) target) : Steps p.tables e below (T.setTop g) target := by
  obtain ⟨cl, A, q, S, M, H, U⟩ := V
  exact X.aaload hx (by rw [eT]; exact A.1) (State.isArrayOf_alike hZ.alike A.2.1) hty A.2.2 (inb_of S hin) (H.at (inb_of S hin) hv) hg hs hd _ hr
theorem alenV (X : Stand p l e R s m args below meth c T locs cells slots) (hx : p.tables.exec = Jvm.exec) (eT : T.heap = h) (hZ : Z.Warmed39 s.vm) {a : Addr} {k : ClassId} {z : Int32} {vs : List Value} {dv : Value} {ty : FieldType} (V : Arv Z h a k ty z vs dv)
    (hg : g.method = m) {rest : List Value} (hs : g.stack = .ref a :: rest) (hd : decode c.code g.pc = .ok (.arraylength, 1)) (hr : Steps p.tables e below (T.setTop { g with pc := g.pc + 1, stack := .int z :: rest }) target) : Steps p.tables e below (T.setTop g) target := by
  obtain ⟨cl, A, q, S, M, H, U⟩ := V
  exact X.arraylength hx (by rw [eT]; exact A.1) (State.isArrayOf_alike hZ.alike A.2.1) hg hs hd _ (by rw [len_of S M]; exact hr)
end Reads
/-! calls -/
/-- who pays a call: nothing interned -/
def Pay (l : Launch) (R : Room) (p : Program) (e : Env) (below : List Frame) (s : State) (args : Array Value) (y : MethodName) (W : Nat) (as' : List Value) (h : Heap) (kc ks n0 : Nat) (wr : List Addr) (Q : Option Value → Heap → Prop) : Prop :=
  Back l R p e below s args y 3 W (fun P a => a = as'.toArray ∧ P.U.heap = h ∧ P.cells + kc ≤ R.cells ∧ P.slots + ks ≤ R.slots) (fun P _ v B => ∃ L, (Q v B.U.heap ∧ Keep h B.U.heap wr ∧ Fr n0 L) ∧ B.locs = P.locs ++ L ∧ B.cells = P.cells + kc ∧ B.slots = P.slots + ks)
/-- a contract: nothing interned -/
def NMet (l : Launch) (Z : State) (y : MethodName) (bytes : ByteArray) (maxL : Nat) (ret : Option FieldType) (ws : List Jvm.Cond) (rm : Room) (as' : List Value) (h : Heap) (n0 : Nat) (wr : List Addr) (Q : Option Value → Heap → Prop) : Prop :=
  MetFree l y (head1 (Jvm.Cond.code y bytes maxL ret :: ws) rm) (fun a U => a = as'.toArray ∧ Z.Warmed39 U.vm ∧ U.heap = h) (fun _ _ _ _ _ => True) (fun _ U o U' => ∃ v L, o = .returned v ∧ (Q v U'.heap ∧ Keep h U'.heap wr ∧ Fr n0 L) ∧ FrameEnd U o U' L rm.cells rm.slots)
theorem NMet.pay {y : MethodName} {bytes : ByteArray} {maxL : Nat} {ret : Option FieldType} {rm : Room} {as' : List Value} {wr : List Addr} {Q : Option Value → Heap → Prop} {W : Nat} (M : NMet l Z y bytes maxL ret [] rm as' h n0 wr Q) (hZ : Z.Warmed39 s.vm) (wc : (Cond.code y bytes maxL ret).before a0 Z = true) (wz : (Cond.initialized y.cls).before a0 Z = true) (hf : rm.frames + 1 ≤ R.frames) (hl : W + (maxL + 11) + rm.locals ≤ R.locals) :
    Pay l R p e below s args y W as' h rm.cells rm.slots n0 wr Q := backOf (a0 := a0) (Q := fun v h' L => Q v h' ∧ Keep h h' wr ∧ Fr n0 L) M hZ wc wz hf hl
theorem Wk.callS (w : Wk p l e R s m args below meth c Z a0 EL n0 own nw st vm0 h g cells slots) (hx : p.tables.exec = Jvm.exec) {y : MethodName} {bytes : ByteArray} {maxL : Nat} {ret : Option FieldType} {index W kc ks : Nat} {as' : List Value} {wr : List Addr} {Q : Option Value → Heap → Prop}
    (w1 : (Cond.methodLink own index y).before a0 Z = true) (w2 : (Cond.static y).before a0 Z = true) (w3 : (Cond.initialized y.cls).before a0 Z = true) (w4 : (Cond.code y bytes maxL ret).before a0 Z = true) (hy : y.cls ≠ "java/lang/invoke/MethodHandle" ∧ y.cls ≠ "java/lang/invoke/VarHandle")
    (P : Pay l R p e below (s.setVm vm0) args y W as' h kc ks n0 wr Q) (hg : g.method = m) (hsize : g.locals.size = c.maxLocals) (rest : List Value) (hlen : ∀ sig, parseMethodDescriptor y.desc = some sig → as'.length = sig.parameters.length) (hstack : g.stack = as'.reverse ++ rest) (hW : 2 * g.monitorRoom + (rest.map fun v => v.category).sum ≤ W)
    (hd : decode c.code g.pc = .ok (.invokestatic index, 3)) (hc : cells + kc ≤ R.cells) (hl : slots + ks ≤ R.slots) (sf : ∀ x ∈ wr, Safe Z EL vm0 h x) (g' : Option Value → JFrame) (hg' : ∀ v, g' v = { g with pc := g.pc + 3, stack := v.toList ++ rest }) :
    ∃ v h', Q v h' ∧ Keep h h' wr ∧ h.size ≤ h'.size ∧ Wk p l e R s m args below meth c Z a0 EL n0 own nw st vm0 h' (g' v) (cells + kc) (slots + ks) := by
  obtain ⟨T, locs, k0, X, eT, hS, hk, hZ, hown, N, hnw, hE, hC, -, pre⟩ := w
  have hZ' : Z.Warmed39 (s.setVm vm0).vm := hZ
  obtain ⟨v, _, ⟨T', L', k', n'⟩, -, X', ⟨L, ⟨hQ, hK, hN⟩, l1, l2, l3⟩, st'⟩ := Jvm.LawKit.callS X hx (y := y) hown (mvT hZ' w1) (mvT hZ' w2) (mvT hZ' w3) (mvT hZ' w4) hy P hg hsize hlen hstack hW hd (fun _ _ => ⟨rfl, eT, hc, hl⟩)
  dsimp only [Pt.U, Pt.locs, Pt.cells, Pt.slots] at X' l1 l2 l3 st' hQ hK
  subst l1 l2 l3
  exact ⟨v, T'.heap, hQ, hK, hK.1, T', _, k0, X', rfl, hS, Nat.le_trans hk hK.1, hZ, hown, Fr.app N hN, hnw, hE, hC.trans (CHr.keep hK sf hC.1), hx, fun t k => pre t (st' t (hg' v ▸ k))⟩
theorem Wk.callI (w : Wk p l e R s m args below meth c Z a0 EL n0 own nw st vm0 h g cells slots) (hx : p.tables.exec = Jvm.exec) {y : MethodName} {bytes : ByteArray} {maxL : Nat} {index W kc ks : Nat} {a : Addr} {as' : List Value} {wr : List Addr} {Q : Option Value → Heap → Prop}
    (hy1 : y.name = "<init>") (w1 : (Cond.methodLink own index y).before a0 Z = true) (w2 : (Cond.instanceMethod y).before a0 Z = true) (w4 : (Cond.code y bytes maxL none).before a0 Z = true) (hy : y.cls ≠ "java/lang/invoke/MethodHandle" ∧ y.cls ≠ "java/lang/invoke/VarHandle")
    (P : Pay l R p e below (s.setVm vm0) args y W (.ref a :: as') h kc ks n0 wr Q) (hg : g.method = m) (hsize : g.locals.size = c.maxLocals) (rest : List Value) (hlen : ∀ sig, parseMethodDescriptor y.desc = some sig → as'.length = sig.parameters.length) (hstack : g.stack = as'.reverse ++ .ref a :: rest) (hW : 2 * g.monitorRoom + (rest.map fun v => v.category).sum ≤ W)
    (hd : decode c.code g.pc = .ok (.invokespecial index, 3)) (hc : cells + kc ≤ R.cells) (hl : slots + ks ≤ R.slots) (sf : ∀ x ∈ wr, Safe Z EL vm0 h x) (g' : Option Value → JFrame) (hg' : ∀ v, g' v = { g with pc := g.pc + 3, stack := v.toList ++ rest }) :
    ∃ v h', Q v h' ∧ Keep h h' wr ∧ h.size ≤ h'.size ∧ Wk p l e R s m args below meth c Z a0 EL n0 own nw st vm0 h' (g' v) (cells + kc) (slots + ks) := by
  obtain ⟨T, locs, k0, X, eT, hS, hk, hZ, hown, N, hnw, hE, hC, -, pre⟩ := w
  have hZ' : Z.Warmed39 (s.setVm vm0).vm := hZ
  obtain ⟨v, _, ⟨T', L', k', n'⟩, -, X', ⟨L, ⟨hQ, hK, hN⟩, l1, l2, l3⟩, st'⟩ := X.specialBack hx (y := y) hy1 hown (mvT hZ' w1) (mvT hZ' w2) (mvT hZ' w4) hy P hg hsize (Steps.refl _) hlen hstack hW hd (fun _ _ => ⟨rfl, eT, hc, hl⟩)
  dsimp only [Pt.U, Pt.locs, Pt.cells, Pt.slots] at X' l1 l2 l3 st' hQ hK
  subst l1 l2 l3
  exact ⟨v, T'.heap, hQ, hK, hK.1, T', _, k0, X', rfl, hS, Nat.le_trans hk hK.1, hZ, hown, Fr.app N hN, hnw, hE, hC.trans (CHr.keep hK sf hC.1), hx, fun t k => pre t (st'.trans (hg' v ▸ k))⟩
theorem Wk.callV (w : Wk p l e R s m args below meth c Z a0 EL n0 own nw st vm0 h g cells slots) (hx : p.tables.exec = Jvm.exec) {C : String} {y z : MethodName} {index W kc ks : Nat} {a : Addr} {as' : List Value} {wr : List Addr} {Q : Option Value → Heap → Prop}
    (w1 : (Cond.methodLink own index y).before a0 Z = true) (w2 : (Cond.declares y).before a0 Z = true) (w3 : (Cond.selects C y z).before a0 Z = true) (w4 : (Cond.instanceMethod z).before a0 Z = true) (nf : NotFace (s.setVm vm0) y) (hy : y.cls ≠ "java/lang/invoke/MethodHandle" ∧ y.cls ≠ "java/lang/invoke/VarHandle")
    (P : Pay l R p e below (s.setVm vm0) args z W (.ref a :: as') h kc ks n0 wr Q) (E : Exa Z h a C) (hg : g.method = m) (hsize : g.locals.size = c.maxLocals) (rest : List Value) (hlen : ∀ sig, parseMethodDescriptor y.desc = some sig → as'.length = sig.parameters.length) (hstack : g.stack = as'.reverse ++ .ref a :: rest) (hW : 2 * g.monitorRoom + (rest.map fun v => v.category).sum ≤ W)
    (hd : decode c.code g.pc = .ok (.invokevirtual index, 3)) (hc : cells + kc ≤ R.cells) (hl : slots + ks ≤ R.slots) (sf : ∀ x ∈ wr, Safe Z EL vm0 h x) (g' : Option Value → JFrame) (hg' : ∀ v, g' v = { g with pc := g.pc + 3, stack := v.toList ++ rest }) :
    ∃ v h', Q v h' ∧ Keep h h' wr ∧ h.size ≤ h'.size ∧ Wk p l e R s m args below meth c Z a0 EL n0 own nw st vm0 h' (g' v) (cells + kc) (slots + ks) := by
  obtain ⟨T, locs, k0, X, eT, hS, hk, hZ, hown, N, hnw, hE, hC, -, pre⟩ := w
  have hZ' : Z.Warmed39 (s.setVm vm0).vm := hZ
  obtain ⟨cB, kB, q1, -, q3⟩ := isOf (s := s.setVm vm0) hZ' eT E
  obtain ⟨v, _, ⟨T', L', k', n'⟩, -, X', ⟨L, ⟨hQ, hK, hN⟩, l1, l2, l3⟩, st'⟩ := X.virtualBack hx (y := y) (z := z) hown (mvT hZ' w1) (mvT hZ' w2) nf (mvT hZ' w3) (mvT hZ' w4) hy P q1 q3 hg hsize (Steps.refl _) hlen hstack hW hd (fun _ _ => ⟨rfl, eT, hc, hl⟩)
  dsimp only [Pt.U, Pt.locs, Pt.cells, Pt.slots] at X' l1 l2 l3 st' hQ hK
  subst l1 l2 l3
  exact ⟨v, T'.heap, hQ, hK, hK.1, T', _, k0, X', rfl, hS, Nat.le_trans hk hK.1, hZ, hown, Fr.app N hN, hnw, hE, hC.trans (CHr.keep hK sf hC.1), hx, fun t k => pre t (st'.trans (hg' v ▸ k))⟩
theorem sfNil {x : Addr} : x ∈ ([] : List Addr) → Safe Z EL vm0 h x := fun q => nomatch q
theorem sfOne {a : Addr} (sf : Safe Z EL vm0 h a) : ∀ x ∈ [a], Safe Z EL vm0 h x := fun x q => by cases List.mem_singleton.mp q; exact sf
theorem Wk.nf (w : Wk p l e R s m args below meth c Z a0 EL n0 own nw st vm0 h g cells slots) {C : String} {y : MethodName} (w3 : (Cond.selects C y y).before a0 Z = true) : NotFace (s.setVm vm0) y := notFace_of_selects (args := #[]) (mvT (s := s.setVm vm0) w.hZ w3)
/-! the end of a body -/
theorem Wk.out (w : Wk p l e R s m args below meth c Z a0 EL n0 own nw st vm0 h g cells slots) {v : Option Value} (hv : meth.sig.returnType = none → v = none) (hlk : meth.locks = false)
    (hret : ∀ {T : State} {locs : List Loc} {fs : List Frame}, Stand p l e R (s.setVm vm0) m args below meth c T locs cells slots → (∀ (f : JFrame) (acts : List Action), f.method = m → f.locked = none → f.entered = [] → (doReturn e (T.setTop f) acts v).1 = T.setFrames fs) → Steps p.tables e below (T.setTop g) (T.setFrames fs)) :
    ∃ s₂ L, Steps p.tables e below st s₂ ∧ s₂.status = .running ∧ Ended s₂ below (.returned v) ∧ s₂.heap = h ∧ Fr n0 L ∧ (nw = true → FrameEnd s (.returned v) s₂ L cells slots) ∧ ReturnedEndW s (.returned v) s₂ L cells slots ∧ CHr Z EL s.vm s.heap s₂.vm s₂.heap := by
  obtain ⟨T, locs, k0, X, eT, hS, hk, hZ, hown, N, hnw, hE, hC, hx, pre⟩ := w
  subst eT
  obtain ⟨fs, hr, h1, h2, hW, hs⟩ := X.leave hv hlk
  obtain ⟨b1, b2, b3⟩ := hS.ended (U := T.setFrames fs) hW hk hs
  refine ⟨T.setFrames fs, locs, pre _ (hret X hr), h1, h2, rfl, N, fun q => ?_, ⟨⟨v, rfl⟩, b1, b2, b3⟩, hC.trans (show CHr Z EL vm0 T.heap (T.setFrames fs).vm (T.setFrames fs).heap from CHv.at (T := T) X hZ hE hC.1)⟩
  have e0 := hnw q
  subst e0
  exact ⟨⟨v, rfl⟩, hW, hs⟩
theorem Wk.endN (w : Wk p l e R s m args below meth c Z a0 EL n0 own true st vm0 h g cells slots) {v : Option Value} {Q : Option Value → Heap → Prop} {wr : List Addr} {h0 : Heap} {kc ks : Nat} (hv : meth.sig.returnType = none → v = none) (hlk : meth.locks = false)
    (hret : ∀ {T : State} {locs : List Loc} {fs : List Frame}, Stand p l e R (s.setVm vm0) m args below meth c T locs cells slots → (∀ (f : JFrame) (acts : List Action), f.method = m → f.locked = none → f.entered = [] → (doReturn e (T.setTop f) acts v).1 = T.setFrames fs) → Steps p.tables e below (T.setTop g) (T.setFrames fs))
    (hc : cells ≤ kc) (hl : slots ≤ ks) (hQ : Q v h) (hK : Keep h0 h wr) :
    ∃ s₂ o, Steps p.tables e below st s₂ ∧ s₂.status = .running ∧ Ended s₂ below o ∧ ∃ v L, o = .returned v ∧ (Q v s₂.heap ∧ Keep h0 s₂.heap wr ∧ Fr n0 L) ∧ FrameEnd s o s₂ L kc ks := by
  obtain ⟨s₂, L, h1, h2, h3, h4, h5, h6, -, -⟩ := w.out hv hlk hret
  have F := h6 rfl
  exact ⟨s₂, _, h1, h2, h3, v, L, rfl, ⟨h4 ▸ hQ, h4 ▸ hK, h5⟩, F.1, F.2.1, F.2.2.mono hc hl⟩
end OwnKit
end Jvm.Pilot.@@N@@
namespace Jvm.Pilot.@@N@@
open Jvm Jvm.ClassFile Sem Op Lib Jvm.Free Jvm.Stand Jvm.LawKit Jvm.RoadKit Bundle Jvm.Pilot.@@N@@.Jvm.D
section OwnWide
variable {p : Program} {l : Launch} {e : Env} {R : Room} {s : State} {m : MethodId} {args : Array Value} {below : List Frame} {meth : Method} {c : Code} {Z : State} {a0 : Array Value} {EL : List (String × Nat)} {n0 : Nat} {own : String} {nw : Bool} {st : State} {vm0 : Vm} {h : Heap} {g g' : JFrame} {cells slots : Nat}
theorem chs {vm1 : Vm} {h' : Heap} (A : CHr Z EL vm0 h vm1 h') {x : Nat} (hx : h.size > x) (S : Safe Z EL vm0 h x) : Safe Z EL vm1 h' x := A.safe hx S
/-- who pays a call that may intern -/
def PayW (l : Launch) (R : Room) (p : Program) (e : Env) (below : List Frame) (s : State) (args : Array Value) (y : MethodName) (W : Nat) (as' : List Value) (h : Heap) (kc ks n0 : Nat) (wr : List Addr) (Q : Option Value → Heap → Prop) (Z : State) (EL : List (String × Nat)) (vm0 : Vm) : Prop :=
  BackS l R p e below s args y 3 W (fun P a => a = as'.toArray ∧ P.U.heap = h ∧ P.cells + kc ≤ R.cells ∧ P.slots + ks ≤ R.slots) (fun P _ v B => ∃ L, (Q v B.U.heap ∧ Keep h B.U.heap wr ∧ Fr n0 L) ∧ B.locs = P.locs ++ L ∧ B.cells = P.cells + kc ∧ B.slots = P.slots + ks ∧ CHr Z EL vm0 h B.U.vm B.U.heap)
/-- a contract of a body that may intern -/
def WMet (l : Launch) (Z : State) (EL : List (String × Nat)) (y : MethodName) (bytes : ByteArray) (maxL : Nat) (ret : Option FieldType) (ws : List Jvm.Cond) (rm : Room) (as' : List Value) (h : Heap) (n0 : Nat) (sf : List Addr) (wr : List Addr) (Q : Option Value → Heap → Prop) : Prop :=
  MetFree l y (head1 (Jvm.Cond.code y bytes maxL ret :: ws) rm) (fun a U => a = as'.toArray ∧ Z.Warmed39 U.vm ∧ U.heap = h ∧ CHv Z EL U.vm h ∧ ∀ x ∈ sf, Safe Z EL U.vm h x) (fun _ _ _ _ _ => True) (fun _ U o U' => ∃ v L, o = .returned v ∧ (Q v U'.heap ∧ Keep h U'.heap wr ∧ Fr n0 L) ∧ CHr Z EL U.vm U.heap U'.vm U'.heap ∧ ReturnedEndW U o U' L rm.cells rm.slots)
theorem Wk.ew (w : Wk p l e R s m args below meth c Z a0 EL n0 own nw st vm0 h g cells slots) : EW Z a0 EL := by
  obtain ⟨T, locs, k0, X, eT, hS, hk, hZ, hown, N, hnw, hE, hC, hx, pre⟩ := w; exact hE
theorem WMet.pay {y : MethodName} {bytes : ByteArray} {maxL : Nat} {ret : Option FieldType} {rm : Room} {as' : List Value} {sf wr : List Addr} {Q : Option Value → Heap → Prop} {W : Nat} (M : WMet l Z EL y bytes maxL ret [] rm as' h n0 sf wr Q)
    (hw : Wk p l e R s m args below meth c Z a0 EL n0 own nw st vm0 h g cells slots) (wc : (Cond.code y bytes maxL ret).before a0 Z = true) (wz : (Cond.initialized y.cls).before a0 Z = true) (hf : rm.frames + 1 ≤ R.frames) (hl : W + (maxL + 11) + rm.locals ≤ R.locals) (hsf : ∀ x ∈ sf, h.size > x ∧ Safe Z EL vm0 h x) :
    PayW l R p e below (s.setVm vm0) args y W as' h rm.cells rm.slots n0 wr Q Z EL vm0 := by
  have hZ : Z.Warmed39 vm0 := hw.hZ
  have hEL := hw.ew
  have H := hw.chv
  refine BackS.of_freeW (bytes := bytes) (maxL := maxL) (ret := ret) (E := fun _ first o t L k n => k = rm.cells ∧ n = rm.slots ∧ (∃ v, o = .returned v ∧ (Q v t.heap ∧ Keep h t.heap wr ∧ Fr n0 L)) ∧ CHr Z EL first.vm first.heap t.vm t.heap) M hf hl ?_ ?_ ?_ ?_ ?_
  · intro m meth c A a Y hp
    have hU : Z.Warmed39 A.U.vm := wtrans (s := s.setVm vm0) hZ Y.warmed
    exact ⟨by show (Cond.and _ .tt).before a A.U = true; rw [Cond.before_and, mv hU wc]; rfl, mv hU wc, mv hU wz, hp.2.2.1, hp.2.2.2⟩
  · intro m meth c A a g mk Y hp
    have C := CHv.at Y hZ hEL H
    exact ⟨hp.1, wtrans (s := s.setVm vm0) hZ Y.warmed, hp.2.1, C.1, fun x hx => C.safe (hsf x hx).1 (hsf x hx).2⟩
  · exact fun _ _ _ _ _ _ _ _ _ => trivial
  · exact fun _ _ _ _ ⟨v, L, h1, h2, h3, h4⟩ => ⟨L, _, _, h4, rfl, rfl, ⟨v, h1, h2⟩, h3⟩
  · intro m meth c A a g mk v t L k n Y hp _ _ q
    obtain ⟨e1, e2, ⟨v', e3, e4⟩, e5⟩ := q
    cases e3; subst e1 e2
    refine ⟨L, e4, rfl, rfl, rfl, (CHv.at Y hZ hEL H).trans ?_⟩
    rw [← hp.2.1]; exact e5
theorem Wk.callSW (w : Wk p l e R s m args below meth c Z a0 EL n0 own false st vm0 h g cells slots) (hx : p.tables.exec = Jvm.exec) {y : MethodName} {bytes : ByteArray} {maxL : Nat} {ret : Option FieldType} {index W kc ks : Nat} {as' : List Value} {wr : List Addr} {Q : Option Value → Heap → Prop}
    (w1 : (Cond.methodLink own index y).before a0 Z = true) (w2 : (Cond.static y).before a0 Z = true) (w3 : (Cond.initialized y.cls).before a0 Z = true) (w4 : (Cond.code y bytes maxL ret).before a0 Z = true) (hy : y.cls ≠ "java/lang/invoke/MethodHandle" ∧ y.cls ≠ "java/lang/invoke/VarHandle")
    (P : PayW l R p e below (s.setVm vm0) args y W as' h kc ks n0 wr Q Z EL vm0) (hg : g.method = m) (hsize : g.locals.size = c.maxLocals) (rest : List Value) (hlen : ∀ sig, parseMethodDescriptor y.desc = some sig → as'.length = sig.parameters.length) (hstack : g.stack = as'.reverse ++ rest) (hW : 2 * g.monitorRoom + (rest.map fun v => v.category).sum ≤ W)
    (hd : decode c.code g.pc = .ok (.invokestatic index, 3)) (hc : cells + kc ≤ R.cells) (hl : slots + ks ≤ R.slots) (g' : Option Value → JFrame) (hg' : ∀ v, g' v = { g with pc := g.pc + 3, stack := v.toList ++ rest }) :
    ∃ v vm1 h', Q v h' ∧ Keep h h' wr ∧ h.size ≤ h'.size ∧ CHr Z EL vm0 h vm1 h' ∧ Wk p l e R s m args below meth c Z a0 EL n0 own false st vm1 h' (g' v) (cells + kc) (slots + ks) := by
  obtain ⟨T, locs, k0, X, eT, hS, hk, hZ, hown, N, hnw, hE, hC, -, pre⟩ := w
  have hZ' : Z.Warmed39 (s.setVm vm0).vm := hZ
  obtain ⟨v, _, ⟨T', L', k', n'⟩, -, X', hS', hgr, ⟨L, ⟨hQ, hK, hN⟩, l1, l2, l3, hC'⟩, st'⟩ := RoadKit.callSS X hx (y := y) hown (mvT hZ' w1) (mvT hZ' w2) (mvT hZ' w3) (mvT hZ' w4) hy P hg hsize hlen hstack hW hd (fun _ _ => ⟨rfl, eT, hc, hl⟩)
  dsimp only [Pt.U, Pt.locs, Pt.cells, Pt.slots] at X' l1 l2 l3 st' hQ hK hS' hgr hC'
  subst l1 l2 l3
  obtain ⟨X2, S2, Z2, O2⟩ := rebS (own := own) (n1 := T.heap.size) hS (by rw [eT]; exact hk) X' hS' hgr hZ' hown
  exact ⟨v, T'.vm, T'.heap, hQ, hK, hK.1, hC', T', _, T'.heap.size, X2, rfl, S2, Nat.le_refl _, Z2, O2, Fr.app N hN, (fun q => nomatch q), hE, hC.trans hC', hx, fun t k => pre t (st'.trans (hg' v ▸ k))⟩
theorem Wk.callIW (w : Wk p l e R s m args below meth c Z a0 EL n0 own false st vm0 h g cells slots) (hx : p.tables.exec = Jvm.exec) {y : MethodName} {bytes : ByteArray} {maxL : Nat} {index W kc ks : Nat} {a : Addr} {as' : List Value} {wr : List Addr} {Q : Option Value → Heap → Prop}
    (hy1 : y.name = "<init>") (w1 : (Cond.methodLink own index y).before a0 Z = true) (w2 : (Cond.instanceMethod y).before a0 Z = true) (w4 : (Cond.code y bytes maxL none).before a0 Z = true) (hy : y.cls ≠ "java/lang/invoke/MethodHandle" ∧ y.cls ≠ "java/lang/invoke/VarHandle")
    (P : PayW l R p e below (s.setVm vm0) args y W (.ref a :: as') h kc ks n0 wr Q Z EL vm0) (hg : g.method = m) (hsize : g.locals.size = c.maxLocals) (rest : List Value) (hlen : ∀ sig, parseMethodDescriptor y.desc = some sig → as'.length = sig.parameters.length) (hstack : g.stack = as'.reverse ++ .ref a :: rest) (hW : 2 * g.monitorRoom + (rest.map fun v => v.category).sum ≤ W)
    (hd : decode c.code g.pc = .ok (.invokespecial index, 3)) (hc : cells + kc ≤ R.cells) (hl : slots + ks ≤ R.slots) (g' : Option Value → JFrame) (hg' : ∀ v, g' v = { g with pc := g.pc + 3, stack := v.toList ++ rest }) :
    ∃ v vm1 h', Q v h' ∧ Keep h h' wr ∧ h.size ≤ h'.size ∧ CHr Z EL vm0 h vm1 h' ∧ Wk p l e R s m args below meth c Z a0 EL n0 own false st vm1 h' (g' v) (cells + kc) (slots + ks) := by
  obtain ⟨T, locs, k0, X, eT, hS, hk, hZ, hown, N, hnw, hE, hC, -, pre⟩ := w
  have hZ' : Z.Warmed39 (s.setVm vm0).vm := hZ
  obtain ⟨v, _, ⟨T', L', k', n'⟩, -, X', hS', hgr, ⟨L, ⟨hQ, hK, hN⟩, l1, l2, l3, hC'⟩, st'⟩ := X.specialBackS hx (y := y) hy1 hown (mvT hZ' w1) (mvT hZ' w2) (mvT hZ' w4) hy P hg hsize (Steps.refl _) hlen hstack hW hd (fun _ _ => ⟨rfl, eT, hc, hl⟩)
  dsimp only [Pt.U, Pt.locs, Pt.cells, Pt.slots] at X' l1 l2 l3 st' hQ hK hS' hgr hC'
  subst l1 l2 l3
  obtain ⟨X2, S2, Z2, O2⟩ := rebS (own := own) (n1 := T.heap.size) hS (by rw [eT]; exact hk) X' hS' hgr hZ' hown
  exact ⟨v, T'.vm, T'.heap, hQ, hK, hK.1, hC', T', _, T'.heap.size, X2, rfl, S2, Nat.le_refl _, Z2, O2, Fr.app N hN, (fun q => nomatch q), hE, hC.trans hC', hx, fun t k => pre t (st'.trans (hg' v ▸ k))⟩
theorem Wk.callVW (w : Wk p l e R s m args below meth c Z a0 EL n0 own false st vm0 h g cells slots) (hx : p.tables.exec = Jvm.exec) {C : String} {y z : MethodName} {index W kc ks : Nat} {a : Addr} {as' : List Value} {wr : List Addr} {Q : Option Value → Heap → Prop}
    (w1 : (Cond.methodLink own index y).before a0 Z = true) (w2 : (Cond.declares y).before a0 Z = true) (w3 : (Cond.selects C y z).before a0 Z = true) (w4 : (Cond.instanceMethod z).before a0 Z = true) (nf : NotFace (s.setVm vm0) y) (hy : y.cls ≠ "java/lang/invoke/MethodHandle" ∧ y.cls ≠ "java/lang/invoke/VarHandle")
    (P : PayW l R p e below (s.setVm vm0) args z W (.ref a :: as') h kc ks n0 wr Q Z EL vm0) (E : Exa Z h a C) (hg : g.method = m) (hsize : g.locals.size = c.maxLocals) (rest : List Value) (hlen : ∀ sig, parseMethodDescriptor y.desc = some sig → as'.length = sig.parameters.length) (hstack : g.stack = as'.reverse ++ .ref a :: rest) (hW : 2 * g.monitorRoom + (rest.map fun v => v.category).sum ≤ W)
    (hd : decode c.code g.pc = .ok (.invokevirtual index, 3)) (hc : cells + kc ≤ R.cells) (hl : slots + ks ≤ R.slots) (g' : Option Value → JFrame) (hg' : ∀ v, g' v = { g with pc := g.pc + 3, stack := v.toList ++ rest }) :
    ∃ v vm1 h', Q v h' ∧ Keep h h' wr ∧ h.size ≤ h'.size ∧ CHr Z EL vm0 h vm1 h' ∧ Wk p l e R s m args below meth c Z a0 EL n0 own false st vm1 h' (g' v) (cells + kc) (slots + ks) := by
  obtain ⟨T, locs, k0, X, eT, hS, hk, hZ, hown, N, hnw, hE, hC, -, pre⟩ := w
  have hZ' : Z.Warmed39 (s.setVm vm0).vm := hZ
  obtain ⟨cB, kB, q1, -, q3⟩ := isOf (s := s.setVm vm0) hZ' eT E
  obtain ⟨v, _, ⟨T', L', k', n'⟩, -, X', hS', hgr, ⟨L, ⟨hQ, hK, hN⟩, l1, l2, l3, hC'⟩, st'⟩ := X.virtualBackS hx (y := y) (z := z) hown (mvT hZ' w1) (mvT hZ' w2) nf (mvT hZ' w3) (mvT hZ' w4) hy P q1 q3 hg hsize (Steps.refl _) hlen hstack hW hd (fun _ _ => ⟨rfl, eT, hc, hl⟩)
  dsimp only [Pt.U, Pt.locs, Pt.cells, Pt.slots] at X' l1 l2 l3 st' hQ hK hS' hgr hC'
  subst l1 l2 l3
  obtain ⟨X2, S2, Z2, O2⟩ := rebS (own := own) (n1 := T.heap.size) hS (by rw [eT]; exact hk) X' hS' hgr hZ' hown
  exact ⟨v, T'.vm, T'.heap, hQ, hK, hK.1, hC', T', _, T'.heap.size, X2, rfl, S2, Nat.le_refl _, Z2, O2, Fr.app N hN, (fun q => nomatch q), hE, hC.trans hC', hx, fun t k => pre t (st'.trans (hg' v ▸ k))⟩
/-- ldc of a String constant whose text is read -/
theorem Wk.ldcCH (w : Wk p l e R s m args below meth c Z a0 EL n0 own false st vm0 h g cells slots) (hx : p.tables.exec = Jvm.exec) {text : String} {index : Nat} (w1 : (Cond.stringLink own index text).before a0 Z = true) (wS : ∀ a ∈ Bundle.stringAtoms, a.before a0 Z = true) (hmem : (own, index) ∈ EL)
    {vs : List Value} {z : Int32} (ht : (∀ c ∈ text.toList, c.toNat < 256) ∧ text.toList.map (fun c => Value.int (Jvm.Lit.byteI c.toNat.toUInt16)) = vs) (hz : ¬ z < 0) (hl : z.toNatClampNeg = vs.length)
    (hg : g.method = m) (hd : decode c.code g.pc = .ok (.ldc index, 2)) (n : Nat) (hn : 4 * text.toList.length ≤ n) (hbig : n ≤ 536870912) (hc : cells + 2 ≤ R.cells) (hl' : slots + (n + 4) ≤ R.slots) (g' : Addr → JFrame) (hg' : ∀ x, g' x = { g with pc := g.pc + 2, stack := .ref x :: g.stack }) :
    ∃ (a : Nat) (vm1 : Vm) (h' : Heap) (b : Nat) (k : ClassId), Ext h h' ∧ Exa Z h' a "java/lang/String" ∧ Fld Z h' a "java/lang/String" "coder" "B" (.int 0) ∧ Fld Z h' a "java/lang/String" "value" "[B" (.ref b) ∧ Arv Z h' b k .byte z vs (.int 0) ∧ h'.size > a ∧ h'.size > b ∧ CHr Z EL vm0 h vm1 h' ∧ (∀ x : Nat, Safe Z EL vm1 h' x → x ≠ a ∧ x ≠ b) ∧
      Wk p l e R s m args below meth c Z a0 EL n0 own false st vm1 h' (g' a) (cells + 2) (slots + (n + 4)) := by
  obtain ⟨T, locs, k0, X, eT, hS, hk, hZ, hown, N, hnw, hE, hC, -, pre⟩ := w
  obtain ⟨a, T', h', k1, b, k, X', e', E, hS', hk', hZ', hown', q1, q2, q3, q4, q5, q6, q7, -, q8, st'⟩ := RoadKit.ldcCH X hx hZ hown w1 wS eT hS hk hE hmem hC.1 ht hz hl hg hd hn hbig hc hl'
  exact ⟨a, T'.vm, h', b, k, E, q1, q2, q3, q4, q5, q6, q7, q8, T', locs, k1, X', e', hS', hk', hZ', hown', N, (fun q => nomatch q), hE, hC.trans q7, hx, fun t k => pre t (st' t (hg' a ▸ k))⟩
/-- ldc of a String constant, opaque -/
theorem Wk.ldcOH (w : Wk p l e R s m args below meth c Z a0 EL n0 own false st vm0 h g cells slots) (hx : p.tables.exec = Jvm.exec) {text : String} {index : Nat} (w1 : (Cond.stringLink own index text).before a0 Z = true) (wS : ∀ a ∈ Bundle.stringAtoms, a.before a0 Z = true)
    (hg : g.method = m) (hd : decode c.code g.pc = .ok (.ldc index, 2)) (n : Nat) (hn : 4 * text.toList.length ≤ n) (hbig : n ≤ 536870912) (hc : cells + 2 ≤ R.cells) (hl' : slots + (n + 4) ≤ R.slots) (g' : Addr → JFrame) (hg' : ∀ x, g' x = { g with pc := g.pc + 2, stack := .ref x :: g.stack }) :
    ∃ (a : Nat) (vm1 : Vm) (h' : Heap), Ext h h' ∧ CHr Z EL vm0 h vm1 h' ∧ Wk p l e R s m args below meth c Z a0 EL n0 own false st vm1 h' (g' a) (cells + 2) (slots + (n + 4)) := by
  obtain ⟨T, locs, k0, X, eT, hS, hk, hZ, hown, N, hnw, hE, hC, -, pre⟩ := w
  obtain ⟨a, T', h', k1, X', e', E, hS', hk', hZ', hown', q7, -, st'⟩ := RoadKit.ldcOH X hx hZ hown w1 wS eT hS hk hE hC.1 hg hd hn hbig hc hl'
  exact ⟨a, T'.vm, h', E, q7, T', locs, k1, X', e', hS', hk', hZ', hown', N, (fun q => nomatch q), hE, hC.trans q7, hx, fun t k => pre t (st' t (hg' a ▸ k))⟩
theorem Wk.endW (w : Wk p l e R s m args below meth c Z a0 EL n0 own nw st vm0 h g cells slots) {v : Option Value} {Q : Option Value → Heap → Prop} {wr : List Addr} {h0 : Heap} {kc ks : Nat} (hv : meth.sig.returnType = none → v = none) (hlk : meth.locks = false)
    (hret : ∀ {T : State} {locs : List Loc} {fs : List Frame}, Stand p l e R (s.setVm vm0) m args below meth c T locs cells slots → (∀ (f : JFrame) (acts : List Action), f.method = m → f.locked = none → f.entered = [] → (doReturn e (T.setTop f) acts v).1 = T.setFrames fs) → Steps p.tables e below (T.setTop g) (T.setFrames fs))
    (hc : cells ≤ kc) (hl : slots ≤ ks) (hQ : Q v h) (hK : Keep h0 h wr) :
    ∃ s₂ o, Steps p.tables e below st s₂ ∧ s₂.status = .running ∧ Ended s₂ below o ∧ ∃ v L, o = .returned v ∧ (Q v s₂.heap ∧ Keep h0 s₂.heap wr ∧ Fr n0 L) ∧ CHr Z EL s.vm s.heap s₂.vm s₂.heap ∧ ReturnedEndW s o s₂ L kc ks := by
  obtain ⟨s₂, L, h1, h2, h3, h4, h5, -, h6, h7⟩ := w.out hv hlk hret
  exact ⟨s₂, _, h1, h2, h3, v, L, rfl, ⟨h4 ▸ hQ, h4 ▸ hK, h5⟩, h7, h6.1, h6.2.1, h6.2.2.1, h6.2.2.2.mono hc hl⟩
end OwnWide
end Jvm.Pilot.@@N@@
namespace Jvm.Pilot.@@N@@
open Jvm Jvm.ClassFile Sem Op Lib Jvm.Free Jvm.Stand Jvm.LawKit Jvm.RoadKit Bundle Jvm.Pilot.@@N@@.Jvm.D
section OwnStrB
variable {p : Program} {l : Launch} {e : Env} {R : Room} {s : State} {args : Array Value} {below : List Frame} {Z : State} {a0 : Array Value} {n0 : Nat} {h h' : Heap} {W : Nat} {x : Nat} {cs : List Int32} {b : Nat}
theorem up255 {c : Int32} (q : ¬ (255 : Int32) < c) : ¬ (65535 : Int32) < c := fun r => q (by rw [Int32.lt_iff_toInt_lt] at r ⊢; have e1 : (65535 : Int32).toInt = 65535 := rfl; have e2 : (255 : Int32).toInt = 255 := rfl; omega)
/-- the object x is a String of Latin-1 chars cs; it and its bytes lie below b -/
def Str (Z : State) (h : Heap) (x : Nat) (cs : List Int32) (b : Nat) : Prop := ∃ (t : Nat) (kb : ClassId), Exa Z h x "java/lang/String" ∧ Fld Z h x "java/lang/String" "value" "[B" (.ref t) ∧ Fld Z h x "java/lang/String" "coder" "B" (.int 0) ∧ Arv Z h t kb .byte (Int32.ofNat cs.length) ((cs.map (fun c => c.toInt8.toInt32)).map Value.int) (.int 0) ∧ (∀ c ∈ cs, ¬ c < 0 ∧ ¬ (255 : Int32) < c) ∧ cs.length ≤ 4000 ∧ b > x ∧ b > t
theorem Str.exa (F : Str Z h x cs b) : Exa Z h x "java/lang/String" := by obtain ⟨t, kb, E, r⟩ := F; exact E
theorem Str.lt (F : Str Z h x cs b) : b > x := by obtain ⟨t, kb, -, -, -, -, -, -, q, -⟩ := F; exact q
theorem Str.rng (F : Str Z h x cs b) : ∀ c ∈ cs, ¬ c < 0 ∧ ¬ (255 : Int32) < c := by obtain ⟨t, kb, -, -, -, -, q, -⟩ := F; exact q
theorem Str.len (F : Str Z h x cs b) : cs.length ≤ 4000 := by obtain ⟨t, kb, -, -, -, -, -, q, -⟩ := F; exact q
theorem Str.more (F : Str Z h x cs b) {b' : Nat} (q : b ≤ b') : Str Z h x cs b' := by
  obtain ⟨t, kb, E, V, C, K, r2, r3, r4, r5⟩ := F
  exact ⟨t, kb, E, V, C, K, r2, r3, Nat.lt_of_lt_of_le r4 q, Nat.lt_of_lt_of_le r5 q⟩
theorem Str.ext (F : Str Z h x cs b) (X : Ext h h') : Str Z h' x cs b := by
  obtain ⟨t, kb, E, V, C, K, r⟩ := F
  exact ⟨t, kb, E.ext X, V.ext X, C.ext X, K.ext X, r⟩
theorem Str.keep (F : Str Z h x cs b) {ws : List Addr} (X : Keep h h' ws) (q : ∀ y ∈ ws, b ≤ y) : Str Z h' x cs b := by
  obtain ⟨t, kb, E, V, C, K, r2, r3, r4, r5⟩ := F
  have nx : x ∉ ws := fun z => by have := q x z; omega
  have nt : t ∉ ws := fun z => by have := q t z; omega
  exact ⟨t, kb, E.keep X, V.keep X nx, C.keep X nx, K.keep X nt, r2, r3, r4, r5⟩
theorem Str.wr (F : Str Z h x cs b) {a : Addr} {sl : Nat} {v : Value} (X : Wr h h' a sl v) (q : b ≤ a) : Str Z h' x cs b := F.keep (Keep.of_wr X) (fun y hy => by cases List.mem_singleton.mp hy; exact q)
theorem Str.keepO (F : Str Z h x cs b) {y : Nat} (X : Keep h h' [y]) {C : String} {n : Nat} (E : Exa Z h y C) (hC : C ≠ "java/lang/String") (wi : (Jvm.Cond.instantiable C n).before a0 Z = true) : Str Z h' x cs b := by
  obtain ⟨t, kb, E', V, C', K, r2, r3, r4, r5⟩ := F
  have nx : x ∉ [y] := fun z => by cases List.mem_singleton.mp z; exact Exa.ne E E' hC rfl
  have nt : t ∉ [y] := fun z => by cases List.mem_singleton.mp z; exact Exa.neArv E K wi rfl
  exact ⟨t, kb, E'.keep X, V.keep X nx, C'.keep X nx, K.keep X nt, r2, r3, r4, r5⟩
theorem Str.of (E : Exa Z h x "java/lang/String") {t : Addr} {kb : ClassId} {z : Int32} {vs : List Value} (V : Fld Z h x "java/lang/String" "value" "[B" (.ref t)) (C : Fld Z h x "java/lang/String" "coder" "B" (.int 0)) (K : Arv Z h t kb .byte z vs (.int 0)) (hz : z = Int32.ofNat cs.length) (hv : vs = (cs.map (fun c => c.toInt8.toInt32)).map Value.int) (hp : ∀ c ∈ cs, ¬ c < 0 ∧ ¬ (255 : Int32) < c) (hl : cs.length ≤ 4000) (h1 : b > x) (h2 : b > t) : Str Z h x cs b :=
  ⟨t, kb, E, V, C, by subst hz hv; exact K, hp, hl, h1, h2⟩
end OwnStrB
end Jvm.Pilot.@@N@@
namespace Jvm.Pilot.@@N@@
open Jvm Jvm.ClassFile Sem Op Lib Jvm.Free Jvm.Stand Jvm.LawKit Jvm.RoadKit Bundle Jvm.Pilot.@@N@@.Jvm.D
section OwnStr
variable {p : Program} {l : Launch} {e : Env} {R : Room} {s : State} {args : Array Value} {below : List Frame} {Z : State} {a0 : Array Value} {n0 : Nat} {h h' : Heap} {W : Nat}
theorem nar_i2c (x : Int32) : nar .char (x.toUInt32.toUInt16.toUInt32.toInt32) = x.toUInt32.toUInt16.toUInt32.toInt32 := by simp only [nar, UInt32.toUInt32_toInt32, UInt16.toUInt16_toUInt32]
theorem nar_255 (x : Int32) : nar .char (x &&& (255 : Int32)) = x &&& (255 : Int32) := i2c_mask x
theorem and255_rng (x : Int32) : ¬ (x &&& (255 : Int32)) < 0 ∧ ¬ (255 : Int32) < (x &&& (255 : Int32)) := by
  have q := c_and x (255 : Int32) (by decide)
  have e1 : (255 : Int32).toInt = 255 := rfl
  have e2 : (0 : Int32).toInt = 0 := rfl
  simp only [Int32.lt_iff_toInt_lt, e1, e2] at q ⊢
  omega
theorem rng_ite {P : Prop} [Decidable P] {a b : Int32} (h1 : ¬ a < 0 ∧ ¬ (255 : Int32) < a) (h2 : ¬ b < 0 ∧ ¬ (255 : Int32) < b) : ¬ (if P then a else b) < 0 ∧ ¬ (255 : Int32) < (if P then a else b) := by split <;> assumption
theorem nar_rng {x : Int32} (h : ¬ x < 0 ∧ ¬ (255 : Int32) < x) : nar .char x = x := by
  have e : x = x &&& 255 := by
    apply Int32.toInt_inj.mp
    have q := c_mask x 255 8 (by decide) (by decide)
    simp only [Int32.lt_iff_toInt_lt, show (255 : Int32).toInt = 255 from rfl, show (0 : Int32).toInt = 0 from rfl] at h
    rw [q]; omega
  rw [e]; exact nar_255 x
/-- the JDK's statics that the sheet's sets name -/
def SetsOk (Z : State) : Prop := ∃ (G1 : Int32) (G3 : Value), Sta Z Z.heap "java/lang/String" "COMPACT_STRINGS" "Z" (.int G1) ∧ ¬ (G1 = (0 : Int32)) ∧ Sta Z Z.heap "jdk/internal/util/Preconditions" "SIOOBE_FORMATTER" "Ljava/util/function/BiFunction;" G3 ∧ G3.isRef = true
theorem payNew (hG : SetsOk Z) (hZ : Z.Warmed39 s.vm) (hws : ∀ d ∈ StrChars.Road.words, d.before a0 Z = true) (wi : (Jvm.Cond.instantiable "java/lang/String" 4).before a0 Z = true)
    {x b : Nat} {kC : ClassId} {d v0 c0 : Value} {N : Int32} (cs : List Int32) (n : Nat) (hx0 : n0 ≤ x) (E : Exa Z h x "java/lang/String") (V : Fld Z h x "java/lang/String" "value" "[B" v0) (C : Fld Z h x "java/lang/String" "coder" "B" c0) (K : Arv Z h b kC .char N (cs.map Value.int) d) (X0 : Old Z n0 h)
    (hn : cs.length = n) (hN : N = Int32.ofNat n) (l0 : 0 < n) (l2 : n ≤ 4000) (hp : ∀ c ∈ cs, ¬ c < 0 ∧ ¬ (255 : Int32) < c) (hfr : 4 ≤ R.frames) (hlo : W + 65 ≤ R.locals) :
    Pay l R p e below s args (⟨"java/lang/String", "<init>", "([C)V"⟩ : MethodName) W [.ref x, .ref b] h 1 n n0 [x] (fun v h' => v = none ∧ Str Z h' x cs h'.size) := by
  obtain ⟨G1, G3, S1, P1, -, -⟩ := hG
  refine Back.mono (StrChars.Road.backV (n0 := n0) (bs := cs.map (fun c => c.toInt8.toInt32)) hZ hws wi hx0 (by have := X0.1; have := X0.2.1; omega) E V C K (S1.ext X0.2) P1 hn hN l0 l2 hp rfl hfr hlo) (fun P a hp => hp) (fun P a v B hp' hq => ?_)
  obtain ⟨L, ⟨q1, q2, q3, q4, q5, t, kb, q6, q7, q8, q9, q10⟩, r1, r2, r3⟩ := hq
  exact ⟨L, ⟨⟨q1, Str.of q4 q9 q5 q10 (by rw [hN, hn]) rfl hp (by omega) q4.lt q10.lt⟩, q3, q2⟩, r1, r2, r3⟩
end OwnStr
end Jvm.Pilot.@@N@@
namespace Jvm.Pilot.@@N@@
open Jvm Jvm.ClassFile Sem Op Lib Jvm.Free Jvm.Stand Jvm.LawKit Jvm.RoadKit Bundle Jvm.Pilot.@@N@@.Jvm.D
section OwnPay
variable {p : Program} {l : Launch} {e : Env} {R : Room} {s : State} {args : Array Value} {below : List Frame} {Z : State} {a0 : Array Value} {n0 : Nat} {h h' : Heap} {W : Nat} {x : Nat} {cs : List Int32} {b : Nat}
theorem payEq (hG : SetsOk Z) (hZ : Z.Warmed39 s.vm) (hws : ∀ d ∈ StrChars.Road.wordsEq, d.before a0 Z = true) (wi : (Jvm.Cond.instantiable "java/lang/String" 4).before a0 Z = true) (F : Str Z h x cs b) {y : Nat} {ds : List Int32} {b' : Nat} (F' : Str Z h y ds b') (X0 : Old Z n0 h) (hfr : 2 ≤ R.frames) (hlo : W + 28 ≤ R.locals) :
    Pay l R p e below s args (⟨"java/lang/String", "equals", "(Ljava/lang/Object;)Z"⟩ : MethodName) W [.ref x, .ref y] h 0 0 n0 [] (fun v h' => v = some (.int (if cs = ds then 1 else 0)) ∧ h = h') := by
  obtain ⟨G1, G3, S1, P1, -, -⟩ := hG
  obtain ⟨t, kb, E, V, C, K, r2, r3, r4, r5⟩ := F
  have r1 := StrChars.Road.codOf (cs := cs) rfl (fun c hc => (r2 c hc).2)
  have r2' : ∀ c ∈ cs, ¬ c < 0 ∧ ¬ (65535 : Int32) < c := fun c hc => ⟨(r2 c hc).1, up255 (r2 c hc).2⟩
  obtain ⟨t', kb', E', V', C', K', u2, u3, u4, u5⟩ := F'
  have u1 := StrChars.Road.codOf (cs := ds) rfl (fun c hc => (u2 c hc).2)
  have u2' : ∀ c ∈ ds, ¬ c < 0 ∧ ¬ (65535 : Int32) < c := fun c hc => ⟨(u2 c hc).1, up255 (u2 c hc).2⟩
  refine Back.mono (StrChars.Road.eqW hZ hws wi E V C K r1 r2' r3 E' V' C' K' u1 u2' u3 (S1.ext X0.2) P1 hfr hlo) (fun P a hp => hp) (fun P a v B hp hq => ?_)
  obtain ⟨L, ⟨q1, rfl, q3⟩, s1, s2, s3⟩ := hq
  refine ⟨[], ⟨⟨?_, q3.symm⟩, by rw [q3]; exact Keep.refl _ _, Fr.nil _⟩, s1, s2, s3⟩
  rcases q1 with ⟨q, r⟩ | ⟨q, r⟩
  · rw [q, if_pos r]
  · rw [q, if_neg r]
end OwnPay
end Jvm.Pilot.@@N@@
namespace Jvm.Pilot.@@N@@
open Jvm Jvm.ClassFile Sem Op Lib Jvm.Free Jvm.Stand Jvm.LawKit Jvm.RoadKit Bundle Jvm.Pilot.@@N@@.Jvm.D
def own_desc (p0 : Int32) : Int32 := (if (((p0.toUInt32 >>> ((8 : Int32) &&& 31).toUInt32).toInt32) &&& (1 : Int32)) = (0 : Int32) then (p0 &&& (255 : Int32)) else (1 : Int32))
theorem d1_0 : decode method_3_code 0 = .ok (.iload_n 0, 1) := by decide +kernel
theorem d1_1 : decode method_3_code 1 = .ok (.bipush 8, 2) := by decide +kernel
theorem d1_3 : decode method_3_code 3 = .ok (.iushr, 1) := by decide +kernel
theorem d1_4 : decode method_3_code 4 = .ok (.iconst 1, 1) := by decide +kernel
theorem d1_5 : decode method_3_code 5 = .ok (.iand, 1) := by decide +kernel
theorem d1_6 : decode method_3_code 6 = .ok (.ifCond .eq 7, 3) := by decide +kernel
theorem d1_9 : decode method_3_code 9 = .ok (.iconst 1, 1) := by decide +kernel
theorem d1_10 : decode method_3_code 10 = .ok (.goto 8, 3) := by decide +kernel
theorem d1_13 : decode method_3_code 13 = .ok (.iload_n 0, 1) := by decide +kernel
theorem d1_14 : decode method_3_code 14 = .ok (.sipush 255, 3) := by decide +kernel
theorem d1_17 : decode method_3_code 17 = .ok (.iand, 1) := by decide +kernel
theorem d1_18 : decode method_3_code 18 = .ok (.ireturn, 1) := by decide +kernel
theorem ef1 (m : MethodId) (x0 : Int32) : entryFrame m #[(.int x0)] 1 = mkF m 0 #[.val (.int x0)] [] := by first | (simp [entryFrame, mkF, argsToLocals, Value.category, maxLocals]; done) | rfl
theorem pn_0 : plainFor (⟨"com/example/dole/dole/model/GrantMatchesPinLaw", "desc", "(I)I"⟩ : MethodName) = true := by first | decide +kernel | (apply plainFor_of_name; simp [plainName, overriddenIn]; done)
set_option maxRecDepth 65536 in
set_option maxHeartbeats 40000000 in
theorem rm1 (l : Launch) (Z : State) (a0 : Array Value) (hw : ∀ d ∈ tables_1, d.before a0 Z = true) (p0 : Int32) (h0 : Heap) (n0 : Nat) (Z0 : n0 ≤ h0.size)  :
    NMet l Z (⟨"com/example/dole/dole/model/GrantMatchesPinLaw", "desc", "(I)I"⟩ : MethodName) method_3_code 1 (some .int) [] ({ frames := 0, cells := 0, slots := 0, locals := 0 } : Room) [(.int p0)] h0 n0 [] (fun v h => v = some (.int (own_desc p0)) ∧ h0 = h) := by
  refine MetFree.of_bodySF pn_0 hisR ?_
  intro p e s m args below meth c s₁ Bd hml0 hP hK
  obtain ⟨rfl, hZ, hh⟩ := hP
  have hx := Bd.exec
  have hby := Bd.bytes
  have hml : c.maxLocals = 1 := hml0
  have hnm := (name_of_methodNamed Bd.named Bd.method).1
  have w0 := Wk.start (a0 := a0) (EL := []) (n0 := n0) (nw := true) Bd hZ hh EW.nil chv0 (ef1 m p0) ({ frames := 0, cells := 0, slots := 0, locals := 0 } : Room) rfl
  have K0 : Keep h0 h0 [] := Keep.refl _ _
  have w1 := w0.pure (mkF m 6 #[.val (.int p0)] [(.int (((p0.toUInt32 >>> ((8 : Int32) &&& 31).toUInt32).toInt32) &&& (1 : Int32)))]) (fun X eT hZ hown k => by
      show Steps _ _ _ (State.setTop _ (mkF m 0 #[.val (.int p0)] [])) _
      refine S.iloadN X.here hx (hb hby d1_0) rfl ?_
      refine S.bipush X.here hx (8 : Int32) (hb hby d1_1) rfl ?_
      refine S.iushr X.here hx (hb hby d1_3) ?_
      refine S.iconst X.here hx (1 : Int32) (hb hby d1_4) rfl ?_
      refine S.iand X.here hx (hb hby d1_5) ?_
      exact k)
  by_cases hc2 : (((p0.toUInt32 >>> ((8 : Int32) &&& 31).toUInt32).toInt32) &&& (1 : Int32)) = (0 : Int32)
  · have w3 := w1.pure (mkF m 18 #[.val (.int p0)] [(.int (p0 &&& (255 : Int32)))]) (fun X eT hZ hown k => by
        show Steps _ _ _ (State.setTop _ (mkF m 6 #[.val (.int p0)] [(.int (((p0.toUInt32 >>> ((8 : Int32) &&& 31).toUInt32).toInt32) &&& (1 : Int32)))])) _
        refine S.ifYes X.here hx 13 (hb hby d1_6) ((if0 _ _).trans (teq hc2).1) (by decide) (by decide) ?_
        refine S.iloadN X.here hx (hb hby d1_13) rfl ?_
        refine S.sipush X.here hx (255 : Int32) (hb hby d1_14) rfl ?_
        refine S.iand X.here hx (hb hby d1_17) ?_
        exact k)
    exact w3.endN (v := some (.int (p0 &&& (255 : Int32)))) (Q := (fun v h => v = some (.int (own_desc p0)) ∧ h0 = h)) (wr := []) (h0 := h0) (fun h => by rw [Bd.returns] at h; cases h) Bd.notSynchronized (fun X hr => retI X hx Bd.returns (hb hby d1_18) hr) (by decide) (by decide) ⟨by simp only [own_desc, if_pos hc2], rfl⟩ K0
  · have w4 := w1.pure (mkF m 18 #[.val (.int p0)] [(.int (1 : Int32))]) (fun X eT hZ hown k => by
        show Steps _ _ _ (State.setTop _ (mkF m 6 #[.val (.int p0)] [(.int (((p0.toUInt32 >>> ((8 : Int32) &&& 31).toUInt32).toInt32) &&& (1 : Int32)))])) _
        refine S.ifNo X.here hx (hb hby d1_6) ((if0 _ _).trans (feq hc2).1) ?_
        refine S.iconst X.here hx (1 : Int32) (hb hby d1_9) rfl ?_
        refine S.goto X.here hx 18 (hb hby d1_10) (by decide) (by decide) ?_
        exact k)
    exact w4.endN (v := some (.int (1 : Int32))) (Q := (fun v h => v = some (.int (own_desc p0)) ∧ h0 = h)) (wr := []) (h0 := h0) (fun h => by rw [Bd.returns] at h; cases h) Bd.notSynchronized (fun X hr => retI X hx Bd.returns (hb hby d1_18) hr) (by decide) (by decide) ⟨by simp only [own_desc, if_neg hc2], rfl⟩ K0
def own_len (p0 : Int32) : Int32 := (p0 &&& (3 : Int32))
theorem d3_0 : decode method_4_code 0 = .ok (.iload_n 0, 1) := by decide +kernel
theorem d3_1 : decode method_4_code 1 = .ok (.iconst 3, 1) := by decide +kernel
theorem d3_2 : decode method_4_code 2 = .ok (.iand, 1) := by decide +kernel
theorem d3_3 : decode method_4_code 3 = .ok (.ireturn, 1) := by decide +kernel
theorem ef3 (m : MethodId) (x0 : Int32) : entryFrame m #[(.int x0)] 1 = mkF m 0 #[.val (.int x0)] [] := by first | (simp [entryFrame, mkF, argsToLocals, Value.category, maxLocals]; done) | rfl
theorem pn_1 : plainFor (⟨"com/example/dole/dole/model/GrantMatchesPinLaw", "len", "(I)I"⟩ : MethodName) = true := by first | decide +kernel | (apply plainFor_of_name; simp [plainName, overriddenIn]; done)
set_option maxRecDepth 65536 in
set_option maxHeartbeats 40000000 in
theorem rm3 (l : Launch) (Z : State) (a0 : Array Value) (hw : ∀ d ∈ tables_1, d.before a0 Z = true) (p0 : Int32) (h0 : Heap) (n0 : Nat) (Z0 : n0 ≤ h0.size)  :
    NMet l Z (⟨"com/example/dole/dole/model/GrantMatchesPinLaw", "len", "(I)I"⟩ : MethodName) method_4_code 1 (some .int) [] ({ frames := 0, cells := 0, slots := 0, locals := 0 } : Room) [(.int p0)] h0 n0 [] (fun v h => v = some (.int (own_len p0)) ∧ h0 = h) := by
  refine MetFree.of_bodySF pn_1 hisR ?_
  intro p e s m args below meth c s₁ Bd hml0 hP hK
  obtain ⟨rfl, hZ, hh⟩ := hP
  have hx := Bd.exec
  have hby := Bd.bytes
  have hml : c.maxLocals = 1 := hml0
  have hnm := (name_of_methodNamed Bd.named Bd.method).1
  have w0 := Wk.start (a0 := a0) (EL := []) (n0 := n0) (nw := true) Bd hZ hh EW.nil chv0 (ef3 m p0) ({ frames := 0, cells := 0, slots := 0, locals := 0 } : Room) rfl
  have K0 : Keep h0 h0 [] := Keep.refl _ _
  have w1 := w0.pure (mkF m 3 #[.val (.int p0)] [(.int (p0 &&& (3 : Int32)))]) (fun X eT hZ hown k => by
      show Steps _ _ _ (State.setTop _ (mkF m 0 #[.val (.int p0)] [])) _
      refine S.iloadN X.here hx (hb hby d3_0) rfl ?_
      refine S.iconst X.here hx (3 : Int32) (hb hby d3_1) rfl ?_
      refine S.iand X.here hx (hb hby d3_2) ?_
      exact k)
  exact w1.endN (v := some (.int (p0 &&& (3 : Int32)))) (Q := (fun v h => v = some (.int (own_len p0)) ∧ h0 = h)) (wr := []) (h0 := h0) (fun h => by rw [Bd.returns] at h; cases h) Bd.notSynchronized (fun X hr => retI X hx Bd.returns (hb hby d3_3) hr) (by decide) (by decide) ⟨by simp only [own_len], rfl⟩ K0
def own_code (p0 : Int32) (p1 : Int32) : Int32 := (((p0.toUInt32 >>> (((2 : Int32) + ((2 : Int32) * p1)) &&& 31).toUInt32).toInt32) &&& (3 : Int32))
theorem d4_0 : decode method_5_code 0 = .ok (.iload_n 0, 1) := by decide +kernel
theorem d4_1 : decode method_5_code 1 = .ok (.iconst 2, 1) := by decide +kernel
theorem d4_2 : decode method_5_code 2 = .ok (.iconst 2, 1) := by decide +kernel
theorem d4_3 : decode method_5_code 3 = .ok (.iload_n 1, 1) := by decide +kernel
theorem d4_4 : decode method_5_code 4 = .ok (.imul, 1) := by decide +kernel
theorem d4_5 : decode method_5_code 5 = .ok (.iadd, 1) := by decide +kernel
theorem d4_6 : decode method_5_code 6 = .ok (.iushr, 1) := by decide +kernel
theorem d4_7 : decode method_5_code 7 = .ok (.iconst 3, 1) := by decide +kernel
theorem d4_8 : decode method_5_code 8 = .ok (.iand, 1) := by decide +kernel
theorem d4_9 : decode method_5_code 9 = .ok (.ireturn, 1) := by decide +kernel
theorem ef4 (m : MethodId) (x0 : Int32) (x1 : Int32) : entryFrame m #[(.int x0), (.int x1)] 2 = mkF m 0 #[.val (.int x0), .val (.int x1)] [] := by first | (simp [entryFrame, mkF, argsToLocals, Value.category, maxLocals]; done) | rfl
theorem pn_2 : plainFor (⟨"com/example/dole/dole/model/GrantMatchesPinLaw", "code", "(II)I"⟩ : MethodName) = true := by first | decide +kernel | (apply plainFor_of_name; simp [plainName, overriddenIn]; done)
set_option maxRecDepth 65536 in
set_option maxHeartbeats 40000000 in
theorem rm4 (l : Launch) (Z : State) (a0 : Array Value) (hw : ∀ d ∈ tables_1, d.before a0 Z = true) (p0 : Int32) (p1 : Int32) (h0 : Heap) (n0 : Nat) (Z0 : n0 ≤ h0.size)  :
    NMet l Z (⟨"com/example/dole/dole/model/GrantMatchesPinLaw", "code", "(II)I"⟩ : MethodName) method_5_code 2 (some .int) [] ({ frames := 0, cells := 0, slots := 0, locals := 0 } : Room) [(.int p0), (.int p1)] h0 n0 [] (fun v h => v = some (.int (own_code p0 p1)) ∧ h0 = h) := by
  refine MetFree.of_bodySF pn_2 hisR ?_
  intro p e s m args below meth c s₁ Bd hml0 hP hK
  obtain ⟨rfl, hZ, hh⟩ := hP
  have hx := Bd.exec
  have hby := Bd.bytes
  have hml : c.maxLocals = 2 := hml0
  have hnm := (name_of_methodNamed Bd.named Bd.method).1
  have w0 := Wk.start (a0 := a0) (EL := []) (n0 := n0) (nw := true) Bd hZ hh EW.nil chv0 (ef4 m p0 p1) ({ frames := 0, cells := 0, slots := 0, locals := 0 } : Room) rfl
  have K0 : Keep h0 h0 [] := Keep.refl _ _
  have w1 := w0.pure (mkF m 9 #[.val (.int p0), .val (.int p1)] [(.int (((p0.toUInt32 >>> (((2 : Int32) + ((2 : Int32) * p1)) &&& 31).toUInt32).toInt32) &&& (3 : Int32)))]) (fun X eT hZ hown k => by
      show Steps _ _ _ (State.setTop _ (mkF m 0 #[.val (.int p0), .val (.int p1)] [])) _
      refine S.iloadN X.here hx (hb hby d4_0) rfl ?_
      refine S.iconst X.here hx (2 : Int32) (hb hby d4_1) rfl ?_
      refine S.iconst X.here hx (2 : Int32) (hb hby d4_2) rfl ?_
      refine S.iloadN X.here hx (hb hby d4_3) rfl ?_
      refine S.imul X.here hx (hb hby d4_4) ?_
      refine S.iadd X.here hx (hb hby d4_5) ?_
      refine S.iushr X.here hx (hb hby d4_6) ?_
      refine S.iconst X.here hx (3 : Int32) (hb hby d4_7) rfl ?_
      refine S.iand X.here hx (hb hby d4_8) ?_
      exact k)
  exact w1.endN (v := some (.int (((p0.toUInt32 >>> (((2 : Int32) + ((2 : Int32) * p1)) &&& 31).toUInt32).toInt32) &&& (3 : Int32)))) (Q := (fun v h => v = some (.int (own_code p0 p1)) ∧ h0 = h)) (wr := []) (h0 := h0) (fun h => by rw [Bd.returns] at h; cases h) Bd.notSynchronized (fun X hr => retI X hx Bd.returns (hb hby d4_9) hr) (by decide) (by decide) ⟨by simp only [own_code], rfl⟩ K0
def own_ch (p0 : Int32) : Int32 := (if p0 = (0 : Int32) then (42 : Int32) else (if p0 = (1 : Int32) then (97 : Int32) else (if p0 = (2 : Int32) then (65 : Int32) else (98 : Int32))))
theorem d5_0 : decode method_6_code 0 = .ok (.iload_n 0, 1) := by decide +kernel
theorem d5_1 : decode method_6_code 1 = .ok (.ifCond .ne 6, 3) := by decide +kernel
theorem d5_4 : decode method_6_code 4 = .ok (.bipush 42, 2) := by decide +kernel
theorem d5_6 : decode method_6_code 6 = .ok (.ireturn, 1) := by decide +kernel
theorem d5_7 : decode method_6_code 7 = .ok (.iload_n 0, 1) := by decide +kernel
theorem d5_8 : decode method_6_code 8 = .ok (.iconst 1, 1) := by decide +kernel
theorem d5_9 : decode method_6_code 9 = .ok (.if_icmp .ne 6, 3) := by decide +kernel
theorem d5_12 : decode method_6_code 12 = .ok (.bipush 97, 2) := by decide +kernel
theorem d5_14 : decode method_6_code 14 = .ok (.ireturn, 1) := by decide +kernel
theorem d5_15 : decode method_6_code 15 = .ok (.iload_n 0, 1) := by decide +kernel
theorem d5_16 : decode method_6_code 16 = .ok (.iconst 2, 1) := by decide +kernel
theorem d5_17 : decode method_6_code 17 = .ok (.if_icmp .ne 6, 3) := by decide +kernel
theorem d5_20 : decode method_6_code 20 = .ok (.bipush 65, 2) := by decide +kernel
theorem d5_22 : decode method_6_code 22 = .ok (.ireturn, 1) := by decide +kernel
theorem d5_23 : decode method_6_code 23 = .ok (.bipush 98, 2) := by decide +kernel
theorem d5_25 : decode method_6_code 25 = .ok (.ireturn, 1) := by decide +kernel
theorem ef5 (m : MethodId) (x0 : Int32) : entryFrame m #[(.int x0)] 1 = mkF m 0 #[.val (.int x0)] [] := by first | (simp [entryFrame, mkF, argsToLocals, Value.category, maxLocals]; done) | rfl
theorem pn_3 : plainFor (⟨"com/example/dole/dole/model/GrantMatchesPinLaw", "ch", "(I)C"⟩ : MethodName) = true := by first | decide +kernel | (apply plainFor_of_name; simp [plainName, overriddenIn]; done)
set_option maxRecDepth 65536 in
set_option maxHeartbeats 40000000 in
theorem rm5 (l : Launch) (Z : State) (a0 : Array Value) (hw : ∀ d ∈ tables_1, d.before a0 Z = true) (p0 : Int32) (h0 : Heap) (n0 : Nat) (Z0 : n0 ≤ h0.size)  :
    NMet l Z (⟨"com/example/dole/dole/model/GrantMatchesPinLaw", "ch", "(I)C"⟩ : MethodName) method_6_code 1 (some .char) [] ({ frames := 0, cells := 0, slots := 0, locals := 0 } : Room) [(.int p0)] h0 n0 [] (fun v h => v = some (.int (own_ch p0)) ∧ h0 = h) := by
  refine MetFree.of_bodySF pn_3 hisR ?_
  intro p e s m args below meth c s₁ Bd hml0 hP hK
  obtain ⟨rfl, hZ, hh⟩ := hP
  have hx := Bd.exec
  have hby := Bd.bytes
  have hml : c.maxLocals = 1 := hml0
  have hnm := (name_of_methodNamed Bd.named Bd.method).1
  have w0 := Wk.start (a0 := a0) (EL := []) (n0 := n0) (nw := true) Bd hZ hh EW.nil chv0 (ef5 m p0) ({ frames := 0, cells := 0, slots := 0, locals := 0 } : Room) rfl
  have K0 : Keep h0 h0 [] := Keep.refl _ _
  have w1 := w0.pure (mkF m 1 #[.val (.int p0)] [(.int p0)]) (fun X eT hZ hown k => by
      show Steps _ _ _ (State.setTop _ (mkF m 0 #[.val (.int p0)] [])) _
      refine S.iloadN X.here hx (hb hby d5_0) rfl ?_
      exact k)
  by_cases hc2 : p0 = (0 : Int32)
  · have w3 := w1.pure (mkF m 6 #[.val (.int p0)] [(.int (42 : Int32))]) (fun X eT hZ hown k => by
        show Steps _ _ _ (State.setTop _ (mkF m 1 #[.val (.int p0)] [(.int p0)])) _
        refine S.ifNo X.here hx (hb hby d5_1) ((if0 _ _).trans (teq hc2).2) ?_
        refine S.bipush X.here hx (42 : Int32) (hb hby d5_4) rfl ?_
        exact k)
    exact w3.endN (v := some (.int (42 : Int32))) (Q := (fun v h => v = some (.int (own_ch p0)) ∧ h0 = h)) (wr := []) (h0 := h0) (fun h => by rw [Bd.returns] at h; cases h) Bd.notSynchronized (fun X hr => retN X hx (t := .char) Bd.returns (by simp) (hb hby d5_6) hr) (by decide) (by decide) ⟨by simp only [own_ch, if_pos hc2], rfl⟩ K0
  · have w4 := w1.pure (mkF m 9 #[.val (.int p0)] [(.int (1 : Int32)), (.int p0)]) (fun X eT hZ hown k => by
        show Steps _ _ _ (State.setTop _ (mkF m 1 #[.val (.int p0)] [(.int p0)])) _
        refine S.ifYes X.here hx 7 (hb hby d5_1) ((if0 _ _).trans (feq hc2).2) (by decide) (by decide) ?_
        refine S.iloadN X.here hx (hb hby d5_7) rfl ?_
        refine S.iconst X.here hx (1 : Int32) (hb hby d5_8) rfl ?_
        exact k)
    by_cases hc5 : p0 = (1 : Int32)
    · have w6 := w4.pure (mkF m 14 #[.val (.int p0)] [(.int (97 : Int32))]) (fun X eT hZ hown k => by
          show Steps _ _ _ (State.setTop _ (mkF m 9 #[.val (.int p0)] [(.int (1 : Int32)), (.int p0)])) _
          refine S.icmpNo X.here hx (hb hby d5_9) (teq hc5).2 ?_
          refine S.bipush X.here hx (97 : Int32) (hb hby d5_12) rfl ?_
          exact k)
      exact w6.endN (v := some (.int (97 : Int32))) (Q := (fun v h => v = some (.int (own_ch p0)) ∧ h0 = h)) (wr := []) (h0 := h0) (fun h => by rw [Bd.returns] at h; cases h) Bd.notSynchronized (fun X hr => retN X hx (t := .char) Bd.returns (by simp) (hb hby d5_14) hr) (by decide) (by decide) ⟨by simp only [own_ch, if_neg hc2, if_pos hc5], rfl⟩ K0
    · have w7 := w4.pure (mkF m 17 #[.val (.int p0)] [(.int (2 : Int32)), (.int p0)]) (fun X eT hZ hown k => by
          show Steps _ _ _ (State.setTop _ (mkF m 9 #[.val (.int p0)] [(.int (1 : Int32)), (.int p0)])) _
          refine S.icmpYes X.here hx 15 (hb hby d5_9) (feq hc5).2 (by decide) (by decide) ?_
          refine S.iloadN X.here hx (hb hby d5_15) rfl ?_
          refine S.iconst X.here hx (2 : Int32) (hb hby d5_16) rfl ?_
          exact k)
      by_cases hc8 : p0 = (2 : Int32)
      · have w9 := w7.pure (mkF m 22 #[.val (.int p0)] [(.int (65 : Int32))]) (fun X eT hZ hown k => by
            show Steps _ _ _ (State.setTop _ (mkF m 17 #[.val (.int p0)] [(.int (2 : Int32)), (.int p0)])) _
            refine S.icmpNo X.here hx (hb hby d5_17) (teq hc8).2 ?_
            refine S.bipush X.here hx (65 : Int32) (hb hby d5_20) rfl ?_
            exact k)
        exact w9.endN (v := some (.int (65 : Int32))) (Q := (fun v h => v = some (.int (own_ch p0)) ∧ h0 = h)) (wr := []) (h0 := h0) (fun h => by rw [Bd.returns] at h; cases h) Bd.notSynchronized (fun X hr => retN X hx (t := .char) Bd.returns (by simp) (hb hby d5_22) hr) (by decide) (by decide) ⟨by simp only [own_ch, if_neg hc2, if_neg hc5, if_pos hc8], rfl⟩ K0
      · have w10 := w7.pure (mkF m 25 #[.val (.int p0)] [(.int (98 : Int32))]) (fun X eT hZ hown k => by
            show Steps _ _ _ (State.setTop _ (mkF m 17 #[.val (.int p0)] [(.int (2 : Int32)), (.int p0)])) _
            refine S.icmpYes X.here hx 23 (hb hby d5_17) (feq hc8).2 (by decide) (by decide) ?_
            refine S.bipush X.here hx (98 : Int32) (hb hby d5_23) rfl ?_
            exact k)
        exact w10.endN (v := some (.int (98 : Int32))) (Q := (fun v h => v = some (.int (own_ch p0)) ∧ h0 = h)) (wr := []) (h0 := h0) (fun h => by rw [Bd.returns] at h; cases h) Bd.notSynchronized (fun X hr => retN X hx (t := .char) Bd.returns (by simp) (hb hby d5_25) hr) (by decide) (by decide) ⟨by simp only [own_ch, if_neg hc2, if_neg hc5, if_neg hc8], rfl⟩ K0
theorem own_ch_rng (n : Int32) : ¬ own_ch n < 0 ∧ ¬ (255 : Int32) < own_ch n := by
  unfold own_ch
  repeat' split
  all_goals decide
theorem i2b_i2b (x : Int32) : x.toInt8.toInt32.toInt8.toInt32 = x.toInt8.toInt32 := by simp

def own_canEnc (p0 : Int32) : Int32 := (if (255 : Int32) < p0 then (0 : Int32) else (1 : Int32))
theorem dce_0 : decode jdk_43_method_3_code 0 = .ok (.iload_n 0, 1) := by decide +kernel
theorem dce_1 : decode jdk_43_method_3_code 1 = .ok (.sipush 255, 3) := by decide +kernel
theorem dce_4 : decode jdk_43_method_3_code 4 = .ok (.if_icmp .gt 7, 3) := by decide +kernel
theorem dce_7 : decode jdk_43_method_3_code 7 = .ok (.iconst 1, 1) := by decide +kernel
theorem dce_8 : decode jdk_43_method_3_code 8 = .ok (.goto 4, 3) := by decide +kernel
theorem dce_11 : decode jdk_43_method_3_code 11 = .ok (.iconst 0, 1) := by decide +kernel
theorem dce_12 : decode jdk_43_method_3_code 12 = .ok (.ireturn, 1) := by decide +kernel
theorem efce (m : MethodId) (x0 : Int32) : entryFrame m #[(.int x0)] 1 = mkF m 0 #[.val (.int x0)] [] := by first | (simp [entryFrame, mkF, argsToLocals, Value.category, maxLocals]; done) | rfl
theorem pn_4 : plainFor (⟨"java/lang/StringLatin1", "canEncode", "(C)Z"⟩ : MethodName) = true := by first | decide +kernel | (apply plainFor_of_name; simp [plainName, overriddenIn]; done)
set_option maxRecDepth 65536 in
set_option maxHeartbeats 40000000 in
theorem rmce (l : Launch) (Z : State) (a0 : Array Value) (hw : ∀ d ∈ tables_1, d.before a0 Z = true) (p0 : Int32) (h0 : Heap) (n0 : Nat) (Z0 : n0 ≤ h0.size)  :
    NMet l Z (⟨"java/lang/StringLatin1", "canEncode", "(C)Z"⟩ : MethodName) jdk_43_method_3_code 1 (some .boolean) [] ({ frames := 0, cells := 0, slots := 0, locals := 0 } : Room) [(.int p0)] h0 n0 [] (fun v h => v = some (.int (own_canEnc p0)) ∧ h0 = h) := by
  refine MetFree.of_bodySF pn_4 hisR ?_
  intro p e s m args below meth c s₁ Bd hml0 hP hK
  obtain ⟨rfl, hZ, hh⟩ := hP
  have hx := Bd.exec
  have hby := Bd.bytes
  have hml : c.maxLocals = 1 := hml0
  have hnm := (name_of_methodNamed Bd.named Bd.method).1
  have w0 := Wk.start (a0 := a0) (EL := []) (n0 := n0) (nw := true) Bd hZ hh EW.nil chv0 (efce m p0) ({ frames := 0, cells := 0, slots := 0, locals := 0 } : Room) rfl
  have K0 : Keep h0 h0 [] := Keep.refl _ _
  have w1 := w0.pure (mkF m 4 #[.val (.int p0)] [(.int (255 : Int32)), (.int p0)]) (fun X eT hZ hown k => by
      show Steps _ _ _ (State.setTop _ (mkF m 0 #[.val (.int p0)] [])) _
      refine S.iloadN X.here hx (hb hby dce_0) rfl ?_
      refine S.sipush X.here hx (255 : Int32) (hb hby dce_1) rfl ?_
      exact k)
  by_cases hc2 : (255 : Int32) < p0
  · have w3 := w1.pure (mkF m 12 #[.val (.int p0)] [(.int (0 : Int32))]) (fun X eT hZ hown k => by
        show Steps _ _ _ (State.setTop _ (mkF m 4 #[.val (.int p0)] [(.int (255 : Int32)), (.int p0)])) _
        refine S.icmpYes X.here hx 11 (hb hby dce_4) (tlt hc2).2.2.1 (by decide) (by decide) ?_
        refine S.iconst X.here hx (0 : Int32) (hb hby dce_11) rfl ?_
        exact k)
    exact w3.endN (v := some (.int (0 : Int32))) (Q := (fun v h => v = some (.int (own_canEnc p0)) ∧ h0 = h)) (wr := []) (h0 := h0) (fun h => by rw [Bd.returns] at h; cases h) Bd.notSynchronized (fun X hr => retN X hx (t := .boolean) Bd.returns (by simp) (hb hby dce_12) hr) (by decide) (by decide) ⟨by simp only [own_canEnc, if_pos hc2], rfl⟩ K0
  · have w4 := w1.pure (mkF m 12 #[.val (.int p0)] [(.int (1 : Int32))]) (fun X eT hZ hown k => by
        show Steps _ _ _ (State.setTop _ (mkF m 4 #[.val (.int p0)] [(.int (255 : Int32)), (.int p0)])) _
        refine S.icmpNo X.here hx (hb hby dce_4) (flt hc2).2.2.1 ?_
        refine S.iconst X.here hx (1 : Int32) (hb hby dce_7) rfl ?_
        refine S.goto X.here hx 12 (hb hby dce_8) (by decide) (by decide) ?_
        exact k)
    exact w4.endN (v := some (.int (1 : Int32))) (Q := (fun v h => v = some (.int (own_canEnc p0)) ∧ h0 = h)) (wr := []) (h0 := h0) (fun h => by rw [Bd.returns] at h; cases h) Bd.notSynchronized (fun X hr => retN X hx (t := .boolean) Bd.returns (by simp) (hb hby dce_12) hr) (by decide) (by decide) ⟨by simp only [own_canEnc, if_neg hc2], rfl⟩ K0
theorem own_canEnc_ne {c : Int32} (q : ¬ (255 : Int32) < c) : ¬ own_canEnc c = (0 : Int32) := by simp only [own_canEnc, if_neg q]; decide
theorem dtb_0 : decode jdk_43_method_46_code 0 = .ok (.iconst 1, 1) := by decide +kernel
theorem dtb_1 : decode jdk_43_method_46_code 1 = .ok (.newarray .byte, 2) := by decide +kernel
theorem dtb_3 : decode jdk_43_method_46_code 3 = .ok (.dup, 1) := by decide +kernel
theorem dtb_4 : decode jdk_43_method_46_code 4 = .ok (.iconst 0, 1) := by decide +kernel
theorem dtb_5 : decode jdk_43_method_46_code 5 = .ok (.iload_n 0, 1) := by decide +kernel
theorem dtb_6 : decode jdk_43_method_46_code 6 = .ok (.i2b, 1) := by decide +kernel
theorem dtb_7 : decode jdk_43_method_46_code 7 = .ok (.bastore, 1) := by decide +kernel
theorem dtb_8 : decode jdk_43_method_46_code 8 = .ok (.areturn, 1) := by decide +kernel
theorem eftb (m : MethodId) (x0 : Int32) : entryFrame m #[(.int x0)] 1 = mkF m 0 #[.val (.int x0)] [] := by first | (simp [entryFrame, mkF, argsToLocals, Value.category, maxLocals]; done) | rfl
theorem pn_5 : plainFor (⟨"java/lang/StringLatin1", "toBytes", "(C)[B"⟩ : MethodName) = true := by first | decide +kernel | (apply plainFor_of_name; simp [plainName, overriddenIn]; done)
set_option maxRecDepth 65536 in
set_option maxHeartbeats 40000000 in
theorem rmtb (l : Launch) (Z : State) (a0 : Array Value) (hw : ∀ d ∈ tables_1, d.before a0 Z = true) (p0 : Int32) (h0 : Heap) (n0 : Nat) (Z0 : n0 ≤ h0.size)  :
    NMet l Z (⟨"java/lang/StringLatin1", "toBytes", "(C)[B"⟩ : MethodName) jdk_43_method_46_code 1 (some (.array .byte)) [] ({ frames := 0, cells := 1, slots := 1, locals := 0 } : Room) [(.int p0)] h0 n0 [] (fun v h => ∃ t k, v = some (.ref t) ∧ h0.size ≤ t ∧ Arv Z h t k .byte (1 : Int32) [(.int (p0.toInt8.toInt32))] (.int (0 : Int32))) := by
  refine MetFree.of_bodySF pn_5 hisR ?_
  intro p e s m args below meth c s₁ Bd hml0 hP hK
  obtain ⟨rfl, hZ, hh⟩ := hP
  have hx := Bd.exec
  have hby := Bd.bytes
  have hml : c.maxLocals = 1 := hml0
  have hnm := (name_of_methodNamed Bd.named Bd.method).1
  have w0 := Wk.start (a0 := a0) (EL := []) (n0 := n0) (nw := true) Bd hZ hh EW.nil chv0 (eftb m p0) ({ frames := 0, cells := 1, slots := 1, locals := 0 } : Room) rfl
  have K0 : Keep h0 h0 [] := Keep.refl _ _
  have w1 := w0.pure (mkF m 1 #[.val (.int p0)] [(.int (1 : Int32))]) (fun X eT hZ hown k => by
      show Steps _ _ _ (State.setTop _ (mkF m 0 #[.val (.int p0)] [])) _
      refine S.iconst X.here hx (1 : Int32) (hb hby dtb_0) rfl ?_
      exact k)
  obtain ⟨b2, h2, k2, g2, E2, l2, A2, y2, w2⟩ := w1.newP hx (hw _ (List.mem_of_getElem? (i := 34) rfl)) rfl (hb hby dtb_1) rfl (by decide) 1 (by decide) (by decide) (by decide) (by decide) (fun xq => (mkF m 3 #[.val (.int p0)] (.ref xq :: []))) (fun _ => rfl)
  have z2 := E2.1
  have K3 : Keep h0 h2 [] := K0.ext E2
  have V2 : Arv Z h2 b2 k2 .byte (1 : Int32) [(.int (0 : Int32))] (.int (0 : Int32)) := A2.pad (pad_rep [] (.int (0 : Int32)) 1)
  have w4 := w2.pure (mkF m 7 #[.val (.int p0)] [(.int (p0.toInt8.toInt32)), (.int (0 : Int32)), (.ref b2), (.ref b2)]) (fun X eT hZ hown k => by
      show Steps _ _ _ (State.setTop _ (mkF m 3 #[.val (.int p0)] [(.ref b2)])) _
      refine S.dup X.here hx (hb hby dtb_3) rfl ?_
      refine S.iconst X.here hx (0 : Int32) (hb hby dtb_4) rfl ?_
      refine S.iloadN X.here hx (hb hby dtb_5) rfl ?_
      refine S.i2b X.here hx (hb hby dtb_6) ?_
      exact k)
  obtain ⟨h5, W5, z5, V5, w5⟩ := w4.stB hx V2 safe0 0 rfl (Nat.le_of_ble_eq_true rfl) ⟨by decide, by decide⟩ rfl rfl (hb hby dtb_7) (by omega) (mkF m 8 #[.val (.int p0)] [(.ref b2)]) rfl
  rw [i2b_i2b] at V5
  have U5 : Arv Z h5 b2 k2 .byte (1 : Int32) [(.int (p0.toInt8.toInt32))] (.int (0 : Int32)) := V5
  have K6 : Keep h0 h5 [] := K3.wr W5 (Or.inr (by omega))
  exact w5.endN (v := some (.ref b2)) (Q := (fun v h => ∃ t k, v = some (.ref t) ∧ h0.size ≤ t ∧ Arv Z h t k .byte (1 : Int32) [(.int (p0.toInt8.toInt32))] (.int (0 : Int32)))) (wr := []) (h0 := h0) (fun h => by rw [Bd.returns] at h; cases h) Bd.notSynchronized (fun X hr => X.areturnOut hx rfl Bd.returns rfl (hb hby dtb_8) hr) (by decide) (by decide) ⟨b2, k2, rfl, by omega, U5⟩ K6
theorem dbb_0 : decode jdk_42_method_151_code 0 = .ok (.aload_n 0, 1) := by decide +kernel
theorem dbb_1 : decode jdk_42_method_151_code 1 = .ok (.invokespecial 1, 3) := by decide +kernel
theorem dbb_4 : decode jdk_42_method_151_code 4 = .ok (.aload_n 0, 1) := by decide +kernel
theorem dbb_5 : decode jdk_42_method_151_code 5 = .ok (.aload_n 1, 1) := by decide +kernel
theorem dbb_6 : decode jdk_42_method_151_code 6 = .ok (.putfield 9, 3) := by decide +kernel
theorem dbb_9 : decode jdk_42_method_151_code 9 = .ok (.aload_n 0, 1) := by decide +kernel
theorem dbb_10 : decode jdk_42_method_151_code 10 = .ok (.iload_n 2, 1) := by decide +kernel
theorem dbb_11 : decode jdk_42_method_151_code 11 = .ok (.putfield 15, 3) := by decide +kernel
theorem dbb_14 : decode jdk_42_method_151_code 14 = .ok (.return_, 1) := by decide +kernel
theorem efbb (m : MethodId) (x0 : Nat) (x1 : Nat) (x2 : Int32) : entryFrame m #[(.ref x0), (.ref x1), (.int x2)] 3 = mkF m 0 #[.val (.ref x0), .val (.ref x1), .val (.int x2)] [] := by first | (simp [entryFrame, mkF, argsToLocals, Value.category, maxLocals]; done) | rfl
theorem pn_6 : plainFor (⟨"java/lang/String", "<init>", "([BB)V"⟩ : MethodName) = true := by first | decide +kernel | (apply plainFor_of_name; simp [plainName, overriddenIn]; done)
set_option maxRecDepth 65536 in
set_option maxHeartbeats 40000000 in
theorem rmbb (l : Launch) (Z : State) (a0 : Array Value) (hw : ∀ d ∈ tables_1, d.before a0 Z = true) (a t : Nat) (h0 : Heap) (n0 : Nat) (Z0 : n0 ≤ h0.size) (ga : n0 ≤ a) (E0 : Exa Z h0 a "java/lang/String") (F01 : Fld Z h0 a "java/lang/String" "value" "[B" .null) (F02 : Fld Z h0 a "java/lang/String" "coder" "B" (.int (0 : Int32))) :
    NMet l Z (⟨"java/lang/String", "<init>", "([BB)V"⟩ : MethodName) jdk_42_method_151_code 3 none [] ({ frames := 1, cells := 0, slots := 0, locals := 12 } : Room) [(.ref a), (.ref t), (.int (0 : Int32))] h0 n0 [a] (fun v h => v = none ∧ Exa Z h a "java/lang/String" ∧ Fld Z h a "java/lang/String" "value" "[B" (.ref t) ∧ Fld Z h a "java/lang/String" "coder" "B" (.int (0 : Int32))) := by
  refine MetFree.of_bodySF pn_6 hisR ?_
  intro p e s m args below meth c s₁ Bd hml0 hP hK
  obtain ⟨rfl, hZ, hh⟩ := hP
  have hx := Bd.exec
  have hby := Bd.bytes
  have hml : c.maxLocals = 3 := hml0
  have hnm := (name_of_methodNamed Bd.named Bd.method).1
  have w0 := Wk.start (a0 := a0) (EL := []) (n0 := n0) (nw := true) Bd hZ hh EW.nil chv0 (efbb m a t (0 : Int32)) ({ frames := 1, cells := 0, slots := 0, locals := 12 } : Room) rfl
  have K0 : Keep h0 h0 [a] := Keep.refl _ _
  have lt_E0 := exlt E0
  have w1 := w0.pure (mkF m 1 #[.val (.ref a), .val (.ref t), .val (.int (0 : Int32))] [(.ref a)]) (fun X eT hZ hown k => by
      show Steps _ _ _ (State.setTop _ (mkF m 0 #[.val (.ref a), .val (.ref t), .val (.int (0 : Int32))] [])) _
      refine S.aloadN X.here hx (hb hby dbb_0) rfl rfl ?_
      exact k)
  have w2 := w1.same (mkF m 4 #[.val (.ref a), .val (.ref t), .val (.int (0 : Int32))] []) (fun X eT hZ hown => initO X hx hZ hown (hw _ (List.mem_of_getElem? (i := 30) rfl)) (hw _ (List.mem_of_getElem? (i := 31) rfl)) (hw _ (List.mem_of_getElem? (i := 32) rfl)) eT (g := (mkF m 1 #[.val (.ref a), .val (.ref t), .val (.int (0 : Int32))] [(.ref a)])) rfl (by rw [hml]; rfl) rfl (hb hby dbb_1) (by decide) (W := 0) (by show 2 * 0 + _ ≤ _; exact Nat.le_of_eq rfl) (by decide))
  have w3 := w2.pure (mkF m 6 #[.val (.ref a), .val (.ref t), .val (.int (0 : Int32))] [(.ref t), (.ref a)]) (fun X eT hZ hown k => by
      show Steps _ _ _ (State.setTop _ (mkF m 4 #[.val (.ref a), .val (.ref t), .val (.int (0 : Int32))] [])) _
      refine S.aloadN X.here hx (hb hby dbb_4) rfl rfl ?_
      refine S.aloadN X.here hx (hb hby dbb_5) rfl rfl ?_
      exact k)
  obtain ⟨h4, W4, z4, F4, w4⟩ := w3.putF hx (host := "") (Or.inl (hw _ (List.mem_of_getElem? (i := 39) rfl))) Via.refl F01 E0 (Or.inr ⟨(hw _ (List.mem_of_getElem? (i := 35) rfl)), rfl, hnm⟩) (hw _ (List.mem_of_getElem? (i := 20) rfl)) (ty := (.array .byte)) (by decide) rfl rfl rfl rfl (hb hby dbb_6) (by omega) safe0 (mkF m 9 #[.val (.ref a), .val (.ref t), .val (.int (0 : Int32))] []) rfl
  have K5 : Keep h0 h4 [a] := K0.wr W4 (Or.inl (List.mem_of_getElem? (i := 0) rfl))
  have w6 := w4.pure (mkF m 11 #[.val (.ref a), .val (.ref t), .val (.int (0 : Int32))] [(.int (0 : Int32)), (.ref a)]) (fun X eT hZ hown k => by
      show Steps _ _ _ (State.setTop _ (mkF m 9 #[.val (.ref a), .val (.ref t), .val (.int (0 : Int32))] [])) _
      refine S.aloadN X.here hx (hb hby dbb_9) rfl rfl ?_
      refine S.iloadN X.here hx (hb hby dbb_10) rfl ?_
      exact k)
  have F7 := F02.other W4 (Or.inr (slot_ne (Or.inr (hw _ (List.mem_of_getElem? (i := 36) rfl))) (Or.inr (hw _ (List.mem_of_getElem? (i := 35) rfl))) (by decide) (t := .byte) (t' := (.array .byte)) (by decide) (by decide)))
  have F8 := E0.wr W4
  obtain ⟨h9, W9, z9, F9, w9⟩ := w6.putFN hx (hw _ (List.mem_of_getElem? (i := 40) rfl)) Via.refl (.int (0 : Int32)) F7 F8 (Or.inr ⟨(hw _ (List.mem_of_getElem? (i := 36) rfl)), rfl, hnm⟩) (hw _ (List.mem_of_getElem? (i := 20) rfl)) (ty := .byte) (by decide) rfl rfl rfl rfl (hb hby dbb_11) (by omega) safe0 (mkF m 14 #[.val (.ref a), .val (.ref t), .val (.int (0 : Int32))] []) rfl
  have K10 : Keep h0 h9 [a] := K5.wr W9 (Or.inl (List.mem_of_getElem? (i := 0) rfl))
  have F11 := F8.wr W9
  have F12 := F4.other W9 (Or.inr (slot_ne (Or.inr (hw _ (List.mem_of_getElem? (i := 35) rfl))) (Or.inr (hw _ (List.mem_of_getElem? (i := 36) rfl))) (by decide) (t := (.array .byte)) (t' := .byte) (by decide) (by decide)))
  exact w9.endN (v := none) (Q := (fun v h => v = none ∧ Exa Z h a "java/lang/String" ∧ Fld Z h a "java/lang/String" "value" "[B" (.ref t) ∧ Fld Z h a "java/lang/String" "coder" "B" (.int (0 : Int32)))) (wr := [a]) (h0 := h0) (fun _ => rfl) Bd.notSynchronized (fun X hr => X.returnOut hx Bd.returns (hb hby dbb_14) hr) (by decide) (by decide) ⟨rfl, F11, F12, F9⟩ K10
theorem pd_0 : parseMethodDescriptor "(C)Z" = some ⟨[.char], some .boolean⟩ := by decide +kernel
theorem pd_1 : parseMethodDescriptor "(C)[B" = some ⟨[.char], some (.array .byte)⟩ := by decide +kernel
theorem pd_2 : parseMethodDescriptor "([BB)V" = some ⟨[(.array .byte), .byte], none⟩ := by decide +kernel
theorem dvo_0 : decode jdk_42_method_139_code 0 = .ok (.getstatic 38, 3) := by decide +kernel
theorem dvo_3 : decode jdk_42_method_139_code 3 = .ok (.ifCond .eq 23, 3) := by decide +kernel
theorem dvo_6 : decode jdk_42_method_139_code 6 = .ok (.iload_n 0, 1) := by decide +kernel
theorem dvo_7 : decode jdk_42_method_139_code 7 = .ok (.invokestatic 1015, 3) := by decide +kernel
theorem dvo_10 : decode jdk_42_method_139_code 10 = .ok (.ifCond .eq 16, 3) := by decide +kernel
theorem dvo_13 : decode jdk_42_method_139_code 13 = .ok (.new 10, 3) := by decide +kernel
theorem dvo_16 : decode jdk_42_method_139_code 16 = .ok (.dup, 1) := by decide +kernel
theorem dvo_17 : decode jdk_42_method_139_code 17 = .ok (.iload_n 0, 1) := by decide +kernel
theorem dvo_18 : decode jdk_42_method_139_code 18 = .ok (.invokestatic 1018, 3) := by decide +kernel
theorem dvo_21 : decode jdk_42_method_139_code 21 = .ok (.iconst 0, 1) := by decide +kernel
theorem dvo_22 : decode jdk_42_method_139_code 22 = .ok (.invokespecial 209, 3) := by decide +kernel
theorem dvo_25 : decode jdk_42_method_139_code 25 = .ok (.areturn, 1) := by decide +kernel
theorem efvo (m : MethodId) (x0 : Int32) : entryFrame m #[(.int x0)] 1 = mkF m 0 #[.val (.int x0)] [] := by first | (simp [entryFrame, mkF, argsToLocals, Value.category, maxLocals]; done) | rfl
theorem pn_7 : plainFor (⟨"java/lang/String", "valueOf", "(C)Ljava/lang/String;"⟩ : MethodName) = true := by first | decide +kernel | (apply plainFor_of_name; simp [plainName, overriddenIn]; done)
set_option maxRecDepth 65536 in
set_option maxHeartbeats 40000000 in
theorem rmvo (l : Launch) (Z : State) (a0 : Array Value) (hw : ∀ d ∈ tables_1, d.before a0 Z = true) (p0 : Int32) (h0 : Heap) (n0 : Nat) (Z0 : n0 ≤ h0.size) (hG : SetsOk Z) (X0 : Old Z n0 h0) (hc : ¬ p0 < 0 ∧ ¬ (255 : Int32) < p0) :
    NMet l Z (⟨"java/lang/String", "valueOf", "(C)Ljava/lang/String;"⟩ : MethodName) jdk_42_method_139_code 1 (some (.object "java/lang/String")) [] ({ frames := 2, cells := 2, slots := 5, locals := 27 } : Room) [(.int p0)] h0 n0 [] (fun v h => ∃ x, v = some (.ref x) ∧ n0 ≤ x ∧ Str Z h x [p0] h.size) := by
  refine MetFree.of_bodySF pn_7 hisR ?_
  intro p e s m args below meth c s₁ Bd hml0 hP hK
  obtain ⟨rfl, hZ, hh⟩ := hP
  obtain ⟨G1, G3, S1, P1, S3, P3⟩ := hG
  have hx := Bd.exec
  have hby := Bd.bytes
  have hml : c.maxLocals = 1 := hml0
  have hnm := (name_of_methodNamed Bd.named Bd.method).1
  have w0 := Wk.start (a0 := a0) (EL := []) (n0 := n0) (nw := true) Bd hZ hh EW.nil chv0 (efvo m p0) ({ frames := 2, cells := 2, slots := 5, locals := 27 } : Room) rfl
  have K0 : Keep h0 h0 [] := Keep.refl _ _
  have w1 := w0.same (mkF m 3 #[.val (.int p0)] [(.int G1)]) (fun X eT hZ hown => getS (host := "") X hx hZ hown (hw _ (List.mem_of_getElem? (i := 41) rfl)) Via.refl eT (S1.ext X0.2) (g := (mkF m 0 #[.val (.int p0)] [])) rfl (hb hby dvo_0))
  have w2 := w1.pure (mkF m 7 #[.val (.int p0)] [(.int p0)]) (fun X eT hZ hown k => by
      show Steps _ _ _ (State.setTop _ (mkF m 3 #[.val (.int p0)] [(.int G1)])) _
      refine S.ifNo X.here hx (hb hby dvo_3) ((if0 _ _).trans (feq P1).1) ?_
      refine S.iloadN X.here hx (hb hby dvo_6) rfl ?_
      exact k)
  obtain ⟨v3, h3, Q3, K3, z3, w3⟩ := w2.callS hx (y := (⟨"java/lang/StringLatin1", "canEncode", "(C)Z"⟩ : MethodName)) (W := 0) (hw _ (List.mem_of_getElem? (i := 74) rfl)) (hw _ (List.mem_of_getElem? (i := 75) rfl)) (hw _ (List.mem_of_getElem? (i := 76) rfl)) (hw _ (List.mem_of_getElem? (i := 77) rfl)) (by decide) ((rmce l Z a0 hw p0 h0 n0 (by omega)).pay w2.hZ (hw _ (List.mem_of_getElem? (i := 77) rfl)) (hw _ (List.mem_of_getElem? (i := 76) rfl)) (by decide) (by decide)) rfl (by rw [hml]; rfl) [] (lenOf pd_0 rfl) rfl (by show 2 * 0 + _ ≤ _; exact Nat.le_of_eq rfl) (hb hby dvo_7) (by decide) (by decide) (fun _ q => nomatch q) (fun rv => (mkF m 10 #[.val (.int p0)] (rv.toList ++ []))) (fun _ => rfl)
  obtain ⟨rfl, rfl⟩ := Q3
  have w4 := w3.pure (mkF m 13 #[.val (.int p0)] []) (fun X eT hZ hown k => by
      show Steps _ _ _ (State.setTop _ (mkF m 10 #[.val (.int p0)] [(.int (own_canEnc p0))])) _
      refine S.ifNo X.here hx (hb hby dvo_10) ((if0 _ _).trans (feq (own_canEnc_ne hc.2)).1) ?_
      exact k)
  obtain ⟨b5, h5, g5, E5, l5, A5, D5, y5, w5⟩ := w4.newO hx (hw _ (List.mem_of_getElem? (i := 78) rfl)) (hw _ (List.mem_of_getElem? (i := 20) rfl)) (hw _ (List.mem_of_getElem? (i := 21) rfl)) rfl (hb hby dvo_13) (by decide) (by decide) (fun xq => (mkF m 16 #[.val (.int p0)] (.ref xq :: []))) (fun _ => rfl)
  have z5 := E5.1
  have K6 : Keep h0 h5 [] := K0.ext E5
  have D5_35 : Fld Z h5 b5 "java/lang/String" "value" "[B" .null := D5 (Or.inr (hw _ (List.mem_of_getElem? (i := 35) rfl))) (ty := (.array .byte)) (by decide)
  have D5_36 : Fld Z h5 b5 "java/lang/String" "coder" "B" (.int (0 : Int32)) := D5 (Or.inr (hw _ (List.mem_of_getElem? (i := 36) rfl))) (ty := .byte) (by decide)
  have w7 := w5.pure (mkF m 18 #[.val (.int p0)] [(.int p0), (.ref b5), (.ref b5)]) (fun X eT hZ hown k => by
      show Steps _ _ _ (State.setTop _ (mkF m 16 #[.val (.int p0)] [(.ref b5)])) _
      refine S.dup X.here hx (hb hby dvo_16) rfl ?_
      refine S.iloadN X.here hx (hb hby dvo_17) rfl ?_
      exact k)
  obtain ⟨v8, h8, Q8, K8, z8, w8⟩ := w7.callS hx (y := (⟨"java/lang/StringLatin1", "toBytes", "(C)[B"⟩ : MethodName)) (W := 2) (hw _ (List.mem_of_getElem? (i := 79) rfl)) (hw _ (List.mem_of_getElem? (i := 80) rfl)) (hw _ (List.mem_of_getElem? (i := 76) rfl)) (hw _ (List.mem_of_getElem? (i := 81) rfl)) (by decide) ((rmtb l Z a0 hw p0 h5 n0 (by omega) ).pay w7.hZ (hw _ (List.mem_of_getElem? (i := 81) rfl)) (hw _ (List.mem_of_getElem? (i := 76) rfl)) (by decide) (by decide)) rfl (by rw [hml]; rfl) [(.ref b5), (.ref b5)] (lenOf pd_1 rfl) rfl (by show 2 * 0 + _ ≤ _; exact Nat.le_of_eq rfl) (hb hby dvo_18) (by decide) (by decide) (fun _ q => nomatch q) (fun rv => (mkF m 21 #[.val (.int p0)] (rv.toList ++ [(.ref b5), (.ref b5)]))) (fun _ => rfl)
  obtain ⟨t8, k8, rfl, g8t, V8⟩ := Q8
  have K9 : Keep h0 h8 [] := K6.trans K8 (fun _ q => nomatch q)
  have lt_t8 := arlt V8
  have w10 := w8.pure (mkF m 22 #[.val (.int p0)] [(.int (0 : Int32)), (.ref t8), (.ref b5), (.ref b5)]) (fun X eT hZ hown k => by
      show Steps _ _ _ (State.setTop _ (mkF m 21 #[.val (.int p0)] [(.ref t8), (.ref b5), (.ref b5)])) _
      refine S.iconst X.here hx (0 : Int32) (hb hby dvo_21) rfl ?_
      exact k)
  have F11 := A5.keep K8
  have F12 := D5_35.keep K8 nin0
  have F13 := D5_36.keep K8 nin0
  obtain ⟨v14, h14, Q14, K14, z14, w14⟩ := w10.callI hx (y := (⟨"java/lang/String", "<init>", "([BB)V"⟩ : MethodName)) (W := 1) rfl (hw _ (List.mem_of_getElem? (i := 82) rfl)) (hw _ (List.mem_of_getElem? (i := 83) rfl)) (hw _ (List.mem_of_getElem? (i := 84) rfl)) (by decide) ((rmbb l Z a0 hw b5 t8 h8 n0 (by omega) (by omega) F11 F12 F13).pay w10.hZ (hw _ (List.mem_of_getElem? (i := 84) rfl)) (hw _ (List.mem_of_getElem? (i := 21) rfl)) (by decide) (by decide)) rfl (by rw [hml]; rfl) [(.ref b5)] (lenOf pd_2 rfl) rfl (by show 2 * 0 + _ ≤ _; exact Nat.le_of_eq rfl) (hb hby dvo_22) (by decide) (by decide) (fun _ _ => safe0) (fun rv => (mkF m 25 #[.val (.int p0)] (rv.toList ++ [(.ref b5)]))) (fun _ => rfl)
  obtain ⟨rfl, E14x, G14v, G14c⟩ := Q14
  have K15 : Keep h0 h14 [] := K9.trans K14 (allS (Or.inr (by omega)) (fun _ q => nomatch q))
  have F16 := V8.keep K14 (ninS (nne (by omega)) nin0)
  exact w14.endN (v := some (.ref b5)) (Q := (fun v h => ∃ x, v = some (.ref x) ∧ n0 ≤ x ∧ Str Z h x [p0] h.size)) (wr := []) (h0 := h0) (fun h => by rw [Bd.returns] at h; cases h) Bd.notSynchronized (fun X hr => X.areturnOut hx rfl Bd.returns rfl (hb hby dvo_25) hr) (by decide) (by decide) ⟨b5, rfl, by omega, Str.of E14x G14v G14c F16 rfl rfl (List.forall_mem_cons.mpr ⟨hc, fun _ q => nomatch q⟩) (Nat.le_of_ble_eq_true rfl) (exlt E14x) (arlt F16)⟩ K15
theorem de2_0 : decode jdk_42_method_149_code 0 = .ok (.aload_n 0, 1) := by decide +kernel
theorem de2_1 : decode jdk_42_method_149_code 1 = .ok (.invokespecial 1, 3) := by decide +kernel
theorem de2_4 : decode jdk_42_method_149_code 4 = .ok (.iload_n 3, 1) := by decide +kernel
theorem de2_5 : decode jdk_42_method_149_code 5 = .ok (.ifCond .ne 22, 3) := by decide +kernel
theorem de2_8 : decode jdk_42_method_149_code 8 = .ok (.aload_n 0, 1) := by decide +kernel
theorem de2_9 : decode jdk_42_method_149_code 9 = .ok (.ldc 7, 2) := by decide +kernel
theorem de2_11 : decode jdk_42_method_149_code 11 = .ok (.getfield 9, 3) := by decide +kernel
theorem de2_14 : decode jdk_42_method_149_code 14 = .ok (.putfield 9, 3) := by decide +kernel
theorem de2_17 : decode jdk_42_method_149_code 17 = .ok (.aload_n 0, 1) := by decide +kernel
theorem de2_18 : decode jdk_42_method_149_code 18 = .ok (.ldc 7, 2) := by decide +kernel
theorem de2_20 : decode jdk_42_method_149_code 20 = .ok (.getfield 15, 3) := by decide +kernel
theorem de2_23 : decode jdk_42_method_149_code 23 = .ok (.putfield 15, 3) := by decide +kernel
theorem de2_26 : decode jdk_42_method_149_code 26 = .ok (.return_, 1) := by decide +kernel
theorem efe2 (m : MethodId) (x0 : Nat) (x1 : Nat) (x2 : Int32) (x3 : Int32) : entryFrame m #[(.ref x0), (.ref x1), (.int x2), (.int x3), .null] 6 = mkF m 0 #[.val (.ref x0), .val (.ref x1), .val (.int x2), .val (.int x3), .val .null, .unset] [] := by first | (simp [entryFrame, mkF, argsToLocals, Value.category, maxLocals]; done) | rfl
theorem pn_8 : plainFor (⟨"java/lang/String", "<init>", "([CIILjava/lang/Void;)V"⟩ : MethodName) = true := by first | decide +kernel | (apply plainFor_of_name; simp [plainName, overriddenIn]; done)
set_option maxRecDepth 65536 in
set_option maxHeartbeats 40000000 in
theorem rme2 (l : Launch) (Z : State) (a0 : Array Value) (hw : ∀ d ∈ tables_1, d.before a0 Z = true) (hE : EW Z a0 consts_1) (x b : Nat) (h0 : Heap) (n0 : Nat) (Z0 : n0 ≤ h0.size) (gx : n0 ≤ x) (E0 : Exa Z h0 x "java/lang/String") (F01 : Fld Z h0 x "java/lang/String" "value" "[B" .null) (F02 : Fld Z h0 x "java/lang/String" "coder" "B" (.int (0 : Int32))) :
    WMet l Z consts_1 (⟨"java/lang/String", "<init>", "([CIILjava/lang/Void;)V"⟩ : MethodName) jdk_42_method_149_code 6 none [] ({ frames := 1, cells := 4, slots := 8, locals := 12 } : Room) [(.ref x), (.ref b), (.int (0 : Int32)), (.int (0 : Int32)), .null] h0 n0 [x] [x] (fun v h => v = none ∧ Str Z h x [] h.size) := by
  refine MetFree.of_bodySF pn_8 hisR ?_
  intro p e s m args below meth c s₁ Bd hml0 hP hK
  obtain ⟨rfl, hZ, hh, hC, hSf⟩ := hP
  have hx := Bd.exec
  have hby := Bd.bytes
  have hml : c.maxLocals = 6 := hml0
  have hnm := (name_of_methodNamed Bd.named Bd.method).1
  have w0 := Wk.start (a0 := a0) (EL := consts_1) (n0 := n0) (nw := false) Bd hZ hh hE hC (efe2 m x b (0 : Int32) (0 : Int32)) ({ frames := 1, cells := 4, slots := 8, locals := 12 } : Room) rfl
  have K0 : Keep h0 h0 [x] := Keep.refl _ _
  have lt_x := exlt E0
  have hS : ∀ d ∈ Bundle.stringAtoms, d.before a0 Z = true := fun d hd => hw d ((by decide +kernel : ∀ d ∈ Bundle.stringAtoms, d ∈ tables_1) d hd)
  have w1 := w0.pure (mkF m 1 #[.val (.ref x), .val (.ref b), .val (.int (0 : Int32)), .val (.int (0 : Int32)), .val .null, .unset] [(.ref x)]) (fun X eT hZ hown k => by
      show Steps _ _ _ (State.setTop _ (mkF m 0 #[.val (.ref x), .val (.ref b), .val (.int (0 : Int32)), .val (.int (0 : Int32)), .val .null, .unset] [])) _
      refine S.aloadN X.here hx (hb hby de2_0) rfl rfl ?_
      exact k)
  have w2 := w1.same (mkF m 4 #[.val (.ref x), .val (.ref b), .val (.int (0 : Int32)), .val (.int (0 : Int32)), .val .null, .unset] []) (fun X eT hZ hown => initO X hx hZ hown (hw _ (List.mem_of_getElem? (i := 30) rfl)) (hw _ (List.mem_of_getElem? (i := 31) rfl)) (hw _ (List.mem_of_getElem? (i := 32) rfl)) eT (g := (mkF m 1 #[.val (.ref x), .val (.ref b), .val (.int (0 : Int32)), .val (.int (0 : Int32)), .val .null, .unset] [(.ref x)])) rfl (by rw [hml]; rfl) rfl (hb hby de2_1) (by decide) (W := 0) (by show 2 * 0 + _ ≤ _; exact Nat.le_of_eq rfl) (by decide))
  have w3 := w2.pure (mkF m 9 #[.val (.ref x), .val (.ref b), .val (.int (0 : Int32)), .val (.int (0 : Int32)), .val .null, .unset] [(.ref x)]) (fun X eT hZ hown k => by
      show Steps _ _ _ (State.setTop _ (mkF m 4 #[.val (.ref x), .val (.ref b), .val (.int (0 : Int32)), .val (.int (0 : Int32)), .val .null, .unset] [])) _
      refine S.iloadN X.here hx (hb hby de2_4) rfl ?_
      refine S.ifNo X.here hx (hb hby de2_5) (by decide) ?_
      refine S.aloadN X.here hx (hb hby de2_8) rfl rfl ?_
      exact k)
  obtain ⟨b4, vm4, h4, t4, k4, E4, A4, F4c, F4v, V4, l4, m4, C4, N4, w4⟩ := w3.ldcCH hx (text := "") (hw _ (List.mem_of_getElem? (i := 33) rfl)) hS (List.mem_of_getElem? (i := 1) rfl) (vs := []) (z := (0 : Int32)) ⟨by decide, by decide⟩ (by decide) (by decide) rfl (hb hby de2_9) 0 (by decide) (by decide) (by decide) (by decide) (fun xq => (mkF m 11 #[.val (.ref x), .val (.ref b), .val (.int (0 : Int32)), .val (.int (0 : Int32)), .val .null, .unset] (.ref xq :: [(.ref x)]))) (fun _ => rfl)
  have z4 := E4.1
  have K5 : Keep h0 h4 [x] := K0.ext E4
  have F6 := chs C4 (by omega) (hSf _ (List.mem_of_getElem? (i := 0) rfl))
  have N4_x := N4 x F6
  have S4 : Str Z h4 b4 [] h4.size := Str.of A4 F4v F4c V4 rfl rfl (fun _ q => nomatch q) (by decide) l4 m4
  have w7 := w4.same (mkF m 14 #[.val (.ref x), .val (.ref b), .val (.int (0 : Int32)), .val (.int (0 : Int32)), .val .null, .unset] [(.ref t4), (.ref x)]) (fun X eT hZ hown => getF X hx hZ hown (host := "") (Or.inl (hw _ (List.mem_of_getElem? (i := 39) rfl))) Via.refl eT F4v (g := (mkF m 11 #[.val (.ref x), .val (.ref b), .val (.int (0 : Int32)), .val (.int (0 : Int32)), .val .null, .unset] [(.ref b4), (.ref x)])) rfl rfl (hb hby de2_11))
  have F8 := F01.ext E4
  have F9 := E0.ext E4
  obtain ⟨h10, W10, z10, F10, w10⟩ := w7.putF hx (host := "") (Or.inl (hw _ (List.mem_of_getElem? (i := 39) rfl))) Via.refl F8 F9 (Or.inr ⟨(hw _ (List.mem_of_getElem? (i := 35) rfl)), rfl, hnm⟩) (hw _ (List.mem_of_getElem? (i := 20) rfl)) (ty := (.array .byte)) (by decide) rfl rfl rfl rfl (hb hby de2_14) (by omega) F6 (mkF m 17 #[.val (.ref x), .val (.ref b), .val (.int (0 : Int32)), .val (.int (0 : Int32)), .val .null, .unset] []) rfl
  have K11 : Keep h0 h10 [x] := K5.wr W10 (Or.inl (List.mem_of_getElem? (i := 0) rfl))
  have w12 := w10.pure (mkF m 18 #[.val (.ref x), .val (.ref b), .val (.int (0 : Int32)), .val (.int (0 : Int32)), .val .null, .unset] [(.ref x)]) (fun X eT hZ hown k => by
      show Steps _ _ _ (State.setTop _ (mkF m 17 #[.val (.ref x), .val (.ref b), .val (.int (0 : Int32)), .val (.int (0 : Int32)), .val .null, .unset] [])) _
      refine S.aloadN X.here hx (hb hby de2_17) rfl rfl ?_
      exact k)
  obtain ⟨b13, vm13, h13, t13, k13, E13, A13, F13c, F13v, V13, l13, m13, C13, N13, w13⟩ := w12.ldcCH hx (text := "") (hw _ (List.mem_of_getElem? (i := 33) rfl)) hS (List.mem_of_getElem? (i := 1) rfl) (vs := []) (z := (0 : Int32)) ⟨by decide, by decide⟩ (by decide) (by decide) rfl (hb hby de2_18) 0 (by decide) (by decide) (by decide) (by decide) (fun xq => (mkF m 20 #[.val (.ref x), .val (.ref b), .val (.int (0 : Int32)), .val (.int (0 : Int32)), .val .null, .unset] (.ref xq :: [(.ref x)]))) (fun _ => rfl)
  have z13 := E13.1
  have K14 : Keep h0 h13 [x] := K11.ext E13
  have F15 := Safe.wr W10 F6 w7.chv F6
  have F16 := chs C13 (by omega) F15
  have N13_x := N13 x F16
  have S13 : Str Z h13 b13 [] h13.size := Str.of A13 F13v F13c V13 rfl rfl (fun _ q => nomatch q) (by decide) l13 m13
  have w17 := w13.same (mkF m 23 #[.val (.ref x), .val (.ref b), .val (.int (0 : Int32)), .val (.int (0 : Int32)), .val .null, .unset] [(.int (0 : Int32)), (.ref x)]) (fun X eT hZ hown => getF X hx hZ hown (host := "") (Or.inl (hw _ (List.mem_of_getElem? (i := 40) rfl))) Via.refl eT F13c (g := (mkF m 20 #[.val (.ref x), .val (.ref b), .val (.int (0 : Int32)), .val (.int (0 : Int32)), .val .null, .unset] [(.ref b13), (.ref x)])) rfl rfl (hb hby de2_20))
  have F18 := F02.ext E4
  have F19 := F18.other W10 (Or.inr (slot_ne (Or.inr (hw _ (List.mem_of_getElem? (i := 36) rfl))) (Or.inr (hw _ (List.mem_of_getElem? (i := 35) rfl))) (by decide) (t := .byte) (t' := (.array .byte)) (by decide) (by decide)))
  have F20 := F19.ext E13
  have F21 := F9.wr W10
  have F22 := F21.ext E13
  obtain ⟨h23, W23, z23, F23, w23⟩ := w17.putFN hx (hw _ (List.mem_of_getElem? (i := 40) rfl)) Via.refl (.int (0 : Int32)) F20 F22 (Or.inr ⟨(hw _ (List.mem_of_getElem? (i := 36) rfl)), rfl, hnm⟩) (hw _ (List.mem_of_getElem? (i := 20) rfl)) (ty := .byte) (by decide) rfl rfl rfl rfl (hb hby de2_23) (by omega) F16 (mkF m 26 #[.val (.ref x), .val (.ref b), .val (.int (0 : Int32)), .val (.int (0 : Int32)), .val .null, .unset] []) rfl
  have K24 : Keep h0 h23 [x] := K14.wr W23 (Or.inl (List.mem_of_getElem? (i := 0) rfl))
  have F25 := F22.wr W23
  have F26 := F10.ext E13
  have F27 := F26.other W23 (Or.inr (slot_ne (Or.inr (hw _ (List.mem_of_getElem? (i := 35) rfl))) (Or.inr (hw _ (List.mem_of_getElem? (i := 36) rfl))) (by decide) (t := (.array .byte)) (t' := .byte) (by decide) (by decide)))
  have F28 := V4.other W10 (nne (by omega))
  have F29 := F28.ext E13
  have F30 := F29.other W23 (nne (by omega))
  exact w23.endW (v := none) (Q := (fun v h => v = none ∧ Str Z h x [] h.size)) (wr := [x]) (h0 := h0) (fun _ => rfl) Bd.notSynchronized (fun X hr => X.returnOut hx Bd.returns (hb hby de2_26) hr) (by decide) (by decide) ⟨rfl, Str.of F25 F27 F23 F30 rfl rfl (fun _ q => nomatch q) (Nat.le_of_ble_eq_true rfl) (exlt F25) (arlt F30)⟩ K24
theorem pd_3 : parseMethodDescriptor "([CIILjava/lang/Void;)V" = some ⟨[(.array .char), .int, .int, (.object "java/lang/Void")], none⟩ := by decide +kernel
theorem de1_0 : decode jdk_42_method_3_code 0 = .ok (.aload_n 0, 1) := by decide +kernel
theorem de1_1 : decode jdk_42_method_3_code 1 = .ok (.aload_n 1, 1) := by decide +kernel
theorem de1_2 : decode jdk_42_method_3_code 2 = .ok (.iconst 0, 1) := by decide +kernel
theorem de1_3 : decode jdk_42_method_3_code 3 = .ok (.aload_n 1, 1) := by decide +kernel
theorem de1_4 : decode jdk_42_method_3_code 4 = .ok (.arraylength, 1) := by decide +kernel
theorem de1_5 : decode jdk_42_method_3_code 5 = .ok (.aconst_null, 1) := by decide +kernel
theorem de1_6 : decode jdk_42_method_3_code 6 = .ok (.invokespecial 27, 3) := by decide +kernel
theorem de1_9 : decode jdk_42_method_3_code 9 = .ok (.return_, 1) := by decide +kernel
theorem efe1 (m : MethodId) (x0 : Nat) (x1 : Nat) : entryFrame m #[(.ref x0), (.ref x1)] 2 = mkF m 0 #[.val (.ref x0), .val (.ref x1)] [] := by first | (simp [entryFrame, mkF, argsToLocals, Value.category, maxLocals]; done) | rfl
theorem pn_9 : plainFor (⟨"java/lang/String", "<init>", "([C)V"⟩ : MethodName) = true := by first | decide +kernel | (apply plainFor_of_name; simp [plainName, overriddenIn]; done)
set_option maxRecDepth 65536 in
set_option maxHeartbeats 40000000 in
theorem rme1 (l : Launch) (Z : State) (a0 : Array Value) (hw : ∀ d ∈ tables_1, d.before a0 Z = true) (hE : EW Z a0 consts_1) (x b : Nat) (k : ClassId) (h0 : Heap) (n0 : Nat) (Z0 : n0 ≤ h0.size) (gx : n0 ≤ x) (E0 : Exa Z h0 x "java/lang/String") (F01 : Fld Z h0 x "java/lang/String" "value" "[B" .null) (F02 : Fld Z h0 x "java/lang/String" "coder" "B" (.int (0 : Int32))) (V0 : Arv Z h0 b k .char (0 : Int32) [] (.int (0 : Int32))) :
    WMet l Z consts_1 (⟨"java/lang/String", "<init>", "([C)V"⟩ : MethodName) jdk_42_method_3_code 2 none [] ({ frames := 2, cells := 4, slots := 8, locals := 29 } : Room) [(.ref x), (.ref b)] h0 n0 [x] [x] (fun v h => v = none ∧ Str Z h x [] h.size) := by
  refine MetFree.of_bodySF pn_9 hisR ?_
  intro p e s m args below meth c s₁ Bd hml0 hP hK
  obtain ⟨rfl, hZ, hh, hC, hSf⟩ := hP
  have hx := Bd.exec
  have hby := Bd.bytes
  have hml : c.maxLocals = 2 := hml0
  have hnm := (name_of_methodNamed Bd.named Bd.method).1
  have w0 := Wk.start (a0 := a0) (EL := consts_1) (n0 := n0) (nw := false) Bd hZ hh hE hC (efe1 m x b) ({ frames := 2, cells := 4, slots := 8, locals := 29 } : Room) rfl
  have K0 : Keep h0 h0 [x] := Keep.refl _ _
  have lt_x := exlt E0
  have lt_b := arlt V0
  have w1 := w0.pure (mkF m 6 #[.val (.ref x), .val (.ref b)] [.null, (.int (0 : Int32)), (.int (0 : Int32)), (.ref b), (.ref x)]) (fun X eT hZ hown k => by
      show Steps _ _ _ (State.setTop _ (mkF m 0 #[.val (.ref x), .val (.ref b)] [])) _
      refine S.aloadN X.here hx (hb hby de1_0) rfl rfl ?_
      refine S.aloadN X.here hx (hb hby de1_1) rfl rfl ?_
      refine S.iconst X.here hx (0 : Int32) (hb hby de1_2) rfl ?_
      refine S.aloadN X.here hx (hb hby de1_3) rfl rfl ?_
      refine alenV X hx eT hZ V0 rfl rfl (hb hby de1_4) ?_
      show Steps _ _ _ (State.setTop _ (mkF m 5 #[.val (.ref x), .val (.ref b)] [(.int (0 : Int32)), (.int (0 : Int32)), (.ref b), (.ref x)])) _
      refine S.aconstNull X.here hx (hb hby de1_5) ?_
      exact k)
  obtain ⟨v2, vm2, h2, Q2, K2, z2, C2, w2⟩ := w1.callIW hx (y := (⟨"java/lang/String", "<init>", "([CIILjava/lang/Void;)V"⟩ : MethodName)) (W := 0) rfl (hw _ (List.mem_of_getElem? (i := 26) rfl)) (hw _ (List.mem_of_getElem? (i := 27) rfl)) (hw _ (List.mem_of_getElem? (i := 29) rfl)) (by decide) ((rme2 l Z a0 hw hE x b h0 n0 (by omega) (by omega) E0 F01 F02).pay w1 (hw _ (List.mem_of_getElem? (i := 29) rfl)) (hw _ (List.mem_of_getElem? (i := 21) rfl)) (by decide) (by decide) (allS ⟨by omega, (hSf _ (List.mem_of_getElem? (i := 0) rfl))⟩ all0)) rfl (by rw [hml]; rfl) [] (lenOf pd_3 rfl) rfl (by show 2 * 0 + _ ≤ _; exact Nat.le_of_eq rfl) (hb hby de1_6) (by decide) (by decide)  (fun rv => (mkF m 9 #[.val (.ref x), .val (.ref b)] (rv.toList ++ []))) (fun _ => rfl)
  obtain ⟨rfl, G2⟩ := Q2
  have K3 : Keep h0 h2 [x] := K0.trans K2 (allS (Or.inl (List.mem_of_getElem? (i := 0) rfl)) (fun _ q => nomatch q))
  have lt_x := G2.lt
  exact w2.endW (v := none) (Q := (fun v h => v = none ∧ Str Z h x [] h.size)) (wr := [x]) (h0 := h0) (fun _ => rfl) Bd.notSynchronized (fun X hr => X.returnOut hx Bd.returns (hb hby de1_9) hr) (by decide) (by decide) ⟨rfl, G2⟩ K3
def own_draw (p0 : Int32) : List Int32 := (if (own_len p0) = (0 : Int32) then [] else (if (own_len p0) = (1 : Int32) then [(own_ch (own_code p0 (0 : Int32)))] else (if (own_len p0) = (2 : Int32) then [(own_ch (own_code p0 (0 : Int32))), (own_ch (own_code p0 (1 : Int32)))] else [(own_ch (own_code p0 (0 : Int32))), (own_ch (own_code p0 (1 : Int32))), (own_ch (own_code p0 (2 : Int32)))])))
theorem pd_4 : parseMethodDescriptor "(I)I" = some ⟨[.int], some .int⟩ := by decide +kernel
theorem pd_5 : parseMethodDescriptor "(II)I" = some ⟨[.int, .int], some .int⟩ := by decide +kernel
theorem pd_6 : parseMethodDescriptor "(I)C" = some ⟨[.int], some .char⟩ := by decide +kernel
theorem pd_7 : parseMethodDescriptor "([C)V" = some ⟨[(.array .char)], none⟩ := by decide +kernel
theorem pd_8 : parseMethodDescriptor "(C)Ljava/lang/String;" = some ⟨[.char], some (.object "java/lang/String")⟩ := by decide +kernel
theorem d2_0 : decode method_7_code 0 = .ok (.iload_n 0, 1) := by decide +kernel
theorem d2_1 : decode method_7_code 1 = .ok (.invokestatic 30, 3) := by decide +kernel
theorem d2_4 : decode method_7_code 4 = .ok (.istore_n 1, 1) := by decide +kernel
theorem d2_5 : decode method_7_code 5 = .ok (.iload_n 0, 1) := by decide +kernel
theorem d2_6 : decode method_7_code 6 = .ok (.iconst 0, 1) := by decide +kernel
theorem d2_7 : decode method_7_code 7 = .ok (.invokestatic 33, 3) := by decide +kernel
theorem d2_10 : decode method_7_code 10 = .ok (.invokestatic 37, 3) := by decide +kernel
theorem d2_13 : decode method_7_code 13 = .ok (.istore_n 2, 1) := by decide +kernel
theorem d2_14 : decode method_7_code 14 = .ok (.iload_n 0, 1) := by decide +kernel
theorem d2_15 : decode method_7_code 15 = .ok (.iconst 1, 1) := by decide +kernel
theorem d2_16 : decode method_7_code 16 = .ok (.invokestatic 33, 3) := by decide +kernel
theorem d2_19 : decode method_7_code 19 = .ok (.invokestatic 37, 3) := by decide +kernel
theorem d2_22 : decode method_7_code 22 = .ok (.istore_n 3, 1) := by decide +kernel
theorem d2_23 : decode method_7_code 23 = .ok (.iload_n 0, 1) := by decide +kernel
theorem d2_24 : decode method_7_code 24 = .ok (.iconst 2, 1) := by decide +kernel
theorem d2_25 : decode method_7_code 25 = .ok (.invokestatic 33, 3) := by decide +kernel
theorem d2_28 : decode method_7_code 28 = .ok (.invokestatic 37, 3) := by decide +kernel
theorem d2_31 : decode method_7_code 31 = .ok (.istore 4, 2) := by decide +kernel
theorem d2_33 : decode method_7_code 33 = .ok (.iload_n 1, 1) := by decide +kernel
theorem d2_34 : decode method_7_code 34 = .ok (.ifCond .ne 14, 3) := by decide +kernel
theorem d2_37 : decode method_7_code 37 = .ok (.new 41, 3) := by decide +kernel
theorem d2_40 : decode method_7_code 40 = .ok (.dup, 1) := by decide +kernel
theorem d2_41 : decode method_7_code 41 = .ok (.iconst 0, 1) := by decide +kernel
theorem d2_42 : decode method_7_code 42 = .ok (.newarray .char, 2) := by decide +kernel
theorem d2_44 : decode method_7_code 44 = .ok (.invokespecial 43, 3) := by decide +kernel
theorem d2_47 : decode method_7_code 47 = .ok (.areturn, 1) := by decide +kernel
theorem d2_48 : decode method_7_code 48 = .ok (.iload_n 1, 1) := by decide +kernel
theorem d2_49 : decode method_7_code 49 = .ok (.iconst 1, 1) := by decide +kernel
theorem d2_50 : decode method_7_code 50 = .ok (.if_icmp .ne 8, 3) := by decide +kernel
theorem d2_53 : decode method_7_code 53 = .ok (.iload_n 2, 1) := by decide +kernel
theorem d2_54 : decode method_7_code 54 = .ok (.invokestatic 46, 3) := by decide +kernel
theorem d2_57 : decode method_7_code 57 = .ok (.areturn, 1) := by decide +kernel
theorem d2_58 : decode method_7_code 58 = .ok (.iload_n 1, 1) := by decide +kernel
theorem d2_59 : decode method_7_code 59 = .ok (.iconst 2, 1) := by decide +kernel
theorem d2_60 : decode method_7_code 60 = .ok (.if_icmp .ne 22, 3) := by decide +kernel
theorem d2_63 : decode method_7_code 63 = .ok (.new 41, 3) := by decide +kernel
theorem d2_66 : decode method_7_code 66 = .ok (.dup, 1) := by decide +kernel
theorem d2_67 : decode method_7_code 67 = .ok (.iconst 2, 1) := by decide +kernel
theorem d2_68 : decode method_7_code 68 = .ok (.newarray .char, 2) := by decide +kernel
theorem d2_70 : decode method_7_code 70 = .ok (.dup, 1) := by decide +kernel
theorem d2_71 : decode method_7_code 71 = .ok (.iconst 0, 1) := by decide +kernel
theorem d2_72 : decode method_7_code 72 = .ok (.iload_n 2, 1) := by decide +kernel
theorem d2_73 : decode method_7_code 73 = .ok (.castore, 1) := by decide +kernel
theorem d2_74 : decode method_7_code 74 = .ok (.dup, 1) := by decide +kernel
theorem d2_75 : decode method_7_code 75 = .ok (.iconst 1, 1) := by decide +kernel
theorem d2_76 : decode method_7_code 76 = .ok (.iload_n 3, 1) := by decide +kernel
theorem d2_77 : decode method_7_code 77 = .ok (.castore, 1) := by decide +kernel
theorem d2_78 : decode method_7_code 78 = .ok (.invokespecial 43, 3) := by decide +kernel
theorem d2_81 : decode method_7_code 81 = .ok (.areturn, 1) := by decide +kernel
theorem d2_82 : decode method_7_code 82 = .ok (.new 41, 3) := by decide +kernel
theorem d2_85 : decode method_7_code 85 = .ok (.dup, 1) := by decide +kernel
theorem d2_86 : decode method_7_code 86 = .ok (.iconst 3, 1) := by decide +kernel
theorem d2_87 : decode method_7_code 87 = .ok (.newarray .char, 2) := by decide +kernel
theorem d2_89 : decode method_7_code 89 = .ok (.dup, 1) := by decide +kernel
theorem d2_90 : decode method_7_code 90 = .ok (.iconst 0, 1) := by decide +kernel
theorem d2_91 : decode method_7_code 91 = .ok (.iload_n 2, 1) := by decide +kernel
theorem d2_92 : decode method_7_code 92 = .ok (.castore, 1) := by decide +kernel
theorem d2_93 : decode method_7_code 93 = .ok (.dup, 1) := by decide +kernel
theorem d2_94 : decode method_7_code 94 = .ok (.iconst 1, 1) := by decide +kernel
theorem d2_95 : decode method_7_code 95 = .ok (.iload_n 3, 1) := by decide +kernel
theorem d2_96 : decode method_7_code 96 = .ok (.castore, 1) := by decide +kernel
theorem d2_97 : decode method_7_code 97 = .ok (.dup, 1) := by decide +kernel
theorem d2_98 : decode method_7_code 98 = .ok (.iconst 2, 1) := by decide +kernel
theorem d2_99 : decode method_7_code 99 = .ok (.iload 4, 2) := by decide +kernel
theorem d2_101 : decode method_7_code 101 = .ok (.castore, 1) := by decide +kernel
theorem d2_102 : decode method_7_code 102 = .ok (.invokespecial 43, 3) := by decide +kernel
theorem d2_105 : decode method_7_code 105 = .ok (.areturn, 1) := by decide +kernel
theorem ef2 (m : MethodId) (x0 : Int32) : entryFrame m #[(.int x0)] 5 = mkF m 0 #[.val (.int x0), .unset, .unset, .unset, .unset] [] := by first | (simp [entryFrame, mkF, argsToLocals, Value.category, maxLocals]; done) | rfl
theorem pn_10 : plainFor (⟨"com/example/dole/dole/model/GrantMatchesPinLaw", "draw", "(I)Ljava/lang/String;"⟩ : MethodName) = true := by first | decide +kernel | (apply plainFor_of_name; simp [plainName, overriddenIn]; done)
set_option maxRecDepth 65536 in
set_option maxHeartbeats 40000000 in
theorem rm2 (l : Launch) (Z : State) (a0 : Array Value) (hw : ∀ d ∈ tables_1, d.before a0 Z = true) (hE : EW Z a0 consts_1) (p0 : Int32) (h0 : Heap) (n0 : Nat) (Z0 : n0 ≤ h0.size) (hG : SetsOk Z) (X0 : Old Z n0 h0) :
    WMet l Z consts_1 (⟨"com/example/dole/dole/model/GrantMatchesPinLaw", "draw", "(I)Ljava/lang/String;"⟩ : MethodName) method_7_code 5 (some (.object "java/lang/String")) [] ({ frames := 4, cells := 6, slots := 12, locals := 66 } : Room) [(.int p0)] h0 n0 [] [] (fun v h => ∃ x, v = some (.ref x) ∧ n0 ≤ x ∧ Str Z h x (own_draw p0) h.size) := by
  refine MetFree.of_bodySF pn_10 hisR ?_
  intro p e s m args below meth c s₁ Bd hml0 hP hK
  obtain ⟨rfl, hZ, hh, hC, hSf⟩ := hP
  have hx := Bd.exec
  have hby := Bd.bytes
  have hml : c.maxLocals = 5 := hml0
  have hnm := (name_of_methodNamed Bd.named Bd.method).1
  have w0 := Wk.start (a0 := a0) (EL := consts_1) (n0 := n0) (nw := false) Bd hZ hh hE hC (ef2 m p0) ({ frames := 4, cells := 6, slots := 12, locals := 66 } : Room) rfl
  have K0 : Keep h0 h0 [] := Keep.refl _ _
  have hq_backV : ∀ d ∈ StrChars.Road.words, d.before a0 Z = true := fun d hd => hw d ((by decide +kernel : ∀ d ∈ StrChars.Road.words, d ∈ tables_1) d hd)
  have w1 := w0.pure (mkF m 1 #[.val (.int p0), .unset, .unset, .unset, .unset] [(.int p0)]) (fun X eT hZ hown k => by
      show Steps _ _ _ (State.setTop _ (mkF m 0 #[.val (.int p0), .unset, .unset, .unset, .unset] [])) _
      refine S.iloadN X.here hx (hb hby d2_0) rfl ?_
      exact k)
  obtain ⟨v2, h2, Q2, K2, z2, w2⟩ := w1.callS hx (y := (⟨"com/example/dole/dole/model/GrantMatchesPinLaw", "len", "(I)I"⟩ : MethodName)) (W := 0) (hw _ (List.mem_of_getElem? (i := 10) rfl)) (hw _ (List.mem_of_getElem? (i := 11) rfl)) (hw _ (List.mem_of_getElem? (i := 2) rfl)) (hw _ (List.mem_of_getElem? (i := 12) rfl)) (by decide) ((rm3 l Z a0 hw p0 h0 n0 (by omega)).pay w1.hZ (hw _ (List.mem_of_getElem? (i := 12) rfl)) (hw _ (List.mem_of_getElem? (i := 2) rfl)) (by decide) (by decide)) rfl (by rw [hml]; rfl) [] (lenOf pd_4 rfl) rfl (by show 2 * 0 + _ ≤ _; exact Nat.le_of_eq rfl) (hb hby d2_1) (by decide) (by decide) (fun _ q => nomatch q) (fun rv => (mkF m 4 #[.val (.int p0), .unset, .unset, .unset, .unset] (rv.toList ++ []))) (fun _ => rfl)
  obtain ⟨rfl, rfl⟩ := Q2
  have w3 := w2.pure (mkF m 7 #[.val (.int p0), .val (.int (own_len p0)), .unset, .unset, .unset] [(.int (0 : Int32)), (.int p0)]) (fun X eT hZ hown k => by
      show Steps _ _ _ (State.setTop _ (mkF m 4 #[.val (.int p0), .unset, .unset, .unset, .unset] [(.int (own_len p0))])) _
      refine S.istoreN X.here hx (hb hby d2_4) #[.val (.int p0), .val (.int (own_len p0)), .unset, .unset, .unset] rfl ?_
      refine S.iloadN X.here hx (hb hby d2_5) rfl ?_
      refine S.iconst X.here hx (0 : Int32) (hb hby d2_6) rfl ?_
      exact k)
  obtain ⟨v4, h4, Q4, K4, z4, w4⟩ := w3.callS hx (y := (⟨"com/example/dole/dole/model/GrantMatchesPinLaw", "code", "(II)I"⟩ : MethodName)) (W := 0) (hw _ (List.mem_of_getElem? (i := 13) rfl)) (hw _ (List.mem_of_getElem? (i := 14) rfl)) (hw _ (List.mem_of_getElem? (i := 2) rfl)) (hw _ (List.mem_of_getElem? (i := 15) rfl)) (by decide) ((rm4 l Z a0 hw p0 (0 : Int32) h0 n0 (by omega)).pay w3.hZ (hw _ (List.mem_of_getElem? (i := 15) rfl)) (hw _ (List.mem_of_getElem? (i := 2) rfl)) (by decide) (by decide)) rfl (by rw [hml]; rfl) [] (lenOf pd_5 rfl) rfl (by show 2 * 0 + _ ≤ _; exact Nat.le_of_eq rfl) (hb hby d2_7) (by decide) (by decide) (fun _ q => nomatch q) (fun rv => (mkF m 10 #[.val (.int p0), .val (.int (own_len p0)), .unset, .unset, .unset] (rv.toList ++ []))) (fun _ => rfl)
  obtain ⟨rfl, rfl⟩ := Q4
  obtain ⟨v5, h5, Q5, K5, z5, w5⟩ := w4.callS hx (y := (⟨"com/example/dole/dole/model/GrantMatchesPinLaw", "ch", "(I)C"⟩ : MethodName)) (W := 0) (hw _ (List.mem_of_getElem? (i := 16) rfl)) (hw _ (List.mem_of_getElem? (i := 17) rfl)) (hw _ (List.mem_of_getElem? (i := 2) rfl)) (hw _ (List.mem_of_getElem? (i := 18) rfl)) (by decide) ((rm5 l Z a0 hw (own_code p0 (0 : Int32)) h0 n0 (by omega)).pay w4.hZ (hw _ (List.mem_of_getElem? (i := 18) rfl)) (hw _ (List.mem_of_getElem? (i := 2) rfl)) (by decide) (by decide)) rfl (by rw [hml]; rfl) [] (lenOf pd_6 rfl) rfl (by show 2 * 0 + _ ≤ _; exact Nat.le_of_eq rfl) (hb hby d2_10) (by decide) (by decide) (fun _ q => nomatch q) (fun rv => (mkF m 13 #[.val (.int p0), .val (.int (own_len p0)), .unset, .unset, .unset] (rv.toList ++ []))) (fun _ => rfl)
  obtain ⟨rfl, rfl⟩ := Q5
  have w6 := w5.pure (mkF m 16 #[.val (.int p0), .val (.int (own_len p0)), .val (.int (own_ch (own_code p0 (0 : Int32)))), .unset, .unset] [(.int (1 : Int32)), (.int p0)]) (fun X eT hZ hown k => by
      show Steps _ _ _ (State.setTop _ (mkF m 13 #[.val (.int p0), .val (.int (own_len p0)), .unset, .unset, .unset] [(.int (own_ch (own_code p0 (0 : Int32))))])) _
      refine S.istoreN X.here hx (hb hby d2_13) #[.val (.int p0), .val (.int (own_len p0)), .val (.int (own_ch (own_code p0 (0 : Int32)))), .unset, .unset] rfl ?_
      refine S.iloadN X.here hx (hb hby d2_14) rfl ?_
      refine S.iconst X.here hx (1 : Int32) (hb hby d2_15) rfl ?_
      exact k)
  obtain ⟨v7, h7, Q7, K7, z7, w7⟩ := w6.callS hx (y := (⟨"com/example/dole/dole/model/GrantMatchesPinLaw", "code", "(II)I"⟩ : MethodName)) (W := 0) (hw _ (List.mem_of_getElem? (i := 13) rfl)) (hw _ (List.mem_of_getElem? (i := 14) rfl)) (hw _ (List.mem_of_getElem? (i := 2) rfl)) (hw _ (List.mem_of_getElem? (i := 15) rfl)) (by decide) ((rm4 l Z a0 hw p0 (1 : Int32) h0 n0 (by omega)).pay w6.hZ (hw _ (List.mem_of_getElem? (i := 15) rfl)) (hw _ (List.mem_of_getElem? (i := 2) rfl)) (by decide) (by decide)) rfl (by rw [hml]; rfl) [] (lenOf pd_5 rfl) rfl (by show 2 * 0 + _ ≤ _; exact Nat.le_of_eq rfl) (hb hby d2_16) (by decide) (by decide) (fun _ q => nomatch q) (fun rv => (mkF m 19 #[.val (.int p0), .val (.int (own_len p0)), .val (.int (own_ch (own_code p0 (0 : Int32)))), .unset, .unset] (rv.toList ++ []))) (fun _ => rfl)
  obtain ⟨rfl, rfl⟩ := Q7
  obtain ⟨v8, h8, Q8, K8, z8, w8⟩ := w7.callS hx (y := (⟨"com/example/dole/dole/model/GrantMatchesPinLaw", "ch", "(I)C"⟩ : MethodName)) (W := 0) (hw _ (List.mem_of_getElem? (i := 16) rfl)) (hw _ (List.mem_of_getElem? (i := 17) rfl)) (hw _ (List.mem_of_getElem? (i := 2) rfl)) (hw _ (List.mem_of_getElem? (i := 18) rfl)) (by decide) ((rm5 l Z a0 hw (own_code p0 (1 : Int32)) h0 n0 (by omega)).pay w7.hZ (hw _ (List.mem_of_getElem? (i := 18) rfl)) (hw _ (List.mem_of_getElem? (i := 2) rfl)) (by decide) (by decide)) rfl (by rw [hml]; rfl) [] (lenOf pd_6 rfl) rfl (by show 2 * 0 + _ ≤ _; exact Nat.le_of_eq rfl) (hb hby d2_19) (by decide) (by decide) (fun _ q => nomatch q) (fun rv => (mkF m 22 #[.val (.int p0), .val (.int (own_len p0)), .val (.int (own_ch (own_code p0 (0 : Int32)))), .unset, .unset] (rv.toList ++ []))) (fun _ => rfl)
  obtain ⟨rfl, rfl⟩ := Q8
  have w9 := w8.pure (mkF m 25 #[.val (.int p0), .val (.int (own_len p0)), .val (.int (own_ch (own_code p0 (0 : Int32)))), .val (.int (own_ch (own_code p0 (1 : Int32)))), .unset] [(.int (2 : Int32)), (.int p0)]) (fun X eT hZ hown k => by
      show Steps _ _ _ (State.setTop _ (mkF m 22 #[.val (.int p0), .val (.int (own_len p0)), .val (.int (own_ch (own_code p0 (0 : Int32)))), .unset, .unset] [(.int (own_ch (own_code p0 (1 : Int32))))])) _
      refine S.istoreN X.here hx (hb hby d2_22) #[.val (.int p0), .val (.int (own_len p0)), .val (.int (own_ch (own_code p0 (0 : Int32)))), .val (.int (own_ch (own_code p0 (1 : Int32)))), .unset] rfl ?_
      refine S.iloadN X.here hx (hb hby d2_23) rfl ?_
      refine S.iconst X.here hx (2 : Int32) (hb hby d2_24) rfl ?_
      exact k)
  obtain ⟨v10, h10, Q10, K10, z10, w10⟩ := w9.callS hx (y := (⟨"com/example/dole/dole/model/GrantMatchesPinLaw", "code", "(II)I"⟩ : MethodName)) (W := 0) (hw _ (List.mem_of_getElem? (i := 13) rfl)) (hw _ (List.mem_of_getElem? (i := 14) rfl)) (hw _ (List.mem_of_getElem? (i := 2) rfl)) (hw _ (List.mem_of_getElem? (i := 15) rfl)) (by decide) ((rm4 l Z a0 hw p0 (2 : Int32) h0 n0 (by omega)).pay w9.hZ (hw _ (List.mem_of_getElem? (i := 15) rfl)) (hw _ (List.mem_of_getElem? (i := 2) rfl)) (by decide) (by decide)) rfl (by rw [hml]; rfl) [] (lenOf pd_5 rfl) rfl (by show 2 * 0 + _ ≤ _; exact Nat.le_of_eq rfl) (hb hby d2_25) (by decide) (by decide) (fun _ q => nomatch q) (fun rv => (mkF m 28 #[.val (.int p0), .val (.int (own_len p0)), .val (.int (own_ch (own_code p0 (0 : Int32)))), .val (.int (own_ch (own_code p0 (1 : Int32)))), .unset] (rv.toList ++ []))) (fun _ => rfl)
  obtain ⟨rfl, rfl⟩ := Q10
  obtain ⟨v11, h11, Q11, K11, z11, w11⟩ := w10.callS hx (y := (⟨"com/example/dole/dole/model/GrantMatchesPinLaw", "ch", "(I)C"⟩ : MethodName)) (W := 0) (hw _ (List.mem_of_getElem? (i := 16) rfl)) (hw _ (List.mem_of_getElem? (i := 17) rfl)) (hw _ (List.mem_of_getElem? (i := 2) rfl)) (hw _ (List.mem_of_getElem? (i := 18) rfl)) (by decide) ((rm5 l Z a0 hw (own_code p0 (2 : Int32)) h0 n0 (by omega)).pay w10.hZ (hw _ (List.mem_of_getElem? (i := 18) rfl)) (hw _ (List.mem_of_getElem? (i := 2) rfl)) (by decide) (by decide)) rfl (by rw [hml]; rfl) [] (lenOf pd_6 rfl) rfl (by show 2 * 0 + _ ≤ _; exact Nat.le_of_eq rfl) (hb hby d2_28) (by decide) (by decide) (fun _ q => nomatch q) (fun rv => (mkF m 31 #[.val (.int p0), .val (.int (own_len p0)), .val (.int (own_ch (own_code p0 (0 : Int32)))), .val (.int (own_ch (own_code p0 (1 : Int32)))), .unset] (rv.toList ++ []))) (fun _ => rfl)
  obtain ⟨rfl, rfl⟩ := Q11
  have w12 := w11.pure (mkF m 34 #[.val (.int p0), .val (.int (own_len p0)), .val (.int (own_ch (own_code p0 (0 : Int32)))), .val (.int (own_ch (own_code p0 (1 : Int32)))), .val (.int (own_ch (own_code p0 (2 : Int32))))] [(.int (own_len p0))]) (fun X eT hZ hown k => by
      show Steps _ _ _ (State.setTop _ (mkF m 31 #[.val (.int p0), .val (.int (own_len p0)), .val (.int (own_ch (own_code p0 (0 : Int32)))), .val (.int (own_ch (own_code p0 (1 : Int32)))), .unset] [(.int (own_ch (own_code p0 (2 : Int32))))])) _
      refine S.istore X.here hx (hb hby d2_31) #[.val (.int p0), .val (.int (own_len p0)), .val (.int (own_ch (own_code p0 (0 : Int32)))), .val (.int (own_ch (own_code p0 (1 : Int32)))), .val (.int (own_ch (own_code p0 (2 : Int32))))] rfl ?_
      refine S.iloadN X.here hx (hb hby d2_33) rfl ?_
      exact k)
  by_cases hc13 : (own_len p0) = (0 : Int32)
  · have w14 := w12.pure (mkF m 37 #[.val (.int p0), .val (.int (own_len p0)), .val (.int (own_ch (own_code p0 (0 : Int32)))), .val (.int (own_ch (own_code p0 (1 : Int32)))), .val (.int (own_ch (own_code p0 (2 : Int32))))] []) (fun X eT hZ hown k => by
        show Steps _ _ _ (State.setTop _ (mkF m 34 #[.val (.int p0), .val (.int (own_len p0)), .val (.int (own_ch (own_code p0 (0 : Int32)))), .val (.int (own_ch (own_code p0 (1 : Int32)))), .val (.int (own_ch (own_code p0 (2 : Int32))))] [(.int (own_len p0))])) _
        refine S.ifNo X.here hx (hb hby d2_34) ((if0 _ _).trans (teq hc13).2) ?_
        exact k)
    obtain ⟨b15, h15, g15, E15, l15, A15, D15, y15, w15⟩ := w14.newO hx (hw _ (List.mem_of_getElem? (i := 19) rfl)) (hw _ (List.mem_of_getElem? (i := 20) rfl)) (hw _ (List.mem_of_getElem? (i := 21) rfl)) rfl (hb hby d2_37) (by decide) (by decide) (fun xq => (mkF m 40 #[.val (.int p0), .val (.int (own_len p0)), .val (.int (own_ch (own_code p0 (0 : Int32)))), .val (.int (own_ch (own_code p0 (1 : Int32)))), .val (.int (own_ch (own_code p0 (2 : Int32))))] (.ref xq :: []))) (fun _ => rfl)
    have z15 := E15.1
    have K16 : Keep h0 h15 [] := K0.ext E15
    have D15_35 : Fld Z h15 b15 "java/lang/String" "value" "[B" .null := D15 (Or.inr (hw _ (List.mem_of_getElem? (i := 35) rfl))) (ty := (.array .byte)) (by decide)
    have D15_36 : Fld Z h15 b15 "java/lang/String" "coder" "B" (.int (0 : Int32)) := D15 (Or.inr (hw _ (List.mem_of_getElem? (i := 36) rfl))) (ty := .byte) (by decide)
    have w17 := w15.pure (mkF m 42 #[.val (.int p0), .val (.int (own_len p0)), .val (.int (own_ch (own_code p0 (0 : Int32)))), .val (.int (own_ch (own_code p0 (1 : Int32)))), .val (.int (own_ch (own_code p0 (2 : Int32))))] [(.int (0 : Int32)), (.ref b15), (.ref b15)]) (fun X eT hZ hown k => by
        show Steps _ _ _ (State.setTop _ (mkF m 40 #[.val (.int p0), .val (.int (own_len p0)), .val (.int (own_ch (own_code p0 (0 : Int32)))), .val (.int (own_ch (own_code p0 (1 : Int32)))), .val (.int (own_ch (own_code p0 (2 : Int32))))] [(.ref b15)])) _
        refine S.dup X.here hx (hb hby d2_40) rfl ?_
        refine S.iconst X.here hx (0 : Int32) (hb hby d2_41) rfl ?_
        exact k)
    obtain ⟨b18, h18, k18, g18, E18, l18, A18, y18, w18⟩ := w17.newP hx (hw _ (List.mem_of_getElem? (i := 22) rfl)) rfl (hb hby d2_42) rfl (by decide) 0 (by decide) (by decide) (by decide) (by decide) (fun xq => (mkF m 44 #[.val (.int p0), .val (.int (own_len p0)), .val (.int (own_ch (own_code p0 (0 : Int32)))), .val (.int (own_ch (own_code p0 (1 : Int32)))), .val (.int (own_ch (own_code p0 (2 : Int32))))] (.ref xq :: [(.ref b15), (.ref b15)]))) (fun _ => rfl)
    have z18 := E18.1
    have K19 : Keep h0 h18 [] := K16.ext E18
    have V18 : Arv Z h18 b18 k18 .char (0 : Int32) [] (.int (0 : Int32)) := A18.pad (pad_rep [] (.int (0 : Int32)) 0)
    have F20 := A15.ext E18
    have F21 := D15_35.ext E18
    have F22 := D15_36.ext E18
    have F23 := Safe.ext E18 w17.chv y15
    obtain ⟨v24, vm24, h24, Q24, K24, z24, C24, w24⟩ := w18.callIW hx (y := (⟨"java/lang/String", "<init>", "([C)V"⟩ : MethodName)) (W := 1) rfl (hw _ (List.mem_of_getElem? (i := 23) rfl)) (hw _ (List.mem_of_getElem? (i := 24) rfl)) (hw _ (List.mem_of_getElem? (i := 25) rfl)) (by decide) ((rme1 l Z a0 hw hE b15 b18 k18 h18 n0 (by omega) (by omega) F20 F21 F22 V18).pay w18 (hw _ (List.mem_of_getElem? (i := 25) rfl)) (hw _ (List.mem_of_getElem? (i := 21) rfl)) (by decide) (by decide) (allS ⟨by omega, F23⟩ all0)) rfl (by rw [hml]; rfl) [(.ref b15)] (lenOf pd_7 rfl) rfl (by show 2 * 0 + _ ≤ _; exact Nat.le_of_eq rfl) (hb hby d2_44) (by decide) (by decide)  (fun rv => (mkF m 47 #[.val (.int p0), .val (.int (own_len p0)), .val (.int (own_ch (own_code p0 (0 : Int32)))), .val (.int (own_ch (own_code p0 (1 : Int32)))), .val (.int (own_ch (own_code p0 (2 : Int32))))] (rv.toList ++ [(.ref b15)]))) (fun _ => rfl)
    obtain ⟨rfl, G24⟩ := Q24
    have K25 : Keep h0 h24 [] := K19.trans K24 (allS (Or.inr (by omega)) (fun _ q => nomatch q))
    have lt_b15 := G24.lt
    exact w24.endW (v := some (.ref b15)) (Q := (fun v h => ∃ x, v = some (.ref x) ∧ n0 ≤ x ∧ Str Z h x (own_draw p0) h.size)) (wr := []) (h0 := h0) (fun h => by rw [Bd.returns] at h; cases h) Bd.notSynchronized (fun X hr => X.areturnOut hx rfl Bd.returns rfl (hb hby d2_47) hr) (by decide) (by decide) ⟨b15, rfl, by omega, by rw [show (own_draw p0) = [] from by simp only [own_draw, if_pos hc13]]; exact G24.more (by omega)⟩ K25
  · have w26 := w12.pure (mkF m 50 #[.val (.int p0), .val (.int (own_len p0)), .val (.int (own_ch (own_code p0 (0 : Int32)))), .val (.int (own_ch (own_code p0 (1 : Int32)))), .val (.int (own_ch (own_code p0 (2 : Int32))))] [(.int (1 : Int32)), (.int (own_len p0))]) (fun X eT hZ hown k => by
        show Steps _ _ _ (State.setTop _ (mkF m 34 #[.val (.int p0), .val (.int (own_len p0)), .val (.int (own_ch (own_code p0 (0 : Int32)))), .val (.int (own_ch (own_code p0 (1 : Int32)))), .val (.int (own_ch (own_code p0 (2 : Int32))))] [(.int (own_len p0))])) _
        refine S.ifYes X.here hx 48 (hb hby d2_34) ((if0 _ _).trans (feq hc13).2) (by decide) (by decide) ?_
        refine S.iloadN X.here hx (hb hby d2_48) rfl ?_
        refine S.iconst X.here hx (1 : Int32) (hb hby d2_49) rfl ?_
        exact k)
    by_cases hc27 : (own_len p0) = (1 : Int32)
    · have w28 := w26.pure (mkF m 54 #[.val (.int p0), .val (.int (own_len p0)), .val (.int (own_ch (own_code p0 (0 : Int32)))), .val (.int (own_ch (own_code p0 (1 : Int32)))), .val (.int (own_ch (own_code p0 (2 : Int32))))] [(.int (own_ch (own_code p0 (0 : Int32))))]) (fun X eT hZ hown k => by
          show Steps _ _ _ (State.setTop _ (mkF m 50 #[.val (.int p0), .val (.int (own_len p0)), .val (.int (own_ch (own_code p0 (0 : Int32)))), .val (.int (own_ch (own_code p0 (1 : Int32)))), .val (.int (own_ch (own_code p0 (2 : Int32))))] [(.int (1 : Int32)), (.int (own_len p0))])) _
          refine S.icmpNo X.here hx (hb hby d2_50) (teq hc27).2 ?_
          refine S.iloadN X.here hx (hb hby d2_53) rfl ?_
          exact k)
      obtain ⟨v29, h29, Q29, K29, z29, w29⟩ := w28.callS hx (y := (⟨"java/lang/String", "valueOf", "(C)Ljava/lang/String;"⟩ : MethodName)) (W := 0) (hw _ (List.mem_of_getElem? (i := 71) rfl)) (hw _ (List.mem_of_getElem? (i := 72) rfl)) (hw _ (List.mem_of_getElem? (i := 21) rfl)) (hw _ (List.mem_of_getElem? (i := 73) rfl)) (by decide) ((rmvo l Z a0 hw (own_ch (own_code p0 (0 : Int32))) h0 n0 (by omega) hG X0 (own_ch_rng _)).pay w28.hZ (hw _ (List.mem_of_getElem? (i := 73) rfl)) (hw _ (List.mem_of_getElem? (i := 21) rfl)) (by decide) (by decide)) rfl (by rw [hml]; rfl) [] (lenOf pd_8 rfl) rfl (by show 2 * 0 + _ ≤ _; exact Nat.le_of_eq rfl) (hb hby d2_54) (by decide) (by decide) (fun _ q => nomatch q) (fun rv => (mkF m 57 #[.val (.int p0), .val (.int (own_len p0)), .val (.int (own_ch (own_code p0 (0 : Int32)))), .val (.int (own_ch (own_code p0 (1 : Int32)))), .val (.int (own_ch (own_code p0 (2 : Int32))))] (rv.toList ++ []))) (fun _ => rfl)
      obtain ⟨x29, rfl, gx29, S29⟩ := Q29
      have K30 : Keep h0 h29 [] := K0.trans K29 (fun _ q => nomatch q)
      have lt_x29 := S29.lt
      exact w29.endW (v := some (.ref x29)) (Q := (fun v h => ∃ x, v = some (.ref x) ∧ n0 ≤ x ∧ Str Z h x (own_draw p0) h.size)) (wr := []) (h0 := h0) (fun h => by rw [Bd.returns] at h; cases h) Bd.notSynchronized (fun X hr => X.areturnOut hx rfl Bd.returns rfl (hb hby d2_57) hr) (by decide) (by decide) ⟨x29, rfl, by omega, by rw [show (own_draw p0) = [(own_ch (own_code p0 (0 : Int32)))] from by simp only [own_draw, if_neg hc13, if_pos hc27]]; exact S29.more (by omega)⟩ K30
    · have w31 := w26.pure (mkF m 60 #[.val (.int p0), .val (.int (own_len p0)), .val (.int (own_ch (own_code p0 (0 : Int32)))), .val (.int (own_ch (own_code p0 (1 : Int32)))), .val (.int (own_ch (own_code p0 (2 : Int32))))] [(.int (2 : Int32)), (.int (own_len p0))]) (fun X eT hZ hown k => by
          show Steps _ _ _ (State.setTop _ (mkF m 50 #[.val (.int p0), .val (.int (own_len p0)), .val (.int (own_ch (own_code p0 (0 : Int32)))), .val (.int (own_ch (own_code p0 (1 : Int32)))), .val (.int (own_ch (own_code p0 (2 : Int32))))] [(.int (1 : Int32)), (.int (own_len p0))])) _
          refine S.icmpYes X.here hx 58 (hb hby d2_50) (feq hc27).2 (by decide) (by decide) ?_
          refine S.iloadN X.here hx (hb hby d2_58) rfl ?_
          refine S.iconst X.here hx (2 : Int32) (hb hby d2_59) rfl ?_
          exact k)
      by_cases hc32 : (own_len p0) = (2 : Int32)
      · have w33 := w31.pure (mkF m 63 #[.val (.int p0), .val (.int (own_len p0)), .val (.int (own_ch (own_code p0 (0 : Int32)))), .val (.int (own_ch (own_code p0 (1 : Int32)))), .val (.int (own_ch (own_code p0 (2 : Int32))))] []) (fun X eT hZ hown k => by
            show Steps _ _ _ (State.setTop _ (mkF m 60 #[.val (.int p0), .val (.int (own_len p0)), .val (.int (own_ch (own_code p0 (0 : Int32)))), .val (.int (own_ch (own_code p0 (1 : Int32)))), .val (.int (own_ch (own_code p0 (2 : Int32))))] [(.int (2 : Int32)), (.int (own_len p0))])) _
            refine S.icmpNo X.here hx (hb hby d2_60) (teq hc32).2 ?_
            exact k)
        obtain ⟨b34, h34, g34, E34, l34, A34, D34, y34, w34⟩ := w33.newO hx (hw _ (List.mem_of_getElem? (i := 19) rfl)) (hw _ (List.mem_of_getElem? (i := 20) rfl)) (hw _ (List.mem_of_getElem? (i := 21) rfl)) rfl (hb hby d2_63) (by decide) (by decide) (fun xq => (mkF m 66 #[.val (.int p0), .val (.int (own_len p0)), .val (.int (own_ch (own_code p0 (0 : Int32)))), .val (.int (own_ch (own_code p0 (1 : Int32)))), .val (.int (own_ch (own_code p0 (2 : Int32))))] (.ref xq :: []))) (fun _ => rfl)
        have z34 := E34.1
        have K35 : Keep h0 h34 [] := K0.ext E34
        have D34_35 : Fld Z h34 b34 "java/lang/String" "value" "[B" .null := D34 (Or.inr (hw _ (List.mem_of_getElem? (i := 35) rfl))) (ty := (.array .byte)) (by decide)
        have D34_36 : Fld Z h34 b34 "java/lang/String" "coder" "B" (.int (0 : Int32)) := D34 (Or.inr (hw _ (List.mem_of_getElem? (i := 36) rfl))) (ty := .byte) (by decide)
        have w36 := w34.pure (mkF m 68 #[.val (.int p0), .val (.int (own_len p0)), .val (.int (own_ch (own_code p0 (0 : Int32)))), .val (.int (own_ch (own_code p0 (1 : Int32)))), .val (.int (own_ch (own_code p0 (2 : Int32))))] [(.int (2 : Int32)), (.ref b34), (.ref b34)]) (fun X eT hZ hown k => by
            show Steps _ _ _ (State.setTop _ (mkF m 66 #[.val (.int p0), .val (.int (own_len p0)), .val (.int (own_ch (own_code p0 (0 : Int32)))), .val (.int (own_ch (own_code p0 (1 : Int32)))), .val (.int (own_ch (own_code p0 (2 : Int32))))] [(.ref b34)])) _
            refine S.dup X.here hx (hb hby d2_66) rfl ?_
            refine S.iconst X.here hx (2 : Int32) (hb hby d2_67) rfl ?_
            exact k)
        obtain ⟨b37, h37, k37, g37, E37, l37, A37, y37, w37⟩ := w36.newP hx (hw _ (List.mem_of_getElem? (i := 22) rfl)) rfl (hb hby d2_68) rfl (by decide) 2 (by decide) (by decide) (by decide) (by decide) (fun xq => (mkF m 70 #[.val (.int p0), .val (.int (own_len p0)), .val (.int (own_ch (own_code p0 (0 : Int32)))), .val (.int (own_ch (own_code p0 (1 : Int32)))), .val (.int (own_ch (own_code p0 (2 : Int32))))] (.ref xq :: [(.ref b34), (.ref b34)]))) (fun _ => rfl)
        have z37 := E37.1
        have K38 : Keep h0 h37 [] := K35.ext E37
        have V37 : Arv Z h37 b37 k37 .char (2 : Int32) [(.int (0 : Int32)), (.int (0 : Int32))] (.int (0 : Int32)) := A37.pad (pad_rep [] (.int (0 : Int32)) 2)
        have w39 := w37.pure (mkF m 73 #[.val (.int p0), .val (.int (own_len p0)), .val (.int (own_ch (own_code p0 (0 : Int32)))), .val (.int (own_ch (own_code p0 (1 : Int32)))), .val (.int (own_ch (own_code p0 (2 : Int32))))] [(.int (own_ch (own_code p0 (0 : Int32)))), (.int (0 : Int32)), (.ref b37), (.ref b37), (.ref b34), (.ref b34)]) (fun X eT hZ hown k => by
            show Steps _ _ _ (State.setTop _ (mkF m 70 #[.val (.int p0), .val (.int (own_len p0)), .val (.int (own_ch (own_code p0 (0 : Int32)))), .val (.int (own_ch (own_code p0 (1 : Int32)))), .val (.int (own_ch (own_code p0 (2 : Int32))))] [(.ref b37), (.ref b34), (.ref b34)])) _
            refine S.dup X.here hx (hb hby d2_70) rfl ?_
            refine S.iconst X.here hx (0 : Int32) (hb hby d2_71) rfl ?_
            refine S.iloadN X.here hx (hb hby d2_72) rfl ?_
            exact k)
        obtain ⟨h40, W40, z40, V40, w40⟩ := w39.stC hx V37 0 rfl (Nat.le_of_ble_eq_true rfl) ⟨by decide, by decide⟩ rfl rfl (hb hby d2_73) (by omega) (mkF m 74 #[.val (.int p0), .val (.int (own_len p0)), .val (.int (own_ch (own_code p0 (0 : Int32)))), .val (.int (own_ch (own_code p0 (1 : Int32)))), .val (.int (own_ch (own_code p0 (2 : Int32))))] [(.ref b37), (.ref b34), (.ref b34)]) rfl
        rw [nar_rng (own_ch_rng _)] at V40
        have U40 : Arv Z h40 b37 k37 .char (2 : Int32) [(.int (own_ch (own_code p0 (0 : Int32)))), (.int (0 : Int32))] (.int (0 : Int32)) := V40
        have K41 : Keep h0 h40 [] := K38.wr W40 (Or.inr (by omega))
        have w42 := w40.pure (mkF m 77 #[.val (.int p0), .val (.int (own_len p0)), .val (.int (own_ch (own_code p0 (0 : Int32)))), .val (.int (own_ch (own_code p0 (1 : Int32)))), .val (.int (own_ch (own_code p0 (2 : Int32))))] [(.int (own_ch (own_code p0 (1 : Int32)))), (.int (1 : Int32)), (.ref b37), (.ref b37), (.ref b34), (.ref b34)]) (fun X eT hZ hown k => by
            show Steps _ _ _ (State.setTop _ (mkF m 74 #[.val (.int p0), .val (.int (own_len p0)), .val (.int (own_ch (own_code p0 (0 : Int32)))), .val (.int (own_ch (own_code p0 (1 : Int32)))), .val (.int (own_ch (own_code p0 (2 : Int32))))] [(.ref b37), (.ref b34), (.ref b34)])) _
            refine S.dup X.here hx (hb hby d2_74) rfl ?_
            refine S.iconst X.here hx (1 : Int32) (hb hby d2_75) rfl ?_
            refine S.iloadN X.here hx (hb hby d2_76) rfl ?_
            exact k)
        obtain ⟨h43, W43, z43, V43, w43⟩ := w42.stC hx U40 1 rfl (Nat.le_of_ble_eq_true rfl) ⟨by decide, by decide⟩ rfl rfl (hb hby d2_77) (by omega) (mkF m 78 #[.val (.int p0), .val (.int (own_len p0)), .val (.int (own_ch (own_code p0 (0 : Int32)))), .val (.int (own_ch (own_code p0 (1 : Int32)))), .val (.int (own_ch (own_code p0 (2 : Int32))))] [(.ref b37), (.ref b34), (.ref b34)]) rfl
        rw [nar_rng (own_ch_rng _)] at V43
        have U43 : Arv Z h43 b37 k37 .char (2 : Int32) [(.int (own_ch (own_code p0 (0 : Int32)))), (.int (own_ch (own_code p0 (1 : Int32))))] (.int (0 : Int32)) := V43
        have K44 : Keep h0 h43 [] := K41.wr W43 (Or.inr (by omega))
        have F45 := A34.ext E37
        have F46 := F45.wr W40
        have F47 := F46.wr W43
        have F48 := D34_35.ext E37
        have F49 := F48.other W40 (Or.inl (nne (by omega)))
        have F50 := F49.other W43 (Or.inl (nne (by omega)))
        have F51 := D34_36.ext E37
        have F52 := F51.other W40 (Or.inl (nne (by omega)))
        have F53 := F52.other W43 (Or.inl (nne (by omega)))
        have F54 := X0.ext E34
        have F55 := F54.ext E37
        have F56 := F55.wr W40 (by omega)
        have F57 := F56.wr W43 (by omega)
        have r58 : ∀ c ∈ ([(own_ch (own_code p0 (0 : Int32))), (own_ch (own_code p0 (1 : Int32)))] : List Int32), ¬ c < 0 ∧ ¬ (255 : Int32) < c := (List.forall_mem_cons.mpr ⟨(own_ch_rng _), (List.forall_mem_cons.mpr ⟨(own_ch_rng _), (fun _ q => nomatch q)⟩)⟩)
        have F60 := Safe.ext E37 w36.chv y34
        have F61 := Safe.wr W40 (Safe.arv w39.al V37 (by decide)) w39.chv F60
        have F62 := Safe.wr W43 (Safe.arv w42.al U40 (by decide)) w42.chv F61
        obtain ⟨v59, h59, Q59, K59, z59, w59⟩ := w43.callI hx (y := (⟨"java/lang/String", "<init>", "([C)V"⟩ : MethodName)) (W := 1) rfl (hw _ (List.mem_of_getElem? (i := 23) rfl)) (hw _ (List.mem_of_getElem? (i := 24) rfl)) (hw _ (List.mem_of_getElem? (i := 25) rfl)) (by decide) (payNew hG w43.hZ hq_backV (hw _ (List.mem_of_getElem? (i := 20) rfl)) [(own_ch (own_code p0 (0 : Int32))), (own_ch (own_code p0 (1 : Int32)))] 2 (by omega) F47 F50 F53 U43 F57 rfl rfl (by decide) (by decide) r58 (by decide) (by decide)) rfl (by rw [hml]; rfl) [(.ref b34)] (lenOf pd_7 rfl) rfl (by show 2 * 0 + _ ≤ _; exact Nat.le_of_eq rfl) (hb hby d2_78) (by decide) (by decide) (sfS F62 sf0) (fun rv => (mkF m 81 #[.val (.int p0), .val (.int (own_len p0)), .val (.int (own_ch (own_code p0 (0 : Int32)))), .val (.int (own_ch (own_code p0 (1 : Int32)))), .val (.int (own_ch (own_code p0 (2 : Int32))))] (rv.toList ++ [(.ref b34)]))) (fun _ => rfl)
        obtain ⟨rfl, G59⟩ := Q59
        have K63 : Keep h0 h59 [] := K44.trans K59 (allS (Or.inr (by omega)) (fun _ q => nomatch q))
        have lt_b34 := G59.lt
        exact w59.endW (v := some (.ref b34)) (Q := (fun v h => ∃ x, v = some (.ref x) ∧ n0 ≤ x ∧ Str Z h x (own_draw p0) h.size)) (wr := []) (h0 := h0) (fun h => by rw [Bd.returns] at h; cases h) Bd.notSynchronized (fun X hr => X.areturnOut hx rfl Bd.returns rfl (hb hby d2_81) hr) (by decide) (by decide) ⟨b34, rfl, by omega, by rw [show (own_draw p0) = [(own_ch (own_code p0 (0 : Int32))), (own_ch (own_code p0 (1 : Int32)))] from by simp only [own_draw, if_neg hc13, if_neg hc27, if_pos hc32]]; exact G59.more (by omega)⟩ K63
      · have w64 := w31.pure (mkF m 82 #[.val (.int p0), .val (.int (own_len p0)), .val (.int (own_ch (own_code p0 (0 : Int32)))), .val (.int (own_ch (own_code p0 (1 : Int32)))), .val (.int (own_ch (own_code p0 (2 : Int32))))] []) (fun X eT hZ hown k => by
            show Steps _ _ _ (State.setTop _ (mkF m 60 #[.val (.int p0), .val (.int (own_len p0)), .val (.int (own_ch (own_code p0 (0 : Int32)))), .val (.int (own_ch (own_code p0 (1 : Int32)))), .val (.int (own_ch (own_code p0 (2 : Int32))))] [(.int (2 : Int32)), (.int (own_len p0))])) _
            refine S.icmpYes X.here hx 82 (hb hby d2_60) (feq hc32).2 (by decide) (by decide) ?_
            exact k)
        obtain ⟨b65, h65, g65, E65, l65, A65, D65, y65, w65⟩ := w64.newO hx (hw _ (List.mem_of_getElem? (i := 19) rfl)) (hw _ (List.mem_of_getElem? (i := 20) rfl)) (hw _ (List.mem_of_getElem? (i := 21) rfl)) rfl (hb hby d2_82) (by decide) (by decide) (fun xq => (mkF m 85 #[.val (.int p0), .val (.int (own_len p0)), .val (.int (own_ch (own_code p0 (0 : Int32)))), .val (.int (own_ch (own_code p0 (1 : Int32)))), .val (.int (own_ch (own_code p0 (2 : Int32))))] (.ref xq :: []))) (fun _ => rfl)
        have z65 := E65.1
        have K66 : Keep h0 h65 [] := K0.ext E65
        have D65_35 : Fld Z h65 b65 "java/lang/String" "value" "[B" .null := D65 (Or.inr (hw _ (List.mem_of_getElem? (i := 35) rfl))) (ty := (.array .byte)) (by decide)
        have D65_36 : Fld Z h65 b65 "java/lang/String" "coder" "B" (.int (0 : Int32)) := D65 (Or.inr (hw _ (List.mem_of_getElem? (i := 36) rfl))) (ty := .byte) (by decide)
        have w67 := w65.pure (mkF m 87 #[.val (.int p0), .val (.int (own_len p0)), .val (.int (own_ch (own_code p0 (0 : Int32)))), .val (.int (own_ch (own_code p0 (1 : Int32)))), .val (.int (own_ch (own_code p0 (2 : Int32))))] [(.int (3 : Int32)), (.ref b65), (.ref b65)]) (fun X eT hZ hown k => by
            show Steps _ _ _ (State.setTop _ (mkF m 85 #[.val (.int p0), .val (.int (own_len p0)), .val (.int (own_ch (own_code p0 (0 : Int32)))), .val (.int (own_ch (own_code p0 (1 : Int32)))), .val (.int (own_ch (own_code p0 (2 : Int32))))] [(.ref b65)])) _
            refine S.dup X.here hx (hb hby d2_85) rfl ?_
            refine S.iconst X.here hx (3 : Int32) (hb hby d2_86) rfl ?_
            exact k)
        obtain ⟨b68, h68, k68, g68, E68, l68, A68, y68, w68⟩ := w67.newP hx (hw _ (List.mem_of_getElem? (i := 22) rfl)) rfl (hb hby d2_87) rfl (by decide) 3 (by decide) (by decide) (by decide) (by decide) (fun xq => (mkF m 89 #[.val (.int p0), .val (.int (own_len p0)), .val (.int (own_ch (own_code p0 (0 : Int32)))), .val (.int (own_ch (own_code p0 (1 : Int32)))), .val (.int (own_ch (own_code p0 (2 : Int32))))] (.ref xq :: [(.ref b65), (.ref b65)]))) (fun _ => rfl)
        have z68 := E68.1
        have K69 : Keep h0 h68 [] := K66.ext E68
        have V68 : Arv Z h68 b68 k68 .char (3 : Int32) [(.int (0 : Int32)), (.int (0 : Int32)), (.int (0 : Int32))] (.int (0 : Int32)) := A68.pad (pad_rep [] (.int (0 : Int32)) 3)
        have w70 := w68.pure (mkF m 92 #[.val (.int p0), .val (.int (own_len p0)), .val (.int (own_ch (own_code p0 (0 : Int32)))), .val (.int (own_ch (own_code p0 (1 : Int32)))), .val (.int (own_ch (own_code p0 (2 : Int32))))] [(.int (own_ch (own_code p0 (0 : Int32)))), (.int (0 : Int32)), (.ref b68), (.ref b68), (.ref b65), (.ref b65)]) (fun X eT hZ hown k => by
            show Steps _ _ _ (State.setTop _ (mkF m 89 #[.val (.int p0), .val (.int (own_len p0)), .val (.int (own_ch (own_code p0 (0 : Int32)))), .val (.int (own_ch (own_code p0 (1 : Int32)))), .val (.int (own_ch (own_code p0 (2 : Int32))))] [(.ref b68), (.ref b65), (.ref b65)])) _
            refine S.dup X.here hx (hb hby d2_89) rfl ?_
            refine S.iconst X.here hx (0 : Int32) (hb hby d2_90) rfl ?_
            refine S.iloadN X.here hx (hb hby d2_91) rfl ?_
            exact k)
        obtain ⟨h71, W71, z71, V71, w71⟩ := w70.stC hx V68 0 rfl (Nat.le_of_ble_eq_true rfl) ⟨by decide, by decide⟩ rfl rfl (hb hby d2_92) (by omega) (mkF m 93 #[.val (.int p0), .val (.int (own_len p0)), .val (.int (own_ch (own_code p0 (0 : Int32)))), .val (.int (own_ch (own_code p0 (1 : Int32)))), .val (.int (own_ch (own_code p0 (2 : Int32))))] [(.ref b68), (.ref b65), (.ref b65)]) rfl
        rw [nar_rng (own_ch_rng _)] at V71
        have U71 : Arv Z h71 b68 k68 .char (3 : Int32) [(.int (own_ch (own_code p0 (0 : Int32)))), (.int (0 : Int32)), (.int (0 : Int32))] (.int (0 : Int32)) := V71
        have K72 : Keep h0 h71 [] := K69.wr W71 (Or.inr (by omega))
        have w73 := w71.pure (mkF m 96 #[.val (.int p0), .val (.int (own_len p0)), .val (.int (own_ch (own_code p0 (0 : Int32)))), .val (.int (own_ch (own_code p0 (1 : Int32)))), .val (.int (own_ch (own_code p0 (2 : Int32))))] [(.int (own_ch (own_code p0 (1 : Int32)))), (.int (1 : Int32)), (.ref b68), (.ref b68), (.ref b65), (.ref b65)]) (fun X eT hZ hown k => by
            show Steps _ _ _ (State.setTop _ (mkF m 93 #[.val (.int p0), .val (.int (own_len p0)), .val (.int (own_ch (own_code p0 (0 : Int32)))), .val (.int (own_ch (own_code p0 (1 : Int32)))), .val (.int (own_ch (own_code p0 (2 : Int32))))] [(.ref b68), (.ref b65), (.ref b65)])) _
            refine S.dup X.here hx (hb hby d2_93) rfl ?_
            refine S.iconst X.here hx (1 : Int32) (hb hby d2_94) rfl ?_
            refine S.iloadN X.here hx (hb hby d2_95) rfl ?_
            exact k)
        obtain ⟨h74, W74, z74, V74, w74⟩ := w73.stC hx U71 1 rfl (Nat.le_of_ble_eq_true rfl) ⟨by decide, by decide⟩ rfl rfl (hb hby d2_96) (by omega) (mkF m 97 #[.val (.int p0), .val (.int (own_len p0)), .val (.int (own_ch (own_code p0 (0 : Int32)))), .val (.int (own_ch (own_code p0 (1 : Int32)))), .val (.int (own_ch (own_code p0 (2 : Int32))))] [(.ref b68), (.ref b65), (.ref b65)]) rfl
        rw [nar_rng (own_ch_rng _)] at V74
        have U74 : Arv Z h74 b68 k68 .char (3 : Int32) [(.int (own_ch (own_code p0 (0 : Int32)))), (.int (own_ch (own_code p0 (1 : Int32)))), (.int (0 : Int32))] (.int (0 : Int32)) := V74
        have K75 : Keep h0 h74 [] := K72.wr W74 (Or.inr (by omega))
        have w76 := w74.pure (mkF m 101 #[.val (.int p0), .val (.int (own_len p0)), .val (.int (own_ch (own_code p0 (0 : Int32)))), .val (.int (own_ch (own_code p0 (1 : Int32)))), .val (.int (own_ch (own_code p0 (2 : Int32))))] [(.int (own_ch (own_code p0 (2 : Int32)))), (.int (2 : Int32)), (.ref b68), (.ref b68), (.ref b65), (.ref b65)]) (fun X eT hZ hown k => by
            show Steps _ _ _ (State.setTop _ (mkF m 97 #[.val (.int p0), .val (.int (own_len p0)), .val (.int (own_ch (own_code p0 (0 : Int32)))), .val (.int (own_ch (own_code p0 (1 : Int32)))), .val (.int (own_ch (own_code p0 (2 : Int32))))] [(.ref b68), (.ref b65), (.ref b65)])) _
            refine S.dup X.here hx (hb hby d2_97) rfl ?_
            refine S.iconst X.here hx (2 : Int32) (hb hby d2_98) rfl ?_
            refine S.iload X.here hx (hb hby d2_99) rfl ?_
            exact k)
        obtain ⟨h77, W77, z77, V77, w77⟩ := w76.stC hx U74 2 rfl (Nat.le_of_ble_eq_true rfl) ⟨by decide, by decide⟩ rfl rfl (hb hby d2_101) (by omega) (mkF m 102 #[.val (.int p0), .val (.int (own_len p0)), .val (.int (own_ch (own_code p0 (0 : Int32)))), .val (.int (own_ch (own_code p0 (1 : Int32)))), .val (.int (own_ch (own_code p0 (2 : Int32))))] [(.ref b68), (.ref b65), (.ref b65)]) rfl
        rw [nar_rng (own_ch_rng _)] at V77
        have U77 : Arv Z h77 b68 k68 .char (3 : Int32) [(.int (own_ch (own_code p0 (0 : Int32)))), (.int (own_ch (own_code p0 (1 : Int32)))), (.int (own_ch (own_code p0 (2 : Int32))))] (.int (0 : Int32)) := V77
        have K78 : Keep h0 h77 [] := K75.wr W77 (Or.inr (by omega))
        have F79 := A65.ext E68
        have F80 := F79.wr W71
        have F81 := F80.wr W74
        have F82 := F81.wr W77
        have F83 := D65_35.ext E68
        have F84 := F83.other W71 (Or.inl (nne (by omega)))
        have F85 := F84.other W74 (Or.inl (nne (by omega)))
        have F86 := F85.other W77 (Or.inl (nne (by omega)))
        have F87 := D65_36.ext E68
        have F88 := F87.other W71 (Or.inl (nne (by omega)))
        have F89 := F88.other W74 (Or.inl (nne (by omega)))
        have F90 := F89.other W77 (Or.inl (nne (by omega)))
        have F91 := X0.ext E65
        have F92 := F91.ext E68
        have F93 := F92.wr W71 (by omega)
        have F94 := F93.wr W74 (by omega)
        have F95 := F94.wr W77 (by omega)
        have r96 : ∀ c ∈ ([(own_ch (own_code p0 (0 : Int32))), (own_ch (own_code p0 (1 : Int32))), (own_ch (own_code p0 (2 : Int32)))] : List Int32), ¬ c < 0 ∧ ¬ (255 : Int32) < c := (List.forall_mem_cons.mpr ⟨(own_ch_rng _), (List.forall_mem_cons.mpr ⟨(own_ch_rng _), (List.forall_mem_cons.mpr ⟨(own_ch_rng _), (fun _ q => nomatch q)⟩)⟩)⟩)
        have F98 := Safe.ext E68 w67.chv y65
        have F99 := Safe.wr W71 (Safe.arv w70.al V68 (by decide)) w70.chv F98
        have F100 := Safe.wr W74 (Safe.arv w73.al U71 (by decide)) w73.chv F99
        have F101 := Safe.wr W77 (Safe.arv w76.al U74 (by decide)) w76.chv F100
        obtain ⟨v97, h97, Q97, K97, z97, w97⟩ := w77.callI hx (y := (⟨"java/lang/String", "<init>", "([C)V"⟩ : MethodName)) (W := 1) rfl (hw _ (List.mem_of_getElem? (i := 23) rfl)) (hw _ (List.mem_of_getElem? (i := 24) rfl)) (hw _ (List.mem_of_getElem? (i := 25) rfl)) (by decide) (payNew hG w77.hZ hq_backV (hw _ (List.mem_of_getElem? (i := 20) rfl)) [(own_ch (own_code p0 (0 : Int32))), (own_ch (own_code p0 (1 : Int32))), (own_ch (own_code p0 (2 : Int32)))] 3 (by omega) F82 F86 F90 U77 F95 rfl rfl (by decide) (by decide) r96 (by decide) (by decide)) rfl (by rw [hml]; rfl) [(.ref b65)] (lenOf pd_7 rfl) rfl (by show 2 * 0 + _ ≤ _; exact Nat.le_of_eq rfl) (hb hby d2_102) (by decide) (by decide) (sfS F101 sf0) (fun rv => (mkF m 105 #[.val (.int p0), .val (.int (own_len p0)), .val (.int (own_ch (own_code p0 (0 : Int32)))), .val (.int (own_ch (own_code p0 (1 : Int32)))), .val (.int (own_ch (own_code p0 (2 : Int32))))] (rv.toList ++ [(.ref b65)]))) (fun _ => rfl)
        obtain ⟨rfl, G97⟩ := Q97
        have K102 : Keep h0 h97 [] := K78.trans K97 (allS (Or.inr (by omega)) (fun _ q => nomatch q))
        have lt_b65 := G97.lt
        exact w97.endW (v := some (.ref b65)) (Q := (fun v h => ∃ x, v = some (.ref x) ∧ n0 ≤ x ∧ Str Z h x (own_draw p0) h.size)) (wr := []) (h0 := h0) (fun h => by rw [Bd.returns] at h; cases h) Bd.notSynchronized (fun X hr => X.areturnOut hx rfl Bd.returns rfl (hb hby d2_105) hr) (by decide) (by decide) ⟨b65, rfl, by omega, by rw [show (own_draw p0) = [(own_ch (own_code p0 (0 : Int32))), (own_ch (own_code p0 (1 : Int32))), (own_ch (own_code p0 (2 : Int32)))] from by simp only [own_draw, if_neg hc13, if_neg hc27, if_neg hc32]]; exact G97.more (by omega)⟩ K102
def own_isAny (p0 : Int32) : Int32 := (if (own_len p0) = (1 : Int32) then (if (own_code p0 (0 : Int32)) = (0 : Int32) then (1 : Int32) else (0 : Int32)) else (0 : Int32))
theorem d23_0 : decode method_8_code 0 = .ok (.iload_n 0, 1) := by decide +kernel
theorem d23_1 : decode method_8_code 1 = .ok (.invokestatic 30, 3) := by decide +kernel
theorem d23_4 : decode method_8_code 4 = .ok (.iconst 1, 1) := by decide +kernel
theorem d23_5 : decode method_8_code 5 = .ok (.if_icmp .ne 15, 3) := by decide +kernel
theorem d23_8 : decode method_8_code 8 = .ok (.iload_n 0, 1) := by decide +kernel
theorem d23_9 : decode method_8_code 9 = .ok (.iconst 0, 1) := by decide +kernel
theorem d23_10 : decode method_8_code 10 = .ok (.invokestatic 33, 3) := by decide +kernel
theorem d23_13 : decode method_8_code 13 = .ok (.ifCond .ne 7, 3) := by decide +kernel
theorem d23_16 : decode method_8_code 16 = .ok (.iconst 1, 1) := by decide +kernel
theorem d23_17 : decode method_8_code 17 = .ok (.goto 4, 3) := by decide +kernel
theorem d23_20 : decode method_8_code 20 = .ok (.iconst 0, 1) := by decide +kernel
theorem d23_21 : decode method_8_code 21 = .ok (.ireturn, 1) := by decide +kernel
theorem ef23 (m : MethodId) (x0 : Int32) : entryFrame m #[(.int x0)] 1 = mkF m 0 #[.val (.int x0)] [] := by first | (simp [entryFrame, mkF, argsToLocals, Value.category, maxLocals]; done) | rfl
theorem pn_11 : plainFor (⟨"com/example/dole/dole/model/GrantMatchesPinLaw", "isAny", "(I)Z"⟩ : MethodName) = true := by first | decide +kernel | (apply plainFor_of_name; simp [plainName, overriddenIn]; done)
set_option maxRecDepth 65536 in
set_option maxHeartbeats 40000000 in
theorem rm23 (l : Launch) (Z : State) (a0 : Array Value) (hw : ∀ d ∈ tables_1, d.before a0 Z = true) (p0 : Int32) (h0 : Heap) (n0 : Nat) (Z0 : n0 ≤ h0.size)  :
    NMet l Z (⟨"com/example/dole/dole/model/GrantMatchesPinLaw", "isAny", "(I)Z"⟩ : MethodName) method_8_code 1 (some .boolean) [] ({ frames := 1, cells := 0, slots := 0, locals := 13 } : Room) [(.int p0)] h0 n0 [] (fun v h => v = some (.int (own_isAny p0)) ∧ h0 = h) := by
  refine MetFree.of_bodySF pn_11 hisR ?_
  intro p e s m args below meth c s₁ Bd hml0 hP hK
  obtain ⟨rfl, hZ, hh⟩ := hP
  have hx := Bd.exec
  have hby := Bd.bytes
  have hml : c.maxLocals = 1 := hml0
  have hnm := (name_of_methodNamed Bd.named Bd.method).1
  have w0 := Wk.start (a0 := a0) (EL := []) (n0 := n0) (nw := true) Bd hZ hh EW.nil chv0 (ef23 m p0) ({ frames := 1, cells := 0, slots := 0, locals := 13 } : Room) rfl
  have K0 : Keep h0 h0 [] := Keep.refl _ _
  have w1 := w0.pure (mkF m 1 #[.val (.int p0)] [(.int p0)]) (fun X eT hZ hown k => by
      show Steps _ _ _ (State.setTop _ (mkF m 0 #[.val (.int p0)] [])) _
      refine S.iloadN X.here hx (hb hby d23_0) rfl ?_
      exact k)
  obtain ⟨v2, h2, Q2, K2, z2, w2⟩ := w1.callS hx (y := (⟨"com/example/dole/dole/model/GrantMatchesPinLaw", "len", "(I)I"⟩ : MethodName)) (W := 0) (hw _ (List.mem_of_getElem? (i := 10) rfl)) (hw _ (List.mem_of_getElem? (i := 11) rfl)) (hw _ (List.mem_of_getElem? (i := 2) rfl)) (hw _ (List.mem_of_getElem? (i := 12) rfl)) (by decide) ((rm3 l Z a0 hw p0 h0 n0 (by omega)).pay w1.hZ (hw _ (List.mem_of_getElem? (i := 12) rfl)) (hw _ (List.mem_of_getElem? (i := 2) rfl)) (by decide) (by decide)) rfl (by rw [hml]; rfl) [] (lenOf pd_4 rfl) rfl (by show 2 * 0 + _ ≤ _; exact Nat.le_of_eq rfl) (hb hby d23_1) (by decide) (by decide) (fun _ q => nomatch q) (fun rv => (mkF m 4 #[.val (.int p0)] (rv.toList ++ []))) (fun _ => rfl)
  obtain ⟨rfl, rfl⟩ := Q2
  have w3 := w2.pure (mkF m 5 #[.val (.int p0)] [(.int (1 : Int32)), (.int (own_len p0))]) (fun X eT hZ hown k => by
      show Steps _ _ _ (State.setTop _ (mkF m 4 #[.val (.int p0)] [(.int (own_len p0))])) _
      refine S.iconst X.here hx (1 : Int32) (hb hby d23_4) rfl ?_
      exact k)
  by_cases hc4 : (own_len p0) = (1 : Int32)
  · have w5 := w3.pure (mkF m 10 #[.val (.int p0)] [(.int (0 : Int32)), (.int p0)]) (fun X eT hZ hown k => by
        show Steps _ _ _ (State.setTop _ (mkF m 5 #[.val (.int p0)] [(.int (1 : Int32)), (.int (own_len p0))])) _
        refine S.icmpNo X.here hx (hb hby d23_5) (teq hc4).2 ?_
        refine S.iloadN X.here hx (hb hby d23_8) rfl ?_
        refine S.iconst X.here hx (0 : Int32) (hb hby d23_9) rfl ?_
        exact k)
    obtain ⟨v6, h6, Q6, K6, z6, w6⟩ := w5.callS hx (y := (⟨"com/example/dole/dole/model/GrantMatchesPinLaw", "code", "(II)I"⟩ : MethodName)) (W := 0) (hw _ (List.mem_of_getElem? (i := 13) rfl)) (hw _ (List.mem_of_getElem? (i := 14) rfl)) (hw _ (List.mem_of_getElem? (i := 2) rfl)) (hw _ (List.mem_of_getElem? (i := 15) rfl)) (by decide) ((rm4 l Z a0 hw p0 (0 : Int32) h0 n0 (by omega)).pay w5.hZ (hw _ (List.mem_of_getElem? (i := 15) rfl)) (hw _ (List.mem_of_getElem? (i := 2) rfl)) (by decide) (by decide)) rfl (by rw [hml]; rfl) [] (lenOf pd_5 rfl) rfl (by show 2 * 0 + _ ≤ _; exact Nat.le_of_eq rfl) (hb hby d23_10) (by decide) (by decide) (fun _ q => nomatch q) (fun rv => (mkF m 13 #[.val (.int p0)] (rv.toList ++ []))) (fun _ => rfl)
    obtain ⟨rfl, rfl⟩ := Q6
    by_cases hc7 : (own_code p0 (0 : Int32)) = (0 : Int32)
    · have w8 := w6.pure (mkF m 21 #[.val (.int p0)] [(.int (1 : Int32))]) (fun X eT hZ hown k => by
          show Steps _ _ _ (State.setTop _ (mkF m 13 #[.val (.int p0)] [(.int (own_code p0 (0 : Int32)))])) _
          refine S.ifNo X.here hx (hb hby d23_13) ((if0 _ _).trans (teq hc7).2) ?_
          refine S.iconst X.here hx (1 : Int32) (hb hby d23_16) rfl ?_
          refine S.goto X.here hx 21 (hb hby d23_17) (by decide) (by decide) ?_
          exact k)
      exact w8.endN (v := some (.int (1 : Int32))) (Q := (fun v h => v = some (.int (own_isAny p0)) ∧ h0 = h)) (wr := []) (h0 := h0) (fun h => by rw [Bd.returns] at h; cases h) Bd.notSynchronized (fun X hr => retN X hx (t := .boolean) Bd.returns (by simp) (hb hby d23_21) hr) (by decide) (by decide) ⟨by simp only [own_isAny, if_pos hc4, if_pos hc7], rfl⟩ K0
    · have w9 := w6.pure (mkF m 21 #[.val (.int p0)] [(.int (0 : Int32))]) (fun X eT hZ hown k => by
          show Steps _ _ _ (State.setTop _ (mkF m 13 #[.val (.int p0)] [(.int (own_code p0 (0 : Int32)))])) _
          refine S.ifYes X.here hx 20 (hb hby d23_13) ((if0 _ _).trans (feq hc7).2) (by decide) (by decide) ?_
          refine S.iconst X.here hx (0 : Int32) (hb hby d23_20) rfl ?_
          exact k)
      exact w9.endN (v := some (.int (0 : Int32))) (Q := (fun v h => v = some (.int (own_isAny p0)) ∧ h0 = h)) (wr := []) (h0 := h0) (fun h => by rw [Bd.returns] at h; cases h) Bd.notSynchronized (fun X hr => retN X hx (t := .boolean) Bd.returns (by simp) (hb hby d23_21) hr) (by decide) (by decide) ⟨by simp only [own_isAny, if_pos hc4, if_neg hc7], rfl⟩ K0
  · have w10 := w3.pure (mkF m 21 #[.val (.int p0)] [(.int (0 : Int32))]) (fun X eT hZ hown k => by
        show Steps _ _ _ (State.setTop _ (mkF m 5 #[.val (.int p0)] [(.int (1 : Int32)), (.int (own_len p0))])) _
        refine S.icmpYes X.here hx 20 (hb hby d23_5) (feq hc4).2 (by decide) (by decide) ?_
        refine S.iconst X.here hx (0 : Int32) (hb hby d23_20) rfl ?_
        exact k)
    exact w10.endN (v := some (.int (0 : Int32))) (Q := (fun v h => v = some (.int (own_isAny p0)) ∧ h0 = h)) (wr := []) (h0 := h0) (fun h => by rw [Bd.returns] at h; cases h) Bd.notSynchronized (fun X hr => retN X hx (t := .boolean) Bd.returns (by simp) (hb hby d23_21) hr) (by decide) (by decide) ⟨by simp only [own_isAny, if_neg hc4], rfl⟩ K0
def own_same (p0 : Int32) (p1 : Int32) : Int32 := (if (own_len p0) = (own_len p1) then (if (own_len p0) < (1 : Int32) then (if (own_len p0) < (2 : Int32) then (if (own_len p0) < (3 : Int32) then (1 : Int32) else (if (own_code p0 (2 : Int32)) = (own_code p1 (2 : Int32)) then (1 : Int32) else (0 : Int32))) else (if (own_code p0 (1 : Int32)) = (own_code p1 (1 : Int32)) then (if (own_len p0) < (3 : Int32) then (1 : Int32) else (if (own_code p0 (2 : Int32)) = (own_code p1 (2 : Int32)) then (1 : Int32) else (0 : Int32))) else (0 : Int32))) else (if (own_code p0 (0 : Int32)) = (own_code p1 (0 : Int32)) then (if (own_len p0) < (2 : Int32) then (if (own_len p0) < (3 : Int32) then (1 : Int32) else (if (own_code p0 (2 : Int32)) = (own_code p1 (2 : Int32)) then (1 : Int32) else (0 : Int32))) else (if (own_code p0 (1 : Int32)) = (own_code p1 (1 : Int32)) then (if (own_len p0) < (3 : Int32) then (1 : Int32) else (if (own_code p0 (2 : Int32)) = (own_code p1 (2 : Int32)) then (1 : Int32) else (0 : Int32))) else (0 : Int32))) else (0 : Int32))) else (0 : Int32))
theorem d24_0 : decode method_9_code 0 = .ok (.iload_n 0, 1) := by decide +kernel
theorem d24_1 : decode method_9_code 1 = .ok (.invokestatic 30, 3) := by decide +kernel
theorem d24_4 : decode method_9_code 4 = .ok (.istore_n 2, 1) := by decide +kernel
theorem d24_5 : decode method_9_code 5 = .ok (.iload_n 2, 1) := by decide +kernel
theorem d24_6 : decode method_9_code 6 = .ok (.iload_n 1, 1) := by decide +kernel
theorem d24_7 : decode method_9_code 7 = .ok (.invokestatic 30, 3) := by decide +kernel
theorem d24_10 : decode method_9_code 10 = .ok (.if_icmp .eq 5, 3) := by decide +kernel
theorem d24_13 : decode method_9_code 13 = .ok (.iconst 0, 1) := by decide +kernel
theorem d24_14 : decode method_9_code 14 = .ok (.ireturn, 1) := by decide +kernel
theorem d24_15 : decode method_9_code 15 = .ok (.iload_n 2, 1) := by decide +kernel
theorem d24_16 : decode method_9_code 16 = .ok (.iconst 1, 1) := by decide +kernel
theorem d24_17 : decode method_9_code 17 = .ok (.if_icmp .lt 18, 3) := by decide +kernel
theorem d24_20 : decode method_9_code 20 = .ok (.iload_n 0, 1) := by decide +kernel
theorem d24_21 : decode method_9_code 21 = .ok (.iconst 0, 1) := by decide +kernel
theorem d24_22 : decode method_9_code 22 = .ok (.invokestatic 33, 3) := by decide +kernel
theorem d24_25 : decode method_9_code 25 = .ok (.iload_n 1, 1) := by decide +kernel
theorem d24_26 : decode method_9_code 26 = .ok (.iconst 0, 1) := by decide +kernel
theorem d24_27 : decode method_9_code 27 = .ok (.invokestatic 33, 3) := by decide +kernel
theorem d24_30 : decode method_9_code 30 = .ok (.if_icmp .eq 5, 3) := by decide +kernel
theorem d24_33 : decode method_9_code 33 = .ok (.iconst 0, 1) := by decide +kernel
theorem d24_34 : decode method_9_code 34 = .ok (.ireturn, 1) := by decide +kernel
theorem d24_35 : decode method_9_code 35 = .ok (.iload_n 2, 1) := by decide +kernel
theorem d24_36 : decode method_9_code 36 = .ok (.iconst 2, 1) := by decide +kernel
theorem d24_37 : decode method_9_code 37 = .ok (.if_icmp .lt 18, 3) := by decide +kernel
theorem d24_40 : decode method_9_code 40 = .ok (.iload_n 0, 1) := by decide +kernel
theorem d24_41 : decode method_9_code 41 = .ok (.iconst 1, 1) := by decide +kernel
theorem d24_42 : decode method_9_code 42 = .ok (.invokestatic 33, 3) := by decide +kernel
theorem d24_45 : decode method_9_code 45 = .ok (.iload_n 1, 1) := by decide +kernel
theorem d24_46 : decode method_9_code 46 = .ok (.iconst 1, 1) := by decide +kernel
theorem d24_47 : decode method_9_code 47 = .ok (.invokestatic 33, 3) := by decide +kernel
theorem d24_50 : decode method_9_code 50 = .ok (.if_icmp .eq 5, 3) := by decide +kernel
theorem d24_53 : decode method_9_code 53 = .ok (.iconst 0, 1) := by decide +kernel
theorem d24_54 : decode method_9_code 54 = .ok (.ireturn, 1) := by decide +kernel
theorem d24_55 : decode method_9_code 55 = .ok (.iload_n 2, 1) := by decide +kernel
theorem d24_56 : decode method_9_code 56 = .ok (.iconst 3, 1) := by decide +kernel
theorem d24_57 : decode method_9_code 57 = .ok (.if_icmp .lt 18, 3) := by decide +kernel
theorem d24_60 : decode method_9_code 60 = .ok (.iload_n 0, 1) := by decide +kernel
theorem d24_61 : decode method_9_code 61 = .ok (.iconst 2, 1) := by decide +kernel
theorem d24_62 : decode method_9_code 62 = .ok (.invokestatic 33, 3) := by decide +kernel
theorem d24_65 : decode method_9_code 65 = .ok (.iload_n 1, 1) := by decide +kernel
theorem d24_66 : decode method_9_code 66 = .ok (.iconst 2, 1) := by decide +kernel
theorem d24_67 : decode method_9_code 67 = .ok (.invokestatic 33, 3) := by decide +kernel
theorem d24_70 : decode method_9_code 70 = .ok (.if_icmp .eq 5, 3) := by decide +kernel
theorem d24_73 : decode method_9_code 73 = .ok (.iconst 0, 1) := by decide +kernel
theorem d24_74 : decode method_9_code 74 = .ok (.ireturn, 1) := by decide +kernel
theorem d24_75 : decode method_9_code 75 = .ok (.iconst 1, 1) := by decide +kernel
theorem d24_76 : decode method_9_code 76 = .ok (.ireturn, 1) := by decide +kernel
theorem ef24 (m : MethodId) (x0 : Int32) (x1 : Int32) : entryFrame m #[(.int x0), (.int x1)] 3 = mkF m 0 #[.val (.int x0), .val (.int x1), .unset] [] := by first | (simp [entryFrame, mkF, argsToLocals, Value.category, maxLocals]; done) | rfl
theorem pn_12 : plainFor (⟨"com/example/dole/dole/model/GrantMatchesPinLaw", "same", "(II)Z"⟩ : MethodName) = true := by first | decide +kernel | (apply plainFor_of_name; simp [plainName, overriddenIn]; done)
set_option maxRecDepth 65536 in
set_option maxHeartbeats 40000000 in
theorem rm24 (l : Launch) (Z : State) (a0 : Array Value) (hw : ∀ d ∈ tables_1, d.before a0 Z = true) (p0 : Int32) (p1 : Int32) (h0 : Heap) (n0 : Nat) (Z0 : n0 ≤ h0.size)  :
    NMet l Z (⟨"com/example/dole/dole/model/GrantMatchesPinLaw", "same", "(II)Z"⟩ : MethodName) method_9_code 3 (some .boolean) [] ({ frames := 1, cells := 0, slots := 0, locals := 14 } : Room) [(.int p0), (.int p1)] h0 n0 [] (fun v h => v = some (.int (own_same p0 p1)) ∧ h0 = h) := by
  refine MetFree.of_bodySF pn_12 hisR ?_
  intro p e s m args below meth c s₁ Bd hml0 hP hK
  obtain ⟨rfl, hZ, hh⟩ := hP
  have hx := Bd.exec
  have hby := Bd.bytes
  have hml : c.maxLocals = 3 := hml0
  have hnm := (name_of_methodNamed Bd.named Bd.method).1
  have w0 := Wk.start (a0 := a0) (EL := []) (n0 := n0) (nw := true) Bd hZ hh EW.nil chv0 (ef24 m p0 p1) ({ frames := 1, cells := 0, slots := 0, locals := 14 } : Room) rfl
  have K0 : Keep h0 h0 [] := Keep.refl _ _
  have w1 := w0.pure (mkF m 1 #[.val (.int p0), .val (.int p1), .unset] [(.int p0)]) (fun X eT hZ hown k => by
      show Steps _ _ _ (State.setTop _ (mkF m 0 #[.val (.int p0), .val (.int p1), .unset] [])) _
      refine S.iloadN X.here hx (hb hby d24_0) rfl ?_
      exact k)
  obtain ⟨v2, h2, Q2, K2, z2, w2⟩ := w1.callS hx (y := (⟨"com/example/dole/dole/model/GrantMatchesPinLaw", "len", "(I)I"⟩ : MethodName)) (W := 0) (hw _ (List.mem_of_getElem? (i := 10) rfl)) (hw _ (List.mem_of_getElem? (i := 11) rfl)) (hw _ (List.mem_of_getElem? (i := 2) rfl)) (hw _ (List.mem_of_getElem? (i := 12) rfl)) (by decide) ((rm3 l Z a0 hw p0 h0 n0 (by omega)).pay w1.hZ (hw _ (List.mem_of_getElem? (i := 12) rfl)) (hw _ (List.mem_of_getElem? (i := 2) rfl)) (by decide) (by decide)) rfl (by rw [hml]; rfl) [] (lenOf pd_4 rfl) rfl (by show 2 * 0 + _ ≤ _; exact Nat.le_of_eq rfl) (hb hby d24_1) (by decide) (by decide) (fun _ q => nomatch q) (fun rv => (mkF m 4 #[.val (.int p0), .val (.int p1), .unset] (rv.toList ++ []))) (fun _ => rfl)
  obtain ⟨rfl, rfl⟩ := Q2
  have w3 := w2.pure (mkF m 7 #[.val (.int p0), .val (.int p1), .val (.int (own_len p0))] [(.int p1), (.int (own_len p0))]) (fun X eT hZ hown k => by
      show Steps _ _ _ (State.setTop _ (mkF m 4 #[.val (.int p0), .val (.int p1), .unset] [(.int (own_len p0))])) _
      refine S.istoreN X.here hx (hb hby d24_4) #[.val (.int p0), .val (.int p1), .val (.int (own_len p0))] rfl ?_
      refine S.iloadN X.here hx (hb hby d24_5) rfl ?_
      refine S.iloadN X.here hx (hb hby d24_6) rfl ?_
      exact k)
  obtain ⟨v4, h4, Q4, K4, z4, w4⟩ := w3.callS hx (y := (⟨"com/example/dole/dole/model/GrantMatchesPinLaw", "len", "(I)I"⟩ : MethodName)) (W := 1) (hw _ (List.mem_of_getElem? (i := 10) rfl)) (hw _ (List.mem_of_getElem? (i := 11) rfl)) (hw _ (List.mem_of_getElem? (i := 2) rfl)) (hw _ (List.mem_of_getElem? (i := 12) rfl)) (by decide) ((rm3 l Z a0 hw p1 h0 n0 (by omega)).pay w3.hZ (hw _ (List.mem_of_getElem? (i := 12) rfl)) (hw _ (List.mem_of_getElem? (i := 2) rfl)) (by decide) (by decide)) rfl (by rw [hml]; rfl) [(.int (own_len p0))] (lenOf pd_4 rfl) rfl (by show 2 * 0 + _ ≤ _; exact Nat.le_of_eq rfl) (hb hby d24_7) (by decide) (by decide) (fun _ q => nomatch q) (fun rv => (mkF m 10 #[.val (.int p0), .val (.int p1), .val (.int (own_len p0))] (rv.toList ++ [(.int (own_len p0))]))) (fun _ => rfl)
  obtain ⟨rfl, rfl⟩ := Q4
  by_cases hc5 : (own_len p0) = (own_len p1)
  · have w6 := w4.pure (mkF m 17 #[.val (.int p0), .val (.int p1), .val (.int (own_len p0))] [(.int (1 : Int32)), (.int (own_len p0))]) (fun X eT hZ hown k => by
        show Steps _ _ _ (State.setTop _ (mkF m 10 #[.val (.int p0), .val (.int p1), .val (.int (own_len p0))] [(.int (own_len p1)), (.int (own_len p0))])) _
        refine S.icmpYes X.here hx 15 (hb hby d24_10) (teq hc5).1 (by decide) (by decide) ?_
        refine S.iloadN X.here hx (hb hby d24_15) rfl ?_
        refine S.iconst X.here hx (1 : Int32) (hb hby d24_16) rfl ?_
        exact k)
    by_cases hc7 : (own_len p0) < (1 : Int32)
    · have w8 := w6.pure (mkF m 37 #[.val (.int p0), .val (.int p1), .val (.int (own_len p0))] [(.int (2 : Int32)), (.int (own_len p0))]) (fun X eT hZ hown k => by
          show Steps _ _ _ (State.setTop _ (mkF m 17 #[.val (.int p0), .val (.int p1), .val (.int (own_len p0))] [(.int (1 : Int32)), (.int (own_len p0))])) _
          refine S.icmpYes X.here hx 35 (hb hby d24_17) (tlt hc7).1 (by decide) (by decide) ?_
          refine S.iloadN X.here hx (hb hby d24_35) rfl ?_
          refine S.iconst X.here hx (2 : Int32) (hb hby d24_36) rfl ?_
          exact k)
      by_cases hc9 : (own_len p0) < (2 : Int32)
      · have w10 := w8.pure (mkF m 57 #[.val (.int p0), .val (.int p1), .val (.int (own_len p0))] [(.int (3 : Int32)), (.int (own_len p0))]) (fun X eT hZ hown k => by
            show Steps _ _ _ (State.setTop _ (mkF m 37 #[.val (.int p0), .val (.int p1), .val (.int (own_len p0))] [(.int (2 : Int32)), (.int (own_len p0))])) _
            refine S.icmpYes X.here hx 55 (hb hby d24_37) (tlt hc9).1 (by decide) (by decide) ?_
            refine S.iloadN X.here hx (hb hby d24_55) rfl ?_
            refine S.iconst X.here hx (3 : Int32) (hb hby d24_56) rfl ?_
            exact k)
        by_cases hc11 : (own_len p0) < (3 : Int32)
        · have w12 := w10.pure (mkF m 76 #[.val (.int p0), .val (.int p1), .val (.int (own_len p0))] [(.int (1 : Int32))]) (fun X eT hZ hown k => by
              show Steps _ _ _ (State.setTop _ (mkF m 57 #[.val (.int p0), .val (.int p1), .val (.int (own_len p0))] [(.int (3 : Int32)), (.int (own_len p0))])) _
              refine S.icmpYes X.here hx 75 (hb hby d24_57) (tlt hc11).1 (by decide) (by decide) ?_
              refine S.iconst X.here hx (1 : Int32) (hb hby d24_75) rfl ?_
              exact k)
          exact w12.endN (v := some (.int (1 : Int32))) (Q := (fun v h => v = some (.int (own_same p0 p1)) ∧ h0 = h)) (wr := []) (h0 := h0) (fun h => by rw [Bd.returns] at h; cases h) Bd.notSynchronized (fun X hr => retN X hx (t := .boolean) Bd.returns (by simp) (hb hby d24_76) hr) (by decide) (by decide) ⟨by simp only [own_same, if_pos hc5, if_pos hc7, if_pos hc9, if_pos hc11], rfl⟩ K0
        · have w13 := w10.pure (mkF m 62 #[.val (.int p0), .val (.int p1), .val (.int (own_len p0))] [(.int (2 : Int32)), (.int p0)]) (fun X eT hZ hown k => by
              show Steps _ _ _ (State.setTop _ (mkF m 57 #[.val (.int p0), .val (.int p1), .val (.int (own_len p0))] [(.int (3 : Int32)), (.int (own_len p0))])) _
              refine S.icmpNo X.here hx (hb hby d24_57) (flt hc11).1 ?_
              refine S.iloadN X.here hx (hb hby d24_60) rfl ?_
              refine S.iconst X.here hx (2 : Int32) (hb hby d24_61) rfl ?_
              exact k)
          obtain ⟨v14, h14, Q14, K14, z14, w14⟩ := w13.callS hx (y := (⟨"com/example/dole/dole/model/GrantMatchesPinLaw", "code", "(II)I"⟩ : MethodName)) (W := 0) (hw _ (List.mem_of_getElem? (i := 13) rfl)) (hw _ (List.mem_of_getElem? (i := 14) rfl)) (hw _ (List.mem_of_getElem? (i := 2) rfl)) (hw _ (List.mem_of_getElem? (i := 15) rfl)) (by decide) ((rm4 l Z a0 hw p0 (2 : Int32) h0 n0 (by omega)).pay w13.hZ (hw _ (List.mem_of_getElem? (i := 15) rfl)) (hw _ (List.mem_of_getElem? (i := 2) rfl)) (by decide) (by decide)) rfl (by rw [hml]; rfl) [] (lenOf pd_5 rfl) rfl (by show 2 * 0 + _ ≤ _; exact Nat.le_of_eq rfl) (hb hby d24_62) (by decide) (by decide) (fun _ q => nomatch q) (fun rv => (mkF m 65 #[.val (.int p0), .val (.int p1), .val (.int (own_len p0))] (rv.toList ++ []))) (fun _ => rfl)
          obtain ⟨rfl, rfl⟩ := Q14
          have w15 := w14.pure (mkF m 67 #[.val (.int p0), .val (.int p1), .val (.int (own_len p0))] [(.int (2 : Int32)), (.int p1), (.int (own_code p0 (2 : Int32)))]) (fun X eT hZ hown k => by
              show Steps _ _ _ (State.setTop _ (mkF m 65 #[.val (.int p0), .val (.int p1), .val (.int (own_len p0))] [(.int (own_code p0 (2 : Int32)))])) _
              refine S.iloadN X.here hx (hb hby d24_65) rfl ?_
              refine S.iconst X.here hx (2 : Int32) (hb hby d24_66) rfl ?_
              exact k)
          obtain ⟨v16, h16, Q16, K16, z16, w16⟩ := w15.callS hx (y := (⟨"com/example/dole/dole/model/GrantMatchesPinLaw", "code", "(II)I"⟩ : MethodName)) (W := 1) (hw _ (List.mem_of_getElem? (i := 13) rfl)) (hw _ (List.mem_of_getElem? (i := 14) rfl)) (hw _ (List.mem_of_getElem? (i := 2) rfl)) (hw _ (List.mem_of_getElem? (i := 15) rfl)) (by decide) ((rm4 l Z a0 hw p1 (2 : Int32) h0 n0 (by omega)).pay w15.hZ (hw _ (List.mem_of_getElem? (i := 15) rfl)) (hw _ (List.mem_of_getElem? (i := 2) rfl)) (by decide) (by decide)) rfl (by rw [hml]; rfl) [(.int (own_code p0 (2 : Int32)))] (lenOf pd_5 rfl) rfl (by show 2 * 0 + _ ≤ _; exact Nat.le_of_eq rfl) (hb hby d24_67) (by decide) (by decide) (fun _ q => nomatch q) (fun rv => (mkF m 70 #[.val (.int p0), .val (.int p1), .val (.int (own_len p0))] (rv.toList ++ [(.int (own_code p0 (2 : Int32)))]))) (fun _ => rfl)
          obtain ⟨rfl, rfl⟩ := Q16
          by_cases hc17 : (own_code p0 (2 : Int32)) = (own_code p1 (2 : Int32))
          · have w18 := w16.pure (mkF m 76 #[.val (.int p0), .val (.int p1), .val (.int (own_len p0))] [(.int (1 : Int32))]) (fun X eT hZ hown k => by
                show Steps _ _ _ (State.setTop _ (mkF m 70 #[.val (.int p0), .val (.int p1), .val (.int (own_len p0))] [(.int (own_code p1 (2 : Int32))), (.int (own_code p0 (2 : Int32)))])) _
                refine S.icmpYes X.here hx 75 (hb hby d24_70) (teq hc17).1 (by decide) (by decide) ?_
                refine S.iconst X.here hx (1 : Int32) (hb hby d24_75) rfl ?_
                exact k)
            exact w18.endN (v := some (.int (1 : Int32))) (Q := (fun v h => v = some (.int (own_same p0 p1)) ∧ h0 = h)) (wr := []) (h0 := h0) (fun h => by rw [Bd.returns] at h; cases h) Bd.notSynchronized (fun X hr => retN X hx (t := .boolean) Bd.returns (by simp) (hb hby d24_76) hr) (by decide) (by decide) ⟨by simp only [own_same, if_pos hc5, if_pos hc7, if_pos hc9, if_neg hc11, if_pos hc17], rfl⟩ K0
          · have w19 := w16.pure (mkF m 74 #[.val (.int p0), .val (.int p1), .val (.int (own_len p0))] [(.int (0 : Int32))]) (fun X eT hZ hown k => by
                show Steps _ _ _ (State.setTop _ (mkF m 70 #[.val (.int p0), .val (.int p1), .val (.int (own_len p0))] [(.int (own_code p1 (2 : Int32))), (.int (own_code p0 (2 : Int32)))])) _
                refine S.icmpNo X.here hx (hb hby d24_70) (feq hc17).1 ?_
                refine S.iconst X.here hx (0 : Int32) (hb hby d24_73) rfl ?_
                exact k)
            exact w19.endN (v := some (.int (0 : Int32))) (Q := (fun v h => v = some (.int (own_same p0 p1)) ∧ h0 = h)) (wr := []) (h0 := h0) (fun h => by rw [Bd.returns] at h; cases h) Bd.notSynchronized (fun X hr => retN X hx (t := .boolean) Bd.returns (by simp) (hb hby d24_74) hr) (by decide) (by decide) ⟨by simp only [own_same, if_pos hc5, if_pos hc7, if_pos hc9, if_neg hc11, if_neg hc17], rfl⟩ K0
      · have w20 := w8.pure (mkF m 42 #[.val (.int p0), .val (.int p1), .val (.int (own_len p0))] [(.int (1 : Int32)), (.int p0)]) (fun X eT hZ hown k => by
            show Steps _ _ _ (State.setTop _ (mkF m 37 #[.val (.int p0), .val (.int p1), .val (.int (own_len p0))] [(.int (2 : Int32)), (.int (own_len p0))])) _
            refine S.icmpNo X.here hx (hb hby d24_37) (flt hc9).1 ?_
            refine S.iloadN X.here hx (hb hby d24_40) rfl ?_
            refine S.iconst X.here hx (1 : Int32) (hb hby d24_41) rfl ?_
            exact k)
        obtain ⟨v21, h21, Q21, K21, z21, w21⟩ := w20.callS hx (y := (⟨"com/example/dole/dole/model/GrantMatchesPinLaw", "code", "(II)I"⟩ : MethodName)) (W := 0) (hw _ (List.mem_of_getElem? (i := 13) rfl)) (hw _ (List.mem_of_getElem? (i := 14) rfl)) (hw _ (List.mem_of_getElem? (i := 2) rfl)) (hw _ (List.mem_of_getElem? (i := 15) rfl)) (by decide) ((rm4 l Z a0 hw p0 (1 : Int32) h0 n0 (by omega)).pay w20.hZ (hw _ (List.mem_of_getElem? (i := 15) rfl)) (hw _ (List.mem_of_getElem? (i := 2) rfl)) (by decide) (by decide)) rfl (by rw [hml]; rfl) [] (lenOf pd_5 rfl) rfl (by show 2 * 0 + _ ≤ _; exact Nat.le_of_eq rfl) (hb hby d24_42) (by decide) (by decide) (fun _ q => nomatch q) (fun rv => (mkF m 45 #[.val (.int p0), .val (.int p1), .val (.int (own_len p0))] (rv.toList ++ []))) (fun _ => rfl)
        obtain ⟨rfl, rfl⟩ := Q21
        have w22 := w21.pure (mkF m 47 #[.val (.int p0), .val (.int p1), .val (.int (own_len p0))] [(.int (1 : Int32)), (.int p1), (.int (own_code p0 (1 : Int32)))]) (fun X eT hZ hown k => by
            show Steps _ _ _ (State.setTop _ (mkF m 45 #[.val (.int p0), .val (.int p1), .val (.int (own_len p0))] [(.int (own_code p0 (1 : Int32)))])) _
            refine S.iloadN X.here hx (hb hby d24_45) rfl ?_
            refine S.iconst X.here hx (1 : Int32) (hb hby d24_46) rfl ?_
            exact k)
        obtain ⟨v23, h23, Q23, K23, z23, w23⟩ := w22.callS hx (y := (⟨"com/example/dole/dole/model/GrantMatchesPinLaw", "code", "(II)I"⟩ : MethodName)) (W := 1) (hw _ (List.mem_of_getElem? (i := 13) rfl)) (hw _ (List.mem_of_getElem? (i := 14) rfl)) (hw _ (List.mem_of_getElem? (i := 2) rfl)) (hw _ (List.mem_of_getElem? (i := 15) rfl)) (by decide) ((rm4 l Z a0 hw p1 (1 : Int32) h0 n0 (by omega)).pay w22.hZ (hw _ (List.mem_of_getElem? (i := 15) rfl)) (hw _ (List.mem_of_getElem? (i := 2) rfl)) (by decide) (by decide)) rfl (by rw [hml]; rfl) [(.int (own_code p0 (1 : Int32)))] (lenOf pd_5 rfl) rfl (by show 2 * 0 + _ ≤ _; exact Nat.le_of_eq rfl) (hb hby d24_47) (by decide) (by decide) (fun _ q => nomatch q) (fun rv => (mkF m 50 #[.val (.int p0), .val (.int p1), .val (.int (own_len p0))] (rv.toList ++ [(.int (own_code p0 (1 : Int32)))]))) (fun _ => rfl)
        obtain ⟨rfl, rfl⟩ := Q23
        by_cases hc24 : (own_code p0 (1 : Int32)) = (own_code p1 (1 : Int32))
        · have w25 := w23.pure (mkF m 57 #[.val (.int p0), .val (.int p1), .val (.int (own_len p0))] [(.int (3 : Int32)), (.int (own_len p0))]) (fun X eT hZ hown k => by
              show Steps _ _ _ (State.setTop _ (mkF m 50 #[.val (.int p0), .val (.int p1), .val (.int (own_len p0))] [(.int (own_code p1 (1 : Int32))), (.int (own_code p0 (1 : Int32)))])) _
              refine S.icmpYes X.here hx 55 (hb hby d24_50) (teq hc24).1 (by decide) (by decide) ?_
              refine S.iloadN X.here hx (hb hby d24_55) rfl ?_
              refine S.iconst X.here hx (3 : Int32) (hb hby d24_56) rfl ?_
              exact k)
          by_cases hc26 : (own_len p0) < (3 : Int32)
          · have w27 := w25.pure (mkF m 76 #[.val (.int p0), .val (.int p1), .val (.int (own_len p0))] [(.int (1 : Int32))]) (fun X eT hZ hown k => by
                show Steps _ _ _ (State.setTop _ (mkF m 57 #[.val (.int p0), .val (.int p1), .val (.int (own_len p0))] [(.int (3 : Int32)), (.int (own_len p0))])) _
                refine S.icmpYes X.here hx 75 (hb hby d24_57) (tlt hc26).1 (by decide) (by decide) ?_
                refine S.iconst X.here hx (1 : Int32) (hb hby d24_75) rfl ?_
                exact k)
            exact w27.endN (v := some (.int (1 : Int32))) (Q := (fun v h => v = some (.int (own_same p0 p1)) ∧ h0 = h)) (wr := []) (h0 := h0) (fun h => by rw [Bd.returns] at h; cases h) Bd.notSynchronized (fun X hr => retN X hx (t := .boolean) Bd.returns (by simp) (hb hby d24_76) hr) (by decide) (by decide) ⟨by simp only [own_same, if_pos hc5, if_pos hc7, if_neg hc9, if_pos hc24, if_pos hc26], rfl⟩ K0
          · have w28 := w25.pure (mkF m 62 #[.val (.int p0), .val (.int p1), .val (.int (own_len p0))] [(.int (2 : Int32)), (.int p0)]) (fun X eT hZ hown k => by
                show Steps _ _ _ (State.setTop _ (mkF m 57 #[.val (.int p0), .val (.int p1), .val (.int (own_len p0))] [(.int (3 : Int32)), (.int (own_len p0))])) _
                refine S.icmpNo X.here hx (hb hby d24_57) (flt hc26).1 ?_
                refine S.iloadN X.here hx (hb hby d24_60) rfl ?_
                refine S.iconst X.here hx (2 : Int32) (hb hby d24_61) rfl ?_
                exact k)
            obtain ⟨v29, h29, Q29, K29, z29, w29⟩ := w28.callS hx (y := (⟨"com/example/dole/dole/model/GrantMatchesPinLaw", "code", "(II)I"⟩ : MethodName)) (W := 0) (hw _ (List.mem_of_getElem? (i := 13) rfl)) (hw _ (List.mem_of_getElem? (i := 14) rfl)) (hw _ (List.mem_of_getElem? (i := 2) rfl)) (hw _ (List.mem_of_getElem? (i := 15) rfl)) (by decide) ((rm4 l Z a0 hw p0 (2 : Int32) h0 n0 (by omega)).pay w28.hZ (hw _ (List.mem_of_getElem? (i := 15) rfl)) (hw _ (List.mem_of_getElem? (i := 2) rfl)) (by decide) (by decide)) rfl (by rw [hml]; rfl) [] (lenOf pd_5 rfl) rfl (by show 2 * 0 + _ ≤ _; exact Nat.le_of_eq rfl) (hb hby d24_62) (by decide) (by decide) (fun _ q => nomatch q) (fun rv => (mkF m 65 #[.val (.int p0), .val (.int p1), .val (.int (own_len p0))] (rv.toList ++ []))) (fun _ => rfl)
            obtain ⟨rfl, rfl⟩ := Q29
            have w30 := w29.pure (mkF m 67 #[.val (.int p0), .val (.int p1), .val (.int (own_len p0))] [(.int (2 : Int32)), (.int p1), (.int (own_code p0 (2 : Int32)))]) (fun X eT hZ hown k => by
                show Steps _ _ _ (State.setTop _ (mkF m 65 #[.val (.int p0), .val (.int p1), .val (.int (own_len p0))] [(.int (own_code p0 (2 : Int32)))])) _
                refine S.iloadN X.here hx (hb hby d24_65) rfl ?_
                refine S.iconst X.here hx (2 : Int32) (hb hby d24_66) rfl ?_
                exact k)
            obtain ⟨v31, h31, Q31, K31, z31, w31⟩ := w30.callS hx (y := (⟨"com/example/dole/dole/model/GrantMatchesPinLaw", "code", "(II)I"⟩ : MethodName)) (W := 1) (hw _ (List.mem_of_getElem? (i := 13) rfl)) (hw _ (List.mem_of_getElem? (i := 14) rfl)) (hw _ (List.mem_of_getElem? (i := 2) rfl)) (hw _ (List.mem_of_getElem? (i := 15) rfl)) (by decide) ((rm4 l Z a0 hw p1 (2 : Int32) h0 n0 (by omega)).pay w30.hZ (hw _ (List.mem_of_getElem? (i := 15) rfl)) (hw _ (List.mem_of_getElem? (i := 2) rfl)) (by decide) (by decide)) rfl (by rw [hml]; rfl) [(.int (own_code p0 (2 : Int32)))] (lenOf pd_5 rfl) rfl (by show 2 * 0 + _ ≤ _; exact Nat.le_of_eq rfl) (hb hby d24_67) (by decide) (by decide) (fun _ q => nomatch q) (fun rv => (mkF m 70 #[.val (.int p0), .val (.int p1), .val (.int (own_len p0))] (rv.toList ++ [(.int (own_code p0 (2 : Int32)))]))) (fun _ => rfl)
            obtain ⟨rfl, rfl⟩ := Q31
            by_cases hc32 : (own_code p0 (2 : Int32)) = (own_code p1 (2 : Int32))
            · have w33 := w31.pure (mkF m 76 #[.val (.int p0), .val (.int p1), .val (.int (own_len p0))] [(.int (1 : Int32))]) (fun X eT hZ hown k => by
                  show Steps _ _ _ (State.setTop _ (mkF m 70 #[.val (.int p0), .val (.int p1), .val (.int (own_len p0))] [(.int (own_code p1 (2 : Int32))), (.int (own_code p0 (2 : Int32)))])) _
                  refine S.icmpYes X.here hx 75 (hb hby d24_70) (teq hc32).1 (by decide) (by decide) ?_
                  refine S.iconst X.here hx (1 : Int32) (hb hby d24_75) rfl ?_
                  exact k)
              exact w33.endN (v := some (.int (1 : Int32))) (Q := (fun v h => v = some (.int (own_same p0 p1)) ∧ h0 = h)) (wr := []) (h0 := h0) (fun h => by rw [Bd.returns] at h; cases h) Bd.notSynchronized (fun X hr => retN X hx (t := .boolean) Bd.returns (by simp) (hb hby d24_76) hr) (by decide) (by decide) ⟨by simp only [own_same, if_pos hc5, if_pos hc7, if_neg hc9, if_pos hc24, if_neg hc26, if_pos hc32], rfl⟩ K0
            · have w34 := w31.pure (mkF m 74 #[.val (.int p0), .val (.int p1), .val (.int (own_len p0))] [(.int (0 : Int32))]) (fun X eT hZ hown k => by
                  show Steps _ _ _ (State.setTop _ (mkF m 70 #[.val (.int p0), .val (.int p1), .val (.int (own_len p0))] [(.int (own_code p1 (2 : Int32))), (.int (own_code p0 (2 : Int32)))])) _
                  refine S.icmpNo X.here hx (hb hby d24_70) (feq hc32).1 ?_
                  refine S.iconst X.here hx (0 : Int32) (hb hby d24_73) rfl ?_
                  exact k)
              exact w34.endN (v := some (.int (0 : Int32))) (Q := (fun v h => v = some (.int (own_same p0 p1)) ∧ h0 = h)) (wr := []) (h0 := h0) (fun h => by rw [Bd.returns] at h; cases h) Bd.notSynchronized (fun X hr => retN X hx (t := .boolean) Bd.returns (by simp) (hb hby d24_74) hr) (by decide) (by decide) ⟨by simp only [own_same, if_pos hc5, if_pos hc7, if_neg hc9, if_pos hc24, if_neg hc26, if_neg hc32], rfl⟩ K0
        · have w35 := w23.pure (mkF m 54 #[.val (.int p0), .val (.int p1), .val (.int (own_len p0))] [(.int (0 : Int32))]) (fun X eT hZ hown k => by
              show Steps _ _ _ (State.setTop _ (mkF m 50 #[.val (.int p0), .val (.int p1), .val (.int (own_len p0))] [(.int (own_code p1 (1 : Int32))), (.int (own_code p0 (1 : Int32)))])) _
              refine S.icmpNo X.here hx (hb hby d24_50) (feq hc24).1 ?_
              refine S.iconst X.here hx (0 : Int32) (hb hby d24_53) rfl ?_
              exact k)
          exact w35.endN (v := some (.int (0 : Int32))) (Q := (fun v h => v = some (.int (own_same p0 p1)) ∧ h0 = h)) (wr := []) (h0 := h0) (fun h => by rw [Bd.returns] at h; cases h) Bd.notSynchronized (fun X hr => retN X hx (t := .boolean) Bd.returns (by simp) (hb hby d24_54) hr) (by decide) (by decide) ⟨by simp only [own_same, if_pos hc5, if_pos hc7, if_neg hc9, if_neg hc24], rfl⟩ K0
    · have w36 := w6.pure (mkF m 22 #[.val (.int p0), .val (.int p1), .val (.int (own_len p0))] [(.int (0 : Int32)), (.int p0)]) (fun X eT hZ hown k => by
          show Steps _ _ _ (State.setTop _ (mkF m 17 #[.val (.int p0), .val (.int p1), .val (.int (own_len p0))] [(.int (1 : Int32)), (.int (own_len p0))])) _
          refine S.icmpNo X.here hx (hb hby d24_17) (flt hc7).1 ?_
          refine S.iloadN X.here hx (hb hby d24_20) rfl ?_
          refine S.iconst X.here hx (0 : Int32) (hb hby d24_21) rfl ?_
          exact k)
      obtain ⟨v37, h37, Q37, K37, z37, w37⟩ := w36.callS hx (y := (⟨"com/example/dole/dole/model/GrantMatchesPinLaw", "code", "(II)I"⟩ : MethodName)) (W := 0) (hw _ (List.mem_of_getElem? (i := 13) rfl)) (hw _ (List.mem_of_getElem? (i := 14) rfl)) (hw _ (List.mem_of_getElem? (i := 2) rfl)) (hw _ (List.mem_of_getElem? (i := 15) rfl)) (by decide) ((rm4 l Z a0 hw p0 (0 : Int32) h0 n0 (by omega)).pay w36.hZ (hw _ (List.mem_of_getElem? (i := 15) rfl)) (hw _ (List.mem_of_getElem? (i := 2) rfl)) (by decide) (by decide)) rfl (by rw [hml]; rfl) [] (lenOf pd_5 rfl) rfl (by show 2 * 0 + _ ≤ _; exact Nat.le_of_eq rfl) (hb hby d24_22) (by decide) (by decide) (fun _ q => nomatch q) (fun rv => (mkF m 25 #[.val (.int p0), .val (.int p1), .val (.int (own_len p0))] (rv.toList ++ []))) (fun _ => rfl)
      obtain ⟨rfl, rfl⟩ := Q37
      have w38 := w37.pure (mkF m 27 #[.val (.int p0), .val (.int p1), .val (.int (own_len p0))] [(.int (0 : Int32)), (.int p1), (.int (own_code p0 (0 : Int32)))]) (fun X eT hZ hown k => by
          show Steps _ _ _ (State.setTop _ (mkF m 25 #[.val (.int p0), .val (.int p1), .val (.int (own_len p0))] [(.int (own_code p0 (0 : Int32)))])) _
          refine S.iloadN X.here hx (hb hby d24_25) rfl ?_
          refine S.iconst X.here hx (0 : Int32) (hb hby d24_26) rfl ?_
          exact k)
      obtain ⟨v39, h39, Q39, K39, z39, w39⟩ := w38.callS hx (y := (⟨"com/example/dole/dole/model/GrantMatchesPinLaw", "code", "(II)I"⟩ : MethodName)) (W := 1) (hw _ (List.mem_of_getElem? (i := 13) rfl)) (hw _ (List.mem_of_getElem? (i := 14) rfl)) (hw _ (List.mem_of_getElem? (i := 2) rfl)) (hw _ (List.mem_of_getElem? (i := 15) rfl)) (by decide) ((rm4 l Z a0 hw p1 (0 : Int32) h0 n0 (by omega)).pay w38.hZ (hw _ (List.mem_of_getElem? (i := 15) rfl)) (hw _ (List.mem_of_getElem? (i := 2) rfl)) (by decide) (by decide)) rfl (by rw [hml]; rfl) [(.int (own_code p0 (0 : Int32)))] (lenOf pd_5 rfl) rfl (by show 2 * 0 + _ ≤ _; exact Nat.le_of_eq rfl) (hb hby d24_27) (by decide) (by decide) (fun _ q => nomatch q) (fun rv => (mkF m 30 #[.val (.int p0), .val (.int p1), .val (.int (own_len p0))] (rv.toList ++ [(.int (own_code p0 (0 : Int32)))]))) (fun _ => rfl)
      obtain ⟨rfl, rfl⟩ := Q39
      by_cases hc40 : (own_code p0 (0 : Int32)) = (own_code p1 (0 : Int32))
      · have w41 := w39.pure (mkF m 37 #[.val (.int p0), .val (.int p1), .val (.int (own_len p0))] [(.int (2 : Int32)), (.int (own_len p0))]) (fun X eT hZ hown k => by
            show Steps _ _ _ (State.setTop _ (mkF m 30 #[.val (.int p0), .val (.int p1), .val (.int (own_len p0))] [(.int (own_code p1 (0 : Int32))), (.int (own_code p0 (0 : Int32)))])) _
            refine S.icmpYes X.here hx 35 (hb hby d24_30) (teq hc40).1 (by decide) (by decide) ?_
            refine S.iloadN X.here hx (hb hby d24_35) rfl ?_
            refine S.iconst X.here hx (2 : Int32) (hb hby d24_36) rfl ?_
            exact k)
        by_cases hc42 : (own_len p0) < (2 : Int32)
        · have w43 := w41.pure (mkF m 57 #[.val (.int p0), .val (.int p1), .val (.int (own_len p0))] [(.int (3 : Int32)), (.int (own_len p0))]) (fun X eT hZ hown k => by
              show Steps _ _ _ (State.setTop _ (mkF m 37 #[.val (.int p0), .val (.int p1), .val (.int (own_len p0))] [(.int (2 : Int32)), (.int (own_len p0))])) _
              refine S.icmpYes X.here hx 55 (hb hby d24_37) (tlt hc42).1 (by decide) (by decide) ?_
              refine S.iloadN X.here hx (hb hby d24_55) rfl ?_
              refine S.iconst X.here hx (3 : Int32) (hb hby d24_56) rfl ?_
              exact k)
          by_cases hc44 : (own_len p0) < (3 : Int32)
          · have w45 := w43.pure (mkF m 76 #[.val (.int p0), .val (.int p1), .val (.int (own_len p0))] [(.int (1 : Int32))]) (fun X eT hZ hown k => by
                show Steps _ _ _ (State.setTop _ (mkF m 57 #[.val (.int p0), .val (.int p1), .val (.int (own_len p0))] [(.int (3 : Int32)), (.int (own_len p0))])) _
                refine S.icmpYes X.here hx 75 (hb hby d24_57) (tlt hc44).1 (by decide) (by decide) ?_
                refine S.iconst X.here hx (1 : Int32) (hb hby d24_75) rfl ?_
                exact k)
            exact w45.endN (v := some (.int (1 : Int32))) (Q := (fun v h => v = some (.int (own_same p0 p1)) ∧ h0 = h)) (wr := []) (h0 := h0) (fun h => by rw [Bd.returns] at h; cases h) Bd.notSynchronized (fun X hr => retN X hx (t := .boolean) Bd.returns (by simp) (hb hby d24_76) hr) (by decide) (by decide) ⟨by simp only [own_same, if_pos hc5, if_neg hc7, if_pos hc40, if_pos hc42, if_pos hc44], rfl⟩ K0
          · have w46 := w43.pure (mkF m 62 #[.val (.int p0), .val (.int p1), .val (.int (own_len p0))] [(.int (2 : Int32)), (.int p0)]) (fun X eT hZ hown k => by
                show Steps _ _ _ (State.setTop _ (mkF m 57 #[.val (.int p0), .val (.int p1), .val (.int (own_len p0))] [(.int (3 : Int32)), (.int (own_len p0))])) _
                refine S.icmpNo X.here hx (hb hby d24_57) (flt hc44).1 ?_
                refine S.iloadN X.here hx (hb hby d24_60) rfl ?_
                refine S.iconst X.here hx (2 : Int32) (hb hby d24_61) rfl ?_
                exact k)
            obtain ⟨v47, h47, Q47, K47, z47, w47⟩ := w46.callS hx (y := (⟨"com/example/dole/dole/model/GrantMatchesPinLaw", "code", "(II)I"⟩ : MethodName)) (W := 0) (hw _ (List.mem_of_getElem? (i := 13) rfl)) (hw _ (List.mem_of_getElem? (i := 14) rfl)) (hw _ (List.mem_of_getElem? (i := 2) rfl)) (hw _ (List.mem_of_getElem? (i := 15) rfl)) (by decide) ((rm4 l Z a0 hw p0 (2 : Int32) h0 n0 (by omega)).pay w46.hZ (hw _ (List.mem_of_getElem? (i := 15) rfl)) (hw _ (List.mem_of_getElem? (i := 2) rfl)) (by decide) (by decide)) rfl (by rw [hml]; rfl) [] (lenOf pd_5 rfl) rfl (by show 2 * 0 + _ ≤ _; exact Nat.le_of_eq rfl) (hb hby d24_62) (by decide) (by decide) (fun _ q => nomatch q) (fun rv => (mkF m 65 #[.val (.int p0), .val (.int p1), .val (.int (own_len p0))] (rv.toList ++ []))) (fun _ => rfl)
            obtain ⟨rfl, rfl⟩ := Q47
            have w48 := w47.pure (mkF m 67 #[.val (.int p0), .val (.int p1), .val (.int (own_len p0))] [(.int (2 : Int32)), (.int p1), (.int (own_code p0 (2 : Int32)))]) (fun X eT hZ hown k => by
                show Steps _ _ _ (State.setTop _ (mkF m 65 #[.val (.int p0), .val (.int p1), .val (.int (own_len p0))] [(.int (own_code p0 (2 : Int32)))])) _
                refine S.iloadN X.here hx (hb hby d24_65) rfl ?_
                refine S.iconst X.here hx (2 : Int32) (hb hby d24_66) rfl ?_
                exact k)
            obtain ⟨v49, h49, Q49, K49, z49, w49⟩ := w48.callS hx (y := (⟨"com/example/dole/dole/model/GrantMatchesPinLaw", "code", "(II)I"⟩ : MethodName)) (W := 1) (hw _ (List.mem_of_getElem? (i := 13) rfl)) (hw _ (List.mem_of_getElem? (i := 14) rfl)) (hw _ (List.mem_of_getElem? (i := 2) rfl)) (hw _ (List.mem_of_getElem? (i := 15) rfl)) (by decide) ((rm4 l Z a0 hw p1 (2 : Int32) h0 n0 (by omega)).pay w48.hZ (hw _ (List.mem_of_getElem? (i := 15) rfl)) (hw _ (List.mem_of_getElem? (i := 2) rfl)) (by decide) (by decide)) rfl (by rw [hml]; rfl) [(.int (own_code p0 (2 : Int32)))] (lenOf pd_5 rfl) rfl (by show 2 * 0 + _ ≤ _; exact Nat.le_of_eq rfl) (hb hby d24_67) (by decide) (by decide) (fun _ q => nomatch q) (fun rv => (mkF m 70 #[.val (.int p0), .val (.int p1), .val (.int (own_len p0))] (rv.toList ++ [(.int (own_code p0 (2 : Int32)))]))) (fun _ => rfl)
            obtain ⟨rfl, rfl⟩ := Q49
            by_cases hc50 : (own_code p0 (2 : Int32)) = (own_code p1 (2 : Int32))
            · have w51 := w49.pure (mkF m 76 #[.val (.int p0), .val (.int p1), .val (.int (own_len p0))] [(.int (1 : Int32))]) (fun X eT hZ hown k => by
                  show Steps _ _ _ (State.setTop _ (mkF m 70 #[.val (.int p0), .val (.int p1), .val (.int (own_len p0))] [(.int (own_code p1 (2 : Int32))), (.int (own_code p0 (2 : Int32)))])) _
                  refine S.icmpYes X.here hx 75 (hb hby d24_70) (teq hc50).1 (by decide) (by decide) ?_
                  refine S.iconst X.here hx (1 : Int32) (hb hby d24_75) rfl ?_
                  exact k)
              exact w51.endN (v := some (.int (1 : Int32))) (Q := (fun v h => v = some (.int (own_same p0 p1)) ∧ h0 = h)) (wr := []) (h0 := h0) (fun h => by rw [Bd.returns] at h; cases h) Bd.notSynchronized (fun X hr => retN X hx (t := .boolean) Bd.returns (by simp) (hb hby d24_76) hr) (by decide) (by decide) ⟨by simp only [own_same, if_pos hc5, if_neg hc7, if_pos hc40, if_pos hc42, if_neg hc44, if_pos hc50], rfl⟩ K0
            · have w52 := w49.pure (mkF m 74 #[.val (.int p0), .val (.int p1), .val (.int (own_len p0))] [(.int (0 : Int32))]) (fun X eT hZ hown k => by
                  show Steps _ _ _ (State.setTop _ (mkF m 70 #[.val (.int p0), .val (.int p1), .val (.int (own_len p0))] [(.int (own_code p1 (2 : Int32))), (.int (own_code p0 (2 : Int32)))])) _
                  refine S.icmpNo X.here hx (hb hby d24_70) (feq hc50).1 ?_
                  refine S.iconst X.here hx (0 : Int32) (hb hby d24_73) rfl ?_
                  exact k)
              exact w52.endN (v := some (.int (0 : Int32))) (Q := (fun v h => v = some (.int (own_same p0 p1)) ∧ h0 = h)) (wr := []) (h0 := h0) (fun h => by rw [Bd.returns] at h; cases h) Bd.notSynchronized (fun X hr => retN X hx (t := .boolean) Bd.returns (by simp) (hb hby d24_74) hr) (by decide) (by decide) ⟨by simp only [own_same, if_pos hc5, if_neg hc7, if_pos hc40, if_pos hc42, if_neg hc44, if_neg hc50], rfl⟩ K0
        · have w53 := w41.pure (mkF m 42 #[.val (.int p0), .val (.int p1), .val (.int (own_len p0))] [(.int (1 : Int32)), (.int p0)]) (fun X eT hZ hown k => by
              show Steps _ _ _ (State.setTop _ (mkF m 37 #[.val (.int p0), .val (.int p1), .val (.int (own_len p0))] [(.int (2 : Int32)), (.int (own_len p0))])) _
              refine S.icmpNo X.here hx (hb hby d24_37) (flt hc42).1 ?_
              refine S.iloadN X.here hx (hb hby d24_40) rfl ?_
              refine S.iconst X.here hx (1 : Int32) (hb hby d24_41) rfl ?_
              exact k)
          obtain ⟨v54, h54, Q54, K54, z54, w54⟩ := w53.callS hx (y := (⟨"com/example/dole/dole/model/GrantMatchesPinLaw", "code", "(II)I"⟩ : MethodName)) (W := 0) (hw _ (List.mem_of_getElem? (i := 13) rfl)) (hw _ (List.mem_of_getElem? (i := 14) rfl)) (hw _ (List.mem_of_getElem? (i := 2) rfl)) (hw _ (List.mem_of_getElem? (i := 15) rfl)) (by decide) ((rm4 l Z a0 hw p0 (1 : Int32) h0 n0 (by omega)).pay w53.hZ (hw _ (List.mem_of_getElem? (i := 15) rfl)) (hw _ (List.mem_of_getElem? (i := 2) rfl)) (by decide) (by decide)) rfl (by rw [hml]; rfl) [] (lenOf pd_5 rfl) rfl (by show 2 * 0 + _ ≤ _; exact Nat.le_of_eq rfl) (hb hby d24_42) (by decide) (by decide) (fun _ q => nomatch q) (fun rv => (mkF m 45 #[.val (.int p0), .val (.int p1), .val (.int (own_len p0))] (rv.toList ++ []))) (fun _ => rfl)
          obtain ⟨rfl, rfl⟩ := Q54
          have w55 := w54.pure (mkF m 47 #[.val (.int p0), .val (.int p1), .val (.int (own_len p0))] [(.int (1 : Int32)), (.int p1), (.int (own_code p0 (1 : Int32)))]) (fun X eT hZ hown k => by
              show Steps _ _ _ (State.setTop _ (mkF m 45 #[.val (.int p0), .val (.int p1), .val (.int (own_len p0))] [(.int (own_code p0 (1 : Int32)))])) _
              refine S.iloadN X.here hx (hb hby d24_45) rfl ?_
              refine S.iconst X.here hx (1 : Int32) (hb hby d24_46) rfl ?_
              exact k)
          obtain ⟨v56, h56, Q56, K56, z56, w56⟩ := w55.callS hx (y := (⟨"com/example/dole/dole/model/GrantMatchesPinLaw", "code", "(II)I"⟩ : MethodName)) (W := 1) (hw _ (List.mem_of_getElem? (i := 13) rfl)) (hw _ (List.mem_of_getElem? (i := 14) rfl)) (hw _ (List.mem_of_getElem? (i := 2) rfl)) (hw _ (List.mem_of_getElem? (i := 15) rfl)) (by decide) ((rm4 l Z a0 hw p1 (1 : Int32) h0 n0 (by omega)).pay w55.hZ (hw _ (List.mem_of_getElem? (i := 15) rfl)) (hw _ (List.mem_of_getElem? (i := 2) rfl)) (by decide) (by decide)) rfl (by rw [hml]; rfl) [(.int (own_code p0 (1 : Int32)))] (lenOf pd_5 rfl) rfl (by show 2 * 0 + _ ≤ _; exact Nat.le_of_eq rfl) (hb hby d24_47) (by decide) (by decide) (fun _ q => nomatch q) (fun rv => (mkF m 50 #[.val (.int p0), .val (.int p1), .val (.int (own_len p0))] (rv.toList ++ [(.int (own_code p0 (1 : Int32)))]))) (fun _ => rfl)
          obtain ⟨rfl, rfl⟩ := Q56
          by_cases hc57 : (own_code p0 (1 : Int32)) = (own_code p1 (1 : Int32))
          · have w58 := w56.pure (mkF m 57 #[.val (.int p0), .val (.int p1), .val (.int (own_len p0))] [(.int (3 : Int32)), (.int (own_len p0))]) (fun X eT hZ hown k => by
                show Steps _ _ _ (State.setTop _ (mkF m 50 #[.val (.int p0), .val (.int p1), .val (.int (own_len p0))] [(.int (own_code p1 (1 : Int32))), (.int (own_code p0 (1 : Int32)))])) _
                refine S.icmpYes X.here hx 55 (hb hby d24_50) (teq hc57).1 (by decide) (by decide) ?_
                refine S.iloadN X.here hx (hb hby d24_55) rfl ?_
                refine S.iconst X.here hx (3 : Int32) (hb hby d24_56) rfl ?_
                exact k)
            by_cases hc59 : (own_len p0) < (3 : Int32)
            · have w60 := w58.pure (mkF m 76 #[.val (.int p0), .val (.int p1), .val (.int (own_len p0))] [(.int (1 : Int32))]) (fun X eT hZ hown k => by
                  show Steps _ _ _ (State.setTop _ (mkF m 57 #[.val (.int p0), .val (.int p1), .val (.int (own_len p0))] [(.int (3 : Int32)), (.int (own_len p0))])) _
                  refine S.icmpYes X.here hx 75 (hb hby d24_57) (tlt hc59).1 (by decide) (by decide) ?_
                  refine S.iconst X.here hx (1 : Int32) (hb hby d24_75) rfl ?_
                  exact k)
              exact w60.endN (v := some (.int (1 : Int32))) (Q := (fun v h => v = some (.int (own_same p0 p1)) ∧ h0 = h)) (wr := []) (h0 := h0) (fun h => by rw [Bd.returns] at h; cases h) Bd.notSynchronized (fun X hr => retN X hx (t := .boolean) Bd.returns (by simp) (hb hby d24_76) hr) (by decide) (by decide) ⟨by simp only [own_same, if_pos hc5, if_neg hc7, if_pos hc40, if_neg hc42, if_pos hc57, if_pos hc59], rfl⟩ K0
            · have w61 := w58.pure (mkF m 62 #[.val (.int p0), .val (.int p1), .val (.int (own_len p0))] [(.int (2 : Int32)), (.int p0)]) (fun X eT hZ hown k => by
                  show Steps _ _ _ (State.setTop _ (mkF m 57 #[.val (.int p0), .val (.int p1), .val (.int (own_len p0))] [(.int (3 : Int32)), (.int (own_len p0))])) _
                  refine S.icmpNo X.here hx (hb hby d24_57) (flt hc59).1 ?_
                  refine S.iloadN X.here hx (hb hby d24_60) rfl ?_
                  refine S.iconst X.here hx (2 : Int32) (hb hby d24_61) rfl ?_
                  exact k)
              obtain ⟨v62, h62, Q62, K62, z62, w62⟩ := w61.callS hx (y := (⟨"com/example/dole/dole/model/GrantMatchesPinLaw", "code", "(II)I"⟩ : MethodName)) (W := 0) (hw _ (List.mem_of_getElem? (i := 13) rfl)) (hw _ (List.mem_of_getElem? (i := 14) rfl)) (hw _ (List.mem_of_getElem? (i := 2) rfl)) (hw _ (List.mem_of_getElem? (i := 15) rfl)) (by decide) ((rm4 l Z a0 hw p0 (2 : Int32) h0 n0 (by omega)).pay w61.hZ (hw _ (List.mem_of_getElem? (i := 15) rfl)) (hw _ (List.mem_of_getElem? (i := 2) rfl)) (by decide) (by decide)) rfl (by rw [hml]; rfl) [] (lenOf pd_5 rfl) rfl (by show 2 * 0 + _ ≤ _; exact Nat.le_of_eq rfl) (hb hby d24_62) (by decide) (by decide) (fun _ q => nomatch q) (fun rv => (mkF m 65 #[.val (.int p0), .val (.int p1), .val (.int (own_len p0))] (rv.toList ++ []))) (fun _ => rfl)
              obtain ⟨rfl, rfl⟩ := Q62
              have w63 := w62.pure (mkF m 67 #[.val (.int p0), .val (.int p1), .val (.int (own_len p0))] [(.int (2 : Int32)), (.int p1), (.int (own_code p0 (2 : Int32)))]) (fun X eT hZ hown k => by
                  show Steps _ _ _ (State.setTop _ (mkF m 65 #[.val (.int p0), .val (.int p1), .val (.int (own_len p0))] [(.int (own_code p0 (2 : Int32)))])) _
                  refine S.iloadN X.here hx (hb hby d24_65) rfl ?_
                  refine S.iconst X.here hx (2 : Int32) (hb hby d24_66) rfl ?_
                  exact k)
              obtain ⟨v64, h64, Q64, K64, z64, w64⟩ := w63.callS hx (y := (⟨"com/example/dole/dole/model/GrantMatchesPinLaw", "code", "(II)I"⟩ : MethodName)) (W := 1) (hw _ (List.mem_of_getElem? (i := 13) rfl)) (hw _ (List.mem_of_getElem? (i := 14) rfl)) (hw _ (List.mem_of_getElem? (i := 2) rfl)) (hw _ (List.mem_of_getElem? (i := 15) rfl)) (by decide) ((rm4 l Z a0 hw p1 (2 : Int32) h0 n0 (by omega)).pay w63.hZ (hw _ (List.mem_of_getElem? (i := 15) rfl)) (hw _ (List.mem_of_getElem? (i := 2) rfl)) (by decide) (by decide)) rfl (by rw [hml]; rfl) [(.int (own_code p0 (2 : Int32)))] (lenOf pd_5 rfl) rfl (by show 2 * 0 + _ ≤ _; exact Nat.le_of_eq rfl) (hb hby d24_67) (by decide) (by decide) (fun _ q => nomatch q) (fun rv => (mkF m 70 #[.val (.int p0), .val (.int p1), .val (.int (own_len p0))] (rv.toList ++ [(.int (own_code p0 (2 : Int32)))]))) (fun _ => rfl)
              obtain ⟨rfl, rfl⟩ := Q64
              by_cases hc65 : (own_code p0 (2 : Int32)) = (own_code p1 (2 : Int32))
              · have w66 := w64.pure (mkF m 76 #[.val (.int p0), .val (.int p1), .val (.int (own_len p0))] [(.int (1 : Int32))]) (fun X eT hZ hown k => by
                    show Steps _ _ _ (State.setTop _ (mkF m 70 #[.val (.int p0), .val (.int p1), .val (.int (own_len p0))] [(.int (own_code p1 (2 : Int32))), (.int (own_code p0 (2 : Int32)))])) _
                    refine S.icmpYes X.here hx 75 (hb hby d24_70) (teq hc65).1 (by decide) (by decide) ?_
                    refine S.iconst X.here hx (1 : Int32) (hb hby d24_75) rfl ?_
                    exact k)
                exact w66.endN (v := some (.int (1 : Int32))) (Q := (fun v h => v = some (.int (own_same p0 p1)) ∧ h0 = h)) (wr := []) (h0 := h0) (fun h => by rw [Bd.returns] at h; cases h) Bd.notSynchronized (fun X hr => retN X hx (t := .boolean) Bd.returns (by simp) (hb hby d24_76) hr) (by decide) (by decide) ⟨by simp only [own_same, if_pos hc5, if_neg hc7, if_pos hc40, if_neg hc42, if_pos hc57, if_neg hc59, if_pos hc65], rfl⟩ K0
              · have w67 := w64.pure (mkF m 74 #[.val (.int p0), .val (.int p1), .val (.int (own_len p0))] [(.int (0 : Int32))]) (fun X eT hZ hown k => by
                    show Steps _ _ _ (State.setTop _ (mkF m 70 #[.val (.int p0), .val (.int p1), .val (.int (own_len p0))] [(.int (own_code p1 (2 : Int32))), (.int (own_code p0 (2 : Int32)))])) _
                    refine S.icmpNo X.here hx (hb hby d24_70) (feq hc65).1 ?_
                    refine S.iconst X.here hx (0 : Int32) (hb hby d24_73) rfl ?_
                    exact k)
                exact w67.endN (v := some (.int (0 : Int32))) (Q := (fun v h => v = some (.int (own_same p0 p1)) ∧ h0 = h)) (wr := []) (h0 := h0) (fun h => by rw [Bd.returns] at h; cases h) Bd.notSynchronized (fun X hr => retN X hx (t := .boolean) Bd.returns (by simp) (hb hby d24_74) hr) (by decide) (by decide) ⟨by simp only [own_same, if_pos hc5, if_neg hc7, if_pos hc40, if_neg hc42, if_pos hc57, if_neg hc59, if_neg hc65], rfl⟩ K0
          · have w68 := w56.pure (mkF m 54 #[.val (.int p0), .val (.int p1), .val (.int (own_len p0))] [(.int (0 : Int32))]) (fun X eT hZ hown k => by
                show Steps _ _ _ (State.setTop _ (mkF m 50 #[.val (.int p0), .val (.int p1), .val (.int (own_len p0))] [(.int (own_code p1 (1 : Int32))), (.int (own_code p0 (1 : Int32)))])) _
                refine S.icmpNo X.here hx (hb hby d24_50) (feq hc57).1 ?_
                refine S.iconst X.here hx (0 : Int32) (hb hby d24_53) rfl ?_
                exact k)
            exact w68.endN (v := some (.int (0 : Int32))) (Q := (fun v h => v = some (.int (own_same p0 p1)) ∧ h0 = h)) (wr := []) (h0 := h0) (fun h => by rw [Bd.returns] at h; cases h) Bd.notSynchronized (fun X hr => retN X hx (t := .boolean) Bd.returns (by simp) (hb hby d24_54) hr) (by decide) (by decide) ⟨by simp only [own_same, if_pos hc5, if_neg hc7, if_pos hc40, if_neg hc42, if_neg hc57], rfl⟩ K0
      · have w69 := w39.pure (mkF m 34 #[.val (.int p0), .val (.int p1), .val (.int (own_len p0))] [(.int (0 : Int32))]) (fun X eT hZ hown k => by
            show Steps _ _ _ (State.setTop _ (mkF m 30 #[.val (.int p0), .val (.int p1), .val (.int (own_len p0))] [(.int (own_code p1 (0 : Int32))), (.int (own_code p0 (0 : Int32)))])) _
            refine S.icmpNo X.here hx (hb hby d24_30) (feq hc40).1 ?_
            refine S.iconst X.here hx (0 : Int32) (hb hby d24_33) rfl ?_
            exact k)
        exact w69.endN (v := some (.int (0 : Int32))) (Q := (fun v h => v = some (.int (own_same p0 p1)) ∧ h0 = h)) (wr := []) (h0 := h0) (fun h => by rw [Bd.returns] at h; cases h) Bd.notSynchronized (fun X hr => retN X hx (t := .boolean) Bd.returns (by simp) (hb hby d24_34) hr) (by decide) (by decide) ⟨by simp only [own_same, if_pos hc5, if_neg hc7, if_neg hc40], rfl⟩ K0
  · have w70 := w4.pure (mkF m 14 #[.val (.int p0), .val (.int p1), .val (.int (own_len p0))] [(.int (0 : Int32))]) (fun X eT hZ hown k => by
        show Steps _ _ _ (State.setTop _ (mkF m 10 #[.val (.int p0), .val (.int p1), .val (.int (own_len p0))] [(.int (own_len p1)), (.int (own_len p0))])) _
        refine S.icmpNo X.here hx (hb hby d24_10) (feq hc5).1 ?_
        refine S.iconst X.here hx (0 : Int32) (hb hby d24_13) rfl ?_
        exact k)
    exact w70.endN (v := some (.int (0 : Int32))) (Q := (fun v h => v = some (.int (own_same p0 p1)) ∧ h0 = h)) (wr := []) (h0 := h0) (fun h => by rw [Bd.returns] at h; cases h) Bd.notSynchronized (fun X hr => retN X hx (t := .boolean) Bd.returns (by simp) (hb hby d24_14) hr) (by decide) (by decide) ⟨by simp only [own_same, if_neg hc5], rfl⟩ K0
def own_covers (p0 : Int32) (p1 : Int32) : Int32 := (if (own_isAny p0) = (0 : Int32) then (if (own_same p0 p1) = (0 : Int32) then (0 : Int32) else (1 : Int32)) else (1 : Int32))
theorem pd_9 : parseMethodDescriptor "(I)Z" = some ⟨[.int], some .boolean⟩ := by decide +kernel
theorem pd_10 : parseMethodDescriptor "(II)Z" = some ⟨[.int, .int], some .boolean⟩ := by decide +kernel
theorem d22_0 : decode method_10_code 0 = .ok (.iload_n 0, 1) := by decide +kernel
theorem d22_1 : decode method_10_code 1 = .ok (.invokestatic 50, 3) := by decide +kernel
theorem d22_4 : decode method_10_code 4 = .ok (.ifCond .ne 11, 3) := by decide +kernel
theorem d22_7 : decode method_10_code 7 = .ok (.iload_n 0, 1) := by decide +kernel
theorem d22_8 : decode method_10_code 8 = .ok (.iload_n 1, 1) := by decide +kernel
theorem d22_9 : decode method_10_code 9 = .ok (.invokestatic 54, 3) := by decide +kernel
theorem d22_12 : decode method_10_code 12 = .ok (.ifCond .eq 7, 3) := by decide +kernel
theorem d22_15 : decode method_10_code 15 = .ok (.iconst 1, 1) := by decide +kernel
theorem d22_16 : decode method_10_code 16 = .ok (.goto 4, 3) := by decide +kernel
theorem d22_19 : decode method_10_code 19 = .ok (.iconst 0, 1) := by decide +kernel
theorem d22_20 : decode method_10_code 20 = .ok (.ireturn, 1) := by decide +kernel
theorem ef22 (m : MethodId) (x0 : Int32) (x1 : Int32) : entryFrame m #[(.int x0), (.int x1)] 2 = mkF m 0 #[.val (.int x0), .val (.int x1)] [] := by first | (simp [entryFrame, mkF, argsToLocals, Value.category, maxLocals]; done) | rfl
theorem pn_13 : plainFor (⟨"com/example/dole/dole/model/GrantMatchesPinLaw", "covers", "(II)Z"⟩ : MethodName) = true := by first | decide +kernel | (apply plainFor_of_name; simp [plainName, overriddenIn]; done)
set_option maxRecDepth 65536 in
set_option maxHeartbeats 40000000 in
theorem rm22 (l : Launch) (Z : State) (a0 : Array Value) (hw : ∀ d ∈ tables_1, d.before a0 Z = true) (p0 : Int32) (p1 : Int32) (h0 : Heap) (n0 : Nat) (Z0 : n0 ≤ h0.size)  :
    NMet l Z (⟨"com/example/dole/dole/model/GrantMatchesPinLaw", "covers", "(II)Z"⟩ : MethodName) method_10_code 2 (some .boolean) [] ({ frames := 2, cells := 0, slots := 0, locals := 28 } : Room) [(.int p0), (.int p1)] h0 n0 [] (fun v h => v = some (.int (own_covers p0 p1)) ∧ h0 = h) := by
  refine MetFree.of_bodySF pn_13 hisR ?_
  intro p e s m args below meth c s₁ Bd hml0 hP hK
  obtain ⟨rfl, hZ, hh⟩ := hP
  have hx := Bd.exec
  have hby := Bd.bytes
  have hml : c.maxLocals = 2 := hml0
  have hnm := (name_of_methodNamed Bd.named Bd.method).1
  have w0 := Wk.start (a0 := a0) (EL := []) (n0 := n0) (nw := true) Bd hZ hh EW.nil chv0 (ef22 m p0 p1) ({ frames := 2, cells := 0, slots := 0, locals := 28 } : Room) rfl
  have K0 : Keep h0 h0 [] := Keep.refl _ _
  have w1 := w0.pure (mkF m 1 #[.val (.int p0), .val (.int p1)] [(.int p0)]) (fun X eT hZ hown k => by
      show Steps _ _ _ (State.setTop _ (mkF m 0 #[.val (.int p0), .val (.int p1)] [])) _
      refine S.iloadN X.here hx (hb hby d22_0) rfl ?_
      exact k)
  obtain ⟨v2, h2, Q2, K2, z2, w2⟩ := w1.callS hx (y := (⟨"com/example/dole/dole/model/GrantMatchesPinLaw", "isAny", "(I)Z"⟩ : MethodName)) (W := 0) (hw _ (List.mem_of_getElem? (i := 105) rfl)) (hw _ (List.mem_of_getElem? (i := 106) rfl)) (hw _ (List.mem_of_getElem? (i := 2) rfl)) (hw _ (List.mem_of_getElem? (i := 107) rfl)) (by decide) ((rm23 l Z a0 hw p0 h0 n0 (by omega)).pay w1.hZ (hw _ (List.mem_of_getElem? (i := 107) rfl)) (hw _ (List.mem_of_getElem? (i := 2) rfl)) (by decide) (by decide)) rfl (by rw [hml]; rfl) [] (lenOf pd_9 rfl) rfl (by show 2 * 0 + _ ≤ _; exact Nat.le_of_eq rfl) (hb hby d22_1) (by decide) (by decide) (fun _ q => nomatch q) (fun rv => (mkF m 4 #[.val (.int p0), .val (.int p1)] (rv.toList ++ []))) (fun _ => rfl)
  obtain ⟨rfl, rfl⟩ := Q2
  by_cases hc3 : (own_isAny p0) = (0 : Int32)
  · have w4 := w2.pure (mkF m 9 #[.val (.int p0), .val (.int p1)] [(.int p1), (.int p0)]) (fun X eT hZ hown k => by
        show Steps _ _ _ (State.setTop _ (mkF m 4 #[.val (.int p0), .val (.int p1)] [(.int (own_isAny p0))])) _
        refine S.ifNo X.here hx (hb hby d22_4) ((if0 _ _).trans (teq hc3).2) ?_
        refine S.iloadN X.here hx (hb hby d22_7) rfl ?_
        refine S.iloadN X.here hx (hb hby d22_8) rfl ?_
        exact k)
    obtain ⟨v5, h5, Q5, K5, z5, w5⟩ := w4.callS hx (y := (⟨"com/example/dole/dole/model/GrantMatchesPinLaw", "same", "(II)Z"⟩ : MethodName)) (W := 0) (hw _ (List.mem_of_getElem? (i := 108) rfl)) (hw _ (List.mem_of_getElem? (i := 109) rfl)) (hw _ (List.mem_of_getElem? (i := 2) rfl)) (hw _ (List.mem_of_getElem? (i := 110) rfl)) (by decide) ((rm24 l Z a0 hw p0 p1 h0 n0 (by omega)).pay w4.hZ (hw _ (List.mem_of_getElem? (i := 110) rfl)) (hw _ (List.mem_of_getElem? (i := 2) rfl)) (by decide) (by decide)) rfl (by rw [hml]; rfl) [] (lenOf pd_10 rfl) rfl (by show 2 * 0 + _ ≤ _; exact Nat.le_of_eq rfl) (hb hby d22_9) (by decide) (by decide) (fun _ q => nomatch q) (fun rv => (mkF m 12 #[.val (.int p0), .val (.int p1)] (rv.toList ++ []))) (fun _ => rfl)
    obtain ⟨rfl, rfl⟩ := Q5
    by_cases hc6 : (own_same p0 p1) = (0 : Int32)
    · have w7 := w5.pure (mkF m 20 #[.val (.int p0), .val (.int p1)] [(.int (0 : Int32))]) (fun X eT hZ hown k => by
          show Steps _ _ _ (State.setTop _ (mkF m 12 #[.val (.int p0), .val (.int p1)] [(.int (own_same p0 p1))])) _
          refine S.ifYes X.here hx 19 (hb hby d22_12) ((if0 _ _).trans (teq hc6).1) (by decide) (by decide) ?_
          refine S.iconst X.here hx (0 : Int32) (hb hby d22_19) rfl ?_
          exact k)
      exact w7.endN (v := some (.int (0 : Int32))) (Q := (fun v h => v = some (.int (own_covers p0 p1)) ∧ h0 = h)) (wr := []) (h0 := h0) (fun h => by rw [Bd.returns] at h; cases h) Bd.notSynchronized (fun X hr => retN X hx (t := .boolean) Bd.returns (by simp) (hb hby d22_20) hr) (by decide) (by decide) ⟨by simp only [own_covers, if_pos hc3, if_pos hc6], rfl⟩ K0
    · have w8 := w5.pure (mkF m 20 #[.val (.int p0), .val (.int p1)] [(.int (1 : Int32))]) (fun X eT hZ hown k => by
          show Steps _ _ _ (State.setTop _ (mkF m 12 #[.val (.int p0), .val (.int p1)] [(.int (own_same p0 p1))])) _
          refine S.ifNo X.here hx (hb hby d22_12) ((if0 _ _).trans (feq hc6).1) ?_
          refine S.iconst X.here hx (1 : Int32) (hb hby d22_15) rfl ?_
          refine S.goto X.here hx 20 (hb hby d22_16) (by decide) (by decide) ?_
          exact k)
      exact w8.endN (v := some (.int (1 : Int32))) (Q := (fun v h => v = some (.int (own_covers p0 p1)) ∧ h0 = h)) (wr := []) (h0 := h0) (fun h => by rw [Bd.returns] at h; cases h) Bd.notSynchronized (fun X hr => retN X hx (t := .boolean) Bd.returns (by simp) (hb hby d22_20) hr) (by decide) (by decide) ⟨by simp only [own_covers, if_pos hc3, if_neg hc6], rfl⟩ K0
  · have w9 := w2.pure (mkF m 20 #[.val (.int p0), .val (.int p1)] [(.int (1 : Int32))]) (fun X eT hZ hown k => by
        show Steps _ _ _ (State.setTop _ (mkF m 4 #[.val (.int p0), .val (.int p1)] [(.int (own_isAny p0))])) _
        refine S.ifYes X.here hx 15 (hb hby d22_4) ((if0 _ _).trans (feq hc3).2) (by decide) (by decide) ?_
        refine S.iconst X.here hx (1 : Int32) (hb hby d22_15) rfl ?_
        refine S.goto X.here hx 20 (hb hby d22_16) (by decide) (by decide) ?_
        exact k)
    exact w9.endN (v := some (.int (1 : Int32))) (Q := (fun v h => v = some (.int (own_covers p0 p1)) ∧ h0 = h)) (wr := []) (h0 := h0) (fun h => by rw [Bd.returns] at h; cases h) Bd.notSynchronized (fun X hr => retN X hx (t := .boolean) Bd.returns (by simp) (hb hby d22_20) hr) (by decide) (by decide) ⟨by simp only [own_covers, if_neg hc3], rfl⟩ K0
theorem dri_0 : decode jdk_30_method_1_code 0 = .ok (.aload_n 0, 1) := by decide +kernel
theorem dri_1 : decode jdk_30_method_1_code 1 = .ok (.invokespecial 1, 3) := by decide +kernel
theorem dri_4 : decode jdk_30_method_1_code 4 = .ok (.return_, 1) := by decide +kernel
theorem efri (m : MethodId) (x0 : Nat) : entryFrame m #[(.ref x0)] 1 = mkF m 0 #[.val (.ref x0)] [] := by first | (simp [entryFrame, mkF, argsToLocals, Value.category, maxLocals]; done) | rfl
theorem pn_14 : plainFor (⟨"java/lang/Record", "<init>", "()V"⟩ : MethodName) = true := by first | decide +kernel | (apply plainFor_of_name; simp [plainName, overriddenIn]; done)
set_option maxRecDepth 65536 in
set_option maxHeartbeats 40000000 in
theorem rmri (l : Launch) (Z : State) (a0 : Array Value) (hw : ∀ d ∈ tables_1, d.before a0 Z = true) (a : Nat) (h0 : Heap) (n0 : Nat) (Z0 : n0 ≤ h0.size)  :
    NMet l Z (⟨"java/lang/Record", "<init>", "()V"⟩ : MethodName) jdk_30_method_1_code 1 none [] ({ frames := 1, cells := 0, slots := 0, locals := 12 } : Room) [(.ref a)] h0 n0 [] (fun v h => v = none ∧ h0 = h) := by
  refine MetFree.of_bodySF pn_14 hisR ?_
  intro p e s m args below meth c s₁ Bd hml0 hP hK
  obtain ⟨rfl, hZ, hh⟩ := hP
  have hx := Bd.exec
  have hby := Bd.bytes
  have hml : c.maxLocals = 1 := hml0
  have hnm := (name_of_methodNamed Bd.named Bd.method).1
  have w0 := Wk.start (a0 := a0) (EL := []) (n0 := n0) (nw := true) Bd hZ hh EW.nil chv0 (efri m a) ({ frames := 1, cells := 0, slots := 0, locals := 12 } : Room) rfl
  have K0 : Keep h0 h0 [] := Keep.refl _ _
  have w1 := w0.pure (mkF m 1 #[.val (.ref a)] [(.ref a)]) (fun X eT hZ hown k => by
      show Steps _ _ _ (State.setTop _ (mkF m 0 #[.val (.ref a)] [])) _
      refine S.aloadN X.here hx (hb hby dri_0) rfl rfl ?_
      exact k)
  have w2 := w1.same (mkF m 4 #[.val (.ref a)] []) (fun X eT hZ hown => initO X hx hZ hown (hw _ (List.mem_of_getElem? (i := 60) rfl)) (hw _ (List.mem_of_getElem? (i := 31) rfl)) (hw _ (List.mem_of_getElem? (i := 32) rfl)) eT (g := (mkF m 1 #[.val (.ref a)] [(.ref a)])) rfl (by rw [hml]; rfl) rfl (hb hby dri_1) (by decide) (W := 0) (by show 2 * 0 + _ ≤ _; exact Nat.le_of_eq rfl) (by decide))
  exact w2.endN (v := none) (Q := (fun v h => v = none ∧ h0 = h)) (wr := []) (h0 := h0) (fun _ => rfl) Bd.notSynchronized (fun X hr => X.returnOut hx Bd.returns (hb hby dri_4) hr) (by decide) (by decide) ⟨rfl, rfl⟩ K0
theorem pd_11 : parseMethodDescriptor "()V" = some ⟨[], none⟩ := by decide +kernel
theorem d12_0 : decode prog_38_method_1_code 0 = .ok (.aload_n 0, 1) := by decide +kernel
theorem d12_1 : decode prog_38_method_1_code 1 = .ok (.invokespecial 1, 3) := by decide +kernel
theorem d12_4 : decode prog_38_method_1_code 4 = .ok (.aload_n 0, 1) := by decide +kernel
theorem d12_5 : decode prog_38_method_1_code 5 = .ok (.iload_n 1, 1) := by decide +kernel
theorem d12_6 : decode prog_38_method_1_code 6 = .ok (.putfield 7, 3) := by decide +kernel
theorem d12_9 : decode prog_38_method_1_code 9 = .ok (.aload_n 0, 1) := by decide +kernel
theorem d12_10 : decode prog_38_method_1_code 10 = .ok (.aload_n 2, 1) := by decide +kernel
theorem d12_11 : decode prog_38_method_1_code 11 = .ok (.putfield 13, 3) := by decide +kernel
theorem d12_14 : decode prog_38_method_1_code 14 = .ok (.aload_n 0, 1) := by decide +kernel
theorem d12_15 : decode prog_38_method_1_code 15 = .ok (.aload_n 3, 1) := by decide +kernel
theorem d12_16 : decode prog_38_method_1_code 16 = .ok (.putfield 17, 3) := by decide +kernel
theorem d12_19 : decode prog_38_method_1_code 19 = .ok (.aload_n 0, 1) := by decide +kernel
theorem d12_20 : decode prog_38_method_1_code 20 = .ok (.aload 4, 2) := by decide +kernel
theorem d12_22 : decode prog_38_method_1_code 22 = .ok (.putfield 20, 3) := by decide +kernel
theorem d12_25 : decode prog_38_method_1_code 25 = .ok (.aload_n 0, 1) := by decide +kernel
theorem d12_26 : decode prog_38_method_1_code 26 = .ok (.aload 5, 2) := by decide +kernel
theorem d12_28 : decode prog_38_method_1_code 28 = .ok (.putfield 23, 3) := by decide +kernel
theorem d12_31 : decode prog_38_method_1_code 31 = .ok (.return_, 1) := by decide +kernel
theorem ef12 (m : MethodId) (x0 : Nat) (x1 : Int32) (x2 : Nat) (x3 : Nat) (x4 : Nat) : entryFrame m #[(.ref x0), (.int x1), (.ref x2), (.ref x3), (.ref x4), .null] 6 = mkF m 0 #[.val (.ref x0), .val (.int x1), .val (.ref x2), .val (.ref x3), .val (.ref x4), .val .null] [] := by first | (simp [entryFrame, mkF, argsToLocals, Value.category, maxLocals]; done) | rfl
theorem pn_15 : plainFor (⟨"com/example/dole/dole/model/Grant", "<init>", "(ILjava/lang/String;Ljava/lang/String;Ljava/lang/String;Lcom/example/dole/dole/model/Decision;)V"⟩ : MethodName) = true := by first | decide +kernel | (apply plainFor_of_name; simp [plainName, overriddenIn]; done)
set_option maxRecDepth 65536 in
set_option maxHeartbeats 40000000 in
theorem rm12 (l : Launch) (Z : State) (a0 : Array Value) (hw : ∀ d ∈ tables_1, d.before a0 Z = true) (a : Nat) (i : Int32) (b1 b2 b3 : Nat) (h0 : Heap) (n0 : Nat) (Z0 : n0 ≤ h0.size) (ga : n0 ≤ a) (E0 : Exa Z h0 a "com/example/dole/dole/model/Grant") (F00 : Fld Z h0 a "com/example/dole/dole/model/Grant" "line" "I" (.int (0 : Int32))) (F01 : Fld Z h0 a "com/example/dole/dole/model/Grant" "application" "Ljava/lang/String;" .null) (F02 : Fld Z h0 a "com/example/dole/dole/model/Grant" "user" "Ljava/lang/String;" .null) (F03 : Fld Z h0 a "com/example/dole/dole/model/Grant" "privilege" "Ljava/lang/String;" .null) (F04 : Fld Z h0 a "com/example/dole/dole/model/Grant" "decision" "Lcom/example/dole/dole/model/Decision;" .null) :
    NMet l Z (⟨"com/example/dole/dole/model/Grant", "<init>", "(ILjava/lang/String;Ljava/lang/String;Ljava/lang/String;Lcom/example/dole/dole/model/Decision;)V"⟩ : MethodName) prog_38_method_1_code 6 none [] ({ frames := 2, cells := 0, slots := 0, locals := 24 } : Room) [(.ref a), (.int i), (.ref b1), (.ref b2), (.ref b3), .null] h0 n0 [a] (fun r h => r = none ∧ Exa Z h a "com/example/dole/dole/model/Grant" ∧ Fld Z h a "com/example/dole/dole/model/Grant" "line" "I" (.int i) ∧ Fld Z h a "com/example/dole/dole/model/Grant" "application" "Ljava/lang/String;" (.ref b1) ∧ Fld Z h a "com/example/dole/dole/model/Grant" "user" "Ljava/lang/String;" (.ref b2) ∧ Fld Z h a "com/example/dole/dole/model/Grant" "privilege" "Ljava/lang/String;" (.ref b3) ∧ Fld Z h a "com/example/dole/dole/model/Grant" "decision" "Lcom/example/dole/dole/model/Decision;" .null) := by
  refine MetFree.of_bodySF pn_15 hisR ?_
  intro p e s m args below meth c s₁ Bd hml0 hP hK
  obtain ⟨rfl, hZ, hh⟩ := hP
  have hx := Bd.exec
  have hby := Bd.bytes
  have hml : c.maxLocals = 6 := hml0
  have hnm := (name_of_methodNamed Bd.named Bd.method).1
  have w0 := Wk.start (a0 := a0) (EL := []) (n0 := n0) (nw := true) Bd hZ hh EW.nil chv0 (ef12 m a i b1 b2 b3) ({ frames := 2, cells := 0, slots := 0, locals := 24 } : Room) rfl
  have K0 : Keep h0 h0 [a] := Keep.refl _ _
  have lt_E0 := exlt E0
  have w1 := w0.pure (mkF m 1 #[.val (.ref a), .val (.int i), .val (.ref b1), .val (.ref b2), .val (.ref b3), .val .null] [(.ref a)]) (fun X eT hZ hown k => by
      show Steps _ _ _ (State.setTop _ (mkF m 0 #[.val (.ref a), .val (.int i), .val (.ref b1), .val (.ref b2), .val (.ref b3), .val .null] [])) _
      refine S.aloadN X.here hx (hb hby d12_0) rfl rfl ?_
      exact k)
  obtain ⟨v2, h2, Q2, K2, z2, w2⟩ := w1.callI hx (y := (⟨"java/lang/Record", "<init>", "()V"⟩ : MethodName)) (W := 0) rfl (hw _ (List.mem_of_getElem? (i := 55) rfl)) (hw _ (List.mem_of_getElem? (i := 56) rfl)) (hw _ (List.mem_of_getElem? (i := 59) rfl)) (by decide) ((rmri l Z a0 hw a h0 n0 (by omega) ).pay w1.hZ (hw _ (List.mem_of_getElem? (i := 59) rfl)) (hw _ (List.mem_of_getElem? (i := 58) rfl)) (by decide) (by decide)) rfl (by rw [hml]; rfl) [] (lenOf pd_11 rfl) rfl (by show 2 * 0 + _ ≤ _; exact Nat.le_of_eq rfl) (hb hby d12_1) (by decide) (by decide) (fun _ q => nomatch q) (fun rv => (mkF m 4 #[.val (.ref a), .val (.int i), .val (.ref b1), .val (.ref b2), .val (.ref b3), .val .null] (rv.toList ++ []))) (fun _ => rfl)
  obtain ⟨rfl, rfl⟩ := Q2
  have w3 := w2.pure (mkF m 6 #[.val (.ref a), .val (.int i), .val (.ref b1), .val (.ref b2), .val (.ref b3), .val .null] [(.int i), (.ref a)]) (fun X eT hZ hown k => by
      show Steps _ _ _ (State.setTop _ (mkF m 4 #[.val (.ref a), .val (.int i), .val (.ref b1), .val (.ref b2), .val (.ref b3), .val .null] [])) _
      refine S.aloadN X.here hx (hb hby d12_4) rfl rfl ?_
      refine S.iloadN X.here hx (hb hby d12_5) rfl ?_
      exact k)
  obtain ⟨h4, W4, z4, F4, w4⟩ := w3.putF hx (host := "") (Or.inl (hw _ (List.mem_of_getElem? (i := 61) rfl))) Via.refl F00 E0 (Or.inr ⟨(hw _ (List.mem_of_getElem? (i := 62) rfl)), rfl, hnm⟩) (hw _ (List.mem_of_getElem? (i := 5) rfl)) (ty := .int) (by decide) rfl rfl rfl rfl (hb hby d12_6) (by omega) safe0 (mkF m 9 #[.val (.ref a), .val (.int i), .val (.ref b1), .val (.ref b2), .val (.ref b3), .val .null] []) rfl
  have K5 : Keep h0 h4 [a] := K0.wr W4 (Or.inl (List.mem_of_getElem? (i := 0) rfl))
  have w6 := w4.pure (mkF m 11 #[.val (.ref a), .val (.int i), .val (.ref b1), .val (.ref b2), .val (.ref b3), .val .null] [(.ref b1), (.ref a)]) (fun X eT hZ hown k => by
      show Steps _ _ _ (State.setTop _ (mkF m 9 #[.val (.ref a), .val (.int i), .val (.ref b1), .val (.ref b2), .val (.ref b3), .val .null] [])) _
      refine S.aloadN X.here hx (hb hby d12_9) rfl rfl ?_
      refine S.aloadN X.here hx (hb hby d12_10) rfl rfl ?_
      exact k)
  have F7 := F01.other W4 (Or.inr (slot_ne (Or.inr (hw _ (List.mem_of_getElem? (i := 64) rfl))) (Or.inr (hw _ (List.mem_of_getElem? (i := 62) rfl))) (by decide) (t := (.object "java/lang/String")) (t' := .int) (by decide) (by decide)))
  have F8 := E0.wr W4
  obtain ⟨h9, W9, z9, F9, w9⟩ := w6.putF hx (host := "") (Or.inl (hw _ (List.mem_of_getElem? (i := 63) rfl))) Via.refl F7 F8 (Or.inr ⟨(hw _ (List.mem_of_getElem? (i := 64) rfl)), rfl, hnm⟩) (hw _ (List.mem_of_getElem? (i := 5) rfl)) (ty := (.object "java/lang/String")) (by decide) rfl rfl rfl rfl (hb hby d12_11) (by omega) safe0 (mkF m 14 #[.val (.ref a), .val (.int i), .val (.ref b1), .val (.ref b2), .val (.ref b3), .val .null] []) rfl
  have K10 : Keep h0 h9 [a] := K5.wr W9 (Or.inl (List.mem_of_getElem? (i := 0) rfl))
  have w11 := w9.pure (mkF m 16 #[.val (.ref a), .val (.int i), .val (.ref b1), .val (.ref b2), .val (.ref b3), .val .null] [(.ref b2), (.ref a)]) (fun X eT hZ hown k => by
      show Steps _ _ _ (State.setTop _ (mkF m 14 #[.val (.ref a), .val (.int i), .val (.ref b1), .val (.ref b2), .val (.ref b3), .val .null] [])) _
      refine S.aloadN X.here hx (hb hby d12_14) rfl rfl ?_
      refine S.aloadN X.here hx (hb hby d12_15) rfl rfl ?_
      exact k)
  have F12 := F02.other W4 (Or.inr (slot_ne (Or.inr (hw _ (List.mem_of_getElem? (i := 66) rfl))) (Or.inr (hw _ (List.mem_of_getElem? (i := 62) rfl))) (by decide) (t := (.object "java/lang/String")) (t' := .int) (by decide) (by decide)))
  have F13 := F12.other W9 (Or.inr (slot_ne (Or.inr (hw _ (List.mem_of_getElem? (i := 66) rfl))) (Or.inr (hw _ (List.mem_of_getElem? (i := 64) rfl))) (by decide) (t := (.object "java/lang/String")) (t' := (.object "java/lang/String")) (by decide) (by decide)))
  have F14 := F8.wr W9
  obtain ⟨h15, W15, z15, F15, w15⟩ := w11.putF hx (host := "") (Or.inl (hw _ (List.mem_of_getElem? (i := 65) rfl))) Via.refl F13 F14 (Or.inr ⟨(hw _ (List.mem_of_getElem? (i := 66) rfl)), rfl, hnm⟩) (hw _ (List.mem_of_getElem? (i := 5) rfl)) (ty := (.object "java/lang/String")) (by decide) rfl rfl rfl rfl (hb hby d12_16) (by omega) safe0 (mkF m 19 #[.val (.ref a), .val (.int i), .val (.ref b1), .val (.ref b2), .val (.ref b3), .val .null] []) rfl
  have K16 : Keep h0 h15 [a] := K10.wr W15 (Or.inl (List.mem_of_getElem? (i := 0) rfl))
  have w17 := w15.pure (mkF m 22 #[.val (.ref a), .val (.int i), .val (.ref b1), .val (.ref b2), .val (.ref b3), .val .null] [(.ref b3), (.ref a)]) (fun X eT hZ hown k => by
      show Steps _ _ _ (State.setTop _ (mkF m 19 #[.val (.ref a), .val (.int i), .val (.ref b1), .val (.ref b2), .val (.ref b3), .val .null] [])) _
      refine S.aloadN X.here hx (hb hby d12_19) rfl rfl ?_
      refine S.aload X.here hx (hb hby d12_20) rfl rfl ?_
      exact k)
  have F18 := F03.other W4 (Or.inr (slot_ne (Or.inr (hw _ (List.mem_of_getElem? (i := 68) rfl))) (Or.inr (hw _ (List.mem_of_getElem? (i := 62) rfl))) (by decide) (t := (.object "java/lang/String")) (t' := .int) (by decide) (by decide)))
  have F19 := F18.other W9 (Or.inr (slot_ne (Or.inr (hw _ (List.mem_of_getElem? (i := 68) rfl))) (Or.inr (hw _ (List.mem_of_getElem? (i := 64) rfl))) (by decide) (t := (.object "java/lang/String")) (t' := (.object "java/lang/String")) (by decide) (by decide)))
  have F20 := F19.other W15 (Or.inr (slot_ne (Or.inr (hw _ (List.mem_of_getElem? (i := 68) rfl))) (Or.inr (hw _ (List.mem_of_getElem? (i := 66) rfl))) (by decide) (t := (.object "java/lang/String")) (t' := (.object "java/lang/String")) (by decide) (by decide)))
  have F21 := F14.wr W15
  obtain ⟨h22, W22, z22, F22, w22⟩ := w17.putF hx (host := "") (Or.inl (hw _ (List.mem_of_getElem? (i := 67) rfl))) Via.refl F20 F21 (Or.inr ⟨(hw _ (List.mem_of_getElem? (i := 68) rfl)), rfl, hnm⟩) (hw _ (List.mem_of_getElem? (i := 5) rfl)) (ty := (.object "java/lang/String")) (by decide) rfl rfl rfl rfl (hb hby d12_22) (by omega) safe0 (mkF m 25 #[.val (.ref a), .val (.int i), .val (.ref b1), .val (.ref b2), .val (.ref b3), .val .null] []) rfl
  have K23 : Keep h0 h22 [a] := K16.wr W22 (Or.inl (List.mem_of_getElem? (i := 0) rfl))
  have w24 := w22.pure (mkF m 28 #[.val (.ref a), .val (.int i), .val (.ref b1), .val (.ref b2), .val (.ref b3), .val .null] [.null, (.ref a)]) (fun X eT hZ hown k => by
      show Steps _ _ _ (State.setTop _ (mkF m 25 #[.val (.ref a), .val (.int i), .val (.ref b1), .val (.ref b2), .val (.ref b3), .val .null] [])) _
      refine S.aloadN X.here hx (hb hby d12_25) rfl rfl ?_
      refine S.aload X.here hx (hb hby d12_26) rfl rfl ?_
      exact k)
  have F25 := F04.other W4 (Or.inr (slot_ne (Or.inr (hw _ (List.mem_of_getElem? (i := 70) rfl))) (Or.inr (hw _ (List.mem_of_getElem? (i := 62) rfl))) (by decide) (t := (.object "com/example/dole/dole/model/Decision")) (t' := .int) (by decide) (by decide)))
  have F26 := F25.other W9 (Or.inr (slot_ne (Or.inr (hw _ (List.mem_of_getElem? (i := 70) rfl))) (Or.inr (hw _ (List.mem_of_getElem? (i := 64) rfl))) (by decide) (t := (.object "com/example/dole/dole/model/Decision")) (t' := (.object "java/lang/String")) (by decide) (by decide)))
  have F27 := F26.other W15 (Or.inr (slot_ne (Or.inr (hw _ (List.mem_of_getElem? (i := 70) rfl))) (Or.inr (hw _ (List.mem_of_getElem? (i := 66) rfl))) (by decide) (t := (.object "com/example/dole/dole/model/Decision")) (t' := (.object "java/lang/String")) (by decide) (by decide)))
  have F28 := F27.other W22 (Or.inr (slot_ne (Or.inr (hw _ (List.mem_of_getElem? (i := 70) rfl))) (Or.inr (hw _ (List.mem_of_getElem? (i := 68) rfl))) (by decide) (t := (.object "com/example/dole/dole/model/Decision")) (t' := (.object "java/lang/String")) (by decide) (by decide)))
  have F29 := F21.wr W22
  obtain ⟨h30, W30, z30, F30, w30⟩ := w24.putF hx (host := "") (Or.inl (hw _ (List.mem_of_getElem? (i := 69) rfl))) Via.refl F28 F29 (Or.inr ⟨(hw _ (List.mem_of_getElem? (i := 70) rfl)), rfl, hnm⟩) (hw _ (List.mem_of_getElem? (i := 5) rfl)) (ty := (.object "com/example/dole/dole/model/Decision")) (by decide) rfl rfl rfl rfl (hb hby d12_28) (by omega) safe0 (mkF m 31 #[.val (.ref a), .val (.int i), .val (.ref b1), .val (.ref b2), .val (.ref b3), .val .null] []) rfl
  have K31 : Keep h0 h30 [a] := K23.wr W30 (Or.inl (List.mem_of_getElem? (i := 0) rfl))
  have F32 := F29.wr W30
  have F33 := F4.other W9 (Or.inr (slot_ne (Or.inr (hw _ (List.mem_of_getElem? (i := 62) rfl))) (Or.inr (hw _ (List.mem_of_getElem? (i := 64) rfl))) (by decide) (t := .int) (t' := (.object "java/lang/String")) (by decide) (by decide)))
  have F34 := F33.other W15 (Or.inr (slot_ne (Or.inr (hw _ (List.mem_of_getElem? (i := 62) rfl))) (Or.inr (hw _ (List.mem_of_getElem? (i := 66) rfl))) (by decide) (t := .int) (t' := (.object "java/lang/String")) (by decide) (by decide)))
  have F35 := F34.other W22 (Or.inr (slot_ne (Or.inr (hw _ (List.mem_of_getElem? (i := 62) rfl))) (Or.inr (hw _ (List.mem_of_getElem? (i := 68) rfl))) (by decide) (t := .int) (t' := (.object "java/lang/String")) (by decide) (by decide)))
  have F36 := F35.other W30 (Or.inr (slot_ne (Or.inr (hw _ (List.mem_of_getElem? (i := 62) rfl))) (Or.inr (hw _ (List.mem_of_getElem? (i := 70) rfl))) (by decide) (t := .int) (t' := (.object "com/example/dole/dole/model/Decision")) (by decide) (by decide)))
  have F37 := F9.other W15 (Or.inr (slot_ne (Or.inr (hw _ (List.mem_of_getElem? (i := 64) rfl))) (Or.inr (hw _ (List.mem_of_getElem? (i := 66) rfl))) (by decide) (t := (.object "java/lang/String")) (t' := (.object "java/lang/String")) (by decide) (by decide)))
  have F38 := F37.other W22 (Or.inr (slot_ne (Or.inr (hw _ (List.mem_of_getElem? (i := 64) rfl))) (Or.inr (hw _ (List.mem_of_getElem? (i := 68) rfl))) (by decide) (t := (.object "java/lang/String")) (t' := (.object "java/lang/String")) (by decide) (by decide)))
  have F39 := F38.other W30 (Or.inr (slot_ne (Or.inr (hw _ (List.mem_of_getElem? (i := 64) rfl))) (Or.inr (hw _ (List.mem_of_getElem? (i := 70) rfl))) (by decide) (t := (.object "java/lang/String")) (t' := (.object "com/example/dole/dole/model/Decision")) (by decide) (by decide)))
  have F40 := F15.other W22 (Or.inr (slot_ne (Or.inr (hw _ (List.mem_of_getElem? (i := 66) rfl))) (Or.inr (hw _ (List.mem_of_getElem? (i := 68) rfl))) (by decide) (t := (.object "java/lang/String")) (t' := (.object "java/lang/String")) (by decide) (by decide)))
  have F41 := F40.other W30 (Or.inr (slot_ne (Or.inr (hw _ (List.mem_of_getElem? (i := 66) rfl))) (Or.inr (hw _ (List.mem_of_getElem? (i := 70) rfl))) (by decide) (t := (.object "java/lang/String")) (t' := (.object "com/example/dole/dole/model/Decision")) (by decide) (by decide)))
  have F42 := F22.other W30 (Or.inr (slot_ne (Or.inr (hw _ (List.mem_of_getElem? (i := 68) rfl))) (Or.inr (hw _ (List.mem_of_getElem? (i := 70) rfl))) (by decide) (t := (.object "java/lang/String")) (t' := (.object "com/example/dole/dole/model/Decision")) (by decide) (by decide)))
  exact w30.endN (v := none) (Q := (fun r h => r = none ∧ Exa Z h a "com/example/dole/dole/model/Grant" ∧ Fld Z h a "com/example/dole/dole/model/Grant" "line" "I" (.int i) ∧ Fld Z h a "com/example/dole/dole/model/Grant" "application" "Ljava/lang/String;" (.ref b1) ∧ Fld Z h a "com/example/dole/dole/model/Grant" "user" "Ljava/lang/String;" (.ref b2) ∧ Fld Z h a "com/example/dole/dole/model/Grant" "privilege" "Ljava/lang/String;" (.ref b3) ∧ Fld Z h a "com/example/dole/dole/model/Grant" "decision" "Lcom/example/dole/dole/model/Decision;" .null)) (wr := [a]) (h0 := h0) (fun _ => rfl) Bd.notSynchronized (fun X hr => X.returnOut hx Bd.returns (hb hby d12_31) hr) (by decide) (by decide) ⟨rfl, F32, F36, F39, F41, F42, F30⟩ K31
def own_cov (cx cy : List Int32) : Int32 := if cx = [(42 : Int32)] then (1 : Int32) else if cx = cy then (1 : Int32) else (0 : Int32)
theorem pd_12 : parseMethodDescriptor "(Ljava/lang/Object;)Z" = some ⟨[(.object "java/lang/Object")], some .boolean⟩ := by decide +kernel
theorem d19_0 : decode prog_38_method_4_code 0 = .ok (.aload_n 0, 1) := by decide +kernel
theorem d19_1 : decode prog_38_method_4_code 1 = .ok (.ldc 33, 2) := by decide +kernel
theorem d19_3 : decode prog_38_method_4_code 3 = .ok (.invokevirtual 35, 3) := by decide +kernel
theorem d19_6 : decode prog_38_method_4_code 6 = .ok (.ifCond .ne 11, 3) := by decide +kernel
theorem d19_9 : decode prog_38_method_4_code 9 = .ok (.aload_n 0, 1) := by decide +kernel
theorem d19_10 : decode prog_38_method_4_code 10 = .ok (.aload_n 1, 1) := by decide +kernel
theorem d19_11 : decode prog_38_method_4_code 11 = .ok (.invokevirtual 35, 3) := by decide +kernel
theorem d19_14 : decode prog_38_method_4_code 14 = .ok (.ifCond .eq 7, 3) := by decide +kernel
theorem d19_17 : decode prog_38_method_4_code 17 = .ok (.iconst 1, 1) := by decide +kernel
theorem d19_18 : decode prog_38_method_4_code 18 = .ok (.goto 4, 3) := by decide +kernel
theorem d19_21 : decode prog_38_method_4_code 21 = .ok (.iconst 0, 1) := by decide +kernel
theorem d19_22 : decode prog_38_method_4_code 22 = .ok (.ireturn, 1) := by decide +kernel
theorem ef19 (m : MethodId) (x0 : Nat) (x1 : Nat) : entryFrame m #[(.ref x0), (.ref x1)] 2 = mkF m 0 #[.val (.ref x0), .val (.ref x1)] [] := by first | (simp [entryFrame, mkF, argsToLocals, Value.category, maxLocals]; done) | rfl
theorem pn_16 : plainFor (⟨"com/example/dole/dole/model/Grant", "covers", "(Ljava/lang/String;Ljava/lang/String;)Z"⟩ : MethodName) = true := by first | decide +kernel | (apply plainFor_of_name; simp [plainName, overriddenIn]; done)
set_option maxRecDepth 65536 in
set_option maxHeartbeats 40000000 in
theorem rm19 (l : Launch) (Z : State) (a0 : Array Value) (hw : ∀ d ∈ tables_1, d.before a0 Z = true) (hE : EW Z a0 consts_1) (x y : Nat) (cx cy : List Int32) (h0 : Heap) (n0 : Nat) (Z0 : n0 ≤ h0.size) (hG : SetsOk Z) (X0 : Old Z n0 h0) (Sx : Str Z h0 x cx h0.size) (Sy : Str Z h0 y cy h0.size) :
    WMet l Z consts_1 (⟨"com/example/dole/dole/model/Grant", "covers", "(Ljava/lang/String;Ljava/lang/String;)Z"⟩ : MethodName) prog_38_method_4_code 2 (some .boolean) [] ({ frames := 2, cells := 2, slots := 8, locals := 28 } : Room) [(.ref x), (.ref y)] h0 n0 [] [] (fun v h => v = some (.int (own_cov cx cy))) := by
  refine MetFree.of_bodySF pn_16 hisR ?_
  intro p e s m args below meth c s₁ Bd hml0 hP hK
  obtain ⟨rfl, hZ, hh, hC, hSf⟩ := hP
  have hx := Bd.exec
  have hby := Bd.bytes
  have hml : c.maxLocals = 2 := hml0
  have hnm := (name_of_methodNamed Bd.named Bd.method).1
  have w0 := Wk.start (a0 := a0) (EL := consts_1) (n0 := n0) (nw := false) Bd hZ hh hE hC (ef19 m x y) ({ frames := 2, cells := 2, slots := 8, locals := 28 } : Room) rfl
  have K0 : Keep h0 h0 [] := Keep.refl _ _
  have lt_Sx := Sx.lt
  have lt_Sy := Sy.lt
  have hS : ∀ d ∈ Bundle.stringAtoms, d.before a0 Z = true := fun d hd => hw d ((by decide +kernel : ∀ d ∈ Bundle.stringAtoms, d ∈ tables_1) d hd)
  have hq_eqW : ∀ d ∈ StrChars.Road.wordsEq, d.before a0 Z = true := fun d hd => hw d ((by decide +kernel : ∀ d ∈ StrChars.Road.wordsEq, d ∈ tables_1) d hd)
  have w1 := w0.pure (mkF m 1 #[.val (.ref x), .val (.ref y)] [(.ref x)]) (fun X eT hZ hown k => by
      show Steps _ _ _ (State.setTop _ (mkF m 0 #[.val (.ref x), .val (.ref y)] [])) _
      refine S.aloadN X.here hx (hb hby d19_0) rfl rfl ?_
      exact k)
  obtain ⟨b2, vm2, h2, t2, k2, E2, A2, F2c, F2v, V2, l2, m2, C2, N2, w2⟩ := w1.ldcCH hx (text := "*") (hw _ (List.mem_of_getElem? (i := 93) rfl)) hS (List.mem_of_getElem? (i := 0) rfl) (vs := [(.int (42 : Int32))]) (z := (1 : Int32)) ⟨by decide, by decide⟩ (by decide) (by decide) rfl (hb hby d19_1) 4 (by decide) (by decide) (by decide) (by decide) (fun xq => (mkF m 3 #[.val (.ref x), .val (.ref y)] (.ref xq :: [(.ref x)]))) (fun _ => rfl)
  have z2 := E2.1
  have K3 : Keep h0 h2 [] := K0.ext E2
  have S2 : Str Z h2 b2 [(42 : Int32)] h2.size := Str.of A2 F2v F2c V2 rfl rfl (List.forall_mem_cons.mpr ⟨by decide, (fun _ q => nomatch q)⟩) (by decide) l2 m2
  have F4 := Sx.ext E2
  have F5 := X0.ext E2
  obtain ⟨v6, h6, Q6, K6, z6, w6⟩ := w2.callV hx (C := "java/lang/String") (y := (⟨"java/lang/String", "equals", "(Ljava/lang/Object;)Z"⟩ : MethodName)) (z := (⟨"java/lang/String", "equals", "(Ljava/lang/Object;)Z"⟩ : MethodName)) (W := 0) (hw _ (List.mem_of_getElem? (i := 94) rfl)) (hw _ (List.mem_of_getElem? (i := 95) rfl)) (hw _ (List.mem_of_getElem? (i := 97) rfl)) (hw _ (List.mem_of_getElem? (i := 96) rfl)) (w2.nf (hw _ (List.mem_of_getElem? (i := 97) rfl))) (by decide) (payEq hG w2.hZ hq_eqW (hw _ (List.mem_of_getElem? (i := 20) rfl)) F4 S2 F5 (by decide) (by decide)) F4.exa rfl (by rw [hml]; rfl) [] (lenOf pd_12 rfl) rfl (by show 2 * 0 + _ ≤ _; exact Nat.le_of_eq rfl) (hb hby d19_3) (by decide) (by decide) (fun _ q => nomatch q) (fun rv => (mkF m 6 #[.val (.ref x), .val (.ref y)] (rv.toList ++ []))) (fun _ => rfl)
  obtain ⟨rfl, rfl⟩ := Q6
  by_cases hc7 : (if cx = [(42 : Int32)] then (1 : Int32) else (0 : Int32)) = (0 : Int32)
  · have w8 := w6.pure (mkF m 11 #[.val (.ref x), .val (.ref y)] [(.ref y), (.ref x)]) (fun X eT hZ hown k => by
        show Steps _ _ _ (State.setTop _ (mkF m 6 #[.val (.ref x), .val (.ref y)] [(.int (if cx = [(42 : Int32)] then (1 : Int32) else (0 : Int32)))])) _
        refine S.ifNo X.here hx (hb hby d19_6) ((if0 _ _).trans (teq hc7).2) ?_
        refine S.aloadN X.here hx (hb hby d19_9) rfl rfl ?_
        refine S.aloadN X.here hx (hb hby d19_10) rfl rfl ?_
        exact k)
    have F9 := Sy.ext E2
    obtain ⟨v10, h10, Q10, K10, z10, w10⟩ := w8.callV hx (C := "java/lang/String") (y := (⟨"java/lang/String", "equals", "(Ljava/lang/Object;)Z"⟩ : MethodName)) (z := (⟨"java/lang/String", "equals", "(Ljava/lang/Object;)Z"⟩ : MethodName)) (W := 0) (hw _ (List.mem_of_getElem? (i := 94) rfl)) (hw _ (List.mem_of_getElem? (i := 95) rfl)) (hw _ (List.mem_of_getElem? (i := 97) rfl)) (hw _ (List.mem_of_getElem? (i := 96) rfl)) (w8.nf (hw _ (List.mem_of_getElem? (i := 97) rfl))) (by decide) (payEq hG w8.hZ hq_eqW (hw _ (List.mem_of_getElem? (i := 20) rfl)) F4 F9 F5 (by decide) (by decide)) F4.exa rfl (by rw [hml]; rfl) [] (lenOf pd_12 rfl) rfl (by show 2 * 0 + _ ≤ _; exact Nat.le_of_eq rfl) (hb hby d19_11) (by decide) (by decide) (fun _ q => nomatch q) (fun rv => (mkF m 14 #[.val (.ref x), .val (.ref y)] (rv.toList ++ []))) (fun _ => rfl)
    obtain ⟨rfl, rfl⟩ := Q10
    by_cases hc11 : (if cx = cy then (1 : Int32) else (0 : Int32)) = (0 : Int32)
    · have w12 := w10.pure (mkF m 22 #[.val (.ref x), .val (.ref y)] [(.int (0 : Int32))]) (fun X eT hZ hown k => by
          show Steps _ _ _ (State.setTop _ (mkF m 14 #[.val (.ref x), .val (.ref y)] [(.int (if cx = cy then (1 : Int32) else (0 : Int32)))])) _
          refine S.ifYes X.here hx 21 (hb hby d19_14) ((if0 _ _).trans (teq hc11).1) (by decide) (by decide) ?_
          refine S.iconst X.here hx (0 : Int32) (hb hby d19_21) rfl ?_
          exact k)
      exact w12.endW (v := some (.int (0 : Int32))) (Q := (fun v h => v = some (.int (own_cov cx cy)))) (wr := []) (h0 := h0) (fun h => by rw [Bd.returns] at h; cases h) Bd.notSynchronized (fun X hr => retN X hx (t := .boolean) Bd.returns (by simp) (hb hby d19_22) hr) (by decide) (by decide) (by unfold own_cov; simp_all) K3
    · have w13 := w10.pure (mkF m 22 #[.val (.ref x), .val (.ref y)] [(.int (1 : Int32))]) (fun X eT hZ hown k => by
          show Steps _ _ _ (State.setTop _ (mkF m 14 #[.val (.ref x), .val (.ref y)] [(.int (if cx = cy then (1 : Int32) else (0 : Int32)))])) _
          refine S.ifNo X.here hx (hb hby d19_14) ((if0 _ _).trans (feq hc11).1) ?_
          refine S.iconst X.here hx (1 : Int32) (hb hby d19_17) rfl ?_
          refine S.goto X.here hx 22 (hb hby d19_18) (by decide) (by decide) ?_
          exact k)
      exact w13.endW (v := some (.int (1 : Int32))) (Q := (fun v h => v = some (.int (own_cov cx cy)))) (wr := []) (h0 := h0) (fun h => by rw [Bd.returns] at h; cases h) Bd.notSynchronized (fun X hr => retN X hx (t := .boolean) Bd.returns (by simp) (hb hby d19_22) hr) (by decide) (by decide) (by unfold own_cov; simp_all) K3
  · have w14 := w6.pure (mkF m 22 #[.val (.ref x), .val (.ref y)] [(.int (1 : Int32))]) (fun X eT hZ hown k => by
        show Steps _ _ _ (State.setTop _ (mkF m 6 #[.val (.ref x), .val (.ref y)] [(.int (if cx = [(42 : Int32)] then (1 : Int32) else (0 : Int32)))])) _
        refine S.ifYes X.here hx 17 (hb hby d19_6) ((if0 _ _).trans (feq hc7).2) (by decide) (by decide) ?_
        refine S.iconst X.here hx (1 : Int32) (hb hby d19_17) rfl ?_
        refine S.goto X.here hx 22 (hb hby d19_18) (by decide) (by decide) ?_
        exact k)
    exact w14.endW (v := some (.int (1 : Int32))) (Q := (fun v h => v = some (.int (own_cov cx cy)))) (wr := []) (h0 := h0) (fun h => by rw [Bd.returns] at h; cases h) Bd.notSynchronized (fun X hr => retN X hx (t := .boolean) Bd.returns (by simp) (hb hby d19_22) hr) (by decide) (by decide) (by unfold own_cov; simp_all) K3
def own_match (c1 c2 c3 d1 d2 d3 : List Int32) : Int32 := if own_cov c1 d1 = (0 : Int32) then (0 : Int32) else if own_cov c2 d2 = (0 : Int32) then (0 : Int32) else if own_cov c3 d3 = (0 : Int32) then (0 : Int32) else (1 : Int32)
theorem pd_13 : parseMethodDescriptor "(Ljava/lang/String;Ljava/lang/String;)Z" = some ⟨[(.object "java/lang/String"), (.object "java/lang/String")], some .boolean⟩ := by decide +kernel
theorem d18_0 : decode prog_38_method_2_code 0 = .ok (.aload_n 0, 1) := by decide +kernel
theorem d18_1 : decode prog_38_method_2_code 1 = .ok (.getfield 13, 3) := by decide +kernel
theorem d18_4 : decode prog_38_method_2_code 4 = .ok (.aload_n 1, 1) := by decide +kernel
theorem d18_5 : decode prog_38_method_2_code 5 = .ok (.invokestatic 27, 3) := by decide +kernel
theorem d18_8 : decode prog_38_method_2_code 8 = .ok (.ifCond .eq 29, 3) := by decide +kernel
theorem d18_11 : decode prog_38_method_2_code 11 = .ok (.aload_n 0, 1) := by decide +kernel
theorem d18_12 : decode prog_38_method_2_code 12 = .ok (.getfield 17, 3) := by decide +kernel
theorem d18_15 : decode prog_38_method_2_code 15 = .ok (.aload_n 2, 1) := by decide +kernel
theorem d18_16 : decode prog_38_method_2_code 16 = .ok (.invokestatic 27, 3) := by decide +kernel
theorem d18_19 : decode prog_38_method_2_code 19 = .ok (.ifCond .eq 18, 3) := by decide +kernel
theorem d18_22 : decode prog_38_method_2_code 22 = .ok (.aload_n 0, 1) := by decide +kernel
theorem d18_23 : decode prog_38_method_2_code 23 = .ok (.getfield 20, 3) := by decide +kernel
theorem d18_26 : decode prog_38_method_2_code 26 = .ok (.aload_n 3, 1) := by decide +kernel
theorem d18_27 : decode prog_38_method_2_code 27 = .ok (.invokestatic 27, 3) := by decide +kernel
theorem d18_30 : decode prog_38_method_2_code 30 = .ok (.ifCond .eq 7, 3) := by decide +kernel
theorem d18_33 : decode prog_38_method_2_code 33 = .ok (.iconst 1, 1) := by decide +kernel
theorem d18_34 : decode prog_38_method_2_code 34 = .ok (.goto 4, 3) := by decide +kernel
theorem d18_37 : decode prog_38_method_2_code 37 = .ok (.iconst 0, 1) := by decide +kernel
theorem d18_38 : decode prog_38_method_2_code 38 = .ok (.ireturn, 1) := by decide +kernel
theorem ef18 (m : MethodId) (x0 : Nat) (x1 : Nat) (x2 : Nat) (x3 : Nat) : entryFrame m #[(.ref x0), (.ref x1), (.ref x2), (.ref x3)] 4 = mkF m 0 #[.val (.ref x0), .val (.ref x1), .val (.ref x2), .val (.ref x3)] [] := by first | (simp [entryFrame, mkF, argsToLocals, Value.category, maxLocals]; done) | rfl
theorem pn_17 : plainFor (⟨"com/example/dole/dole/model/Grant", "matches", "(Ljava/lang/String;Ljava/lang/String;Ljava/lang/String;)Z"⟩ : MethodName) = true := by first | decide +kernel | (apply plainFor_of_name; simp [plainName, overriddenIn]; done)
set_option maxRecDepth 65536 in
set_option maxHeartbeats 40000000 in
theorem rm18 (l : Launch) (Z : State) (a0 : Array Value) (hw : ∀ d ∈ tables_1, d.before a0 Z = true) (hE : EW Z a0 consts_1) (a x1 x2 x3 y1 y2 y3 : Nat) (c1 c2 c3 d1 d2 d3 : List Int32) (h0 : Heap) (n0 : Nat) (Z0 : n0 ≤ h0.size) (hG : SetsOk Z) (X0 : Old Z n0 h0) (E0 : Exa Z h0 a "com/example/dole/dole/model/Grant") (F01 : Fld Z h0 a "com/example/dole/dole/model/Grant" "application" "Ljava/lang/String;" (.ref x1)) (Sx1 : Str Z h0 x1 c1 h0.size) (Sy1 : Str Z h0 y1 d1 h0.size) (F02 : Fld Z h0 a "com/example/dole/dole/model/Grant" "user" "Ljava/lang/String;" (.ref x2)) (Sx2 : Str Z h0 x2 c2 h0.size) (Sy2 : Str Z h0 y2 d2 h0.size) (F03 : Fld Z h0 a "com/example/dole/dole/model/Grant" "privilege" "Ljava/lang/String;" (.ref x3)) (Sx3 : Str Z h0 x3 c3 h0.size) (Sy3 : Str Z h0 y3 d3 h0.size) :
    WMet l Z consts_1 (⟨"com/example/dole/dole/model/Grant", "matches", "(Ljava/lang/String;Ljava/lang/String;Ljava/lang/String;)Z"⟩ : MethodName) prog_38_method_2_code 4 (some .boolean) [] ({ frames := 3, cells := 6, slots := 24, locals := 41 } : Room) [(.ref a), (.ref y1), (.ref y2), (.ref y3)] h0 n0 [] [] (fun v h => v = some (.int (own_match c1 c2 c3 d1 d2 d3))) := by
  refine MetFree.of_bodySF pn_17 hisR ?_
  intro p e s m args below meth c s₁ Bd hml0 hP hK
  obtain ⟨rfl, hZ, hh, hC, hSf⟩ := hP
  have hx := Bd.exec
  have hby := Bd.bytes
  have hml : c.maxLocals = 4 := hml0
  have hnm := (name_of_methodNamed Bd.named Bd.method).1
  have w0 := Wk.start (a0 := a0) (EL := consts_1) (n0 := n0) (nw := false) Bd hZ hh hE hC (ef18 m a y1 y2 y3) ({ frames := 3, cells := 6, slots := 24, locals := 41 } : Room) rfl
  have K0 : Keep h0 h0 [] := Keep.refl _ _
  have lt_E0 := exlt E0
  have lt_Sx1 := Sx1.lt
  have lt_Sy1 := Sy1.lt
  have lt_Sx2 := Sx2.lt
  have lt_Sy2 := Sy2.lt
  have lt_Sx3 := Sx3.lt
  have lt_Sy3 := Sy3.lt
  have w1 := w0.pure (mkF m 1 #[.val (.ref a), .val (.ref y1), .val (.ref y2), .val (.ref y3)] [(.ref a)]) (fun X eT hZ hown k => by
      show Steps _ _ _ (State.setTop _ (mkF m 0 #[.val (.ref a), .val (.ref y1), .val (.ref y2), .val (.ref y3)] [])) _
      refine S.aloadN X.here hx (hb hby d18_0) rfl rfl ?_
      exact k)
  have w2 := w1.same (mkF m 4 #[.val (.ref a), .val (.ref y1), .val (.ref y2), .val (.ref y3)] [(.ref x1)]) (fun X eT hZ hown => getF X hx hZ hown (host := "") (Or.inl (hw _ (List.mem_of_getElem? (i := 63) rfl))) Via.refl eT F01 (g := (mkF m 1 #[.val (.ref a), .val (.ref y1), .val (.ref y2), .val (.ref y3)] [(.ref a)])) rfl rfl (hb hby d18_1))
  have w3 := w2.pure (mkF m 5 #[.val (.ref a), .val (.ref y1), .val (.ref y2), .val (.ref y3)] [(.ref y1), (.ref x1)]) (fun X eT hZ hown k => by
      show Steps _ _ _ (State.setTop _ (mkF m 4 #[.val (.ref a), .val (.ref y1), .val (.ref y2), .val (.ref y3)] [(.ref x1)])) _
      refine S.aloadN X.here hx (hb hby d18_4) rfl rfl ?_
      exact k)
  obtain ⟨v4, vm4, h4, Q4, K4, z4, C4, w4⟩ := w3.callSW hx (y := (⟨"com/example/dole/dole/model/Grant", "covers", "(Ljava/lang/String;Ljava/lang/String;)Z"⟩ : MethodName)) (W := 0) (hw _ (List.mem_of_getElem? (i := 90) rfl)) (hw _ (List.mem_of_getElem? (i := 91) rfl)) (hw _ (List.mem_of_getElem? (i := 6) rfl)) (hw _ (List.mem_of_getElem? (i := 92) rfl)) (by decide) ((rm19 l Z a0 hw hE x1 y1 c1 d1 h0 n0 (by omega) hG X0 (Sx1.more (by omega)) (Sy1.more (by omega))).pay w3 (hw _ (List.mem_of_getElem? (i := 92) rfl)) (hw _ (List.mem_of_getElem? (i := 6) rfl)) (by decide) (by decide) all0) rfl (by rw [hml]; rfl) [] (lenOf pd_13 rfl) rfl (by show 2 * 0 + _ ≤ _; exact Nat.le_of_eq rfl) (hb hby d18_5) (by decide) (by decide)  (fun rv => (mkF m 8 #[.val (.ref a), .val (.ref y1), .val (.ref y2), .val (.ref y3)] (rv.toList ++ []))) (fun _ => rfl)
  obtain rfl := Q4
  have K5 : Keep h0 h4 [] := K0.trans K4 (fun _ q => nomatch q)
  by_cases hc6 : (own_cov c1 d1) = (0 : Int32)
  · have w7 := w4.pure (mkF m 38 #[.val (.ref a), .val (.ref y1), .val (.ref y2), .val (.ref y3)] [(.int (0 : Int32))]) (fun X eT hZ hown k => by
        show Steps _ _ _ (State.setTop _ (mkF m 8 #[.val (.ref a), .val (.ref y1), .val (.ref y2), .val (.ref y3)] [(.int (own_cov c1 d1))])) _
        refine S.ifYes X.here hx 37 (hb hby d18_8) ((if0 _ _).trans (teq hc6).1) (by decide) (by decide) ?_
        refine S.iconst X.here hx (0 : Int32) (hb hby d18_37) rfl ?_
        exact k)
    exact w7.endW (v := some (.int (0 : Int32))) (Q := (fun v h => v = some (.int (own_match c1 c2 c3 d1 d2 d3)))) (wr := []) (h0 := h0) (fun h => by rw [Bd.returns] at h; cases h) Bd.notSynchronized (fun X hr => retN X hx (t := .boolean) Bd.returns (by simp) (hb hby d18_38) hr) (by decide) (by decide) (by simp only [own_match, if_pos hc6]) K5
  · have w8 := w4.pure (mkF m 12 #[.val (.ref a), .val (.ref y1), .val (.ref y2), .val (.ref y3)] [(.ref a)]) (fun X eT hZ hown k => by
        show Steps _ _ _ (State.setTop _ (mkF m 8 #[.val (.ref a), .val (.ref y1), .val (.ref y2), .val (.ref y3)] [(.int (own_cov c1 d1))])) _
        refine S.ifNo X.here hx (hb hby d18_8) ((if0 _ _).trans (feq hc6).1) ?_
        refine S.aloadN X.here hx (hb hby d18_11) rfl rfl ?_
        exact k)
    have F9 := F02.keep K4 nin0
    have w10 := w8.same (mkF m 15 #[.val (.ref a), .val (.ref y1), .val (.ref y2), .val (.ref y3)] [(.ref x2)]) (fun X eT hZ hown => getF X hx hZ hown (host := "") (Or.inl (hw _ (List.mem_of_getElem? (i := 65) rfl))) Via.refl eT F9 (g := (mkF m 12 #[.val (.ref a), .val (.ref y1), .val (.ref y2), .val (.ref y3)] [(.ref a)])) rfl rfl (hb hby d18_12))
    have w11 := w10.pure (mkF m 16 #[.val (.ref a), .val (.ref y1), .val (.ref y2), .val (.ref y3)] [(.ref y2), (.ref x2)]) (fun X eT hZ hown k => by
        show Steps _ _ _ (State.setTop _ (mkF m 15 #[.val (.ref a), .val (.ref y1), .val (.ref y2), .val (.ref y3)] [(.ref x2)])) _
        refine S.aloadN X.here hx (hb hby d18_15) rfl rfl ?_
        exact k)
    have F12 := X0.keep K4 all0
    have F13 := Sx2.keep K4 all0
    have F14 := Sy2.keep K4 all0
    obtain ⟨v15, vm15, h15, Q15, K15, z15, C15, w15⟩ := w11.callSW hx (y := (⟨"com/example/dole/dole/model/Grant", "covers", "(Ljava/lang/String;Ljava/lang/String;)Z"⟩ : MethodName)) (W := 0) (hw _ (List.mem_of_getElem? (i := 90) rfl)) (hw _ (List.mem_of_getElem? (i := 91) rfl)) (hw _ (List.mem_of_getElem? (i := 6) rfl)) (hw _ (List.mem_of_getElem? (i := 92) rfl)) (by decide) ((rm19 l Z a0 hw hE x2 y2 c2 d2 h4 n0 (by omega) hG F12 (F13.more (by omega)) (F14.more (by omega))).pay w11 (hw _ (List.mem_of_getElem? (i := 92) rfl)) (hw _ (List.mem_of_getElem? (i := 6) rfl)) (by decide) (by decide) all0) rfl (by rw [hml]; rfl) [] (lenOf pd_13 rfl) rfl (by show 2 * 0 + _ ≤ _; exact Nat.le_of_eq rfl) (hb hby d18_16) (by decide) (by decide)  (fun rv => (mkF m 19 #[.val (.ref a), .val (.ref y1), .val (.ref y2), .val (.ref y3)] (rv.toList ++ []))) (fun _ => rfl)
    obtain rfl := Q15
    have K16 : Keep h0 h15 [] := K5.trans K15 (fun _ q => nomatch q)
    by_cases hc17 : (own_cov c2 d2) = (0 : Int32)
    · have w18 := w15.pure (mkF m 38 #[.val (.ref a), .val (.ref y1), .val (.ref y2), .val (.ref y3)] [(.int (0 : Int32))]) (fun X eT hZ hown k => by
          show Steps _ _ _ (State.setTop _ (mkF m 19 #[.val (.ref a), .val (.ref y1), .val (.ref y2), .val (.ref y3)] [(.int (own_cov c2 d2))])) _
          refine S.ifYes X.here hx 37 (hb hby d18_19) ((if0 _ _).trans (teq hc17).1) (by decide) (by decide) ?_
          refine S.iconst X.here hx (0 : Int32) (hb hby d18_37) rfl ?_
          exact k)
      exact w18.endW (v := some (.int (0 : Int32))) (Q := (fun v h => v = some (.int (own_match c1 c2 c3 d1 d2 d3)))) (wr := []) (h0 := h0) (fun h => by rw [Bd.returns] at h; cases h) Bd.notSynchronized (fun X hr => retN X hx (t := .boolean) Bd.returns (by simp) (hb hby d18_38) hr) (by decide) (by decide) (by simp only [own_match, if_neg hc6, if_pos hc17]) K16
    · have w19 := w15.pure (mkF m 23 #[.val (.ref a), .val (.ref y1), .val (.ref y2), .val (.ref y3)] [(.ref a)]) (fun X eT hZ hown k => by
          show Steps _ _ _ (State.setTop _ (mkF m 19 #[.val (.ref a), .val (.ref y1), .val (.ref y2), .val (.ref y3)] [(.int (own_cov c2 d2))])) _
          refine S.ifNo X.here hx (hb hby d18_19) ((if0 _ _).trans (feq hc17).1) ?_
          refine S.aloadN X.here hx (hb hby d18_22) rfl rfl ?_
          exact k)
      have F20 := F03.keep K4 nin0
      have F21 := F20.keep K15 nin0
      have w22 := w19.same (mkF m 26 #[.val (.ref a), .val (.ref y1), .val (.ref y2), .val (.ref y3)] [(.ref x3)]) (fun X eT hZ hown => getF X hx hZ hown (host := "") (Or.inl (hw _ (List.mem_of_getElem? (i := 67) rfl))) Via.refl eT F21 (g := (mkF m 23 #[.val (.ref a), .val (.ref y1), .val (.ref y2), .val (.ref y3)] [(.ref a)])) rfl rfl (hb hby d18_23))
      have w23 := w22.pure (mkF m 27 #[.val (.ref a), .val (.ref y1), .val (.ref y2), .val (.ref y3)] [(.ref y3), (.ref x3)]) (fun X eT hZ hown k => by
          show Steps _ _ _ (State.setTop _ (mkF m 26 #[.val (.ref a), .val (.ref y1), .val (.ref y2), .val (.ref y3)] [(.ref x3)])) _
          refine S.aloadN X.here hx (hb hby d18_26) rfl rfl ?_
          exact k)
      have F24 := F12.keep K15 all0
      have F25 := Sx3.keep K4 all0
      have F26 := F25.keep K15 all0
      have F27 := Sy3.keep K4 all0
      have F28 := F27.keep K15 all0
      obtain ⟨v29, vm29, h29, Q29, K29, z29, C29, w29⟩ := w23.callSW hx (y := (⟨"com/example/dole/dole/model/Grant", "covers", "(Ljava/lang/String;Ljava/lang/String;)Z"⟩ : MethodName)) (W := 0) (hw _ (List.mem_of_getElem? (i := 90) rfl)) (hw _ (List.mem_of_getElem? (i := 91) rfl)) (hw _ (List.mem_of_getElem? (i := 6) rfl)) (hw _ (List.mem_of_getElem? (i := 92) rfl)) (by decide) ((rm19 l Z a0 hw hE x3 y3 c3 d3 h15 n0 (by omega) hG F24 (F26.more (by omega)) (F28.more (by omega))).pay w23 (hw _ (List.mem_of_getElem? (i := 92) rfl)) (hw _ (List.mem_of_getElem? (i := 6) rfl)) (by decide) (by decide) all0) rfl (by rw [hml]; rfl) [] (lenOf pd_13 rfl) rfl (by show 2 * 0 + _ ≤ _; exact Nat.le_of_eq rfl) (hb hby d18_27) (by decide) (by decide)  (fun rv => (mkF m 30 #[.val (.ref a), .val (.ref y1), .val (.ref y2), .val (.ref y3)] (rv.toList ++ []))) (fun _ => rfl)
      obtain rfl := Q29
      have K30 : Keep h0 h29 [] := K16.trans K29 (fun _ q => nomatch q)
      by_cases hc31 : (own_cov c3 d3) = (0 : Int32)
      · have w32 := w29.pure (mkF m 38 #[.val (.ref a), .val (.ref y1), .val (.ref y2), .val (.ref y3)] [(.int (0 : Int32))]) (fun X eT hZ hown k => by
            show Steps _ _ _ (State.setTop _ (mkF m 30 #[.val (.ref a), .val (.ref y1), .val (.ref y2), .val (.ref y3)] [(.int (own_cov c3 d3))])) _
            refine S.ifYes X.here hx 37 (hb hby d18_30) ((if0 _ _).trans (teq hc31).1) (by decide) (by decide) ?_
            refine S.iconst X.here hx (0 : Int32) (hb hby d18_37) rfl ?_
            exact k)
        exact w32.endW (v := some (.int (0 : Int32))) (Q := (fun v h => v = some (.int (own_match c1 c2 c3 d1 d2 d3)))) (wr := []) (h0 := h0) (fun h => by rw [Bd.returns] at h; cases h) Bd.notSynchronized (fun X hr => retN X hx (t := .boolean) Bd.returns (by simp) (hb hby d18_38) hr) (by decide) (by decide) (by simp only [own_match, if_neg hc6, if_neg hc17, if_pos hc31]) K30
      · have w33 := w29.pure (mkF m 38 #[.val (.ref a), .val (.ref y1), .val (.ref y2), .val (.ref y3)] [(.int (1 : Int32))]) (fun X eT hZ hown k => by
            show Steps _ _ _ (State.setTop _ (mkF m 30 #[.val (.ref a), .val (.ref y1), .val (.ref y2), .val (.ref y3)] [(.int (own_cov c3 d3))])) _
            refine S.ifNo X.here hx (hb hby d18_30) ((if0 _ _).trans (feq hc31).1) ?_
            refine S.iconst X.here hx (1 : Int32) (hb hby d18_33) rfl ?_
            refine S.goto X.here hx 38 (hb hby d18_34) (by decide) (by decide) ?_
            exact k)
        exact w33.endW (v := some (.int (1 : Int32))) (Q := (fun v h => v = some (.int (own_match c1 c2 c3 d1 d2 d3)))) (wr := []) (h0 := h0) (fun h => by rw [Bd.returns] at h; cases h) Bd.notSynchronized (fun X hr => retN X hx (t := .boolean) Bd.returns (by simp) (hb hby d18_38) hr) (by decide) (by decide) (by simp only [own_match, if_neg hc6, if_neg hc17, if_neg hc31]) K30
theorem own_and3 (p : Int32) : (p &&& (3 : Int32)) = 0 ∨ (p &&& (3 : Int32)) = 1 ∨ (p &&& (3 : Int32)) = 2 ∨ (p &&& (3 : Int32)) = 3 := by
  have q := c_and p (3 : Int32) (by decide)
  simp only [← Int32.toInt_inj, show (3 : Int32).toInt = 3 from rfl, show (2 : Int32).toInt = 2 from rfl, show (1 : Int32).toInt = 1 from rfl, show (0 : Int32).toInt = 0 from rfl] at q ⊢
  omega
theorem own_code_4 (d i : Int32) : own_code d i = 0 ∨ own_code d i = 1 ∨ own_code d i = 2 ∨ own_code d i = 3 := own_and3 _
theorem own_len_4 (d : Int32) : own_len d = 0 ∨ own_len d = 1 ∨ own_len d = 2 ∨ own_len d = 3 := own_and3 _
theorem own_ch_inj {a b : Int32} (ha : a = 0 ∨ a = 1 ∨ a = 2 ∨ a = 3) (hb : b = 0 ∨ b = 1 ∨ b = 2 ∨ b = 3) : own_ch a = own_ch b ↔ a = b := by
  rcases ha with rfl | rfl | rfl | rfl <;> rcases hb with rfl | rfl | rfl | rfl <;> decide
theorem own_ch_any {a : Int32} (ha : a = 0 ∨ a = 1 ∨ a = 2 ∨ a = 3) : own_ch a = 42 ↔ a = 0 := by
  rcases ha with rfl | rfl | rfl | rfl <;> decide
set_option maxHeartbeats 4000000 in
theorem own_cov_eq (g k : Int32) : own_cov (own_draw g) (own_draw k) = own_covers g k := by
  have i0 := own_ch_inj (own_code_4 g 0) (own_code_4 k 0)
  have i1 := own_ch_inj (own_code_4 g 1) (own_code_4 k 1)
  have i2 := own_ch_inj (own_code_4 g 2) (own_code_4 k 2)
  have ia := own_ch_any (own_code_4 g 0)
  have hg := own_len_4 g
  have hk := own_len_4 k
  unfold own_cov own_draw own_covers own_isAny own_same
  generalize own_ch (own_code g 0) = A0 at *
  generalize own_ch (own_code g 1) = A1 at *
  generalize own_ch (own_code g 2) = A2 at *
  generalize own_ch (own_code k 0) = B0 at *
  generalize own_ch (own_code k 1) = B1 at *
  generalize own_ch (own_code k 2) = B2 at *
  generalize own_code g 0 = a0 at *
  generalize own_code g 1 = a1 at *
  generalize own_code g 2 = a2 at *
  generalize own_code k 0 = b0 at *
  generalize own_code k 1 = b1 at *
  generalize own_code k 2 = b2 at *
  generalize own_len g = lg at *
  generalize own_len k = lk at *
  rcases hg with rfl | rfl | rfl | rfl <;> rcases hk with rfl | rfl | rfl | rfl <;> simp [i0, i1, i2, ia] <;> (try split) <;> simp_all
theorem pd_14 : parseMethodDescriptor "(I)Ljava/lang/String;" = some ⟨[.int], some (.object "java/lang/String")⟩ := by decide +kernel
theorem pd_15 : parseMethodDescriptor "(ILjava/lang/String;Ljava/lang/String;Ljava/lang/String;Lcom/example/dole/dole/model/Decision;)V" = some ⟨[.int, (.object "java/lang/String"), (.object "java/lang/String"), (.object "java/lang/String"), (.object "com/example/dole/dole/model/Decision")], none⟩ := by decide +kernel
theorem pd_16 : parseMethodDescriptor "(Ljava/lang/String;Ljava/lang/String;Ljava/lang/String;)Z" = some ⟨[(.object "java/lang/String"), (.object "java/lang/String"), (.object "java/lang/String")], some .boolean⟩ := by decide +kernel
theorem ef0 (m : MethodId) (x0 : Int32) (x1 : Int32) (x2 : Int32) (x3 : Int32) (x4 : Int32) (x5 : Int32) : entryFrame m #[(.int x0), (.int x1), (.int x2), (.int x3), (.int x4), (.int x5)] maxLocals = mkF m 0 #[.val (.int x0), .val (.int x1), .val (.int x2), .val (.int x3), .val (.int x4), .val (.int x5), .unset, .unset, .unset, .unset, .unset, .unset, .unset, .unset, .unset] [] := by first | (simp [entryFrame, mkF, argsToLocals, Value.category, maxLocals]; done) | rfl
theorem pn_18 : plainFor x = true := by first | decide +kernel | (apply plainFor_of_name; simp [plainName, overriddenIn]; done)
set_option maxRecDepth 65536 in
set_option maxHeartbeats 40000000 in
theorem rm0 (l : Launch) (Z : State) (a0 : Array Value) (hw : ∀ d ∈ tables_1, d.before a0 Z = true) (hE : EW Z a0 consts_1) (ws : List Jvm.Cond) (p0 p1 p2 p3 p4 p5 : Int32) (h0 : Heap) (n0 : Nat) (Z0 : n0 ≤ h0.size) (hG : SetsOk Z) (X0 : Old Z n0 h0) :
    WMet l Z consts_1 x code maxLocals ret ws room_1 [(.int p0), (.int p1), (.int p2), (.int p3), (.int p4), (.int p5)] h0 n0 [] [] (fun v h => v = some (.int 1)) := by
  refine MetFree.of_bodySF pn_18 hisR ?_
  intro p e s m args below meth c s₁ Bd hml0 hP hK
  obtain ⟨rfl, hZ, hh, hC, hSf⟩ := hP
  have hx := Bd.exec
  have hby := Bd.bytes
  have hml : c.maxLocals = 15 := hml0
  have hnm := (name_of_methodNamed Bd.named Bd.method).1
  have w0 := Wk.start (a0 := a0) (EL := consts_1) (n0 := n0) (nw := false) Bd hZ hh hE hC (ef0 m p0 p1 p2 p3 p4 p5) room_1 rfl
  have K0 : Keep h0 h0 [] := Keep.refl _ _
  have w1 := w0.pure (mkF m 1 #[.val (.int p0), .val (.int p1), .val (.int p2), .val (.int p3), .val (.int p4), .val (.int p5), .unset, .unset, .unset, .unset, .unset, .unset, .unset, .unset, .unset] [(.int p0)]) (fun X eT hZ hown k => by
      show Steps _ _ _ (State.setTop _ (mkF m 0 #[.val (.int p0), .val (.int p1), .val (.int p2), .val (.int p3), .val (.int p4), .val (.int p5), .unset, .unset, .unset, .unset, .unset, .unset, .unset, .unset, .unset] [])) _
      refine S.iloadN X.here hx (hb hby at_0) rfl ?_
      exact k)
  obtain ⟨v2, h2, Q2, K2, z2, w2⟩ := w1.callS hx (y := (⟨"com/example/dole/dole/model/GrantMatchesPinLaw", "desc", "(I)I"⟩ : MethodName)) (W := 0) (hw _ (List.mem_of_getElem? (i := 0) rfl)) (hw _ (List.mem_of_getElem? (i := 1) rfl)) (hw _ (List.mem_of_getElem? (i := 2) rfl)) (hw _ (List.mem_of_getElem? (i := 3) rfl)) (by decide) ((rm1 l Z a0 hw p0 h0 n0 (by omega)).pay w1.hZ (hw _ (List.mem_of_getElem? (i := 3) rfl)) (hw _ (List.mem_of_getElem? (i := 2) rfl)) (by decide) (by decide)) rfl (by rw [hml]; rfl) [] (lenOf pd_4 rfl) rfl (by show 2 * 0 + _ ≤ _; exact Nat.le_of_eq rfl) (hb hby at_1) (by decide) (by decide) (fun _ q => nomatch q) (fun rv => (mkF m 4 #[.val (.int p0), .val (.int p1), .val (.int p2), .val (.int p3), .val (.int p4), .val (.int p5), .unset, .unset, .unset, .unset, .unset, .unset, .unset, .unset, .unset] (rv.toList ++ []))) (fun _ => rfl)
  obtain ⟨rfl, rfl⟩ := Q2
  have w3 := w2.pure (mkF m 7 #[.val (.int p0), .val (.int p1), .val (.int p2), .val (.int p3), .val (.int p4), .val (.int p5), .val (.int (own_desc p0)), .unset, .unset, .unset, .unset, .unset, .unset, .unset, .unset] [(.int p1)]) (fun X eT hZ hown k => by
      show Steps _ _ _ (State.setTop _ (mkF m 4 #[.val (.int p0), .val (.int p1), .val (.int p2), .val (.int p3), .val (.int p4), .val (.int p5), .unset, .unset, .unset, .unset, .unset, .unset, .unset, .unset, .unset] [(.int (own_desc p0))])) _
      refine S.istore X.here hx (hb hby at_4) #[.val (.int p0), .val (.int p1), .val (.int p2), .val (.int p3), .val (.int p4), .val (.int p5), .val (.int (own_desc p0)), .unset, .unset, .unset, .unset, .unset, .unset, .unset, .unset] rfl ?_
      refine S.iloadN X.here hx (hb hby at_6) rfl ?_
      exact k)
  obtain ⟨v4, h4, Q4, K4, z4, w4⟩ := w3.callS hx (y := (⟨"com/example/dole/dole/model/GrantMatchesPinLaw", "desc", "(I)I"⟩ : MethodName)) (W := 0) (hw _ (List.mem_of_getElem? (i := 0) rfl)) (hw _ (List.mem_of_getElem? (i := 1) rfl)) (hw _ (List.mem_of_getElem? (i := 2) rfl)) (hw _ (List.mem_of_getElem? (i := 3) rfl)) (by decide) ((rm1 l Z a0 hw p1 h0 n0 (by omega)).pay w3.hZ (hw _ (List.mem_of_getElem? (i := 3) rfl)) (hw _ (List.mem_of_getElem? (i := 2) rfl)) (by decide) (by decide)) rfl (by rw [hml]; rfl) [] (lenOf pd_4 rfl) rfl (by show 2 * 0 + _ ≤ _; exact Nat.le_of_eq rfl) (hb hby at_7) (by decide) (by decide) (fun _ q => nomatch q) (fun rv => (mkF m 10 #[.val (.int p0), .val (.int p1), .val (.int p2), .val (.int p3), .val (.int p4), .val (.int p5), .val (.int (own_desc p0)), .unset, .unset, .unset, .unset, .unset, .unset, .unset, .unset] (rv.toList ++ []))) (fun _ => rfl)
  obtain ⟨rfl, rfl⟩ := Q4
  have w5 := w4.pure (mkF m 13 #[.val (.int p0), .val (.int p1), .val (.int p2), .val (.int p3), .val (.int p4), .val (.int p5), .val (.int (own_desc p0)), .val (.int (own_desc p1)), .unset, .unset, .unset, .unset, .unset, .unset, .unset] [(.int p2)]) (fun X eT hZ hown k => by
      show Steps _ _ _ (State.setTop _ (mkF m 10 #[.val (.int p0), .val (.int p1), .val (.int p2), .val (.int p3), .val (.int p4), .val (.int p5), .val (.int (own_desc p0)), .unset, .unset, .unset, .unset, .unset, .unset, .unset, .unset] [(.int (own_desc p1))])) _
      refine S.istore X.here hx (hb hby at_10) #[.val (.int p0), .val (.int p1), .val (.int p2), .val (.int p3), .val (.int p4), .val (.int p5), .val (.int (own_desc p0)), .val (.int (own_desc p1)), .unset, .unset, .unset, .unset, .unset, .unset, .unset] rfl ?_
      refine S.iloadN X.here hx (hb hby at_12) rfl ?_
      exact k)
  obtain ⟨v6, h6, Q6, K6, z6, w6⟩ := w5.callS hx (y := (⟨"com/example/dole/dole/model/GrantMatchesPinLaw", "desc", "(I)I"⟩ : MethodName)) (W := 0) (hw _ (List.mem_of_getElem? (i := 0) rfl)) (hw _ (List.mem_of_getElem? (i := 1) rfl)) (hw _ (List.mem_of_getElem? (i := 2) rfl)) (hw _ (List.mem_of_getElem? (i := 3) rfl)) (by decide) ((rm1 l Z a0 hw p2 h0 n0 (by omega)).pay w5.hZ (hw _ (List.mem_of_getElem? (i := 3) rfl)) (hw _ (List.mem_of_getElem? (i := 2) rfl)) (by decide) (by decide)) rfl (by rw [hml]; rfl) [] (lenOf pd_4 rfl) rfl (by show 2 * 0 + _ ≤ _; exact Nat.le_of_eq rfl) (hb hby at_13) (by decide) (by decide) (fun _ q => nomatch q) (fun rv => (mkF m 16 #[.val (.int p0), .val (.int p1), .val (.int p2), .val (.int p3), .val (.int p4), .val (.int p5), .val (.int (own_desc p0)), .val (.int (own_desc p1)), .unset, .unset, .unset, .unset, .unset, .unset, .unset] (rv.toList ++ []))) (fun _ => rfl)
  obtain ⟨rfl, rfl⟩ := Q6
  have w7 := w6.pure (mkF m 19 #[.val (.int p0), .val (.int p1), .val (.int p2), .val (.int p3), .val (.int p4), .val (.int p5), .val (.int (own_desc p0)), .val (.int (own_desc p1)), .val (.int (own_desc p2)), .unset, .unset, .unset, .unset, .unset, .unset] [(.int p3)]) (fun X eT hZ hown k => by
      show Steps _ _ _ (State.setTop _ (mkF m 16 #[.val (.int p0), .val (.int p1), .val (.int p2), .val (.int p3), .val (.int p4), .val (.int p5), .val (.int (own_desc p0)), .val (.int (own_desc p1)), .unset, .unset, .unset, .unset, .unset, .unset, .unset] [(.int (own_desc p2))])) _
      refine S.istore X.here hx (hb hby at_16) #[.val (.int p0), .val (.int p1), .val (.int p2), .val (.int p3), .val (.int p4), .val (.int p5), .val (.int (own_desc p0)), .val (.int (own_desc p1)), .val (.int (own_desc p2)), .unset, .unset, .unset, .unset, .unset, .unset] rfl ?_
      refine S.iloadN X.here hx (hb hby at_18) rfl ?_
      exact k)
  obtain ⟨v8, h8, Q8, K8, z8, w8⟩ := w7.callS hx (y := (⟨"com/example/dole/dole/model/GrantMatchesPinLaw", "desc", "(I)I"⟩ : MethodName)) (W := 0) (hw _ (List.mem_of_getElem? (i := 0) rfl)) (hw _ (List.mem_of_getElem? (i := 1) rfl)) (hw _ (List.mem_of_getElem? (i := 2) rfl)) (hw _ (List.mem_of_getElem? (i := 3) rfl)) (by decide) ((rm1 l Z a0 hw p3 h0 n0 (by omega)).pay w7.hZ (hw _ (List.mem_of_getElem? (i := 3) rfl)) (hw _ (List.mem_of_getElem? (i := 2) rfl)) (by decide) (by decide)) rfl (by rw [hml]; rfl) [] (lenOf pd_4 rfl) rfl (by show 2 * 0 + _ ≤ _; exact Nat.le_of_eq rfl) (hb hby at_19) (by decide) (by decide) (fun _ q => nomatch q) (fun rv => (mkF m 22 #[.val (.int p0), .val (.int p1), .val (.int p2), .val (.int p3), .val (.int p4), .val (.int p5), .val (.int (own_desc p0)), .val (.int (own_desc p1)), .val (.int (own_desc p2)), .unset, .unset, .unset, .unset, .unset, .unset] (rv.toList ++ []))) (fun _ => rfl)
  obtain ⟨rfl, rfl⟩ := Q8
  have w9 := w8.pure (mkF m 26 #[.val (.int p0), .val (.int p1), .val (.int p2), .val (.int p3), .val (.int p4), .val (.int p5), .val (.int (own_desc p0)), .val (.int (own_desc p1)), .val (.int (own_desc p2)), .val (.int (own_desc p3)), .unset, .unset, .unset, .unset, .unset] [(.int p4)]) (fun X eT hZ hown k => by
      show Steps _ _ _ (State.setTop _ (mkF m 22 #[.val (.int p0), .val (.int p1), .val (.int p2), .val (.int p3), .val (.int p4), .val (.int p5), .val (.int (own_desc p0)), .val (.int (own_desc p1)), .val (.int (own_desc p2)), .unset, .unset, .unset, .unset, .unset, .unset] [(.int (own_desc p3))])) _
      refine S.istore X.here hx (hb hby at_22) #[.val (.int p0), .val (.int p1), .val (.int p2), .val (.int p3), .val (.int p4), .val (.int p5), .val (.int (own_desc p0)), .val (.int (own_desc p1)), .val (.int (own_desc p2)), .val (.int (own_desc p3)), .unset, .unset, .unset, .unset, .unset] rfl ?_
      refine S.iload X.here hx (hb hby at_24) rfl ?_
      exact k)
  obtain ⟨v10, h10, Q10, K10, z10, w10⟩ := w9.callS hx (y := (⟨"com/example/dole/dole/model/GrantMatchesPinLaw", "desc", "(I)I"⟩ : MethodName)) (W := 0) (hw _ (List.mem_of_getElem? (i := 0) rfl)) (hw _ (List.mem_of_getElem? (i := 1) rfl)) (hw _ (List.mem_of_getElem? (i := 2) rfl)) (hw _ (List.mem_of_getElem? (i := 3) rfl)) (by decide) ((rm1 l Z a0 hw p4 h0 n0 (by omega)).pay w9.hZ (hw _ (List.mem_of_getElem? (i := 3) rfl)) (hw _ (List.mem_of_getElem? (i := 2) rfl)) (by decide) (by decide)) rfl (by rw [hml]; rfl) [] (lenOf pd_4 rfl) rfl (by show 2 * 0 + _ ≤ _; exact Nat.le_of_eq rfl) (hb hby at_26) (by decide) (by decide) (fun _ q => nomatch q) (fun rv => (mkF m 29 #[.val (.int p0), .val (.int p1), .val (.int p2), .val (.int p3), .val (.int p4), .val (.int p5), .val (.int (own_desc p0)), .val (.int (own_desc p1)), .val (.int (own_desc p2)), .val (.int (own_desc p3)), .unset, .unset, .unset, .unset, .unset] (rv.toList ++ []))) (fun _ => rfl)
  obtain ⟨rfl, rfl⟩ := Q10
  have w11 := w10.pure (mkF m 33 #[.val (.int p0), .val (.int p1), .val (.int p2), .val (.int p3), .val (.int p4), .val (.int p5), .val (.int (own_desc p0)), .val (.int (own_desc p1)), .val (.int (own_desc p2)), .val (.int (own_desc p3)), .val (.int (own_desc p4)), .unset, .unset, .unset, .unset] [(.int p5)]) (fun X eT hZ hown k => by
      show Steps _ _ _ (State.setTop _ (mkF m 29 #[.val (.int p0), .val (.int p1), .val (.int p2), .val (.int p3), .val (.int p4), .val (.int p5), .val (.int (own_desc p0)), .val (.int (own_desc p1)), .val (.int (own_desc p2)), .val (.int (own_desc p3)), .unset, .unset, .unset, .unset, .unset] [(.int (own_desc p4))])) _
      refine S.istore X.here hx (hb hby at_29) #[.val (.int p0), .val (.int p1), .val (.int p2), .val (.int p3), .val (.int p4), .val (.int p5), .val (.int (own_desc p0)), .val (.int (own_desc p1)), .val (.int (own_desc p2)), .val (.int (own_desc p3)), .val (.int (own_desc p4)), .unset, .unset, .unset, .unset] rfl ?_
      refine S.iload X.here hx (hb hby at_31) rfl ?_
      exact k)
  obtain ⟨v12, h12, Q12, K12, z12, w12⟩ := w11.callS hx (y := (⟨"com/example/dole/dole/model/GrantMatchesPinLaw", "desc", "(I)I"⟩ : MethodName)) (W := 0) (hw _ (List.mem_of_getElem? (i := 0) rfl)) (hw _ (List.mem_of_getElem? (i := 1) rfl)) (hw _ (List.mem_of_getElem? (i := 2) rfl)) (hw _ (List.mem_of_getElem? (i := 3) rfl)) (by decide) ((rm1 l Z a0 hw p5 h0 n0 (by omega)).pay w11.hZ (hw _ (List.mem_of_getElem? (i := 3) rfl)) (hw _ (List.mem_of_getElem? (i := 2) rfl)) (by decide) (by decide)) rfl (by rw [hml]; rfl) [] (lenOf pd_4 rfl) rfl (by show 2 * 0 + _ ≤ _; exact Nat.le_of_eq rfl) (hb hby at_33) (by decide) (by decide) (fun _ q => nomatch q) (fun rv => (mkF m 36 #[.val (.int p0), .val (.int p1), .val (.int p2), .val (.int p3), .val (.int p4), .val (.int p5), .val (.int (own_desc p0)), .val (.int (own_desc p1)), .val (.int (own_desc p2)), .val (.int (own_desc p3)), .val (.int (own_desc p4)), .unset, .unset, .unset, .unset] (rv.toList ++ []))) (fun _ => rfl)
  obtain ⟨rfl, rfl⟩ := Q12
  have w13 := w12.pure (mkF m 38 #[.val (.int p0), .val (.int p1), .val (.int p2), .val (.int p3), .val (.int p4), .val (.int p5), .val (.int (own_desc p0)), .val (.int (own_desc p1)), .val (.int (own_desc p2)), .val (.int (own_desc p3)), .val (.int (own_desc p4)), .val (.int (own_desc p5)), .unset, .unset, .unset] []) (fun X eT hZ hown k => by
      show Steps _ _ _ (State.setTop _ (mkF m 36 #[.val (.int p0), .val (.int p1), .val (.int p2), .val (.int p3), .val (.int p4), .val (.int p5), .val (.int (own_desc p0)), .val (.int (own_desc p1)), .val (.int (own_desc p2)), .val (.int (own_desc p3)), .val (.int (own_desc p4)), .unset, .unset, .unset, .unset] [(.int (own_desc p5))])) _
      refine S.istore X.here hx (hb hby at_36) #[.val (.int p0), .val (.int p1), .val (.int p2), .val (.int p3), .val (.int p4), .val (.int p5), .val (.int (own_desc p0)), .val (.int (own_desc p1)), .val (.int (own_desc p2)), .val (.int (own_desc p3)), .val (.int (own_desc p4)), .val (.int (own_desc p5)), .unset, .unset, .unset] rfl ?_
      exact k)
  obtain ⟨b14, h14, g14, E14, l14, A14, D14, y14, w14⟩ := w13.newO hx (hw _ (List.mem_of_getElem? (i := 4) rfl)) (hw _ (List.mem_of_getElem? (i := 5) rfl)) (hw _ (List.mem_of_getElem? (i := 6) rfl)) rfl (hb hby at_38) (by decide) (by decide) (fun xq => (mkF m 41 #[.val (.int p0), .val (.int p1), .val (.int p2), .val (.int p3), .val (.int p4), .val (.int p5), .val (.int (own_desc p0)), .val (.int (own_desc p1)), .val (.int (own_desc p2)), .val (.int (own_desc p3)), .val (.int (own_desc p4)), .val (.int (own_desc p5)), .unset, .unset, .unset] (.ref xq :: []))) (fun _ => rfl)
  have z14 := E14.1
  have K15 : Keep h0 h14 [] := K0.ext E14
  have D14_62 : Fld Z h14 b14 "com/example/dole/dole/model/Grant" "line" "I" (.int (0 : Int32)) := D14 (Or.inr (hw _ (List.mem_of_getElem? (i := 62) rfl))) (ty := .int) (by decide)
  have D14_64 : Fld Z h14 b14 "com/example/dole/dole/model/Grant" "application" "Ljava/lang/String;" .null := D14 (Or.inr (hw _ (List.mem_of_getElem? (i := 64) rfl))) (ty := (.object "java/lang/String")) (by decide)
  have D14_66 : Fld Z h14 b14 "com/example/dole/dole/model/Grant" "user" "Ljava/lang/String;" .null := D14 (Or.inr (hw _ (List.mem_of_getElem? (i := 66) rfl))) (ty := (.object "java/lang/String")) (by decide)
  have D14_68 : Fld Z h14 b14 "com/example/dole/dole/model/Grant" "privilege" "Ljava/lang/String;" .null := D14 (Or.inr (hw _ (List.mem_of_getElem? (i := 68) rfl))) (ty := (.object "java/lang/String")) (by decide)
  have D14_70 : Fld Z h14 b14 "com/example/dole/dole/model/Grant" "decision" "Lcom/example/dole/dole/model/Decision;" .null := D14 (Or.inr (hw _ (List.mem_of_getElem? (i := 70) rfl))) (ty := (.object "com/example/dole/dole/model/Decision")) (by decide)
  have w16 := w14.pure (mkF m 45 #[.val (.int p0), .val (.int p1), .val (.int p2), .val (.int p3), .val (.int p4), .val (.int p5), .val (.int (own_desc p0)), .val (.int (own_desc p1)), .val (.int (own_desc p2)), .val (.int (own_desc p3)), .val (.int (own_desc p4)), .val (.int (own_desc p5)), .unset, .unset, .unset] [(.int (own_desc p0)), (.int p0), (.ref b14), (.ref b14)]) (fun X eT hZ hown k => by
      show Steps _ _ _ (State.setTop _ (mkF m 41 #[.val (.int p0), .val (.int p1), .val (.int p2), .val (.int p3), .val (.int p4), .val (.int p5), .val (.int (own_desc p0)), .val (.int (own_desc p1)), .val (.int (own_desc p2)), .val (.int (own_desc p3)), .val (.int (own_desc p4)), .val (.int (own_desc p5)), .unset, .unset, .unset] [(.ref b14)])) _
      refine S.dup X.here hx (hb hby at_41) rfl ?_
      refine S.iloadN X.here hx (hb hby at_42) rfl ?_
      refine S.iload X.here hx (hb hby at_43) rfl ?_
      exact k)
  have F17 := X0.ext E14
  obtain ⟨v18, vm18, h18, Q18, K18, z18, C18, w18⟩ := w16.callSW hx (y := (⟨"com/example/dole/dole/model/GrantMatchesPinLaw", "draw", "(I)Ljava/lang/String;"⟩ : MethodName)) (W := 3) (hw _ (List.mem_of_getElem? (i := 7) rfl)) (hw _ (List.mem_of_getElem? (i := 8) rfl)) (hw _ (List.mem_of_getElem? (i := 2) rfl)) (hw _ (List.mem_of_getElem? (i := 9) rfl)) (by decide) ((rm2 l Z a0 hw hE (own_desc p0) h14 n0 (by omega) hG F17).pay w16 (hw _ (List.mem_of_getElem? (i := 9) rfl)) (hw _ (List.mem_of_getElem? (i := 2) rfl)) (by decide) (by decide) all0) rfl (by rw [hml]; rfl) [(.int p0), (.ref b14), (.ref b14)] (lenOf pd_14 rfl) rfl (by show 2 * 0 + _ ≤ _; exact Nat.le_of_eq rfl) (hb hby at_45) (by decide) (by decide)  (fun rv => (mkF m 48 #[.val (.int p0), .val (.int p1), .val (.int p2), .val (.int p3), .val (.int p4), .val (.int p5), .val (.int (own_desc p0)), .val (.int (own_desc p1)), .val (.int (own_desc p2)), .val (.int (own_desc p3)), .val (.int (own_desc p4)), .val (.int (own_desc p5)), .unset, .unset, .unset] (rv.toList ++ [(.int p0), (.ref b14), (.ref b14)]))) (fun _ => rfl)
  obtain ⟨x18, rfl, gx18, S18⟩ := Q18
  have K19 : Keep h0 h18 [] := K15.trans K18 (fun _ q => nomatch q)
  have lt_x18 := S18.lt
  have w20 := w18.pure (mkF m 50 #[.val (.int p0), .val (.int p1), .val (.int p2), .val (.int p3), .val (.int p4), .val (.int p5), .val (.int (own_desc p0)), .val (.int (own_desc p1)), .val (.int (own_desc p2)), .val (.int (own_desc p3)), .val (.int (own_desc p4)), .val (.int (own_desc p5)), .unset, .unset, .unset] [(.int (own_desc p1)), (.ref x18), (.int p0), (.ref b14), (.ref b14)]) (fun X eT hZ hown k => by
      show Steps _ _ _ (State.setTop _ (mkF m 48 #[.val (.int p0), .val (.int p1), .val (.int p2), .val (.int p3), .val (.int p4), .val (.int p5), .val (.int (own_desc p0)), .val (.int (own_desc p1)), .val (.int (own_desc p2)), .val (.int (own_desc p3)), .val (.int (own_desc p4)), .val (.int (own_desc p5)), .unset, .unset, .unset] [(.ref x18), (.int p0), (.ref b14), (.ref b14)])) _
      refine S.iload X.here hx (hb hby at_48) rfl ?_
      exact k)
  have F21 := F17.keep K18 all0
  obtain ⟨v22, vm22, h22, Q22, K22, z22, C22, w22⟩ := w20.callSW hx (y := (⟨"com/example/dole/dole/model/GrantMatchesPinLaw", "draw", "(I)Ljava/lang/String;"⟩ : MethodName)) (W := 4) (hw _ (List.mem_of_getElem? (i := 7) rfl)) (hw _ (List.mem_of_getElem? (i := 8) rfl)) (hw _ (List.mem_of_getElem? (i := 2) rfl)) (hw _ (List.mem_of_getElem? (i := 9) rfl)) (by decide) ((rm2 l Z a0 hw hE (own_desc p1) h18 n0 (by omega) hG F21).pay w20 (hw _ (List.mem_of_getElem? (i := 9) rfl)) (hw _ (List.mem_of_getElem? (i := 2) rfl)) (by decide) (by decide) all0) rfl (by rw [hml]; rfl) [(.ref x18), (.int p0), (.ref b14), (.ref b14)] (lenOf pd_14 rfl) rfl (by show 2 * 0 + _ ≤ _; exact Nat.le_of_eq rfl) (hb hby at_50) (by decide) (by decide)  (fun rv => (mkF m 53 #[.val (.int p0), .val (.int p1), .val (.int p2), .val (.int p3), .val (.int p4), .val (.int p5), .val (.int (own_desc p0)), .val (.int (own_desc p1)), .val (.int (own_desc p2)), .val (.int (own_desc p3)), .val (.int (own_desc p4)), .val (.int (own_desc p5)), .unset, .unset, .unset] (rv.toList ++ [(.ref x18), (.int p0), (.ref b14), (.ref b14)]))) (fun _ => rfl)
  obtain ⟨x22, rfl, gx22, S22⟩ := Q22
  have K23 : Keep h0 h22 [] := K19.trans K22 (fun _ q => nomatch q)
  have lt_x22 := S22.lt
  have w24 := w22.pure (mkF m 55 #[.val (.int p0), .val (.int p1), .val (.int p2), .val (.int p3), .val (.int p4), .val (.int p5), .val (.int (own_desc p0)), .val (.int (own_desc p1)), .val (.int (own_desc p2)), .val (.int (own_desc p3)), .val (.int (own_desc p4)), .val (.int (own_desc p5)), .unset, .unset, .unset] [(.int (own_desc p2)), (.ref x22), (.ref x18), (.int p0), (.ref b14), (.ref b14)]) (fun X eT hZ hown k => by
      show Steps _ _ _ (State.setTop _ (mkF m 53 #[.val (.int p0), .val (.int p1), .val (.int p2), .val (.int p3), .val (.int p4), .val (.int p5), .val (.int (own_desc p0)), .val (.int (own_desc p1)), .val (.int (own_desc p2)), .val (.int (own_desc p3)), .val (.int (own_desc p4)), .val (.int (own_desc p5)), .unset, .unset, .unset] [(.ref x22), (.ref x18), (.int p0), (.ref b14), (.ref b14)])) _
      refine S.iload X.here hx (hb hby at_53) rfl ?_
      exact k)
  have F25 := F21.keep K22 all0
  obtain ⟨v26, vm26, h26, Q26, K26, z26, C26, w26⟩ := w24.callSW hx (y := (⟨"com/example/dole/dole/model/GrantMatchesPinLaw", "draw", "(I)Ljava/lang/String;"⟩ : MethodName)) (W := 5) (hw _ (List.mem_of_getElem? (i := 7) rfl)) (hw _ (List.mem_of_getElem? (i := 8) rfl)) (hw _ (List.mem_of_getElem? (i := 2) rfl)) (hw _ (List.mem_of_getElem? (i := 9) rfl)) (by decide) ((rm2 l Z a0 hw hE (own_desc p2) h22 n0 (by omega) hG F25).pay w24 (hw _ (List.mem_of_getElem? (i := 9) rfl)) (hw _ (List.mem_of_getElem? (i := 2) rfl)) (by decide) (by decide) all0) rfl (by rw [hml]; rfl) [(.ref x22), (.ref x18), (.int p0), (.ref b14), (.ref b14)] (lenOf pd_14 rfl) rfl (by show 2 * 0 + _ ≤ _; exact Nat.le_of_eq rfl) (hb hby at_55) (by decide) (by decide)  (fun rv => (mkF m 58 #[.val (.int p0), .val (.int p1), .val (.int p2), .val (.int p3), .val (.int p4), .val (.int p5), .val (.int (own_desc p0)), .val (.int (own_desc p1)), .val (.int (own_desc p2)), .val (.int (own_desc p3)), .val (.int (own_desc p4)), .val (.int (own_desc p5)), .unset, .unset, .unset] (rv.toList ++ [(.ref x22), (.ref x18), (.int p0), (.ref b14), (.ref b14)]))) (fun _ => rfl)
  obtain ⟨x26, rfl, gx26, S26⟩ := Q26
  have K27 : Keep h0 h26 [] := K23.trans K26 (fun _ q => nomatch q)
  have lt_x26 := S26.lt
  have w28 := w26.pure (mkF m 59 #[.val (.int p0), .val (.int p1), .val (.int p2), .val (.int p3), .val (.int p4), .val (.int p5), .val (.int (own_desc p0)), .val (.int (own_desc p1)), .val (.int (own_desc p2)), .val (.int (own_desc p3)), .val (.int (own_desc p4)), .val (.int (own_desc p5)), .unset, .unset, .unset] [.null, (.ref x26), (.ref x22), (.ref x18), (.int p0), (.ref b14), (.ref b14)]) (fun X eT hZ hown k => by
      show Steps _ _ _ (State.setTop _ (mkF m 58 #[.val (.int p0), .val (.int p1), .val (.int p2), .val (.int p3), .val (.int p4), .val (.int p5), .val (.int (own_desc p0)), .val (.int (own_desc p1)), .val (.int (own_desc p2)), .val (.int (own_desc p3)), .val (.int (own_desc p4)), .val (.int (own_desc p5)), .unset, .unset, .unset] [(.ref x26), (.ref x22), (.ref x18), (.int p0), (.ref b14), (.ref b14)])) _
      refine S.aconstNull X.here hx (hb hby at_58) ?_
      exact k)
  have F29 := A14.keep K18
  have F30 := F29.keep K22
  have F31 := F30.keep K26
  have F32 := D14_62.keep K18 nin0
  have F33 := F32.keep K22 nin0
  have F34 := F33.keep K26 nin0
  have F35 := D14_64.keep K18 nin0
  have F36 := F35.keep K22 nin0
  have F37 := F36.keep K26 nin0
  have F38 := D14_66.keep K18 nin0
  have F39 := F38.keep K22 nin0
  have F40 := F39.keep K26 nin0
  have F41 := D14_68.keep K18 nin0
  have F42 := F41.keep K22 nin0
  have F43 := F42.keep K26 nin0
  have F44 := D14_70.keep K18 nin0
  have F45 := F44.keep K22 nin0
  have F46 := F45.keep K26 nin0
  obtain ⟨v47, h47, Q47, K47, z47, w47⟩ := w28.callI hx (y := (⟨"com/example/dole/dole/model/Grant", "<init>", "(ILjava/lang/String;Ljava/lang/String;Ljava/lang/String;Lcom/example/dole/dole/model/Decision;)V"⟩ : MethodName)) (W := 1) rfl (hw _ (List.mem_of_getElem? (i := 52) rfl)) (hw _ (List.mem_of_getElem? (i := 53) rfl)) (hw _ (List.mem_of_getElem? (i := 54) rfl)) (by decide) ((rm12 l Z a0 hw b14 p0 x18 x22 x26 h26 n0 (by omega) (by omega) F31 F34 F37 F40 F43 F46).pay w28.hZ (hw _ (List.mem_of_getElem? (i := 54) rfl)) (hw _ (List.mem_of_getElem? (i := 6) rfl)) (by decide) (by decide)) rfl (by rw [hml]; rfl) [(.ref b14)] (lenOf pd_15 rfl) rfl (by show 2 * 0 + _ ≤ _; exact Nat.le_of_eq rfl) (hb hby at_59) (by decide) (by decide) (sfS (Safe.exa w28.al F31 (by decide) (by decide)) sf0) (fun rv => (mkF m 62 #[.val (.int p0), .val (.int p1), .val (.int p2), .val (.int p3), .val (.int p4), .val (.int p5), .val (.int (own_desc p0)), .val (.int (own_desc p1)), .val (.int (own_desc p2)), .val (.int (own_desc p3)), .val (.int (own_desc p4)), .val (.int (own_desc p5)), .unset, .unset, .unset] (rv.toList ++ [(.ref b14)]))) (fun _ => rfl)
  obtain ⟨rfl, E47x, G47_0, G47_1, G47_2, G47_3, G47_4⟩ := Q47
  have K48 : Keep h0 h47 [] := K27.trans K47 (allS (Or.inr (by omega)) (fun _ q => nomatch q))
  have w49 := w47.pure (mkF m 68 #[.val (.int p0), .val (.int p1), .val (.int p2), .val (.int p3), .val (.int p4), .val (.int p5), .val (.int (own_desc p0)), .val (.int (own_desc p1)), .val (.int (own_desc p2)), .val (.int (own_desc p3)), .val (.int (own_desc p4)), .val (.int (own_desc p5)), .val (.ref b14), .unset, .unset] [(.int (own_desc p3)), (.ref b14)]) (fun X eT hZ hown k => by
      show Steps _ _ _ (State.setTop _ (mkF m 62 #[.val (.int p0), .val (.int p1), .val (.int p2), .val (.int p3), .val (.int p4), .val (.int p5), .val (.int (own_desc p0)), .val (.int (own_desc p1)), .val (.int (own_desc p2)), .val (.int (own_desc p3)), .val (.int (own_desc p4)), .val (.int (own_desc p5)), .unset, .unset, .unset] [(.ref b14)])) _
      refine S.astore X.here hx (hb hby at_62) rfl #[.val (.int p0), .val (.int p1), .val (.int p2), .val (.int p3), .val (.int p4), .val (.int p5), .val (.int (own_desc p0)), .val (.int (own_desc p1)), .val (.int (own_desc p2)), .val (.int (own_desc p3)), .val (.int (own_desc p4)), .val (.int (own_desc p5)), .val (.ref b14), .unset, .unset] rfl ?_
      refine S.aload X.here hx (hb hby at_64) rfl rfl ?_
      refine S.iload X.here hx (hb hby at_66) rfl ?_
      exact k)
  have F50 := F25.keep K26 all0
  have F51 := F50.keep K47 (allS (by omega) all0)
  obtain ⟨v52, vm52, h52, Q52, K52, z52, C52, w52⟩ := w49.callSW hx (y := (⟨"com/example/dole/dole/model/GrantMatchesPinLaw", "draw", "(I)Ljava/lang/String;"⟩ : MethodName)) (W := 1) (hw _ (List.mem_of_getElem? (i := 7) rfl)) (hw _ (List.mem_of_getElem? (i := 8) rfl)) (hw _ (List.mem_of_getElem? (i := 2) rfl)) (hw _ (List.mem_of_getElem? (i := 9) rfl)) (by decide) ((rm2 l Z a0 hw hE (own_desc p3) h47 n0 (by omega) hG F51).pay w49 (hw _ (List.mem_of_getElem? (i := 9) rfl)) (hw _ (List.mem_of_getElem? (i := 2) rfl)) (by decide) (by decide) all0) rfl (by rw [hml]; rfl) [(.ref b14)] (lenOf pd_14 rfl) rfl (by show 2 * 0 + _ ≤ _; exact Nat.le_of_eq rfl) (hb hby at_68) (by decide) (by decide)  (fun rv => (mkF m 71 #[.val (.int p0), .val (.int p1), .val (.int p2), .val (.int p3), .val (.int p4), .val (.int p5), .val (.int (own_desc p0)), .val (.int (own_desc p1)), .val (.int (own_desc p2)), .val (.int (own_desc p3)), .val (.int (own_desc p4)), .val (.int (own_desc p5)), .val (.ref b14), .unset, .unset] (rv.toList ++ [(.ref b14)]))) (fun _ => rfl)
  obtain ⟨x52, rfl, gx52, S52⟩ := Q52
  have K53 : Keep h0 h52 [] := K48.trans K52 (fun _ q => nomatch q)
  have lt_x52 := S52.lt
  have w54 := w52.pure (mkF m 73 #[.val (.int p0), .val (.int p1), .val (.int p2), .val (.int p3), .val (.int p4), .val (.int p5), .val (.int (own_desc p0)), .val (.int (own_desc p1)), .val (.int (own_desc p2)), .val (.int (own_desc p3)), .val (.int (own_desc p4)), .val (.int (own_desc p5)), .val (.ref b14), .unset, .unset] [(.int (own_desc p4)), (.ref x52), (.ref b14)]) (fun X eT hZ hown k => by
      show Steps _ _ _ (State.setTop _ (mkF m 71 #[.val (.int p0), .val (.int p1), .val (.int p2), .val (.int p3), .val (.int p4), .val (.int p5), .val (.int (own_desc p0)), .val (.int (own_desc p1)), .val (.int (own_desc p2)), .val (.int (own_desc p3)), .val (.int (own_desc p4)), .val (.int (own_desc p5)), .val (.ref b14), .unset, .unset] [(.ref x52), (.ref b14)])) _
      refine S.iload X.here hx (hb hby at_71) rfl ?_
      exact k)
  have F55 := F51.keep K52 all0
  obtain ⟨v56, vm56, h56, Q56, K56, z56, C56, w56⟩ := w54.callSW hx (y := (⟨"com/example/dole/dole/model/GrantMatchesPinLaw", "draw", "(I)Ljava/lang/String;"⟩ : MethodName)) (W := 2) (hw _ (List.mem_of_getElem? (i := 7) rfl)) (hw _ (List.mem_of_getElem? (i := 8) rfl)) (hw _ (List.mem_of_getElem? (i := 2) rfl)) (hw _ (List.mem_of_getElem? (i := 9) rfl)) (by decide) ((rm2 l Z a0 hw hE (own_desc p4) h52 n0 (by omega) hG F55).pay w54 (hw _ (List.mem_of_getElem? (i := 9) rfl)) (hw _ (List.mem_of_getElem? (i := 2) rfl)) (by decide) (by decide) all0) rfl (by rw [hml]; rfl) [(.ref x52), (.ref b14)] (lenOf pd_14 rfl) rfl (by show 2 * 0 + _ ≤ _; exact Nat.le_of_eq rfl) (hb hby at_73) (by decide) (by decide)  (fun rv => (mkF m 76 #[.val (.int p0), .val (.int p1), .val (.int p2), .val (.int p3), .val (.int p4), .val (.int p5), .val (.int (own_desc p0)), .val (.int (own_desc p1)), .val (.int (own_desc p2)), .val (.int (own_desc p3)), .val (.int (own_desc p4)), .val (.int (own_desc p5)), .val (.ref b14), .unset, .unset] (rv.toList ++ [(.ref x52), (.ref b14)]))) (fun _ => rfl)
  obtain ⟨x56, rfl, gx56, S56⟩ := Q56
  have K57 : Keep h0 h56 [] := K53.trans K56 (fun _ q => nomatch q)
  have lt_x56 := S56.lt
  have w58 := w56.pure (mkF m 78 #[.val (.int p0), .val (.int p1), .val (.int p2), .val (.int p3), .val (.int p4), .val (.int p5), .val (.int (own_desc p0)), .val (.int (own_desc p1)), .val (.int (own_desc p2)), .val (.int (own_desc p3)), .val (.int (own_desc p4)), .val (.int (own_desc p5)), .val (.ref b14), .unset, .unset] [(.int (own_desc p5)), (.ref x56), (.ref x52), (.ref b14)]) (fun X eT hZ hown k => by
      show Steps _ _ _ (State.setTop _ (mkF m 76 #[.val (.int p0), .val (.int p1), .val (.int p2), .val (.int p3), .val (.int p4), .val (.int p5), .val (.int (own_desc p0)), .val (.int (own_desc p1)), .val (.int (own_desc p2)), .val (.int (own_desc p3)), .val (.int (own_desc p4)), .val (.int (own_desc p5)), .val (.ref b14), .unset, .unset] [(.ref x56), (.ref x52), (.ref b14)])) _
      refine S.iload X.here hx (hb hby at_76) rfl ?_
      exact k)
  have F59 := F55.keep K56 all0
  obtain ⟨v60, vm60, h60, Q60, K60, z60, C60, w60⟩ := w58.callSW hx (y := (⟨"com/example/dole/dole/model/GrantMatchesPinLaw", "draw", "(I)Ljava/lang/String;"⟩ : MethodName)) (W := 3) (hw _ (List.mem_of_getElem? (i := 7) rfl)) (hw _ (List.mem_of_getElem? (i := 8) rfl)) (hw _ (List.mem_of_getElem? (i := 2) rfl)) (hw _ (List.mem_of_getElem? (i := 9) rfl)) (by decide) ((rm2 l Z a0 hw hE (own_desc p5) h56 n0 (by omega) hG F59).pay w58 (hw _ (List.mem_of_getElem? (i := 9) rfl)) (hw _ (List.mem_of_getElem? (i := 2) rfl)) (by decide) (by decide) all0) rfl (by rw [hml]; rfl) [(.ref x56), (.ref x52), (.ref b14)] (lenOf pd_14 rfl) rfl (by show 2 * 0 + _ ≤ _; exact Nat.le_of_eq rfl) (hb hby at_78) (by decide) (by decide)  (fun rv => (mkF m 81 #[.val (.int p0), .val (.int p1), .val (.int p2), .val (.int p3), .val (.int p4), .val (.int p5), .val (.int (own_desc p0)), .val (.int (own_desc p1)), .val (.int (own_desc p2)), .val (.int (own_desc p3)), .val (.int (own_desc p4)), .val (.int (own_desc p5)), .val (.ref b14), .unset, .unset] (rv.toList ++ [(.ref x56), (.ref x52), (.ref b14)]))) (fun _ => rfl)
  obtain ⟨x60, rfl, gx60, S60⟩ := Q60
  have K61 : Keep h0 h60 [] := K57.trans K60 (fun _ q => nomatch q)
  have lt_x60 := S60.lt
  have F62 := F59.keep K60 all0
  have F63 := E47x.keep K52
  have F64 := F63.keep K56
  have F65 := F64.keep K60
  have F66 := G47_1.keep K52 nin0
  have F67 := F66.keep K56 nin0
  have F68 := F67.keep K60 nin0
  have F69 := S18.keep K22 all0
  have F70 := F69.keep K26 all0
  have F71 := F70.keepO K47 F31 (by decide) (hw _ (List.mem_of_getElem? (i := 5) rfl))
  have F72 := F71.keep K52 all0
  have F73 := F72.keep K56 all0
  have F74 := F73.keep K60 all0
  have F75 := S52.keep K56 all0
  have F76 := F75.keep K60 all0
  have F77 := G47_2.keep K52 nin0
  have F78 := F77.keep K56 nin0
  have F79 := F78.keep K60 nin0
  have F80 := S22.keep K26 all0
  have F81 := F80.keepO K47 F31 (by decide) (hw _ (List.mem_of_getElem? (i := 5) rfl))
  have F82 := F81.keep K52 all0
  have F83 := F82.keep K56 all0
  have F84 := F83.keep K60 all0
  have F85 := S56.keep K60 all0
  have F86 := G47_3.keep K52 nin0
  have F87 := F86.keep K56 nin0
  have F88 := F87.keep K60 nin0
  have F89 := S26.keepO K47 F31 (by decide) (hw _ (List.mem_of_getElem? (i := 5) rfl))
  have F90 := F89.keep K52 all0
  have F91 := F90.keep K56 all0
  have F92 := F91.keep K60 all0
  obtain ⟨v93, vm93, h93, Q93, K93, z93, C93, w93⟩ := w60.callVW hx (C := "com/example/dole/dole/model/Grant") (y := (⟨"com/example/dole/dole/model/Grant", "matches", "(Ljava/lang/String;Ljava/lang/String;Ljava/lang/String;)Z"⟩ : MethodName)) (z := (⟨"com/example/dole/dole/model/Grant", "matches", "(Ljava/lang/String;Ljava/lang/String;Ljava/lang/String;)Z"⟩ : MethodName)) (W := 0) (hw _ (List.mem_of_getElem? (i := 85) rfl)) (hw _ (List.mem_of_getElem? (i := 86) rfl)) (hw _ (List.mem_of_getElem? (i := 88) rfl)) (hw _ (List.mem_of_getElem? (i := 87) rfl)) (w60.nf (hw _ (List.mem_of_getElem? (i := 88) rfl))) (by decide) ((rm18 l Z a0 hw hE b14 x18 x22 x26 x52 x56 x60 (own_draw (own_desc p0)) (own_draw (own_desc p1)) (own_draw (own_desc p2)) (own_draw (own_desc p3)) (own_draw (own_desc p4)) (own_draw (own_desc p5)) h60 n0 (by omega) hG F62 F65 F68 (F74.more (by omega)) (F76.more (by omega)) F79 (F84.more (by omega)) (F85.more (by omega)) F88 (F92.more (by omega)) (S60.more (by omega))).pay w60 (hw _ (List.mem_of_getElem? (i := 89) rfl)) (hw _ (List.mem_of_getElem? (i := 6) rfl)) (by decide) (by decide) all0) F65 rfl (by rw [hml]; rfl) [] (lenOf pd_16 rfl) rfl (by show 2 * 0 + _ ≤ _; exact Nat.le_of_eq rfl) (hb hby at_81) (by decide) (by decide)  (fun rv => (mkF m 84 #[.val (.int p0), .val (.int p1), .val (.int p2), .val (.int p3), .val (.int p4), .val (.int p5), .val (.int (own_desc p0)), .val (.int (own_desc p1)), .val (.int (own_desc p2)), .val (.int (own_desc p3)), .val (.int (own_desc p4)), .val (.int (own_desc p5)), .val (.ref b14), .unset, .unset] (rv.toList ++ []))) (fun _ => rfl)
  obtain rfl := Q93
  have K94 : Keep h0 h93 [] := K61.trans K93 (fun _ q => nomatch q)
  have w95 := w93.pure (mkF m 90 #[.val (.int p0), .val (.int p1), .val (.int p2), .val (.int p3), .val (.int p4), .val (.int p5), .val (.int (own_desc p0)), .val (.int (own_desc p1)), .val (.int (own_desc p2)), .val (.int (own_desc p3)), .val (.int (own_desc p4)), .val (.int (own_desc p5)), .val (.ref b14), .val (.int (own_match (own_draw (own_desc p0)) (own_draw (own_desc p1)) (own_draw (own_desc p2)) (own_draw (own_desc p3)) (own_draw (own_desc p4)) (own_draw (own_desc p5)))), .unset] [(.int (own_desc p3)), (.int (own_desc p0))]) (fun X eT hZ hown k => by
      show Steps _ _ _ (State.setTop _ (mkF m 84 #[.val (.int p0), .val (.int p1), .val (.int p2), .val (.int p3), .val (.int p4), .val (.int p5), .val (.int (own_desc p0)), .val (.int (own_desc p1)), .val (.int (own_desc p2)), .val (.int (own_desc p3)), .val (.int (own_desc p4)), .val (.int (own_desc p5)), .val (.ref b14), .unset, .unset] [(.int (own_match (own_draw (own_desc p0)) (own_draw (own_desc p1)) (own_draw (own_desc p2)) (own_draw (own_desc p3)) (own_draw (own_desc p4)) (own_draw (own_desc p5))))])) _
      refine S.istore X.here hx (hb hby at_84) #[.val (.int p0), .val (.int p1), .val (.int p2), .val (.int p3), .val (.int p4), .val (.int p5), .val (.int (own_desc p0)), .val (.int (own_desc p1)), .val (.int (own_desc p2)), .val (.int (own_desc p3)), .val (.int (own_desc p4)), .val (.int (own_desc p5)), .val (.ref b14), .val (.int (own_match (own_draw (own_desc p0)) (own_draw (own_desc p1)) (own_draw (own_desc p2)) (own_draw (own_desc p3)) (own_draw (own_desc p4)) (own_draw (own_desc p5)))), .unset] rfl ?_
      refine S.iload X.here hx (hb hby at_86) rfl ?_
      refine S.iload X.here hx (hb hby at_88) rfl ?_
      exact k)
  obtain ⟨v96, h96, Q96, K96, z96, w96⟩ := w95.callS hx (y := (⟨"com/example/dole/dole/model/GrantMatchesPinLaw", "covers", "(II)Z"⟩ : MethodName)) (W := 0) (hw _ (List.mem_of_getElem? (i := 102) rfl)) (hw _ (List.mem_of_getElem? (i := 103) rfl)) (hw _ (List.mem_of_getElem? (i := 2) rfl)) (hw _ (List.mem_of_getElem? (i := 104) rfl)) (by decide) ((rm22 l Z a0 hw (own_desc p0) (own_desc p3) h93 n0 (by omega)).pay w95.hZ (hw _ (List.mem_of_getElem? (i := 104) rfl)) (hw _ (List.mem_of_getElem? (i := 2) rfl)) (by decide) (by decide)) rfl (by rw [hml]; rfl) [] (lenOf pd_10 rfl) rfl (by show 2 * 0 + _ ≤ _; exact Nat.le_of_eq rfl) (hb hby at_90) (by decide) (by decide) (fun _ q => nomatch q) (fun rv => (mkF m 93 #[.val (.int p0), .val (.int p1), .val (.int p2), .val (.int p3), .val (.int p4), .val (.int p5), .val (.int (own_desc p0)), .val (.int (own_desc p1)), .val (.int (own_desc p2)), .val (.int (own_desc p3)), .val (.int (own_desc p4)), .val (.int (own_desc p5)), .val (.ref b14), .val (.int (own_match (own_draw (own_desc p0)) (own_draw (own_desc p1)) (own_draw (own_desc p2)) (own_draw (own_desc p3)) (own_draw (own_desc p4)) (own_draw (own_desc p5)))), .unset] (rv.toList ++ []))) (fun _ => rfl)
  obtain ⟨rfl, rfl⟩ := Q96
  by_cases hc97 : (own_covers (own_desc p0) (own_desc p3)) = (0 : Int32)
  · have w98 := w96.pure (mkF m 135 #[.val (.int p0), .val (.int p1), .val (.int p2), .val (.int p3), .val (.int p4), .val (.int p5), .val (.int (own_desc p0)), .val (.int (own_desc p1)), .val (.int (own_desc p2)), .val (.int (own_desc p3)), .val (.int (own_desc p4)), .val (.int (own_desc p5)), .val (.ref b14), .val (.int (own_match (own_draw (own_desc p0)) (own_draw (own_desc p1)) (own_draw (own_desc p2)) (own_draw (own_desc p3)) (own_draw (own_desc p4)) (own_draw (own_desc p5)))), .val (.int (0 : Int32))] [(.int (1 : Int32))]) (fun X eT hZ hown k => by
        show Steps _ _ _ (State.setTop _ (mkF m 93 #[.val (.int p0), .val (.int p1), .val (.int p2), .val (.int p3), .val (.int p4), .val (.int p5), .val (.int (own_desc p0)), .val (.int (own_desc p1)), .val (.int (own_desc p2)), .val (.int (own_desc p3)), .val (.int (own_desc p4)), .val (.int (own_desc p5)), .val (.ref b14), .val (.int (own_match (own_draw (own_desc p0)) (own_draw (own_desc p1)) (own_draw (own_desc p2)) (own_draw (own_desc p3)) (own_draw (own_desc p4)) (own_draw (own_desc p5)))), .unset] [(.int (own_covers (own_desc p0) (own_desc p3)))])) _
        refine S.ifYes X.here hx 120 (hb hby at_93) ((if0 _ _).trans (teq hc97).1) (by decide) (by decide) ?_
        refine S.iconst X.here hx (0 : Int32) (hb hby at_120) rfl ?_
        refine S.istore X.here hx (hb hby at_121) #[.val (.int p0), .val (.int p1), .val (.int p2), .val (.int p3), .val (.int p4), .val (.int p5), .val (.int (own_desc p0)), .val (.int (own_desc p1)), .val (.int (own_desc p2)), .val (.int (own_desc p3)), .val (.int (own_desc p4)), .val (.int (own_desc p5)), .val (.ref b14), .val (.int (own_match (own_draw (own_desc p0)) (own_draw (own_desc p1)) (own_draw (own_desc p2)) (own_draw (own_desc p3)) (own_draw (own_desc p4)) (own_draw (own_desc p5)))), .val (.int (0 : Int32))] rfl ?_
        refine S.iload X.here hx (hb hby at_123) rfl ?_
        refine S.iload X.here hx (hb hby at_125) rfl ?_
        refine S.icmpNo X.here hx (hb hby at_127) (teq (by simp only [own_match, own_cov_eq, if_pos hc97])).2 ?_
        refine S.iconst X.here hx (1 : Int32) (hb hby at_130) rfl ?_
        refine S.goto X.here hx 135 (hb hby at_131) (by decide) (by decide) ?_
        exact k)
    exact w98.endW (v := some (.int (1 : Int32))) (Q := (fun v h => v = some (.int 1))) (wr := []) (h0 := h0) (fun h => by rw [Bd.returns] at h; cases h) Bd.notSynchronized (fun X hr => retN X hx (t := .boolean) Bd.returns (by simp) (hb hby at_135) hr) (by decide) (by decide) rfl K94
  · have w99 := w96.pure (mkF m 100 #[.val (.int p0), .val (.int p1), .val (.int p2), .val (.int p3), .val (.int p4), .val (.int p5), .val (.int (own_desc p0)), .val (.int (own_desc p1)), .val (.int (own_desc p2)), .val (.int (own_desc p3)), .val (.int (own_desc p4)), .val (.int (own_desc p5)), .val (.ref b14), .val (.int (own_match (own_draw (own_desc p0)) (own_draw (own_desc p1)) (own_draw (own_desc p2)) (own_draw (own_desc p3)) (own_draw (own_desc p4)) (own_draw (own_desc p5)))), .unset] [(.int (own_desc p4)), (.int (own_desc p1))]) (fun X eT hZ hown k => by
        show Steps _ _ _ (State.setTop _ (mkF m 93 #[.val (.int p0), .val (.int p1), .val (.int p2), .val (.int p3), .val (.int p4), .val (.int p5), .val (.int (own_desc p0)), .val (.int (own_desc p1)), .val (.int (own_desc p2)), .val (.int (own_desc p3)), .val (.int (own_desc p4)), .val (.int (own_desc p5)), .val (.ref b14), .val (.int (own_match (own_draw (own_desc p0)) (own_draw (own_desc p1)) (own_draw (own_desc p2)) (own_draw (own_desc p3)) (own_draw (own_desc p4)) (own_draw (own_desc p5)))), .unset] [(.int (own_covers (own_desc p0) (own_desc p3)))])) _
        refine S.ifNo X.here hx (hb hby at_93) ((if0 _ _).trans (feq hc97).1) ?_
        refine S.iload X.here hx (hb hby at_96) rfl ?_
        refine S.iload X.here hx (hb hby at_98) rfl ?_
        exact k)
    obtain ⟨v100, h100, Q100, K100, z100, w100⟩ := w99.callS hx (y := (⟨"com/example/dole/dole/model/GrantMatchesPinLaw", "covers", "(II)Z"⟩ : MethodName)) (W := 0) (hw _ (List.mem_of_getElem? (i := 102) rfl)) (hw _ (List.mem_of_getElem? (i := 103) rfl)) (hw _ (List.mem_of_getElem? (i := 2) rfl)) (hw _ (List.mem_of_getElem? (i := 104) rfl)) (by decide) ((rm22 l Z a0 hw (own_desc p1) (own_desc p4) h93 n0 (by omega)).pay w99.hZ (hw _ (List.mem_of_getElem? (i := 104) rfl)) (hw _ (List.mem_of_getElem? (i := 2) rfl)) (by decide) (by decide)) rfl (by rw [hml]; rfl) [] (lenOf pd_10 rfl) rfl (by show 2 * 0 + _ ≤ _; exact Nat.le_of_eq rfl) (hb hby at_100) (by decide) (by decide) (fun _ q => nomatch q) (fun rv => (mkF m 103 #[.val (.int p0), .val (.int p1), .val (.int p2), .val (.int p3), .val (.int p4), .val (.int p5), .val (.int (own_desc p0)), .val (.int (own_desc p1)), .val (.int (own_desc p2)), .val (.int (own_desc p3)), .val (.int (own_desc p4)), .val (.int (own_desc p5)), .val (.ref b14), .val (.int (own_match (own_draw (own_desc p0)) (own_draw (own_desc p1)) (own_draw (own_desc p2)) (own_draw (own_desc p3)) (own_draw (own_desc p4)) (own_draw (own_desc p5)))), .unset] (rv.toList ++ []))) (fun _ => rfl)
    obtain ⟨rfl, rfl⟩ := Q100
    by_cases hc101 : (own_covers (own_desc p1) (own_desc p4)) = (0 : Int32)
    · have w102 := w100.pure (mkF m 135 #[.val (.int p0), .val (.int p1), .val (.int p2), .val (.int p3), .val (.int p4), .val (.int p5), .val (.int (own_desc p0)), .val (.int (own_desc p1)), .val (.int (own_desc p2)), .val (.int (own_desc p3)), .val (.int (own_desc p4)), .val (.int (own_desc p5)), .val (.ref b14), .val (.int (own_match (own_draw (own_desc p0)) (own_draw (own_desc p1)) (own_draw (own_desc p2)) (own_draw (own_desc p3)) (own_draw (own_desc p4)) (own_draw (own_desc p5)))), .val (.int (0 : Int32))] [(.int (1 : Int32))]) (fun X eT hZ hown k => by
          show Steps _ _ _ (State.setTop _ (mkF m 103 #[.val (.int p0), .val (.int p1), .val (.int p2), .val (.int p3), .val (.int p4), .val (.int p5), .val (.int (own_desc p0)), .val (.int (own_desc p1)), .val (.int (own_desc p2)), .val (.int (own_desc p3)), .val (.int (own_desc p4)), .val (.int (own_desc p5)), .val (.ref b14), .val (.int (own_match (own_draw (own_desc p0)) (own_draw (own_desc p1)) (own_draw (own_desc p2)) (own_draw (own_desc p3)) (own_draw (own_desc p4)) (own_draw (own_desc p5)))), .unset] [(.int (own_covers (own_desc p1) (own_desc p4)))])) _
          refine S.ifYes X.here hx 120 (hb hby at_103) ((if0 _ _).trans (teq hc101).1) (by decide) (by decide) ?_
          refine S.iconst X.here hx (0 : Int32) (hb hby at_120) rfl ?_
          refine S.istore X.here hx (hb hby at_121) #[.val (.int p0), .val (.int p1), .val (.int p2), .val (.int p3), .val (.int p4), .val (.int p5), .val (.int (own_desc p0)), .val (.int (own_desc p1)), .val (.int (own_desc p2)), .val (.int (own_desc p3)), .val (.int (own_desc p4)), .val (.int (own_desc p5)), .val (.ref b14), .val (.int (own_match (own_draw (own_desc p0)) (own_draw (own_desc p1)) (own_draw (own_desc p2)) (own_draw (own_desc p3)) (own_draw (own_desc p4)) (own_draw (own_desc p5)))), .val (.int (0 : Int32))] rfl ?_
          refine S.iload X.here hx (hb hby at_123) rfl ?_
          refine S.iload X.here hx (hb hby at_125) rfl ?_
          refine S.icmpNo X.here hx (hb hby at_127) (teq (by simp only [own_match, own_cov_eq, if_neg hc97, if_pos hc101])).2 ?_
          refine S.iconst X.here hx (1 : Int32) (hb hby at_130) rfl ?_
          refine S.goto X.here hx 135 (hb hby at_131) (by decide) (by decide) ?_
          exact k)
      exact w102.endW (v := some (.int (1 : Int32))) (Q := (fun v h => v = some (.int 1))) (wr := []) (h0 := h0) (fun h => by rw [Bd.returns] at h; cases h) Bd.notSynchronized (fun X hr => retN X hx (t := .boolean) Bd.returns (by simp) (hb hby at_135) hr) (by decide) (by decide) rfl K94
    · have w103 := w100.pure (mkF m 110 #[.val (.int p0), .val (.int p1), .val (.int p2), .val (.int p3), .val (.int p4), .val (.int p5), .val (.int (own_desc p0)), .val (.int (own_desc p1)), .val (.int (own_desc p2)), .val (.int (own_desc p3)), .val (.int (own_desc p4)), .val (.int (own_desc p5)), .val (.ref b14), .val (.int (own_match (own_draw (own_desc p0)) (own_draw (own_desc p1)) (own_draw (own_desc p2)) (own_draw (own_desc p3)) (own_draw (own_desc p4)) (own_draw (own_desc p5)))), .unset] [(.int (own_desc p5)), (.int (own_desc p2))]) (fun X eT hZ hown k => by
          show Steps _ _ _ (State.setTop _ (mkF m 103 #[.val (.int p0), .val (.int p1), .val (.int p2), .val (.int p3), .val (.int p4), .val (.int p5), .val (.int (own_desc p0)), .val (.int (own_desc p1)), .val (.int (own_desc p2)), .val (.int (own_desc p3)), .val (.int (own_desc p4)), .val (.int (own_desc p5)), .val (.ref b14), .val (.int (own_match (own_draw (own_desc p0)) (own_draw (own_desc p1)) (own_draw (own_desc p2)) (own_draw (own_desc p3)) (own_draw (own_desc p4)) (own_draw (own_desc p5)))), .unset] [(.int (own_covers (own_desc p1) (own_desc p4)))])) _
          refine S.ifNo X.here hx (hb hby at_103) ((if0 _ _).trans (feq hc101).1) ?_
          refine S.iload X.here hx (hb hby at_106) rfl ?_
          refine S.iload X.here hx (hb hby at_108) rfl ?_
          exact k)
      obtain ⟨v104, h104, Q104, K104, z104, w104⟩ := w103.callS hx (y := (⟨"com/example/dole/dole/model/GrantMatchesPinLaw", "covers", "(II)Z"⟩ : MethodName)) (W := 0) (hw _ (List.mem_of_getElem? (i := 102) rfl)) (hw _ (List.mem_of_getElem? (i := 103) rfl)) (hw _ (List.mem_of_getElem? (i := 2) rfl)) (hw _ (List.mem_of_getElem? (i := 104) rfl)) (by decide) ((rm22 l Z a0 hw (own_desc p2) (own_desc p5) h93 n0 (by omega)).pay w103.hZ (hw _ (List.mem_of_getElem? (i := 104) rfl)) (hw _ (List.mem_of_getElem? (i := 2) rfl)) (by decide) (by decide)) rfl (by rw [hml]; rfl) [] (lenOf pd_10 rfl) rfl (by show 2 * 0 + _ ≤ _; exact Nat.le_of_eq rfl) (hb hby at_110) (by decide) (by decide) (fun _ q => nomatch q) (fun rv => (mkF m 113 #[.val (.int p0), .val (.int p1), .val (.int p2), .val (.int p3), .val (.int p4), .val (.int p5), .val (.int (own_desc p0)), .val (.int (own_desc p1)), .val (.int (own_desc p2)), .val (.int (own_desc p3)), .val (.int (own_desc p4)), .val (.int (own_desc p5)), .val (.ref b14), .val (.int (own_match (own_draw (own_desc p0)) (own_draw (own_desc p1)) (own_draw (own_desc p2)) (own_draw (own_desc p3)) (own_draw (own_desc p4)) (own_draw (own_desc p5)))), .unset] (rv.toList ++ []))) (fun _ => rfl)
      obtain ⟨rfl, rfl⟩ := Q104
      by_cases hc105 : (own_covers (own_desc p2) (own_desc p5)) = (0 : Int32)
      · have w106 := w104.pure (mkF m 135 #[.val (.int p0), .val (.int p1), .val (.int p2), .val (.int p3), .val (.int p4), .val (.int p5), .val (.int (own_desc p0)), .val (.int (own_desc p1)), .val (.int (own_desc p2)), .val (.int (own_desc p3)), .val (.int (own_desc p4)), .val (.int (own_desc p5)), .val (.ref b14), .val (.int (own_match (own_draw (own_desc p0)) (own_draw (own_desc p1)) (own_draw (own_desc p2)) (own_draw (own_desc p3)) (own_draw (own_desc p4)) (own_draw (own_desc p5)))), .val (.int (0 : Int32))] [(.int (1 : Int32))]) (fun X eT hZ hown k => by
            show Steps _ _ _ (State.setTop _ (mkF m 113 #[.val (.int p0), .val (.int p1), .val (.int p2), .val (.int p3), .val (.int p4), .val (.int p5), .val (.int (own_desc p0)), .val (.int (own_desc p1)), .val (.int (own_desc p2)), .val (.int (own_desc p3)), .val (.int (own_desc p4)), .val (.int (own_desc p5)), .val (.ref b14), .val (.int (own_match (own_draw (own_desc p0)) (own_draw (own_desc p1)) (own_draw (own_desc p2)) (own_draw (own_desc p3)) (own_draw (own_desc p4)) (own_draw (own_desc p5)))), .unset] [(.int (own_covers (own_desc p2) (own_desc p5)))])) _
            refine S.ifYes X.here hx 120 (hb hby at_113) ((if0 _ _).trans (teq hc105).1) (by decide) (by decide) ?_
            refine S.iconst X.here hx (0 : Int32) (hb hby at_120) rfl ?_
            refine S.istore X.here hx (hb hby at_121) #[.val (.int p0), .val (.int p1), .val (.int p2), .val (.int p3), .val (.int p4), .val (.int p5), .val (.int (own_desc p0)), .val (.int (own_desc p1)), .val (.int (own_desc p2)), .val (.int (own_desc p3)), .val (.int (own_desc p4)), .val (.int (own_desc p5)), .val (.ref b14), .val (.int (own_match (own_draw (own_desc p0)) (own_draw (own_desc p1)) (own_draw (own_desc p2)) (own_draw (own_desc p3)) (own_draw (own_desc p4)) (own_draw (own_desc p5)))), .val (.int (0 : Int32))] rfl ?_
            refine S.iload X.here hx (hb hby at_123) rfl ?_
            refine S.iload X.here hx (hb hby at_125) rfl ?_
            refine S.icmpNo X.here hx (hb hby at_127) (teq (by simp only [own_match, own_cov_eq, if_neg hc97, if_neg hc101, if_pos hc105])).2 ?_
            refine S.iconst X.here hx (1 : Int32) (hb hby at_130) rfl ?_
            refine S.goto X.here hx 135 (hb hby at_131) (by decide) (by decide) ?_
            exact k)
        exact w106.endW (v := some (.int (1 : Int32))) (Q := (fun v h => v = some (.int 1))) (wr := []) (h0 := h0) (fun h => by rw [Bd.returns] at h; cases h) Bd.notSynchronized (fun X hr => retN X hx (t := .boolean) Bd.returns (by simp) (hb hby at_135) hr) (by decide) (by decide) rfl K94
      · have w107 := w104.pure (mkF m 135 #[.val (.int p0), .val (.int p1), .val (.int p2), .val (.int p3), .val (.int p4), .val (.int p5), .val (.int (own_desc p0)), .val (.int (own_desc p1)), .val (.int (own_desc p2)), .val (.int (own_desc p3)), .val (.int (own_desc p4)), .val (.int (own_desc p5)), .val (.ref b14), .val (.int (own_match (own_draw (own_desc p0)) (own_draw (own_desc p1)) (own_draw (own_desc p2)) (own_draw (own_desc p3)) (own_draw (own_desc p4)) (own_draw (own_desc p5)))), .val (.int (1 : Int32))] [(.int (1 : Int32))]) (fun X eT hZ hown k => by
            show Steps _ _ _ (State.setTop _ (mkF m 113 #[.val (.int p0), .val (.int p1), .val (.int p2), .val (.int p3), .val (.int p4), .val (.int p5), .val (.int (own_desc p0)), .val (.int (own_desc p1)), .val (.int (own_desc p2)), .val (.int (own_desc p3)), .val (.int (own_desc p4)), .val (.int (own_desc p5)), .val (.ref b14), .val (.int (own_match (own_draw (own_desc p0)) (own_draw (own_desc p1)) (own_draw (own_desc p2)) (own_draw (own_desc p3)) (own_draw (own_desc p4)) (own_draw (own_desc p5)))), .unset] [(.int (own_covers (own_desc p2) (own_desc p5)))])) _
            refine S.ifNo X.here hx (hb hby at_113) ((if0 _ _).trans (feq hc105).1) ?_
            refine S.iconst X.here hx (1 : Int32) (hb hby at_116) rfl ?_
            refine S.goto X.here hx 121 (hb hby at_117) (by decide) (by decide) ?_
            refine S.istore X.here hx (hb hby at_121) #[.val (.int p0), .val (.int p1), .val (.int p2), .val (.int p3), .val (.int p4), .val (.int p5), .val (.int (own_desc p0)), .val (.int (own_desc p1)), .val (.int (own_desc p2)), .val (.int (own_desc p3)), .val (.int (own_desc p4)), .val (.int (own_desc p5)), .val (.ref b14), .val (.int (own_match (own_draw (own_desc p0)) (own_draw (own_desc p1)) (own_draw (own_desc p2)) (own_draw (own_desc p3)) (own_draw (own_desc p4)) (own_draw (own_desc p5)))), .val (.int (1 : Int32))] rfl ?_
            refine S.iload X.here hx (hb hby at_123) rfl ?_
            refine S.iload X.here hx (hb hby at_125) rfl ?_
            refine S.icmpNo X.here hx (hb hby at_127) (teq (by simp only [own_match, own_cov_eq, if_neg hc97, if_neg hc101, if_neg hc105])).2 ?_
            refine S.iconst X.here hx (1 : Int32) (hb hby at_130) rfl ?_
            refine S.goto X.here hx 135 (hb hby at_131) (by decide) (by decide) ?_
            exact k)
        exact w107.endW (v := some (.int (1 : Int32))) (Q := (fun v h => v = some (.int 1))) (wr := []) (h0 := h0) (fun h => by rw [Bd.returns] at h; cases h) Bd.notSynchronized (fun X hr => retN X hx (t := .boolean) Bd.returns (by simp) (hb hby at_135) hr) (by decide) (by decide) rfl K94
set_option maxRecDepth 65536 in
set_option maxHeartbeats 40000000 in
theorem comes_1 {Post : Tables → Env → Array Value → State → Outcome → State → Prop} (hpost : ∀ tb e args s v u, (limb_1_1.after args s (.returned v) u = true ∧ limb_1_2.after args s (.returned v) u = true ∧ True) → ReturnedEndW s (.returned v) u (Jvm.fieldLocs frame_1_writes args s ++ Jvm.arrayLocs frame_1_arrays args s ++ Jvm.staticLocs frame_1_statics s) 56 2304 → Post tb e args s (.returned v) u) :
    ArmFor flags0 classFile x code maxLocals ret World_1 tables_1 room_1 Calls_1 rest_1 Pre_1 Post := by
  intro l hfl _ _ p e ha hc hk s m args below hf hA hF happ hP
  obtain ⟨hcalls, hrest, hpre⟩ := hP
  obtain ⟨-, -, -, hnamed, -, -, -, hat⟩ := (Spec.applies_iff hf).mp happ
  obtain ⟨hg, hn⟩ := and_e (Cond.before_iff.mp (show (Jvm.Cond.and given_1 narrow_1).before args s = true from hpre))
  obtain ⟨g0, r0⟩ := and_e hg
  obtain ⟨g1, r1⟩ := and_e r0
  obtain ⟨g2, r2⟩ := and_e r1
  obtain ⟨g3, r3⟩ := and_e r2
  obtain ⟨g4, r4⟩ := and_e r3
  obtain ⟨g5, r5⟩ := and_e r4
  obtain ⟨w0, w1, w2, w3, w4, w5, rfl⟩ : ∃ w0 w1 w2 w3 w4 w5 : Value, args = #[w0, w1, w2, w3, w4, w5] := by
    have hs : args.size = 6 := by simpa [Cond.value, given_1] using g0
    obtain ⟨L⟩ := args
    match L, hs with
    | [w0, w1, w2, w3, w4, w5], _ => exact ⟨w0, w1, w2, w3, w4, w5, rfl⟩
  have hw := fun d (hd : d ∈ tables_1) => atoms_spec (ws := Jvm.Cond.code x code maxLocals ret :: tables_1) hat d (List.mem_cons_of_mem _ hd)
  have hfit : Fit s := fun {y c} hc i hi => by
    obtain ⟨ha, rfl⟩ := Array.getElem?_eq_some_iff.mp hc
    have q := List.all_eq_true.mp ((Array.all_eq_true_iff_forall_mem.mp hF) _ (Array.getElem_mem ha)) i (List.mem_range.mpr hi)
    simpa [Array.getElem?_eq_getElem hi] using q
  obtain ⟨i0, e0⟩ := is_v g1
  obtain rfl : w0 = (.int i0) := Option.some.inj e0
  obtain ⟨i1, e1⟩ := is_v g2
  obtain rfl : w1 = (.int i1) := Option.some.inj e1
  obtain ⟨i2, e2⟩ := is_v g3
  obtain rfl : w2 = (.int i2) := Option.some.inj e2
  obtain ⟨i3, e3⟩ := is_v g4
  obtain rfl : w3 = (.int i3) := Option.some.inj e3
  obtain ⟨i4, e4⟩ := is_v g5
  obtain rfl : w4 = (.int i4) := Option.some.inj e4
  obtain ⟨i5, e5⟩ := is_v r5
  obtain rfl : w5 = (.int i5) := Option.some.inj e5
  obtain ⟨hsets, hown0⟩ := atoms_of _ (rest_1_c_eq ▸ (show rest_1_c.before _ s = true from hrest))
  have hG : SetsOk s := by
    have n5 := not_v (Cond.before_iff.mp (hsets _ (List.mem_of_getElem? (i := 2) rfl)))
    obtain ⟨i11, e10⟩ := is_v (Cond.before_iff.mp (hsets _ (List.mem_of_getElem? (i := 1) rfl)))
    obtain ⟨v13, e14, r15⟩ := isR_v (Cond.before_iff.mp (hsets _ (List.mem_of_getElem? (i := 8) rfl)))
    exact ⟨i11, v13, Sta.start e10 (Or.inl (hsets _ (List.mem_of_getElem? (i := 0) rfl))), gotF (Cond.eq_ints e10 (Term.int_eval (0))) n5, Sta.start e14 (Or.inl (hsets _ (List.mem_of_getElem? (i := 7) rfl))), r15⟩
  have hE : EW s _ consts_1 := (EW.cons (hw _ (List.mem_of_getElem? (i := 93) rfl)) (by decide) (EW.cons (hw _ (List.mem_of_getElem? (i := 33) rfl)) (by decide) EW.nil))
  have hC : CHv s consts_1 s.vm s.heap := CHv.start hE hcalls.1 (hsets _ (List.mem_of_getElem? (i := 2) rfl)) (hw _ (List.mem_of_getElem? (i := 34) rfl)) (hw _ (List.mem_of_getElem? (i := 20) rfl))
  obtain ⟨n, o, h1, h2, h3, _, L, rfl, ⟨rfl, -, N⟩, -, hq⟩ := rm0 l s _ hw hE tables_1 i0 i1 i2 i3 i4 i5 s.heap s.heap.size (Nat.le_refl _) hG (Old.start s) p e ha hc hk s m _ below hf ((Spec.applies_iff_loose hf).mp happ).1 ⟨rfl, State.Warmed39.refl s, rfl, hC, sf0⟩ trivial
  refine ⟨n, _, h1, h2, h3, hpost _ _ _ _ _ _ ⟨Cond.after_iff.mpr rfl, Cond.after_iff.mpr (eq_i res_at (Term.int_eval (1)) rfl), trivial⟩ ⟨hq.1, hq.2.1, hq.2.2.1, (hq.2.2.2.sift fun y hy => Or.inr (N y hy)).mono (by decide) (by decide)⟩⟩
theorem main_1_1 : Claimed_1_1 := comes_1 fun _ _ _ _ _ _ h hF => ⟨h.1, hF⟩
theorem main_1_2 : Claimed_1_2 := comes_1 fun _ _ _ _ _ _ h hF => ⟨h.2.1, hF⟩
end Jvm.Pilot.@@N@@
namespace Jvm.Pilot.@@N@@
open Jvm Jvm.ClassFile Sem Op Lib Jvm.Free Jvm.Stand Jvm.Pilot.@@N@@.Jvm.D
/-! MADE BY PROGRAM (witnessworld.py) out of the Statement's table words and the real class files: 21 classes; the members and pool entries that the words name. The judged class is class 1, her method 1. -/
namespace start1
open Jvm.ClassFile
def u (s : String) : CpInfo := .utf8 (stringToUtf16 s)
/-- a pool by its gaps: so many unusable entries, then the entry; so many at the end -/
def gap : Nat → List CpInfo → List CpInfo
  | 0, r => r
  | n + 1, r => .unusable :: gap n r
def poolList (es : List (Nat × CpInfo)) (last : Nat) : List CpInfo := es.foldr (fun e r => gap e.1 (e.2 :: r)) (gap last [])
def pool (es : List (Nat × CpInfo)) (last : Nat) : Array CpInfo := ⟨poolList es last⟩
def fileOf (pool : Array CpInfo) (this : Nat) (attrs : Array Attribute := #[]) (ms : Array MethodInfo := #[]) (fl : Nat := 33) (sup : Nat := 0) (ifs : Array Nat := #[]) (fds : Array FieldInfo := #[]) : ClassFile where
  minorVersion := 0
  majorVersion := 65
  constantPool := pool
  accessFlags := fl
  thisClass := this
  superClass := sup
  interfaces := ifs
  fields := fds
  methods := ms
  attributes := attrs
def plain (name : String) (sup : Option ClassId) : Class where
  name := name
  kind := .ordinary
  loader := none
  accessFlags := 33
  super := sup
  interfaces := #[]
  cf := none
  fields := #[]
  methods := #[]
  instanceTypes := #[]
  staticTypes := #[]
  resolved := #[]
  callSites := []
  init := .initialized
  statics := none
  mirror := none

def pool0 : Array CpInfo := pool [(5, u "<init>"), (0, u "()V"), (1, .class_ 10), (1, u "java/lang/Object")] 113

def k0c0 : Code := { maxStack := 0, maxLocals := 1, code := object_method_1_code, exceptionTable := #[], attributes := #[] }
def k0m0 : Method := { name := "<init>", desc := "()V", sig := { parameters := [], returnType := none }, accessFlags := 1, code := some k0c0 }
/-- java/lang/Object -/
def k0 : Class := { plain "java/lang/Object" none with
  accessFlags := 33
  interfaces := #[]
  cf := some (fileOf pool0 8 #[] #[{ accessFlags := 1, nameIndex := 5, descriptorIndex := 6, attributes := #[] }] 33 0 #[] #[])
  fields := #[]
  methods := #[k0m0]
  instanceTypes := #[]
  staticTypes := #[]
  resolved := Array.replicate 124 none
  statics := none }

def pool1 : Array CpInfo := pool [(2, .class_ 4), (1, u "java/lang/Object"), (0, u "<init>"), (0, u "()V"), (0, .methodref 8 9), (0, .class_ 10), (0, .nameAndType 11 12), (0, u "com/example/dole/dole/model/GrantMatchesPinLaw"), (0, u "desc"), (0, u "(I)I"), (0, .class_ 14), (0, u "com/example/dole/dole/model/Grant"), (0, .methodref 8 16), (0, .nameAndType 17 18), (0, u "draw"), (0, u "(I)Ljava/lang/String;"), (0, .methodref 13 20), (0, .nameAndType 5 21), (0, u "(ILjava/lang/String;Ljava/lang/String;Ljava/lang/String;Lcom/example/dole/dole/model/Decision;)V"), (0, .methodref 13 23), (0, .nameAndType 24 25), (0, u "matches"), (0, u "(Ljava/lang/String;Ljava/lang/String;Ljava/lang/String;)Z"), (0, .methodref 8 27), (0, .nameAndType 28 29), (0, u "covers"), (0, u "(II)Z"), (0, .methodref 8 31), (0, .nameAndType 32 12), (0, u "len"), (0, .methodref 8 34), (0, .nameAndType 35 36), (0, u "code"), (0, u "(II)I"), (0, .methodref 8 38), (0, .nameAndType 39 40), (0, u "ch"), (0, u "(I)C"), (0, .class_ 42), (0, u "java/lang/String"), (0, .methodref 41 44), (0, .nameAndType 5 45), (0, u "([C)V"), (0, .methodref 41 47), (0, .nameAndType 48 49), (0, u "valueOf"), (0, u "(C)Ljava/lang/String;"), (0, .methodref 8 51), (0, .nameAndType 52 53), (0, u "isAny"), (0, u "(I)Z"), (0, .methodref 8 55), (0, .nameAndType 56 29), (0, u "same"), (2, u "law"), (0, u "(IIIIII)Z")] 3

def k1m0 : Method := { name := "<init>", desc := "()V", sig := { parameters := [], returnType := none }, accessFlags := 1, code := none }
def k1c1 : Code := { maxStack := 7, maxLocals := 15, code := code, exceptionTable := #[], attributes := #[] }
def k1m1 : Method := { name := "law", desc := "(IIIIII)Z", sig := { parameters := [.int, .int, .int, .int, .int, .int], returnType := some .boolean }, accessFlags := 9, code := some k1c1 }
def k1c2 : Code := { maxStack := 2, maxLocals := 1, code := method_3_code, exceptionTable := #[], attributes := #[] }
def k1m2 : Method := { name := "desc", desc := "(I)I", sig := { parameters := [.int], returnType := some .int }, accessFlags := 10, code := some k1c2 }
def k1c3 : Code := { maxStack := 2, maxLocals := 1, code := method_4_code, exceptionTable := #[], attributes := #[] }
def k1m3 : Method := { name := "len", desc := "(I)I", sig := { parameters := [.int], returnType := some .int }, accessFlags := 10, code := some k1c3 }
def k1c4 : Code := { maxStack := 4, maxLocals := 2, code := method_5_code, exceptionTable := #[], attributes := #[] }
def k1m4 : Method := { name := "code", desc := "(II)I", sig := { parameters := [.int, .int], returnType := some .int }, accessFlags := 10, code := some k1c4 }
def k1c5 : Code := { maxStack := 2, maxLocals := 1, code := method_6_code, exceptionTable := #[], attributes := #[] }
def k1m5 : Method := { name := "ch", desc := "(I)C", sig := { parameters := [.int], returnType := some .char }, accessFlags := 10, code := some k1c5 }
def k1c6 : Code := { maxStack := 6, maxLocals := 5, code := method_7_code, exceptionTable := #[], attributes := #[] }
def k1m6 : Method := { name := "draw", desc := "(I)Ljava/lang/String;", sig := { parameters := [.int], returnType := some (.object "java/lang/String") }, accessFlags := 10, code := some k1c6 }
def k1c7 : Code := { maxStack := 2, maxLocals := 1, code := method_8_code, exceptionTable := #[], attributes := #[] }
def k1m7 : Method := { name := "isAny", desc := "(I)Z", sig := { parameters := [.int], returnType := some .boolean }, accessFlags := 10, code := some k1c7 }
def k1c8 : Code := { maxStack := 3, maxLocals := 3, code := method_9_code, exceptionTable := #[], attributes := #[] }
def k1m8 : Method := { name := "same", desc := "(II)Z", sig := { parameters := [.int, .int], returnType := some .boolean }, accessFlags := 10, code := some k1c8 }
def k1c9 : Code := { maxStack := 2, maxLocals := 2, code := method_10_code, exceptionTable := #[], attributes := #[] }
def k1m9 : Method := { name := "covers", desc := "(II)Z", sig := { parameters := [.int, .int], returnType := some .boolean }, accessFlags := 10, code := some k1c9 }
/-- com/example/dole/dole/model/GrantMatchesPinLaw -/
def k1 : Class := { plain "com/example/dole/dole/model/GrantMatchesPinLaw" (some 0) with
  accessFlags := 49
  interfaces := #[]
  cf := some (fileOf pool1 8 #[] #[{ accessFlags := 1, nameIndex := 5, descriptorIndex := 6, attributes := #[] }, { accessFlags := 9, nameIndex := 59, descriptorIndex := 60, attributes := #[] }, { accessFlags := 10, nameIndex := 11, descriptorIndex := 12, attributes := #[] }, { accessFlags := 10, nameIndex := 32, descriptorIndex := 12, attributes := #[] }, { accessFlags := 10, nameIndex := 35, descriptorIndex := 36, attributes := #[] }, { accessFlags := 10, nameIndex := 39, descriptorIndex := 40, attributes := #[] }, { accessFlags := 10, nameIndex := 17, descriptorIndex := 18, attributes := #[] }, { accessFlags := 10, nameIndex := 52, descriptorIndex := 53, attributes := #[] }, { accessFlags := 10, nameIndex := 56, descriptorIndex := 29, attributes := #[] }, { accessFlags := 10, nameIndex := 28, descriptorIndex := 29, attributes := #[] }] 49 2 #[] #[])
  fields := #[]
  methods := #[k1m0, k1m1, k1m2, k1m3, k1m4, k1m5, k1m6, k1m7, k1m8, k1m9]
  instanceTypes := #[]
  staticTypes := #[]
  resolved := Array.replicate 64 none
  statics := none }

def pool2 : Array CpInfo := pool [(1, .methodref 2 3), (0, .class_ 4), (0, .nameAndType 5 6), (0, u "java/lang/Object"), (0, u "<init>"), (0, u "()V"), (0, .class_ 8), (0, u "java/lang/Record")] 13

def k2c0 : Code := { maxStack := 1, maxLocals := 1, code := jdk_30_method_1_code, exceptionTable := #[], attributes := #[] }
def k2m0 : Method := { name := "<init>", desc := "()V", sig := { parameters := [], returnType := none }, accessFlags := 4, code := some k2c0 }
/-- java/lang/Record -/
def k2 : Class := { plain "java/lang/Record" (some 0) with
  accessFlags := 1057
  interfaces := #[]
  cf := some (fileOf pool2 7 #[] #[{ accessFlags := 4, nameIndex := 5, descriptorIndex := 6, attributes := #[] }] 1057 2 #[] #[])
  fields := #[]
  methods := #[k2m0]
  instanceTypes := #[]
  staticTypes := #[]
  resolved := Array.replicate 22 none
  statics := none }

def pool3 : Array CpInfo := pool [(1, .methodref 2 3), (0, .class_ 4), (0, .nameAndType 5 6), (0, u "java/lang/Record"), (0, u "<init>"), (0, u "()V"), (0, .fieldref 8 9), (0, .class_ 10), (0, .nameAndType 11 12), (0, u "com/example/dole/dole/model/Grant"), (0, u "line"), (0, u "I"), (0, .fieldref 8 14), (0, .nameAndType 15 16), (0, u "application"), (0, u "Ljava/lang/String;"), (0, .fieldref 8 18), (0, .nameAndType 19 16), (0, u "user"), (0, .fieldref 8 21), (0, .nameAndType 22 16), (0, u "privilege"), (0, .fieldref 8 24), (0, .nameAndType 25 26), (0, u "decision"), (0, u "Lcom/example/dole/dole/model/Decision;"), (0, .methodref 8 28), (0, .nameAndType 29 30), (0, u "covers"), (0, u "(Ljava/lang/String;Ljava/lang/String;)Z"), (0, .class_ 32), (0, u "java/lang/String"), (0, .string 34), (0, u "*"), (0, .methodref 31 36), (0, .nameAndType 37 38), (0, u "equals"), (0, u "(Ljava/lang/Object;)Z"), (11, u "ANY"), (1, u "(ILjava/lang/String;Ljava/lang/String;Ljava/lang/String;Lcom/example/dole/dole/model/Decision;)V"), (3, u "matches"), (0, u "(Ljava/lang/String;Ljava/lang/String;Ljava/lang/String;)Z")] 31

def k3c0 : Code := { maxStack := 2, maxLocals := 6, code := prog_38_method_1_code, exceptionTable := #[], attributes := #[] }
def k3m0 : Method := { name := "<init>", desc := "(ILjava/lang/String;Ljava/lang/String;Ljava/lang/String;Lcom/example/dole/dole/model/Decision;)V", sig := { parameters := [.int, (.object "java/lang/String"), (.object "java/lang/String"), (.object "java/lang/String"), (.object "com/example/dole/dole/model/Decision")], returnType := none }, accessFlags := 1, code := some k3c0 }
def k3c1 : Code := { maxStack := 2, maxLocals := 4, code := prog_38_method_2_code, exceptionTable := #[], attributes := #[] }
def k3m1 : Method := { name := "matches", desc := "(Ljava/lang/String;Ljava/lang/String;Ljava/lang/String;)Z", sig := { parameters := [(.object "java/lang/String"), (.object "java/lang/String"), (.object "java/lang/String")], returnType := some .boolean }, accessFlags := 1, code := some k3c1 }
def k3c2 : Code := { maxStack := 2, maxLocals := 2, code := prog_38_method_4_code, exceptionTable := #[], attributes := #[] }
def k3m2 : Method := { name := "covers", desc := "(Ljava/lang/String;Ljava/lang/String;)Z", sig := { parameters := [(.object "java/lang/String"), (.object "java/lang/String")], returnType := some .boolean }, accessFlags := 10, code := some k3c2 }
/-- com/example/dole/dole/model/Grant -/
def k3 : Class := { plain "com/example/dole/dole/model/Grant" (some 2) with
  accessFlags := 49
  interfaces := #[]
  cf := some (fileOf pool3 8 #[] #[{ accessFlags := 1, nameIndex := 5, descriptorIndex := 52, attributes := #[] }, { accessFlags := 1, nameIndex := 56, descriptorIndex := 57, attributes := #[] }, { accessFlags := 10, nameIndex := 29, descriptorIndex := 30, attributes := #[] }] 49 2 #[] #[{ accessFlags := 18, nameIndex := 11, descriptorIndex := 12, attributes := #[] }, { accessFlags := 18, nameIndex := 15, descriptorIndex := 16, attributes := #[] }, { accessFlags := 18, nameIndex := 19, descriptorIndex := 16, attributes := #[] }, { accessFlags := 18, nameIndex := 22, descriptorIndex := 16, attributes := #[] }, { accessFlags := 18, nameIndex := 25, descriptorIndex := 26, attributes := #[] }, { accessFlags := 25, nameIndex := 50, descriptorIndex := 16, attributes := #[] }])
  fields := #[{ name := "line", type := .int, accessFlags := 18, slot := 0, constantValue := 0 }, { name := "application", type := (.object "java/lang/String"), accessFlags := 18, slot := 1, constantValue := 0 }, { name := "user", type := (.object "java/lang/String"), accessFlags := 18, slot := 2, constantValue := 0 }, { name := "privilege", type := (.object "java/lang/String"), accessFlags := 18, slot := 3, constantValue := 0 }, { name := "decision", type := (.object "com/example/dole/dole/model/Decision"), accessFlags := 18, slot := 4, constantValue := 0 }, { name := "ANY", type := (.object "java/lang/String"), accessFlags := 25, slot := 0, constantValue := 0 }]
  methods := #[k3m0, k3m1, k3m2]
  instanceTypes := #[.int, (.object "java/lang/String"), (.object "java/lang/String"), (.object "java/lang/String"), (.object "com/example/dole/dole/model/Decision")]
  staticTypes := #[(.object "java/lang/String")]
  resolved := Array.replicate 89 none
  statics := none }

def pool4 : Array CpInfo := pool [(1, .class_ 2), (0, u "java/io/Serializable"), (0, .class_ 4), (0, u "java/lang/Object")] 2

/-- java/io/Serializable -/
def k4 : Class := { plain "java/io/Serializable" (some 0) with
  accessFlags := 1537
  interfaces := #[]
  cf := some (fileOf pool4 1 #[] #[] 1537 3 #[] #[])
  fields := #[]
  methods := #[]
  instanceTypes := #[]
  staticTypes := #[]
  resolved := Array.replicate 7 none
  statics := none }

def pool5 : Array CpInfo := pool [(1, .class_ 2), (0, u "java/lang/Comparable"), (0, .class_ 4), (0, u "java/lang/Object")] 7

/-- java/lang/Comparable -/
def k5 : Class := { plain "java/lang/Comparable" (some 0) with
  accessFlags := 1537
  interfaces := #[]
  cf := some (fileOf pool5 1 #[] #[] 1537 3 #[] #[])
  fields := #[]
  methods := #[]
  instanceTypes := #[]
  staticTypes := #[]
  resolved := Array.replicate 12 none
  statics := none }

def pool6 : Array CpInfo := pool [(2, .class_ 4), (1, u "java/lang/CharSequence"), (42, .class_ 48), (0, u "java/lang/CharSequence$1CodePointIterator"), (10, .class_ 60), (0, u "java/lang/CharSequence$1CharIterator"), (5, .class_ 67), (0, u "java/lang/Object")] 63

/-- java/lang/CharSequence -/
def k6 : Class := { plain "java/lang/CharSequence" (some 0) with
  accessFlags := 1537
  interfaces := #[]
  cf := some (fileOf pool6 2 #[.nestMembers #[47, 59]] #[] 1537 66 #[] #[])
  fields := #[]
  methods := #[]
  instanceTypes := #[]
  staticTypes := #[]
  resolved := Array.replicate 131 none
  statics := none }

def pool7 : Array CpInfo := pool [(1, .class_ 2), (0, u "java/lang/constant/Constable"), (0, .class_ 4), (0, u "java/lang/Object")] 6

/-- java/lang/constant/Constable -/
def k7 : Class := { plain "java/lang/constant/Constable" (some 0) with
  accessFlags := 1537
  interfaces := #[]
  cf := some (fileOf pool7 1 #[] #[] 1537 3 #[] #[])
  fields := #[]
  methods := #[]
  instanceTypes := #[]
  staticTypes := #[]
  resolved := Array.replicate 11 none
  statics := none }

def pool8 : Array CpInfo := pool [(1, .class_ 2), (0, u "java/lang/constant/ConstantDesc"), (0, .class_ 4), (0, u "java/lang/Object")] 32

/-- java/lang/constant/ConstantDesc -/
def k8 : Class := { plain "java/lang/constant/ConstantDesc" (some 0) with
  accessFlags := 1537
  interfaces := #[]
  cf := some (fileOf pool8 1 #[] #[] 1537 3 #[] #[])
  fields := #[]
  methods := #[]
  instanceTypes := #[]
  staticTypes := #[]
  resolved := Array.replicate 37 none
  statics := none }

def pool9 : Array CpInfo := pool [(1, .methodref 2 3), (0, .class_ 4), (0, .nameAndType 5 6), (0, u "java/lang/Object"), (0, u "<init>"), (0, u "()V"), (0, .string 8), (0, u ""), (0, .fieldref 10 11), (0, .class_ 12), (0, .nameAndType 13 14), (0, u "java/lang/String"), (0, u "value"), (0, u "[B"), (0, .fieldref 10 16), (0, .nameAndType 17 18), (0, u "coder"), (0, u "B"), (2, u "hash"), (0, u "I"), (2, u "hashIsZero"), (0, u "Z"), (0, .methodref 10 28), (0, .nameAndType 5 29), (0, u "([CIILjava/lang/Void;)V"), (8, .fieldref 10 39), (0, .nameAndType 40 26), (0, u "COMPACT_STRINGS"), (1, .class_ 44), (1, u "java/lang/StringUTF16"), (0, u "compress"), (1, .methodref 42 48), (0, .nameAndType 49 50), (0, u "coderFromArrayLen"), (0, u "([BI)B"), (2, u "toBytes"), (53, .class_ 109), (1, u "java/lang/StringLatin1"), (67, .methodref 42 178), (0, .nameAndType 45 179), (0, u "([CII)[B"), (29, .methodref 10 210), (0, .nameAndType 5 211), (0, u "([BB)V"), (157, u "(C)Z"), (171, .methodref 107 542), (0, .nameAndType 543 544), (0, u "equals"), (0, u "([B[B)Z"), (28, u "(Ljava/lang/Object;)Z"), (1, .class_ 576), (0, u "java/lang/CharSequence"), (22, u "CASE_INSENSITIVE_ORDER"), (0, u "Ljava/util/Comparator;"), (181, u "valueOf"), (0, u "(C)Ljava/lang/String;"), (226, u "([C)V"), (4, .methodref 107 1016), (0, .nameAndType 1017 369), (0, u "canEncode"), (0, .methodref 107 1019), (0, .nameAndType 53 1020), (0, u "(C)[B"), (80, u "serialPersistentFields"), (0, u "[Ljava/io/ObjectStreamField;"), (0, .class_ 1104), (0, u "java/lang/String$CaseInsensitiveComparator"), (1, .class_ 1107), (0, u "java/io/Serializable"), (0, .class_ 1109), (0, u "java/lang/Comparable"), (0, .class_ 1111), (0, u "java/lang/constant/Constable"), (0, .class_ 1113), (0, u "java/lang/constant/ConstantDesc"), (2, u "serialVersionUID"), (0, u "J"), (3, u "REPL"), (0, u "C"), (2, u "LATIN1"), (1, u "UTF16")] 323

def k9m0 : Method := { name := "<init>", desc := "()V", sig := { parameters := [], returnType := none }, accessFlags := 1, code := none }
def k9c1 : Code := { maxStack := 5, maxLocals := 2, code := jdk_42_method_3_code, exceptionTable := #[], attributes := #[] }
def k9m1 : Method := { name := "<init>", desc := "([C)V", sig := { parameters := [(.array .char)], returnType := none }, accessFlags := 1, code := some k9c1 }
def k9c2 : Code := { maxStack := 2, maxLocals := 3, code := jdk_42_method_66_code, exceptionTable := #[], attributes := #[] }
def k9m2 : Method := { name := "equals", desc := "(Ljava/lang/Object;)Z", sig := { parameters := [(.object "java/lang/Object")], returnType := some .boolean }, accessFlags := 1, code := some k9c2 }
def k9c3 : Code := { maxStack := 4, maxLocals := 1, code := jdk_42_method_139_code, exceptionTable := #[], attributes := #[] }
def k9m3 : Method := { name := "valueOf", desc := "(C)Ljava/lang/String;", sig := { parameters := [.char], returnType := some (.object "java/lang/String") }, accessFlags := 9, code := some k9c3 }
def k9c4 : Code := { maxStack := 4, maxLocals := 6, code := jdk_42_method_149_code, exceptionTable := #[], attributes := #[] }
def k9m4 : Method := { name := "<init>", desc := "([CIILjava/lang/Void;)V", sig := { parameters := [(.array .char), .int, .int, (.object "java/lang/Void")], returnType := none }, accessFlags := 2, code := some k9c4 }
def k9c5 : Code := { maxStack := 2, maxLocals := 3, code := jdk_42_method_151_code, exceptionTable := #[], attributes := #[] }
def k9m5 : Method := { name := "<init>", desc := "([BB)V", sig := { parameters := [(.array .byte), .byte], returnType := none }, accessFlags := 0, code := some k9c5 }
/-- java/lang/String -/
def k9 : Class := { plain "java/lang/String" (some 0) with
  accessFlags := 49
  interfaces := #[4, 5, 6, 7, 8]
  cf := some (fileOf pool9 10 #[.nestMembers #[1103]] #[{ accessFlags := 1, nameIndex := 5, descriptorIndex := 6, attributes := #[] }, { accessFlags := 1, nameIndex := 5, descriptorIndex := 1010, attributes := #[] }, { accessFlags := 1, nameIndex := 543, descriptorIndex := 573, attributes := #[] }, { accessFlags := 9, nameIndex := 782, descriptorIndex := 783, attributes := #[] }, { accessFlags := 2, nameIndex := 5, descriptorIndex := 29, attributes := #[] }, { accessFlags := 0, nameIndex := 5, descriptorIndex := 211, attributes := #[] }] 49 2 #[1106, 1108, 575, 1110, 1112] #[{ accessFlags := 18, nameIndex := 13, descriptorIndex := 14, attributes := #[] }, { accessFlags := 18, nameIndex := 17, descriptorIndex := 18, attributes := #[] }, { accessFlags := 2, nameIndex := 21, descriptorIndex := 22, attributes := #[] }, { accessFlags := 2, nameIndex := 25, descriptorIndex := 26, attributes := #[] }, { accessFlags := 26, nameIndex := 1116, descriptorIndex := 1117, attributes := #[] }, { accessFlags := 24, nameIndex := 40, descriptorIndex := 26, attributes := #[] }, { accessFlags := 26, nameIndex := 1101, descriptorIndex := 1102, attributes := #[] }, { accessFlags := 26, nameIndex := 1121, descriptorIndex := 1122, attributes := #[] }, { accessFlags := 25, nameIndex := 599, descriptorIndex := 600, attributes := #[] }, { accessFlags := 24, nameIndex := 1125, descriptorIndex := 18, attributes := #[] }, { accessFlags := 24, nameIndex := 1127, descriptorIndex := 18, attributes := #[] }])
  fields := #[{ name := "value", type := (.array .byte), accessFlags := 18, slot := 0, constantValue := 0 }, { name := "coder", type := .byte, accessFlags := 18, slot := 1, constantValue := 0 }, { name := "hash", type := .int, accessFlags := 2, slot := 2, constantValue := 0 }, { name := "hashIsZero", type := .boolean, accessFlags := 2, slot := 3, constantValue := 0 }, { name := "serialVersionUID", type := .long, accessFlags := 26, slot := 0, constantValue := 0 }, { name := "COMPACT_STRINGS", type := .boolean, accessFlags := 24, slot := 1, constantValue := 0 }, { name := "serialPersistentFields", type := (.array (.object "java/io/ObjectStreamField")), accessFlags := 26, slot := 2, constantValue := 0 }, { name := "REPL", type := .char, accessFlags := 26, slot := 3, constantValue := 0 }, { name := "CASE_INSENSITIVE_ORDER", type := (.object "java/util/Comparator"), accessFlags := 25, slot := 4, constantValue := 0 }, { name := "LATIN1", type := .byte, accessFlags := 24, slot := 5, constantValue := 0 }, { name := "UTF16", type := .byte, accessFlags := 24, slot := 6, constantValue := 0 }]
  methods := #[k9m0, k9m1, k9m2, k9m3, k9m4, k9m5]
  instanceTypes := #[(.array .byte), .byte, .int, .boolean]
  staticTypes := #[.long, .boolean, (.array (.object "java/io/ObjectStreamField")), .char, (.object "java/util/Comparator"), .byte, .byte]
  resolved := Array.replicate 1451 none
  statics := some 0 }

def pool10 : Array CpInfo := pool [(6, .class_ 8), (1, u "java/lang/Object"), (0, u "<init>"), (0, u "()V"), (1, .class_ 14), (1, u "java/lang/StringUTF16"), (31, u "$assertionsDisabled"), (0, u "Z"), (13, u "HI_BYTE_SHIFT"), (0, u "I"), (2, u "LO_BYTE_SHIFT"), (49, .methodref 12 116), (0, .nameAndType 117 118), (0, u "compress"), (0, u "([CI[BII)I"), (3, u "([CII)[B"), (138, u "coderFromArrayLen"), (0, u "([BI)B"), (106, .class_ 371), (1, u "java/lang/StringUTF16$LinesSpliterator"), (58, u "MAX_LENGTH"), (196, .class_ 628), (0, u "java/lang/StringUTF16$CodePointsSpliterator"), (0, .class_ 630), (0, u "java/lang/StringUTF16$CharsSpliterator")] 4

def k10m0 : Method := { name := "<init>", desc := "()V", sig := { parameters := [], returnType := none }, accessFlags := 0, code := none }
def k10c1 : Code := { maxStack := 2, maxLocals := 2, code := jdk_52_method_15_code, exceptionTable := #[], attributes := #[] }
def k10m1 : Method := { name := "coderFromArrayLen", desc := "([BI)B", sig := { parameters := [(.array .byte), .int], returnType := some .byte }, accessFlags := 8, code := some k10c1 }
def k10c2 : Code := { maxStack := 5, maxLocals := 6, code := jdk_52_method_16_code, exceptionTable := #[], attributes := #[] }
def k10m2 : Method := { name := "compress", desc := "([CII)[B", sig := { parameters := [(.array .char), .int, .int], returnType := some (.array .byte) }, accessFlags := 9, code := some k10c2 }
def k10c3 : Code := { maxStack := 3, maxLocals := 7, code := jdk_52_method_21_code, exceptionTable := #[], attributes := #[] }
def k10m3 : Method := { name := "compress", desc := "([CI[BII)I", sig := { parameters := [(.array .char), .int, (.array .byte), .int, .int], returnType := some .int }, accessFlags := 9, code := some k10c3 }
/-- java/lang/StringUTF16 -/
def k10 : Class := { plain "java/lang/StringUTF16" (some 0) with
  accessFlags := 48
  interfaces := #[]
  cf := some (fileOf pool10 12 #[.nestMembers #[627, 629, 369]] #[{ accessFlags := 0, nameIndex := 9, descriptorIndex := 10, attributes := #[] }, { accessFlags := 8, nameIndex := 261, descriptorIndex := 262, attributes := #[] }, { accessFlags := 9, nameIndex := 117, descriptorIndex := 122, attributes := #[] }, { accessFlags := 9, nameIndex := 117, descriptorIndex := 118, attributes := #[] }] 48 6 #[] #[{ accessFlags := 26, nameIndex := 61, descriptorIndex := 62, attributes := #[] }, { accessFlags := 26, nameIndex := 65, descriptorIndex := 62, attributes := #[] }, { accessFlags := 24, nameIndex := 430, descriptorIndex := 62, attributes := #[] }, { accessFlags := 4120, nameIndex := 46, descriptorIndex := 47, attributes := #[] }])
  fields := #[{ name := "HI_BYTE_SHIFT", type := .int, accessFlags := 26, slot := 0, constantValue := 0 }, { name := "LO_BYTE_SHIFT", type := .int, accessFlags := 26, slot := 1, constantValue := 0 }, { name := "MAX_LENGTH", type := .int, accessFlags := 24, slot := 2, constantValue := 0 }, { name := "$assertionsDisabled", type := .boolean, accessFlags := 4120, slot := 3, constantValue := 0 }]
  methods := #[k10m0, k10m1, k10m2, k10m3]
  instanceTypes := #[]
  staticTypes := #[.int, .int, .int, .boolean]
  resolved := Array.replicate 635 none
  statics := none }

def pool11 : Array CpInfo := pool [(4, .class_ 6), (1, u "java/lang/Object"), (0, u "<init>"), (0, u "()V"), (5, .class_ 16), (1, u "java/lang/StringLatin1"), (73, u "canEncode"), (14, u "(C)Z"), (15, u "$assertionsDisabled"), (0, u "Z"), (98, .class_ 223), (1, u "java/lang/StringLatin1$LinesSpliterator"), (57, u "equals"), (0, u "([B[B)Z"), (97, u "toBytes"), (1, u "(C)[B"), (7, .class_ 391), (0, u "java/lang/StringLatin1$CharsSpliterator")] 3

def k11m0 : Method := { name := "<init>", desc := "()V", sig := { parameters := [], returnType := none }, accessFlags := 0, code := none }
def k11c1 : Code := { maxStack := 2, maxLocals := 1, code := jdk_43_method_3_code, exceptionTable := #[], attributes := #[] }
def k11m1 : Method := { name := "canEncode", desc := "(C)Z", sig := { parameters := [.char], returnType := some .boolean }, accessFlags := 9, code := some k11c1 }
def k11c2 : Code := { maxStack := 3, maxLocals := 3, code := jdk_43_method_13_code, exceptionTable := #[], attributes := #[] }
def k11m2 : Method := { name := "equals", desc := "([B[B)Z", sig := { parameters := [(.array .byte), (.array .byte)], returnType := some .boolean }, accessFlags := 9, code := some k11c2 }
def k11c3 : Code := { maxStack := 4, maxLocals := 1, code := jdk_43_method_46_code, exceptionTable := #[], attributes := #[] }
def k11m3 : Method := { name := "toBytes", desc := "(C)[B", sig := { parameters := [.char], returnType := some (.array .byte) }, accessFlags := 9, code := some k11c3 }
/-- java/lang/StringLatin1 -/
def k11 : Class := { plain "java/lang/StringLatin1" (some 0) with
  accessFlags := 48
  interfaces := #[]
  cf := some (fileOf pool11 14 #[.nestMembers #[390, 221]] #[{ accessFlags := 0, nameIndex := 7, descriptorIndex := 8, attributes := #[] }, { accessFlags := 9, nameIndex := 90, descriptorIndex := 105, attributes := #[] }, { accessFlags := 9, nameIndex := 281, descriptorIndex := 282, attributes := #[] }, { accessFlags := 9, nameIndex := 380, descriptorIndex := 382, attributes := #[] }] 48 4 #[] #[{ accessFlags := 4120, nameIndex := 121, descriptorIndex := 122, attributes := #[] }])
  fields := #[{ name := "$assertionsDisabled", type := .boolean, accessFlags := 4120, slot := 0, constantValue := 0 }]
  methods := #[k11m0, k11m1, k11m2, k11m3]
  instanceTypes := #[]
  staticTypes := #[.boolean]
  resolved := Array.replicate 395 none
  statics := none }

def pool12 : Array CpInfo := pool [(2, .class_ 4), (1, u "java/lang/Object"), (0, u "<init>"), (0, u "()V"), (17, .class_ 26), (1, u "jdk/internal/util/Preconditions"), (28, .class_ 56), (0, u "jdk/internal/util/Preconditions$4"), (57, .class_ 115), (0, u "jdk/internal/util/Preconditions$1"), (7, u "SIOOBE_FORMATTER"), (0, u "Ljava/util/function/BiFunction;"), (0, .class_ 126), (0, u "jdk/internal/util/Preconditions$2"), (3, u "AIOOBE_FORMATTER"), (0, .class_ 132), (0, u "jdk/internal/util/Preconditions$3"), (3, u "IOOBE_FORMATTER")] 57

def k12m0 : Method := { name := "<init>", desc := "()V", sig := { parameters := [], returnType := none }, accessFlags := 1, code := none }
/-- jdk/internal/util/Preconditions -/
def k12 : Class := { plain "jdk/internal/util/Preconditions" (some 0) with
  accessFlags := 33
  interfaces := #[]
  cf := some (fileOf pool12 24 #[.nestMembers #[55, 131, 125, 114]] #[{ accessFlags := 1, nameIndex := 5, descriptorIndex := 6, attributes := #[] }] 33 2 #[] #[{ accessFlags := 25, nameIndex := 123, descriptorIndex := 124, attributes := #[] }, { accessFlags := 25, nameIndex := 130, descriptorIndex := 124, attributes := #[] }, { accessFlags := 25, nameIndex := 136, descriptorIndex := 124, attributes := #[] }])
  fields := #[{ name := "SIOOBE_FORMATTER", type := (.object "java/util/function/BiFunction"), accessFlags := 25, slot := 0, constantValue := 0 }, { name := "AIOOBE_FORMATTER", type := (.object "java/util/function/BiFunction"), accessFlags := 25, slot := 1, constantValue := 0 }, { name := "IOOBE_FORMATTER", type := (.object "java/util/function/BiFunction"), accessFlags := 25, slot := 2, constantValue := 0 }]
  methods := #[k12m0]
  instanceTypes := #[]
  staticTypes := #[(.object "java/util/function/BiFunction"), (.object "java/util/function/BiFunction"), (.object "java/util/function/BiFunction")]
  resolved := Array.replicate 194 none
  statics := some 1 }

def pool13 : Array CpInfo := pool [(9, u "<init>"), (6, .class_ 18), (1, u "java/lang/Object"), (0, u "()V"), (1, .class_ 23), (1, u "jdk/internal/util/ArraysSupport"), (0, u "LOG2_ARRAY_LONG_INDEX_SCALE"), (0, u "I"), (2, u "U"), (0, u "Ljdk/internal/misc/Unsafe;"), (8, u "BIG_ENDIAN"), (0, u "Z"), (8, u "LOG2_BYTE_BIT_SIZE"), (4, u "LOG2_ARRAY_INT_INDEX_SCALE"), (54, u "JLA"), (0, u "Ljdk/internal/access/JavaLangAccess;"), (11, u "LOG2_ARRAY_BOOLEAN_INDEX_SCALE"), (9, u "LOG2_ARRAY_BYTE_INDEX_SCALE"), (5, u "LOG2_ARRAY_CHAR_INDEX_SCALE"), (5, u "LOG2_ARRAY_SHORT_INDEX_SCALE"), (18, u "LOG2_ARRAY_FLOAT_INDEX_SCALE"), (24, u "LOG2_ARRAY_DOUBLE_INDEX_SCALE"), (89, u "T_BOOLEAN"), (2, u "T_CHAR"), (1, u "T_FLOAT"), (1, u "T_DOUBLE"), (1, u "T_BYTE"), (1, u "T_SHORT"), (1, u "T_INT"), (1, u "T_LONG"), (1, u "SOFT_MAX_ARRAY_LENGTH")] 83

def k13m0 : Method := { name := "<init>", desc := "()V", sig := { parameters := [], returnType := none }, accessFlags := 2, code := none }
/-- jdk/internal/util/ArraysSupport -/
def k13 : Class := { plain "jdk/internal/util/ArraysSupport" (some 0) with
  accessFlags := 33
  interfaces := #[]
  cf := some (fileOf pool13 21 #[] #[{ accessFlags := 2, nameIndex := 9, descriptorIndex := 19, attributes := #[] }] 33 16 #[] #[{ accessFlags := 24, nameIndex := 28, descriptorIndex := 29, attributes := #[] }, { accessFlags := 26, nameIndex := 38, descriptorIndex := 39, attributes := #[] }, { accessFlags := 25, nameIndex := 121, descriptorIndex := 25, attributes := #[] }, { accessFlags := 25, nameIndex := 131, descriptorIndex := 25, attributes := #[] }, { accessFlags := 25, nameIndex := 137, descriptorIndex := 25, attributes := #[] }, { accessFlags := 25, nameIndex := 143, descriptorIndex := 25, attributes := #[] }, { accessFlags := 25, nameIndex := 53, descriptorIndex := 25, attributes := #[] }, { accessFlags := 25, nameIndex := 24, descriptorIndex := 25, attributes := #[] }, { accessFlags := 25, nameIndex := 162, descriptorIndex := 25, attributes := #[] }, { accessFlags := 25, nameIndex := 187, descriptorIndex := 25, attributes := #[] }, { accessFlags := 26, nameIndex := 48, descriptorIndex := 25, attributes := #[] }, { accessFlags := 25, nameIndex := 277, descriptorIndex := 25, attributes := #[] }, { accessFlags := 25, nameIndex := 280, descriptorIndex := 25, attributes := #[] }, { accessFlags := 25, nameIndex := 282, descriptorIndex := 25, attributes := #[] }, { accessFlags := 25, nameIndex := 284, descriptorIndex := 25, attributes := #[] }, { accessFlags := 25, nameIndex := 286, descriptorIndex := 25, attributes := #[] }, { accessFlags := 25, nameIndex := 288, descriptorIndex := 25, attributes := #[] }, { accessFlags := 25, nameIndex := 290, descriptorIndex := 25, attributes := #[] }, { accessFlags := 25, nameIndex := 292, descriptorIndex := 25, attributes := #[] }, { accessFlags := 26, nameIndex := 108, descriptorIndex := 109, attributes := #[] }, { accessFlags := 25, nameIndex := 294, descriptorIndex := 25, attributes := #[] }])
  fields := #[{ name := "U", type := (.object "jdk/internal/misc/Unsafe"), accessFlags := 24, slot := 0, constantValue := 0 }, { name := "BIG_ENDIAN", type := .boolean, accessFlags := 26, slot := 1, constantValue := 0 }, { name := "LOG2_ARRAY_BOOLEAN_INDEX_SCALE", type := .int, accessFlags := 25, slot := 2, constantValue := 0 }, { name := "LOG2_ARRAY_BYTE_INDEX_SCALE", type := .int, accessFlags := 25, slot := 3, constantValue := 0 }, { name := "LOG2_ARRAY_CHAR_INDEX_SCALE", type := .int, accessFlags := 25, slot := 4, constantValue := 0 }, { name := "LOG2_ARRAY_SHORT_INDEX_SCALE", type := .int, accessFlags := 25, slot := 5, constantValue := 0 }, { name := "LOG2_ARRAY_INT_INDEX_SCALE", type := .int, accessFlags := 25, slot := 6, constantValue := 0 }, { name := "LOG2_ARRAY_LONG_INDEX_SCALE", type := .int, accessFlags := 25, slot := 7, constantValue := 0 }, { name := "LOG2_ARRAY_FLOAT_INDEX_SCALE", type := .int, accessFlags := 25, slot := 8, constantValue := 0 }, { name := "LOG2_ARRAY_DOUBLE_INDEX_SCALE", type := .int, accessFlags := 25, slot := 9, constantValue := 0 }, { name := "LOG2_BYTE_BIT_SIZE", type := .int, accessFlags := 26, slot := 10, constantValue := 0 }, { name := "T_BOOLEAN", type := .int, accessFlags := 25, slot := 11, constantValue := 0 }, { name := "T_CHAR", type := .int, accessFlags := 25, slot := 12, constantValue := 0 }, { name := "T_FLOAT", type := .int, accessFlags := 25, slot := 13, constantValue := 0 }, { name := "T_DOUBLE", type := .int, accessFlags := 25, slot := 14, constantValue := 0 }, { name := "T_BYTE", type := .int, accessFlags := 25, slot := 15, constantValue := 0 }, { name := "T_SHORT", type := .int, accessFlags := 25, slot := 16, constantValue := 0 }, { name := "T_INT", type := .int, accessFlags := 25, slot := 17, constantValue := 0 }, { name := "T_LONG", type := .int, accessFlags := 25, slot := 18, constantValue := 0 }, { name := "JLA", type := (.object "jdk/internal/access/JavaLangAccess"), accessFlags := 26, slot := 19, constantValue := 0 }, { name := "SOFT_MAX_ARRAY_LENGTH", type := .int, accessFlags := 25, slot := 20, constantValue := 0 }]
  methods := #[k13m0]
  instanceTypes := #[]
  staticTypes := #[(.object "jdk/internal/misc/Unsafe"), .boolean, .int, .int, .int, .int, .int, .int, .int, .int, .int, .int, .int, .int, .int, .int, .int, .int, .int, (.object "jdk/internal/access/JavaLangAccess"), .int]
  resolved := Array.replicate 378 none
  statics := none }

def pool14 : Array CpInfo := pool [(1, u "java/lang/Cloneable"), (0, .class_ 1), (0, u "java/lang/Object"), (0, .class_ 3)] 3

/-- java/lang/Cloneable -/
def k14 : Class := { plain "java/lang/Cloneable" (some 0) with
  accessFlags := 1537
  interfaces := #[]
  cf := some (fileOf pool14 2 #[] #[] 1537 4 #[] #[])
  fields := #[]
  methods := #[]
  instanceTypes := #[]
  staticTypes := #[]
  resolved := Array.replicate 8 none
  statics := none }

/-- the primitive byte -/
def k15 : Class := { plain "byte" none with kind := .primitive 'B', accessFlags := 0x411 }
/-- [B -/
def k16 : Class := { plain "[B" (some 0) with kind := .array 15 .byte, interfaces := #[14, 4], accessFlags := 1041 }

/-- the primitive char -/
def k17 : Class := { plain "char" none with kind := .primitive 'C', accessFlags := 0x411 }
/-- [C -/
def k18 : Class := { plain "[C" (some 0) with kind := .array 17 .char, interfaces := #[14, 4], accessFlags := 1041 }

/-- the primitive int -/
def k19 : Class := { plain "int" none with kind := .primitive 'I', accessFlags := 0x411 }
/-- [I -/
def k20 : Class := { plain "[I" (some 0) with kind := .array 19 .int, interfaces := #[14, 4], accessFlags := 1041 }

def heap : Heap := #[{ cls := 9, slots := #[.long 0, .int 1, .null, .int 0, .null, .int 0, .int 0], vm := .statics 9 },
  { cls := 12, slots := #[.null, .null, .null], vm := .statics 12 }]
def classes : Array Class := #[k0, k1, k2, k3, k4, k5, k6, k7, k8, k9, k10, k11, k12, k13, k14, k15, k16, k17, k18, k19, k20]
def interned : List (Array UInt16 × Addr) := []
def slotsUsed : Nat := 10
def theMethod : MethodId := ⟨1, 1⟩
def args0 : Array Value := #[.int 5, .int 6, .int 7, .int 0, .int 1, .int 2]
def aboutOver (below : List Frame) : State where
  vm := { classes := classes, interned := interned.toArray }
  heap := heap
  slotsUsed := slotsUsed
  threads := #[{ frames := .invoking theMethod args0 :: below }]
def below0 : List Frame := [.native { method := ⟨0, 0⟩, args := #[] }]
def about1 : State := aboutOver below0
def p0 : Program := .bare "" "" ""
def e0 : Env := launch0.env 0 0 0
theorem w_frames : about1.frames = Frame.invoking theMethod args0 :: below0 := rfl
set_option maxRecDepth 65536 in
theorem w_args : argsFit about1.vm theMethod args0 = true := by decide +kernel
set_option maxRecDepth 65536 in
theorem w_heap : heapFits about1 = true := by decide +kernel
set_option maxRecDepth 65536 in
theorem w_runnable : about1.curStatus? = some .runnable := by decide +kernel
set_option maxRecDepth 65536 in
theorem w_alone : about1.alone = true := by decide +kernel
set_option maxRecDepth 65536 in
theorem w_named : about1.methodNamed? x = some theMethod := by decide +kernel
set_option maxRecDepth 65536 in
theorem w_hears : about1.hears theMethod below0 = true := by decide +kernel
set_option maxRecDepth 65536 in
theorem w_ripe : about1.ripe theMethod args0 below0 = true := by decide +kernel
theorem w_running : about1.status = .running := rfl
set_option maxRecDepth 65536 in
theorem w_room : about1.hasRoom e0.platform room_1 = true :=
  launch0.hasRoom_least _ room_1 (by decide +kernel) (by decide +kernel) (by decide +kernel) (by decide +kernel) (by decide +kernel) (by decide +kernel)
theorem allAtoms_all (ts : List Jvm.Cond) (a : Array Jvm.Value) (st : Jvm.State) : (allAtoms ts).before a st = ts.all (fun c => c.before a st) := by
  induction ts with
  | nil => rfl
  | cons c t ih =>
    show (Jvm.Cond.and c (allAtoms t)).before a st = _
    rw [Jvm.Cond.before_and, ih, List.all_cons]
def words1 : List Jvm.Cond := Jvm.Cond.code x code maxLocals ret :: tables_1
/-- a 'code' word, met by the world's own term for the bytes: nothing is compared byte by byte -/
theorem code_word {y : MethodName} {bytes : ByteArray} {mx : Nat} {rt : Option FieldType} {a : Array Value} {s : State} {m : MethodId} {meth : Method} {c : Code} (h1 : s.methodNamed? y = some m) (h2 : s.vm.method? m = some meth) (h3 : meth.code = some c) (h4 : c.code = bytes)
    (h5 : (c.maxLocals == mx && c.exceptionTable.isEmpty && decide (c.maxStack ≤ mostOperands) && decide (meth.sig.returnType = rt) && !meth.locks && decide (parseMethodDescriptor y.desc = some meth.sig)) = true) : (Jvm.Cond.code y bytes mx rt).before a s = true := by
  simp only [Bool.and_eq_true, beq_iff_eq, Bool.not_eq_true', decide_eq_true_eq] at h5
  obtain ⟨⟨⟨⟨⟨g1, g2⟩, g3⟩, g4⟩, g5⟩, g6⟩ := h5
  simp [Cond.before, Cond.holds, Cond.value, h1, h2, h3, h4, g1, g2, g3, g4, g5, g6]
def isCode : Jvm.Cond → Bool
  | .code _ _ _ _ => true
  | _ => false
theorem all_split {L : List Jvm.Cond} {P : Jvm.Cond → Bool} (h1 : L.all (fun c => isCode c || P c) = true) (h2 : ∀ c ∈ L.filter isCode, P c = true) : L.all P = true := by
  refine List.all_eq_true.mpr fun c hc => ?_
  have h := List.all_eq_true.mp h1 c hc
  rcases Bool.eq_false_or_eq_true (isCode c) with hi | hi
  · exact h2 c (List.mem_filter.mpr ⟨hc, hi⟩)
  · simpa [hi] using h
set_option maxRecDepth 65536 in
theorem w_c0 : (Jvm.Cond.code x code maxLocals ret).before args0 about1 = true := code_word (m := ⟨1, 1⟩) (meth := k1m1) (c := k1c1) (by decide +kernel) rfl rfl rfl (by decide +kernel)
set_option maxRecDepth 65536 in
theorem w_c1 : (Jvm.Cond.code ({ cls := "com/example/dole/dole/model/GrantMatchesPinLaw", name := "desc", desc := "(I)I" } : Jvm.MethodName) method_3_code (1 : Nat) (Option.some Jvm.ClassFile.FieldType.int)).before args0 about1 = true := code_word (m := ⟨1, 2⟩) (meth := k1m2) (c := k1c2) (by decide +kernel) rfl rfl rfl (by decide +kernel)
set_option maxRecDepth 65536 in
theorem w_c2 : (Jvm.Cond.code ({ cls := "com/example/dole/dole/model/GrantMatchesPinLaw", name := "draw", desc := "(I)Ljava/lang/String;" } : Jvm.MethodName) method_7_code (5 : Nat) (Option.some (Jvm.ClassFile.FieldType.object "java/lang/String"))).before args0 about1 = true := code_word (m := ⟨1, 6⟩) (meth := k1m6) (c := k1c6) (by decide +kernel) rfl rfl rfl (by decide +kernel)
set_option maxRecDepth 65536 in
theorem w_c3 : (Jvm.Cond.code ({ cls := "com/example/dole/dole/model/GrantMatchesPinLaw", name := "len", desc := "(I)I" } : Jvm.MethodName) method_4_code (1 : Nat) (Option.some Jvm.ClassFile.FieldType.int)).before args0 about1 = true := code_word (m := ⟨1, 3⟩) (meth := k1m3) (c := k1c3) (by decide +kernel) rfl rfl rfl (by decide +kernel)
set_option maxRecDepth 65536 in
theorem w_c4 : (Jvm.Cond.code ({ cls := "com/example/dole/dole/model/GrantMatchesPinLaw", name := "code", desc := "(II)I" } : Jvm.MethodName) method_5_code (2 : Nat) (Option.some Jvm.ClassFile.FieldType.int)).before args0 about1 = true := code_word (m := ⟨1, 4⟩) (meth := k1m4) (c := k1c4) (by decide +kernel) rfl rfl rfl (by decide +kernel)
set_option maxRecDepth 65536 in
theorem w_c5 : (Jvm.Cond.code ({ cls := "com/example/dole/dole/model/GrantMatchesPinLaw", name := "ch", desc := "(I)C" } : Jvm.MethodName) method_6_code (1 : Nat) (Option.some Jvm.ClassFile.FieldType.char)).before args0 about1 = true := code_word (m := ⟨1, 5⟩) (meth := k1m5) (c := k1c5) (by decide +kernel) rfl rfl rfl (by decide +kernel)
set_option maxRecDepth 65536 in
theorem w_c6 : (Jvm.Cond.code ({ cls := "java/lang/String", name := "<init>", desc := "([C)V" } : Jvm.MethodName) jdk_42_method_3_code (2 : Nat) (Option.none : Option Jvm.ClassFile.FieldType)).before args0 about1 = true := code_word (m := ⟨9, 1⟩) (meth := k9m1) (c := k9c1) (by decide +kernel) rfl rfl rfl (by decide +kernel)
set_option maxRecDepth 65536 in
theorem w_c7 : (Jvm.Cond.code ({ cls := "java/lang/String", name := "<init>", desc := "([CIILjava/lang/Void;)V" } : Jvm.MethodName) jdk_42_method_149_code (6 : Nat) (Option.none : Option Jvm.ClassFile.FieldType)).before args0 about1 = true := code_word (m := ⟨9, 4⟩) (meth := k9m4) (c := k9c4) (by decide +kernel) rfl rfl rfl (by decide +kernel)
set_option maxRecDepth 65536 in
theorem w_c8 : (Jvm.Cond.code ({ cls := "java/lang/Object", name := "<init>", desc := "()V" } : Jvm.MethodName) object_method_1_code (1 : Nat) (Option.none : Option Jvm.ClassFile.FieldType)).before args0 about1 = true := code_word (m := ⟨0, 0⟩) (meth := k0m0) (c := k0c0) (by decide +kernel) rfl rfl rfl (by decide +kernel)
set_option maxRecDepth 65536 in
theorem w_c9 : (Jvm.Cond.code ({ cls := "java/lang/StringUTF16", name := "compress", desc := "([CII)[B" } : Jvm.MethodName) jdk_52_method_16_code (6 : Nat) (Option.some (Jvm.ClassFile.FieldType.array Jvm.ClassFile.FieldType.byte))).before args0 about1 = true := code_word (m := ⟨10, 2⟩) (meth := k10m2) (c := k10c2) (by decide +kernel) rfl rfl rfl (by decide +kernel)
set_option maxRecDepth 65536 in
theorem w_c10 : (Jvm.Cond.code ({ cls := "java/lang/StringUTF16", name := "compress", desc := "([CI[BII)I" } : Jvm.MethodName) jdk_52_method_21_code (7 : Nat) (Option.some Jvm.ClassFile.FieldType.int)).before args0 about1 = true := code_word (m := ⟨10, 3⟩) (meth := k10m3) (c := k10c3) (by decide +kernel) rfl rfl rfl (by decide +kernel)
set_option maxRecDepth 65536 in
theorem w_c11 : (Jvm.Cond.code ({ cls := "java/lang/StringUTF16", name := "coderFromArrayLen", desc := "([BI)B" } : Jvm.MethodName) jdk_52_method_15_code (2 : Nat) (Option.some Jvm.ClassFile.FieldType.byte)).before args0 about1 = true := code_word (m := ⟨10, 1⟩) (meth := k10m1) (c := k10c1) (by decide +kernel) rfl rfl rfl (by decide +kernel)
set_option maxRecDepth 65536 in
theorem w_c12 : (Jvm.Cond.code ({ cls := "com/example/dole/dole/model/Grant", name := "<init>", desc := "(ILjava/lang/String;Ljava/lang/String;Ljava/lang/String;Lcom/example/dole/dole/model/Decision;)V" } : Jvm.MethodName) prog_38_method_1_code (6 : Nat) (Option.none : Option Jvm.ClassFile.FieldType)).before args0 about1 = true := code_word (m := ⟨3, 0⟩) (meth := k3m0) (c := k3c0) (by decide +kernel) rfl rfl rfl (by decide +kernel)
set_option maxRecDepth 65536 in
theorem w_c13 : (Jvm.Cond.code ({ cls := "java/lang/Record", name := "<init>", desc := "()V" } : Jvm.MethodName) jdk_30_method_1_code (1 : Nat) (Option.none : Option Jvm.ClassFile.FieldType)).before args0 about1 = true := code_word (m := ⟨2, 0⟩) (meth := k2m0) (c := k2c0) (by decide +kernel) rfl rfl rfl (by decide +kernel)
set_option maxRecDepth 65536 in
theorem w_c14 : (Jvm.Cond.code ({ cls := "java/lang/String", name := "valueOf", desc := "(C)Ljava/lang/String;" } : Jvm.MethodName) jdk_42_method_139_code (1 : Nat) (Option.some (Jvm.ClassFile.FieldType.object "java/lang/String"))).before args0 about1 = true := code_word (m := ⟨9, 3⟩) (meth := k9m3) (c := k9c3) (by decide +kernel) rfl rfl rfl (by decide +kernel)
set_option maxRecDepth 65536 in
theorem w_c15 : (Jvm.Cond.code ({ cls := "java/lang/StringLatin1", name := "canEncode", desc := "(C)Z" } : Jvm.MethodName) jdk_43_method_3_code (1 : Nat) (Option.some Jvm.ClassFile.FieldType.boolean)).before args0 about1 = true := code_word (m := ⟨11, 1⟩) (meth := k11m1) (c := k11c1) (by decide +kernel) rfl rfl rfl (by decide +kernel)
set_option maxRecDepth 65536 in
theorem w_c16 : (Jvm.Cond.code ({ cls := "java/lang/StringLatin1", name := "toBytes", desc := "(C)[B" } : Jvm.MethodName) jdk_43_method_46_code (1 : Nat) (Option.some (Jvm.ClassFile.FieldType.array Jvm.ClassFile.FieldType.byte))).before args0 about1 = true := code_word (m := ⟨11, 3⟩) (meth := k11m3) (c := k11c3) (by decide +kernel) rfl rfl rfl (by decide +kernel)
set_option maxRecDepth 65536 in
theorem w_c17 : (Jvm.Cond.code ({ cls := "java/lang/String", name := "<init>", desc := "([BB)V" } : Jvm.MethodName) jdk_42_method_151_code (3 : Nat) (Option.none : Option Jvm.ClassFile.FieldType)).before args0 about1 = true := code_word (m := ⟨9, 5⟩) (meth := k9m5) (c := k9c5) (by decide +kernel) rfl rfl rfl (by decide +kernel)
set_option maxRecDepth 65536 in
theorem w_c18 : (Jvm.Cond.code ({ cls := "com/example/dole/dole/model/Grant", name := "matches", desc := "(Ljava/lang/String;Ljava/lang/String;Ljava/lang/String;)Z" } : Jvm.MethodName) prog_38_method_2_code (4 : Nat) (Option.some Jvm.ClassFile.FieldType.boolean)).before args0 about1 = true := code_word (m := ⟨3, 1⟩) (meth := k3m1) (c := k3c1) (by decide +kernel) rfl rfl rfl (by decide +kernel)
set_option maxRecDepth 65536 in
theorem w_c19 : (Jvm.Cond.code ({ cls := "com/example/dole/dole/model/Grant", name := "covers", desc := "(Ljava/lang/String;Ljava/lang/String;)Z" } : Jvm.MethodName) prog_38_method_4_code (2 : Nat) (Option.some Jvm.ClassFile.FieldType.boolean)).before args0 about1 = true := code_word (m := ⟨3, 2⟩) (meth := k3m2) (c := k3c2) (by decide +kernel) rfl rfl rfl (by decide +kernel)
set_option maxRecDepth 65536 in
theorem w_c20 : (Jvm.Cond.code ({ cls := "java/lang/String", name := "equals", desc := "(Ljava/lang/Object;)Z" } : Jvm.MethodName) jdk_42_method_66_code (3 : Nat) (Option.some Jvm.ClassFile.FieldType.boolean)).before args0 about1 = true := code_word (m := ⟨9, 2⟩) (meth := k9m2) (c := k9c2) (by decide +kernel) rfl rfl rfl (by decide +kernel)
set_option maxRecDepth 65536 in
theorem w_c21 : (Jvm.Cond.code ({ cls := "java/lang/StringLatin1", name := "equals", desc := "([B[B)Z" } : Jvm.MethodName) jdk_43_method_13_code (3 : Nat) (Option.some Jvm.ClassFile.FieldType.boolean)).before args0 about1 = true := code_word (m := ⟨11, 2⟩) (meth := k11m2) (c := k11c2) (by decide +kernel) rfl rfl rfl (by decide +kernel)
set_option maxRecDepth 65536 in
theorem w_c22 : (Jvm.Cond.code ({ cls := "com/example/dole/dole/model/GrantMatchesPinLaw", name := "covers", desc := "(II)Z" } : Jvm.MethodName) method_10_code (2 : Nat) (Option.some Jvm.ClassFile.FieldType.boolean)).before args0 about1 = true := code_word (m := ⟨1, 9⟩) (meth := k1m9) (c := k1c9) (by decide +kernel) rfl rfl rfl (by decide +kernel)
set_option maxRecDepth 65536 in
theorem w_c23 : (Jvm.Cond.code ({ cls := "com/example/dole/dole/model/GrantMatchesPinLaw", name := "isAny", desc := "(I)Z" } : Jvm.MethodName) method_8_code (1 : Nat) (Option.some Jvm.ClassFile.FieldType.boolean)).before args0 about1 = true := code_word (m := ⟨1, 7⟩) (meth := k1m7) (c := k1c7) (by decide +kernel) rfl rfl rfl (by decide +kernel)
set_option maxRecDepth 65536 in
theorem w_c24 : (Jvm.Cond.code ({ cls := "com/example/dole/dole/model/GrantMatchesPinLaw", name := "same", desc := "(II)Z" } : Jvm.MethodName) method_9_code (3 : Nat) (Option.some Jvm.ClassFile.FieldType.boolean)).before args0 about1 = true := code_word (m := ⟨1, 8⟩) (meth := k1m8) (c := k1c8) (by decide +kernel) rfl rfl rfl (by decide +kernel)
def codes1 : List Jvm.Cond := [Jvm.Cond.code x code maxLocals ret, Jvm.Cond.code ({ cls := "com/example/dole/dole/model/GrantMatchesPinLaw", name := "desc", desc := "(I)I" } : Jvm.MethodName) method_3_code (1 : Nat) (Option.some Jvm.ClassFile.FieldType.int), Jvm.Cond.code ({ cls := "com/example/dole/dole/model/GrantMatchesPinLaw", name := "draw", desc := "(I)Ljava/lang/String;" } : Jvm.MethodName) method_7_code (5 : Nat) (Option.some (Jvm.ClassFile.FieldType.object "java/lang/String")), Jvm.Cond.code ({ cls := "com/example/dole/dole/model/GrantMatchesPinLaw", name := "len", desc := "(I)I" } : Jvm.MethodName) method_4_code (1 : Nat) (Option.some Jvm.ClassFile.FieldType.int), Jvm.Cond.code ({ cls := "com/example/dole/dole/model/GrantMatchesPinLaw", name := "code", desc := "(II)I" } : Jvm.MethodName) method_5_code (2 : Nat) (Option.some Jvm.ClassFile.FieldType.int), Jvm.Cond.code ({ cls := "com/example/dole/dole/model/GrantMatchesPinLaw", name := "ch", desc := "(I)C" } : Jvm.MethodName) method_6_code (1 : Nat) (Option.some Jvm.ClassFile.FieldType.char), Jvm.Cond.code ({ cls := "java/lang/String", name := "<init>", desc := "([C)V" } : Jvm.MethodName) jdk_42_method_3_code (2 : Nat) (Option.none : Option Jvm.ClassFile.FieldType), Jvm.Cond.code ({ cls := "java/lang/String", name := "<init>", desc := "([CIILjava/lang/Void;)V" } : Jvm.MethodName) jdk_42_method_149_code (6 : Nat) (Option.none : Option Jvm.ClassFile.FieldType), Jvm.Cond.code ({ cls := "java/lang/Object", name := "<init>", desc := "()V" } : Jvm.MethodName) object_method_1_code (1 : Nat) (Option.none : Option Jvm.ClassFile.FieldType), Jvm.Cond.code ({ cls := "java/lang/StringUTF16", name := "compress", desc := "([CII)[B" } : Jvm.MethodName) jdk_52_method_16_code (6 : Nat) (Option.some (Jvm.ClassFile.FieldType.array Jvm.ClassFile.FieldType.byte)), Jvm.Cond.code ({ cls := "java/lang/StringUTF16", name := "compress", desc := "([CI[BII)I" } : Jvm.MethodName) jdk_52_method_21_code (7 : Nat) (Option.some Jvm.ClassFile.FieldType.int), Jvm.Cond.code ({ cls := "java/lang/StringUTF16", name := "coderFromArrayLen", desc := "([BI)B" } : Jvm.MethodName) jdk_52_method_15_code (2 : Nat) (Option.some Jvm.ClassFile.FieldType.byte), Jvm.Cond.code ({ cls := "com/example/dole/dole/model/Grant", name := "<init>", desc := "(ILjava/lang/String;Ljava/lang/String;Ljava/lang/String;Lcom/example/dole/dole/model/Decision;)V" } : Jvm.MethodName) prog_38_method_1_code (6 : Nat) (Option.none : Option Jvm.ClassFile.FieldType), Jvm.Cond.code ({ cls := "java/lang/Record", name := "<init>", desc := "()V" } : Jvm.MethodName) jdk_30_method_1_code (1 : Nat) (Option.none : Option Jvm.ClassFile.FieldType), Jvm.Cond.code ({ cls := "java/lang/String", name := "valueOf", desc := "(C)Ljava/lang/String;" } : Jvm.MethodName) jdk_42_method_139_code (1 : Nat) (Option.some (Jvm.ClassFile.FieldType.object "java/lang/String")), Jvm.Cond.code ({ cls := "java/lang/StringLatin1", name := "canEncode", desc := "(C)Z" } : Jvm.MethodName) jdk_43_method_3_code (1 : Nat) (Option.some Jvm.ClassFile.FieldType.boolean), Jvm.Cond.code ({ cls := "java/lang/StringLatin1", name := "toBytes", desc := "(C)[B" } : Jvm.MethodName) jdk_43_method_46_code (1 : Nat) (Option.some (Jvm.ClassFile.FieldType.array Jvm.ClassFile.FieldType.byte)), Jvm.Cond.code ({ cls := "java/lang/String", name := "<init>", desc := "([BB)V" } : Jvm.MethodName) jdk_42_method_151_code (3 : Nat) (Option.none : Option Jvm.ClassFile.FieldType), Jvm.Cond.code ({ cls := "com/example/dole/dole/model/Grant", name := "matches", desc := "(Ljava/lang/String;Ljava/lang/String;Ljava/lang/String;)Z" } : Jvm.MethodName) prog_38_method_2_code (4 : Nat) (Option.some Jvm.ClassFile.FieldType.boolean), Jvm.Cond.code ({ cls := "com/example/dole/dole/model/Grant", name := "covers", desc := "(Ljava/lang/String;Ljava/lang/String;)Z" } : Jvm.MethodName) prog_38_method_4_code (2 : Nat) (Option.some Jvm.ClassFile.FieldType.boolean), Jvm.Cond.code ({ cls := "java/lang/String", name := "equals", desc := "(Ljava/lang/Object;)Z" } : Jvm.MethodName) jdk_42_method_66_code (3 : Nat) (Option.some Jvm.ClassFile.FieldType.boolean), Jvm.Cond.code ({ cls := "java/lang/StringLatin1", name := "equals", desc := "([B[B)Z" } : Jvm.MethodName) jdk_43_method_13_code (3 : Nat) (Option.some Jvm.ClassFile.FieldType.boolean), Jvm.Cond.code ({ cls := "com/example/dole/dole/model/GrantMatchesPinLaw", name := "covers", desc := "(II)Z" } : Jvm.MethodName) method_10_code (2 : Nat) (Option.some Jvm.ClassFile.FieldType.boolean), Jvm.Cond.code ({ cls := "com/example/dole/dole/model/GrantMatchesPinLaw", name := "isAny", desc := "(I)Z" } : Jvm.MethodName) method_8_code (1 : Nat) (Option.some Jvm.ClassFile.FieldType.boolean), Jvm.Cond.code ({ cls := "com/example/dole/dole/model/GrantMatchesPinLaw", name := "same", desc := "(II)Z" } : Jvm.MethodName) method_9_code (3 : Nat) (Option.some Jvm.ClassFile.FieldType.boolean)]
set_option maxRecDepth 65536 in
theorem codes_eq : words1.filter isCode = codes1 := rfl
theorem w_codes : ∀ c ∈ words1.filter isCode, c.before args0 about1 = true := by
  rw [codes_eq]
  intro c hc
  simp only [codes1, List.mem_cons, List.not_mem_nil, or_false] at hc
  rcases hc with rfl | rfl | rfl | rfl | rfl | rfl | rfl | rfl | rfl | rfl | rfl | rfl | rfl | rfl | rfl | rfl | rfl | rfl | rfl | rfl | rfl | rfl | rfl | rfl | rfl
  · exact w_c0
  · exact w_c1
  · exact w_c2
  · exact w_c3
  · exact w_c4
  · exact w_c5
  · exact w_c6
  · exact w_c7
  · exact w_c8
  · exact w_c9
  · exact w_c10
  · exact w_c11
  · exact w_c12
  · exact w_c13
  · exact w_c14
  · exact w_c15
  · exact w_c16
  · exact w_c17
  · exact w_c18
  · exact w_c19
  · exact w_c20
  · exact w_c21
  · exact w_c22
  · exact w_c23
  · exact w_c24
set_option maxRecDepth 65536 in
theorem w_t1 : (words1.take 24).all (fun c => isCode c || c.before args0 about1) = true := by decide +kernel
set_option maxRecDepth 65536 in
theorem w_t2 : ((words1.drop 24).take 24).all (fun c => isCode c || c.before args0 about1) = true := by decide +kernel
set_option maxRecDepth 65536 in
theorem w_t3 : (((words1.drop 24).drop 24).take 24).all (fun c => isCode c || c.before args0 about1) = true := by decide +kernel
set_option maxRecDepth 65536 in
theorem w_t4 : ((((words1.drop 24).drop 24).drop 24).take 24).all (fun c => isCode c || c.before args0 about1) = true := by decide +kernel
set_option maxRecDepth 65536 in
theorem w_t5 : ((((words1.drop 24).drop 24).drop 24).drop 24).all (fun c => isCode c || c.before args0 about1) = true := by decide +kernel
theorem w_tables : (allAtoms (Jvm.Cond.code x code maxLocals ret :: tables_1)).before args0 about1 = true := by
  rw [allAtoms_all]
  show words1.all (fun c => c.before args0 about1) = true
  refine all_split ?_ w_codes
  rw [← List.take_append_drop 24 words1, List.all_append, w_t1, ← List.take_append_drop 24 (words1.drop 24), List.all_append, w_t2, ← List.take_append_drop 24 ((words1.drop 24).drop 24), List.all_append, w_t3, ← List.take_append_drop 24 (((words1.drop 24).drop 24).drop 24), List.all_append, w_t4, w_t5]
  rfl
set_option maxRecDepth 65536 in
theorem w_rest : rest_1_c.before args0 about1 = true := by decide +kernel
set_option maxRecDepth 65536 in
theorem w_case : (Jvm.Cond.and given_1 narrow_1).before args0 about1 = true := by decide +kernel
set_option maxRecDepth 65536 in
theorem w_consts : constsHeld consts_1 about1 := Jvm.Lit.constsHeldB_iff.mp (by decide +kernel)
theorem w_applies : (headSpec (Jvm.Cond.code x code maxLocals ret :: tables_1) room_1).applies x e0.platform about1 = true :=
  (Spec.applies_iff w_frames).mpr ⟨w_running, w_runnable, w_alone, w_named, w_hears, w_ripe, w_room, w_tables⟩
theorem atStart : AtStart classFile x code maxLocals ret World_1 tables_1 room_1 Calls_1 rest_1 Pre_1 launch0 p0 e0 about1 theMethod args0 below0 :=
  ⟨lists_1, trivial, launch0.admits_env _ _ _, launch0.least_env, fairChoices_fair.cas, fairChoices_fair.clock, w_frames, w_args, w_heap, w_applies, ⟨w_consts, trivial⟩, w_rest, w_case⟩
end start1
theorem witness_1 : WitnessClaimed_1 := ⟨start1.p0, start1.e0, start1.about1, start1.theMethod, start1.args0, start1.below0, start1.atStart⟩
end Jvm.Pilot.@@N@@
