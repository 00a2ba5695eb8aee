import JvmDerived
import JvmDerived.Pilot.@@N@@Statement
import JvmDerived.Pilot.@@N@@Code
set_option linter.unusedVariables false
set_option linter.unusedSimpArgs false
/- laws to paste: Road.backV, Road.lenW, Road.chN, Road.codOf (cut by pick.py; bodies as the Statement names them) -/
namespace Jvm.Pilot.@@N@@
namespace StrChars
open Jvm Sem ClassFile Op Lib Jvm.Stand Jvm.Free.XT Jvm.Free.ALB Jvm.Free.JM Jvm.Free
open Jvm.Lib.Cold (StaticIs)
/-- a char array whose places are chars -/
def Ch (a : Addr) (A : Cell) (U : State) : Prop := Arr .char a A U ∧ Typed .char A
theorem Ch.mv {a : Addr} {A : Cell} {U U' : State} (h : Ch a A U) (hal : U.vm.Alike U'.vm) (hh : U'.heap = U.heap) : Ch a A U' := ⟨h.1.mv hal hh, h.2⟩
theorem Ch.keep {a : Addr} {A : Cell} {U U' : State} (h : Ch a A U) (hal : U.vm.Alike U'.vm) (hk : U'.heap[a]? = some A) : Ch a A U' := ⟨h.1.keep hal hk, h.2⟩
/-- what place i of a char[]'s cell holds -/
def cv (A : Cell) (i : Nat) : Int32 := match A.slots[i]? with | some (.int x) => x | _ => 0
theorem Ch.get {a : Addr} {A : Cell} {U : State} (h : Ch a A U) {i : Nat} (hi : i < A.slots.size) : A.slots[i]? = some (.int (cv A i)) := by
  have e := Array.getElem?_eq_getElem hi
  have f := h.2 i _ e
  unfold cv; rw [e]
  generalize A.slots[i] = v at f
  cases v <;> simp [fits] at f ⊢
/-- the byte that i2b leaves of a char -/
def lo8 (x : Int32) : Int32 := x.toInt8.toInt32
theorem fits_lo8 (y : Int32) : fits .byte (.int (lo8 y)) = true := by
  have h1 := y.toInt8.le_toInt
  have h2 := y.toInt8.toInt_lt
  simp only [lo8, fits, Bool.and_eq_true, decide_eq_true_eq, Int32.le_iff_toInt_le, Int8.toInt_toInt32, show (-128 : Int32).toInt = -128 from by decide, show (127 : Int32).toInt = 127 from by decide]
  omega
/-- A' is A but that each place j of lo .. hi - 1 holds f j -/
def Laid (A A' : Cell) (lo hi : Nat) (f : Nat → Value) : Prop := A'.cls = A.cls ∧ A'.vm = A.vm ∧ A'.slots.size = A.slots.size ∧ ∀ i, A'.slots[i]? = if lo ≤ i ∧ i < hi then some (f i) else A.slots[i]?
theorem Laid.zero (A : Cell) (lo : Nat) (f : Nat → Value) : Laid A A lo (lo + 0) f := ⟨rfl, rfl, rfl, fun i => by rw [if_neg (by omega)]⟩
theorem Laid.step {A Ak : Cell} {lo k : Nat} {f : Nat → Value} {v : Value} (h : Laid A Ak lo k f) (hlo : lo ≤ k) (hk : k < Ak.slots.size) (hv : v = f k) : Laid A (Ak.setSlot k v) lo (k + 1) f := by
  refine ⟨h.1, h.2.1, by simpa [Cell.setSlot] using h.2.2.1, fun i => ?_⟩
  by_cases e : k = i
  · subst e; rw [Cell.slots_setSlot_self v hk, if_pos (by omega), hv]
  · rw [Cell.slots_setSlot_ne v e, h.2.2.2 i]
    by_cases q : lo ≤ i ∧ i < k
    · rw [if_pos q, if_pos (by omega)]
    · rw [if_neg q, if_neg (by omega)]
def U16 : String := "java/lang/StringUTF16"
namespace Cmp5
def yN : MethodName := ⟨"java/lang/StringUTF16", "compress", "([CI[BII)I"⟩
abbrev yB : ByteArray := jdk_52_method_21_code
theorem d0 : decode yB 0 = .ok (.iconst 0, 1) := by decide +kernel
theorem d1 : decode yB 1 = .ok (.istore 5, 2) := by decide +kernel
theorem d3 : decode yB 3 = .ok (.iload 5, 2) := by decide +kernel
theorem d5 : decode yB 5 = .ok (.iload 4, 2) := by decide +kernel
theorem d7 : decode yB 7 = .ok (.if_icmp (.ge) 37, 3) := by decide +kernel
theorem d10 : decode yB 10 = .ok (.aload_n 0, 1) := by decide +kernel
theorem d11 : decode yB 11 = .ok (.iload_n 1, 1) := by decide +kernel
theorem d12 : decode yB 12 = .ok (.caload, 1) := by decide +kernel
theorem d13 : decode yB 13 = .ok (.istore 6, 2) := by decide +kernel
theorem d15 : decode yB 15 = .ok (.iload 6, 2) := by decide +kernel
theorem d17 : decode yB 17 = .ok (.sipush 255, 3) := by decide +kernel
theorem d20 : decode yB 20 = .ok (.if_icmp (.le) 6, 3) := by decide +kernel
theorem d26 : decode yB 26 = .ok (.aload_n 2, 1) := by decide +kernel
theorem d27 : decode yB 27 = .ok (.iload_n 3, 1) := by decide +kernel
theorem d28 : decode yB 28 = .ok (.iload 6, 2) := by decide +kernel
theorem d30 : decode yB 30 = .ok (.i2b, 1) := by decide +kernel
theorem d31 : decode yB 31 = .ok (.bastore, 1) := by decide +kernel
theorem d32 : decode yB 32 = .ok (.iinc 1 1, 3) := by decide +kernel
theorem d35 : decode yB 35 = .ok (.iinc 3 1, 3) := by decide +kernel
theorem d38 : decode yB 38 = .ok (.iinc 5 1, 3) := by decide +kernel
theorem d41 : decode yB 41 = .ok (.goto (-38), 3) := by decide +kernel
theorem d44 : decode yB 44 = .ok (.iload 4, 2) := by decide +kernel
theorem d46 : decode yB 46 = .ok (.ireturn, 1) := by decide +kernel
def site : List Cond := []
def tab : Cond := tabOf yN yB 7 (some .int) site
def P (b : Addr) (A : Cell) (d : Addr) (B : Cell) (o q len : Nat) (args : Array Value) (s : State) : Prop := args = #[.ref b, .int (Int32.ofNat o), .ref d, .int (Int32.ofNat q), .int (Int32.ofNat len)] ∧ Ch b A s ∧ Arr .byte d B s ∧ b ≠ d ∧ o + len ≤ A.slots.size ∧ q + len ≤ B.slots.size ∧ ∀ i, i < len → ¬ 255 < cv A (o + i)
def E (b : Addr) (A : Cell) (d : Addr) (B : Cell) (o q len : Nat) (r : Option Value) (s u : State) : Prop := r = some (.int (Int32.ofNat len)) ∧ ∃ B', Put d B' s u ∧ Laid B B' q (q + len) (fun j => Value.int (lo8 (cv A (o + (j - q)))))
/-- no char of the range above 255: len; the places written hold each char's low byte -/
theorem law (l : Launch) (b : Addr) (A : Cell) (d : Addr) (B : Cell) (o q len : Nat) : Law l yN 5 5 0 0 yB 7 (some .int) site (P b A d B o q len) (E b A d B o q len) (copyLocs d q len) 0 0 := by
  refine Law.of_walk (plainFor_of_name (by decide +kernel)) (by decide +kernel) (by decide +kernel) (by decide) (fun _ _ h => by rw [h.1]; rfl) (fun _ U U' hal hh h => ⟨h.1, h.2.1.mv hal hh, h.2.2.1.mv hal hh, h.2.2.2⟩) (fun r U U' V V' h1 hal h2 h => ⟨h.1, h.2.elim fun B' q => ⟨B', q.1.mv h1 h2, q.2⟩⟩) ?_
  intro p e s m args below meth c s₁ X0 hexec hbytes hml hret hlk hnm hown hh0 W hP
  obtain ⟨rfl, hA, hB, hne, l1, l2, hp⟩ := hP
  have c1 : Steps p.tables e below (s₁.setTop (entryFrame m #[.ref b, .int (Int32.ofNat o), .ref d, .int (Int32.ofNat q), .int (Int32.ofNat len)] 7)) (s₁.setTop (mkF m 0 #[.val (.ref b), .val (.int (Int32.ofNat o)), .val (.ref d), .val (.int (Int32.ofNat q)), .val (.int (Int32.ofNat len)), .unset, .unset] [])) := entry rfl
  have hA0 := hA.1.mv X0.warmed.alike hh0
  have hB0 := hB.mv X0.warmed.alike hh0
  have a31 := hA.1.2.2.2
  have c2 : Steps p.tables e below (s₁.setTop (entryFrame m #[.ref b, .int (Int32.ofNat o), .ref d, .int (Int32.ofNat q), .int (Int32.ofNat len)] 7)) (s₁.setTop (mkF m 3 #[.val (.ref b), .val (.int (Int32.ofNat o)), .val (.ref d), .val (.int (Int32.ofNat q)), .val (.int (Int32.ofNat len)), .val (.int 0), .unset] [])) := c1.trans (by
    refine iconstV X0.here hexec rfl 0 (hb hbytes d0) (by decide) ?_
    refine XS.istore X0.here hexec rfl (hb hbytes d1) rfl rfl ?_
    exact Steps.refl _)
  have loop : ∀ (r i : Nat), i + r = len → ∀ (z : Slot), (z = .unset ∨ ∃ w, z = .val w ∧ w.category = 1) → ∀ (Tl : State) (Bk : Cell), Stand p l e { frames := 0, locals := 0, cells := 0, slots := 0 } s m #[.ref b, .int (Int32.ofNat o), .ref d, .int (Int32.ofNat q), .int (Int32.ofNat len)] below meth c Tl ([] ++ copyLocs d q i) 0 0 → Put d Bk s₁ Tl → Laid B Bk q (q + i) (fun j => Value.int (lo8 (cv A (o + (j - q))))) →
      Steps p.tables e below (s₁.setTop (entryFrame m #[.ref b, .int (Int32.ofNat o), .ref d, .int (Int32.ofNat q), .int (Int32.ofNat len)] 7)) (Tl.setTop (mkF m 3 #[.val (.ref b), .val (.int (Int32.ofNat (o + i))), .val (.ref d), .val (.int (Int32.ofNat (q + i))), .val (.int (Int32.ofNat len)), .val (.int (Int32.ofNat i)), z] [])) → ∃ (T' : State) (B' : Cell) (z' : Slot), Stand p l e { frames := 0, locals := 0, cells := 0, slots := 0 } s m #[.ref b, .int (Int32.ofNat o), .ref d, .int (Int32.ofNat q), .int (Int32.ofNat len)] below meth c T' ([] ++ copyLocs d q len) 0 0 ∧ Put d B' s₁ T' ∧ Laid B B' q (q + len) (fun j => Value.int (lo8 (cv A (o + (j - q))))) ∧
      Steps p.tables e below (s₁.setTop (entryFrame m #[.ref b, .int (Int32.ofNat o), .ref d, .int (Int32.ofNat q), .int (Int32.ofNat len)] 7)) (T'.setTop (mkF m 3 #[.val (.ref b), .val (.int (Int32.ofNat (o + len))), .val (.ref d), .val (.int (Int32.ofNat (q + len))), .val (.int (Int32.ofNat len)), .val (.int (Int32.ofNat len)), z'] [])) := by
    intro r
    induction r with
    | zero =>
      intro i hi z hz Tl Bk Xl pl fl cl
      have hil : i = len := by omega
      rw [hil] at Xl fl cl
      exact ⟨Tl, Bk, z, Xl, pl, fl, cl⟩
    | succ r ih =>
      intro i hi z hz Tl Bk Xl pl fl cl
      have all := X0.warmed.alike.symm.trans Xl.warmed.alike
      have hAl := hA0.keep all (pl.other hne hA0.1)
      have hBk := hB0.like all pl.1 fl.1 fl.2.1 fl.2.2.1
      have hlt : q + i < Bk.slots.size := by rw [fl.2.2.1]; omega
      have c3 : Steps p.tables e below (s₁.setTop (entryFrame m #[.ref b, .int (Int32.ofNat o), .ref d, .int (Int32.ofNat q), .int (Int32.ofNat len)] 7)) (Tl.setTop (mkF m 12 #[.val (.ref b), .val (.int (Int32.ofNat (o + i))), .val (.ref d), .val (.int (Int32.ofNat (q + i))), .val (.int (Int32.ofNat len)), .val (.int (Int32.ofNat i)), z] [.int (Int32.ofNat (o + i)), .ref b])) := cl.trans (by
        refine XS.iload Xl.here hexec rfl (hb hbytes d3) rfl ?_
        refine XS.iload Xl.here hexec rfl (hb hbytes d5) rfl ?_
        refine XS.icmpNo Xl.here hexec rfl (hb hbytes d7) rfl (ii_ge_f (lt32 (by omega) (by omega))) ?_
        refine XS.aloadN Xl.here hexec rfl (hb hbytes d10) rfl rfl ?_
        refine XS.iloadN Xl.here hexec rfl (hb hbytes d11) rfl ?_
        exact Steps.refl _)
      have c4 : Steps p.tables e below (s₁.setTop (entryFrame m #[.ref b, .int (Int32.ofNat o), .ref d, .int (Int32.ofNat q), .int (Int32.ofNat len)] 7)) (Tl.setTop (mkF m 13 #[.val (.ref b), .val (.int (Int32.ofNat (o + i))), .val (.ref d), .val (.int (Int32.ofNat (q + i))), .val (.int (Int32.ofNat len)), .val (.int (Int32.ofNat i)), z] [.int (cv A (o + i))])) := c3.trans (by
        refine Xl.aget hexec hAl rfl (hA.get (i := o + i) (by omega)) rfl rfl (hb hbytes d12) ?_
        exact Steps.refl _)
      have c5 : Steps p.tables e below (s₁.setTop (entryFrame m #[.ref b, .int (Int32.ofNat o), .ref d, .int (Int32.ofNat q), .int (Int32.ofNat len)] 7)) (Tl.setTop (mkF m 15 #[.val (.ref b), .val (.int (Int32.ofNat (o + i))), .val (.ref d), .val (.int (Int32.ofNat (q + i))), .val (.int (Int32.ofNat len)), .val (.int (Int32.ofNat i)), .val (.int (cv A (o + i)))] [])) := c4.trans (by
        refine XS.istoreS Xl.here hexec rfl (hb hbytes d13) rfl rfl hz ?_
        exact Steps.refl _)
      have c6 : Steps p.tables e below (s₁.setTop (entryFrame m #[.ref b, .int (Int32.ofNat o), .ref d, .int (Int32.ofNat q), .int (Int32.ofNat len)] 7)) (Tl.setTop (mkF m 31 #[.val (.ref b), .val (.int (Int32.ofNat (o + i))), .val (.ref d), .val (.int (Int32.ofNat (q + i))), .val (.int (Int32.ofNat len)), .val (.int (Int32.ofNat i)), .val (.int (cv A (o + i)))] [.int (lo8 (cv A (o + i))), .int (Int32.ofNat (q + i)), .ref d])) := c5.trans (by
        refine XS.iload Xl.here hexec rfl (hb hbytes d15) rfl ?_
        refine sipushV Xl.here hexec rfl 255 (hb hbytes d17) (by decide) ?_
        refine XS.icmpYes Xl.here hexec rfl (pc0 := 20) rfl (hb hbytes d20) rfl (ii_le_t (hp i (by omega))) (by decide) rfl ?_
        refine XS.aloadN Xl.here hexec rfl (hb hbytes d26) rfl rfl ?_
        refine XS.iloadN Xl.here hexec rfl (hb hbytes d27) rfl ?_
        refine XS.iload Xl.here hexec rfl (hb hbytes d28) rfl ?_
        refine i2b Xl.here hexec rfl (hb hbytes d30) rfl ?_
        exact Steps.refl _)
      obtain ⟨T7, X7, p7, st7⟩ := Xl.aput hexec hBk rfl hlt rfl (fits_lo8 (cv A (o + i))) (g := (mkF m 31 #[.val (.ref b), .val (.int (Int32.ofNat (o + i))), .val (.ref d), .val (.int (Int32.ofNat (q + i))), .val (.int (Int32.ofNat len)), .val (.int (Int32.ofNat i)), .val (.int (cv A (o + i)))] [.int (lo8 (cv A (o + i))), .int (Int32.ofNat (q + i)), .ref d])) rfl (rest := []) rfl (hb hbytes d31)
      have c8 : Steps p.tables e below (s₁.setTop (entryFrame m #[.ref b, .int (Int32.ofNat o), .ref d, .int (Int32.ofNat q), .int (Int32.ofNat len)] 7)) (T7.setTop (mkF m 32 #[.val (.ref b), .val (.int (Int32.ofNat (o + i))), .val (.ref d), .val (.int (Int32.ofNat (q + i))), .val (.int (Int32.ofNat len)), .val (.int (Int32.ofNat i)), .val (.int (cv A (o + i)))] [])) := c6.trans (st7 _ (Steps.refl _))
      have c9 : Steps p.tables e below (s₁.setTop (entryFrame m #[.ref b, .int (Int32.ofNat o), .ref d, .int (Int32.ofNat q), .int (Int32.ofNat len)] 7)) (T7.setTop (mkF m 3 #[.val (.ref b), .val (.int (Int32.ofNat (o + i) + 1)), .val (.ref d), .val (.int (Int32.ofNat (q + i) + 1)), .val (.int (Int32.ofNat len)), .val (.int (Int32.ofNat i + 1)), .val (.int (cv A (o + i)))] [])) := c8.trans (by
        refine iincV X7.here hexec rfl 1 (hb hbytes d32) (by decide) rfl rfl ?_
        refine iincV X7.here hexec rfl 1 (hb hbytes d35) (by decide) rfl rfl ?_
        refine iincV X7.here hexec rfl 1 (hb hbytes d38) (by decide) rfl rfl ?_
        refine XS.goto X7.here hexec rfl (pc0 := 41) rfl (hb hbytes d41) (by decide) rfl ?_
        exact Steps.refl _)
      have c10 : Steps p.tables e below (s₁.setTop (entryFrame m #[.ref b, .int (Int32.ofNat o), .ref d, .int (Int32.ofNat q), .int (Int32.ofNat len)] 7)) (T7.setTop (mkF m 3 #[.val (.ref b), .val (.int (Int32.ofNat (o + (i + 1)))), .val (.ref d), .val (.int (Int32.ofNat (q + (i + 1)))), .val (.int (Int32.ofNat len)), .val (.int (Int32.ofNat (i + 1))), .val (.int (cv A (o + i)))] [])) := by
        have := c9
        rw [succ32, succ32, succ32] at this
        exact this
      exact ih (i + 1) (by omega) _ (Or.inr ⟨_, rfl, rfl⟩) T7 _ (by rw [copyLocs_step, ← List.append_assoc]; exact X7) (pl.trans p7) (fl.step (by omega) hlt (by simp)) c10
  obtain ⟨T9, B9, z9, X9, p9, f9, g9⟩ := loop len 0 (by omega) .unset (Or.inl rfl) s₁ B (by simpa [copyLocs] using X0) ⟨hB0.1, fun _ _ => rfl, rfl⟩ (Laid.zero _ _ _) c2
  have c11 : Steps p.tables e below (s₁.setTop (entryFrame m #[.ref b, .int (Int32.ofNat o), .ref d, .int (Int32.ofNat q), .int (Int32.ofNat len)] 7)) (T9.setTop (mkF m 46 #[.val (.ref b), .val (.int (Int32.ofNat (o + len))), .val (.ref d), .val (.int (Int32.ofNat (q + len))), .val (.int (Int32.ofNat len)), .val (.int (Int32.ofNat len)), z9] [.int (Int32.ofNat len)])) := g9.trans (by
    refine XS.iload X9.here hexec rfl (hb hbytes d3) rfl ?_
    refine XS.iload X9.here hexec rfl (hb hbytes d5) rfl ?_
    refine XS.icmpYes X9.here hexec rfl (pc0 := 7) rfl (hb hbytes d7) rfl (ii_ge_t (nlt32 (by omega) (Nat.le_refl _))) (by decide) rfl ?_
    refine XS.iload X9.here hexec rfl (hb hbytes d44) rfl ?_
    exact Steps.refl _)
  exact ⟨T9, some (.int (Int32.ofNat len)), _, _, _, X9, by simp, rfl, rfl, (fun h => by cases h), ⟨rfl, B9, p9.from hh0, f9⟩, fun fs hl => c11.trans (X9.ireturnOut hexec hret rfl (Or.inl rfl) (hb hbytes d46) hl)⟩
end Cmp5
namespace Cmp3
def yN : MethodName := ⟨"java/lang/StringUTF16", "compress", "([CII)[B"⟩
abbrev yB : ByteArray := jdk_52_method_16_code
theorem d0 : decode yB 0 = .ok (.iload_n 2, 1) := by decide +kernel
theorem d1 : decode yB 1 = .ok (.newarray .byte, 2) := by decide +kernel
theorem d3 : decode yB 3 = .ok (.astore_n 3, 1) := by decide +kernel
theorem d4 : decode yB 4 = .ok (.aload_n 0, 1) := by decide +kernel
theorem d5 : decode yB 5 = .ok (.iload_n 1, 1) := by decide +kernel
theorem d6 : decode yB 6 = .ok (.aload_n 3, 1) := by decide +kernel
theorem d7 : decode yB 7 = .ok (.iconst 0, 1) := by decide +kernel
theorem d8 : decode yB 8 = .ok (.iload_n 2, 1) := by decide +kernel
theorem d9 : decode yB 9 = .ok (.invokestatic 115, 3) := by decide +kernel
theorem d12 : decode yB 12 = .ok (.istore 4, 2) := by decide +kernel
theorem d14 : decode yB 14 = .ok (.iload 4, 2) := by decide +kernel
theorem d16 : decode yB 16 = .ok (.iload_n 2, 1) := by decide +kernel
theorem d17 : decode yB 17 = .ok (.if_icmp (.eq) 40, 3) := by decide +kernel
theorem d57 : decode yB 57 = .ok (.aload_n 3, 1) := by decide +kernel
theorem d58 : decode yB 58 = .ok (.areturn, 1) := by decide +kernel
def site : List Cond := [.arrayClass .byte, Cmp5.tab] ++ staticW U16 115 Cmp5.yN
def tab : Cond := tabOf yN yB 6 (some (.array .byte)) site
def P (b : Addr) (A : Cell) (o len : Nat) (args : Array Value) (s : State) : Prop := args = #[.ref b, .int (Int32.ofNat o), .int (Int32.ofNat len)] ∧ Ch b A s ∧ o + len ≤ A.slots.size ∧ len ≤ 536870912 ∧ ∀ i, i < len → ¬ 255 < cv A (o + i)
def E (b : Addr) (A : Cell) (o len : Nat) (r : Option Value) (s u : State) : Prop := NewArr .byte "[B" len (fun j => .int (lo8 (cv A (o + j)))) r s u ∧ u.heap.size = s.heap.size + 1
/-- no char of the range above 255: a new byte[] of their low bytes -/
theorem law (l : Launch) (b : Addr) (A : Cell) (o len : Nat) : Law l yN 3 3 1 18 yB 6 (some (.array .byte)) site (P b A o len) (E b A o len) [] 1 len := by
  refine Law.of_walk (plainFor_of_name (by decide +kernel)) (by decide +kernel) (by decide +kernel) (by decide) (fun _ _ h => by rw [h.1]; rfl) (fun _ U U' hal hh h => ⟨h.1, h.2.1.mv hal hh, h.2.2⟩) (fun r U U' V V' h1 hal h2 h => ⟨NewArr.mv r U U' V V' h1 hal h2 h.1, by rw [h1, h2]; exact h.2⟩) ?_
  intro p e s m args below meth c s₁ X0 hexec hbytes hml hret hlk hnm hown hh0 W hP
  obtain ⟨rfl, hA, l1, l2, hp⟩ := hP
  have a31 := hA.1.2.2.2
  have c1 : Steps p.tables e below (s₁.setTop (entryFrame m #[.ref b, .int (Int32.ofNat o), .int (Int32.ofNat len)] 6)) (s₁.setTop (mkF m 0 #[.val (.ref b), .val (.int (Int32.ofNat o)), .val (.int (Int32.ofNat len)), .unset, .unset, .unset] [])) := entry rfl
  have c2 : Steps p.tables e below (s₁.setTop (entryFrame m #[.ref b, .int (Int32.ofNat o), .int (Int32.ofNat len)] 6)) (s₁.setTop (mkF m 1 #[.val (.ref b), .val (.int (Int32.ofNat o)), .val (.int (Int32.ofNat len)), .unset, .unset, .unset] [.int (Int32.ofNat len)])) := c1.trans (by
    refine XS.iloadN X0.here hexec rfl (hb hbytes d0) rfl ?_
    exact Steps.refl _)
  obtain ⟨T3, B3, X3, ba3, bs3, bv3, bh3, bf3, st3⟩ := X0.anew hexec (atype := .byte) (wk W (.arrayClass .byte)) rfl (by show len * 1 ≤ _; omega) (by omega) (g := (mkF m 1 #[.val (.ref b), .val (.int (Int32.ofNat o)), .val (.int (Int32.ofNat len)), .unset, .unset, .unset] [.int (Int32.ofNat len)])) rfl (hb hbytes d1) (rest := []) rfl (Nat.le_refl _) (by show 0 + len ≤ len; omega)
  rw [hh0] at ba3 st3
  have kp3 : XT.Kept s T3 := (XT.Kept.of_eq hh0).push bh3
  have hA3 := hA.keep X3.warmed.alike (kp3 _ _ hA.1.1)
  have hne : b ≠ s.heap.size := hA.1.ne
  have c4 : Steps p.tables e below (s₁.setTop (entryFrame m #[.ref b, .int (Int32.ofNat o), .int (Int32.ofNat len)] 6)) (T3.setTop (mkF m 3 #[.val (.ref b), .val (.int (Int32.ofNat o)), .val (.int (Int32.ofNat len)), .unset, .unset, .unset] [.ref s.heap.size])) := c2.trans (st3 _ (Steps.refl _))
  have c5 : Steps p.tables e below (s₁.setTop (entryFrame m #[.ref b, .int (Int32.ofNat o), .int (Int32.ofNat len)] 6)) (T3.setTop (mkF m 9 #[.val (.ref b), .val (.int (Int32.ofNat o)), .val (.int (Int32.ofNat len)), .val (.ref s.heap.size), .unset, .unset] [.int (Int32.ofNat len), .int 0, .ref s.heap.size, .int (Int32.ofNat o), .ref b])) := c4.trans (by
    refine XS.astoreN X3.here hexec rfl (hb hbytes d3) rfl rfl rfl ?_
    refine XS.aloadN X3.here hexec rfl (hb hbytes d4) rfl rfl ?_
    refine XS.iloadN X3.here hexec rfl (hb hbytes d5) rfl ?_
    refine XS.aloadN X3.here hexec rfl (hb hbytes d6) rfl rfl ?_
    refine iconstV X3.here hexec rfl 0 (hb hbytes d7) (by decide) ?_
    refine XS.iloadN X3.here hexec rfl (hb hbytes d8) rfl ?_
    exact Steps.refl _)
  obtain ⟨v6, T6, X6, E6, g6⟩ := X3.callS hexec (Cmp5.law l b A s.heap.size B3 o 0 len) hown (wks W (staticW U16 115 Cmp5.yN)) (wk W Cmp5.tab) (W := 0) (Nat.le_of_ble_eq_true rfl) (Nat.le_of_ble_eq_true rfl) (Nat.le_refl _) (by show 0 + len + 0 ≤ len; omega) (g := (mkF m 9 #[.val (.ref b), .val (.int (Int32.ofNat o)), .val (.int (Int32.ofNat len)), .val (.ref s.heap.size), .unset, .unset] [.int (Int32.ofNat len), .int (Int32.ofNat 0), .ref s.heap.size, .int (Int32.ofNat o), .ref b])) rfl (by rw [hml]; rfl) c5 (argsL := [.ref b, .int (Int32.ofNat o), .ref s.heap.size, .int (Int32.ofNat 0), .int (Int32.ofNat len)]) (rest := []) rfl rfl (by show 2 * 0 + 0 ≤ _; decide) (hb hbytes d9) (⟨rfl, hA3, ba3, hne, l1, by rw [bs3]; simp, hp⟩)
  obtain ⟨rfl, B6, p6, f6⟩ := E6
  have c7 : Steps p.tables e below (s₁.setTop (entryFrame m #[.ref b, .int (Int32.ofNat o), .int (Int32.ofNat len)] 6)) (T6.setTop (mkF m 12 #[.val (.ref b), .val (.int (Int32.ofNat o)), .val (.int (Int32.ofNat len)), .val (.ref s.heap.size), .unset, .unset] [.int (Int32.ofNat len)])) := g6
  have c8 : Steps p.tables e below (s₁.setTop (entryFrame m #[.ref b, .int (Int32.ofNat o), .int (Int32.ofNat len)] 6)) (T6.setTop (mkF m 58 #[.val (.ref b), .val (.int (Int32.ofNat o)), .val (.int (Int32.ofNat len)), .val (.ref s.heap.size), .val (.int (Int32.ofNat len)), .unset] [.ref s.heap.size])) := c7.trans (by
    refine XS.istore X6.here hexec rfl (hb hbytes d12) rfl rfl ?_
    refine XS.iload X6.here hexec rfl (hb hbytes d14) rfl ?_
    refine XS.iloadN X6.here hexec rfl (hb hbytes d16) rfl ?_
    refine XS.icmpYes X6.here hexec rfl (pc0 := 17) rfl (hb hbytes d17) rfl (ii_eq_t rfl) (by decide) rfl ?_
    refine XS.aloadN X6.here hexec rfl (hb hbytes d57) rfl rfl ?_
    exact Steps.refl _)
  have X8 := X6.wide (L' := []) (cells' := 1) (slots' := len) (fun x hx hlt => by
    simp only [List.nil_append, copyLocs, List.mem_map, List.mem_range] at hx
    obtain ⟨i, -, rfl⟩ := hx
    exact absurd hlt (Nat.lt_irrefl _)) (Nat.le_refl _) (by omega)
  exact ⟨T6, some (.ref s.heap.size), _, _, _, X8, rfl, rfl, rfl, (fun h => by cases h), ⟨⟨rfl, B6, ba3.like (X3.warmed.alike.symm.trans X6.warmed.alike) p6.1 f6.1 f6.2.1 f6.2.2.1, f6.2.1.trans bv3, by rw [X6.warmed.alike.findClass, f6.1]; exact bf3, by rw [f6.2.2.1, bs3]; simp, fun j hj => by rw [f6.2.2.2 j, if_pos (by omega)]; rfl, kp3.put p6 (Nat.le_refl _)⟩, by rw [p6.2.2, bh3, hh0]; simp⟩, fun fs hl => c8.trans (X8.areturnOut hexec rfl hret rfl (hb hbytes d58) hl)⟩
end Cmp3
namespace CodL
def yN : MethodName := ⟨"java/lang/StringUTF16", "coderFromArrayLen", "([BI)B"⟩
abbrev yB : ByteArray := jdk_52_method_15_code
theorem d0 : decode yB 0 = .ok (.iload_n 1, 1) := by decide +kernel
theorem d1 : decode yB 1 = .ok (.aload_n 0, 1) := by decide +kernel
theorem d2 : decode yB 2 = .ok (.arraylength, 1) := by decide +kernel
theorem d3 : decode yB 3 = .ok (.isub, 1) := by decide +kernel
theorem d4 : decode yB 4 = .ok (.bipush 31, 2) := by decide +kernel
theorem d6 : decode yB 6 = .ok (.iushr, 1) := by decide +kernel
theorem d7 : decode yB 7 = .ok (.i2b, 1) := by decide +kernel
theorem d8 : decode yB 8 = .ok (.ireturn, 1) := by decide +kernel
def site : List Cond := []
def tab : Cond := tabOf yN yB 2 (some .byte) site
def P (d : Addr) (B : Cell) (args : Array Value) (s : State) : Prop := args = #[.ref d, .int (Int32.ofNat B.slots.size)] ∧ Arr .byte d B s
def E (r : Option Value) (s u : State) : Prop := XT.PureE (some (.int 0)) r s u
/-- an array as long as the number of chars: LATIN1 -/
theorem law (l : Launch) (d : Addr) (B : Cell) : Law l yN 2 2 0 0 yB 2 (some .byte) site (P d B) E [] 0 0 := by
  refine Law.of_walk (plainFor_of_name (by decide +kernel)) (by decide +kernel) (by decide +kernel) (by decide) (fun _ _ h => by rw [h.1]; rfl) (fun _ U U' hal hh h => ⟨h.1, h.2.mv hal hh⟩) (fun r U U' V V' h1 hal h2 h => XT.PureE.mv r U U' V V' h1 hal h2 h) ?_
  intro p e s m args below meth c s₁ X0 hexec hbytes hml hret hlk hnm hown hh0 W hP
  obtain ⟨rfl, hB⟩ := hP
  have hB0 := hB.mv X0.warmed.alike hh0
  have c1 : Steps p.tables e below (s₁.setTop (entryFrame m #[.ref d, .int (Int32.ofNat B.slots.size)] 2)) (s₁.setTop (mkF m 0 #[.val (.ref d), .val (.int (Int32.ofNat B.slots.size))] [])) := entry rfl
  have c2 : Steps p.tables e below (s₁.setTop (entryFrame m #[.ref d, .int (Int32.ofNat B.slots.size)] 2)) (s₁.setTop (mkF m 2 #[.val (.ref d), .val (.int (Int32.ofNat B.slots.size))] [.ref d, .int (Int32.ofNat B.slots.size)])) := c1.trans (by
    refine XS.iloadN X0.here hexec rfl (hb hbytes d0) rfl ?_
    refine XS.aloadN X0.here hexec rfl (hb hbytes d1) rfl rfl ?_
    exact Steps.refl _)
  have c3 : Steps p.tables e below (s₁.setTop (entryFrame m #[.ref d, .int (Int32.ofNat B.slots.size)] 2)) (s₁.setTop (mkF m 8 #[.val (.ref d), .val (.int (Int32.ofNat B.slots.size))] [.int (lo8 (ushr (Int32.ofNat B.slots.size - Int32.ofNat B.slots.size) 31))])) := c2.trans (by
    refine X0.alen hexec hB0 rfl rfl (hb hbytes d2) ?_
    refine XS.isub X0.here hexec rfl (hb hbytes d3) rfl ?_
    refine bipushV X0.here hexec rfl 31 (hb hbytes d4) (by decide) ?_
    refine iushr X0.here hexec rfl (hb hbytes d6) rfl ?_
    refine i2b X0.here hexec rfl (hb hbytes d7) rfl ?_
    exact Steps.refl _)
  have e0 : lo8 (ushr (Int32.ofNat B.slots.size - Int32.ofNat B.slots.size) 31) = 0 := by rw [Int32.sub_self]; decide
  rw [e0] at c3
  exact ⟨s₁, some (.int 0), _, _, _, X0, rfl, rfl, rfl, (fun h => by cases h), ⟨rfl, hh0⟩, fun fs hl => c3.trans (X0.ireturnOut hexec hret rfl (Or.inr (Or.inr (Or.inl rfl))) (hb hbytes d8) hl)⟩
end CodL
/-- the String at a is Latin-1 over a new byte[] (the heap's one new cell): the low bytes of the len chars of A from o on; every cell but a is kept -/
def Got (a : Addr) (D : Cell) (fV fC : Field) (A : Cell) (o len : Nat) (r : Option Value) (s u : State) : Prop := r = none ∧ ∃ D' V : Cell, Blank "java/lang/String" a D' u ∧ Same D D' [fV.slot, fC.slot] ∧ D'.slots[fV.slot]? = some (.ref s.heap.size) ∧ D'.slots[fC.slot]? = some (.int 0) ∧ Arr .byte s.heap.size V u ∧ V.vm = .none ∧ u.vm.findClass "[B" = some V.cls ∧ V.slots.size = len ∧ (∀ j, j < len → V.slots[j]? = some (.int (lo8 (cv A (o + j))))) ∧ (∀ (y : Addr) (c : Cell), y ≠ a → s.heap[y]? = some c → u.heap[y]? = some c) ∧ u.heap.size = s.heap.size + 1
theorem Got.mv {a : Addr} {D A : Cell} {fV fC : Field} {o len : Nat} : ∀ r (U U' V V' : State), U'.heap = U.heap → V.vm.Alike V'.vm → V'.heap = V.heap → Got a D fV fC A o len r U V → Got a D fV fC A o len r U' V' :=
  fun r U U' V V' h1 hal h2 ⟨e0, D', X, a1, a2, a3, a4, a5, a6, a7, a8, a9, a10, a11⟩ => ⟨e0, D', X, a1.mv hal h2, a2, by rw [h1]; exact a3, a4, by rw [h1]; exact a5.mv hal h2, a6, by rw [hal.findClass]; exact a7, a8, a9, by rw [h1, h2]; exact a10, by rw [h1, h2]; exact a11⟩
namespace New4
def yN : MethodName := ⟨"java/lang/String", "<init>", "([CIILjava/lang/Void;)V"⟩
abbrev yB : ByteArray := jdk_42_method_149_code
theorem d0 : decode yB 0 = .ok (.aload_n 0, 1) := by decide +kernel
theorem d1 : decode yB 1 = .ok (.invokespecial 1, 3) := by decide +kernel
theorem d4 : decode yB 4 = .ok (.iload_n 3, 1) := by decide +kernel
theorem d5 : decode yB 5 = .ok (.ifCond (.ne) 22, 3) := by decide +kernel
theorem d27 : decode yB 27 = .ok (.getstatic 38, 3) := by decide +kernel
theorem d30 : decode yB 30 = .ok (.ifCond (.eq) 28, 3) := by decide +kernel
theorem d33 : decode yB 33 = .ok (.aload_n 1, 1) := by decide +kernel
theorem d34 : decode yB 34 = .ok (.iload_n 2, 1) := by decide +kernel
theorem d35 : decode yB 35 = .ok (.iload_n 3, 1) := by decide +kernel
theorem d36 : decode yB 36 = .ok (.invokestatic 177, 3) := by decide +kernel
theorem d39 : decode yB 39 = .ok (.astore 5, 2) := by decide +kernel
theorem d41 : decode yB 41 = .ok (.aload_n 0, 1) := by decide +kernel
theorem d42 : decode yB 42 = .ok (.aload 5, 2) := by decide +kernel
theorem d44 : decode yB 44 = .ok (.iload_n 3, 1) := by decide +kernel
theorem d45 : decode yB 45 = .ok (.invokestatic 47, 3) := by decide +kernel
theorem d48 : decode yB 48 = .ok (.putfield 15, 3) := by decide +kernel
theorem d51 : decode yB 51 = .ok (.aload_n 0, 1) := by decide +kernel
theorem d52 : decode yB 52 = .ok (.aload 5, 2) := by decide +kernel
theorem d54 : decode yB 54 = .ok (.putfield 9, 3) := by decide +kernel
theorem d57 : decode yB 57 = .ok (.return_, 1) := by decide +kernel
def site : List Cond := [.fieldLink "java/lang/String" 38 "java/lang/String" "COMPACT_STRINGS" "Z", Cmp3.tab, CodL.tab, .laysFinal "java/lang/String" "java/lang/String" "value" "[B", .fieldLink "java/lang/String" 9 "java/lang/String" "value" "[B", .laysFinal "java/lang/String" "java/lang/String" "coder" "B", .fieldLink "java/lang/String" 15 "java/lang/String" "coder" "B"] ++ objW "java/lang/String" 1 ++ staticW "java/lang/String" 177 Cmp3.yN ++ staticW "java/lang/String" 47 CodL.yN
def tab : Cond := tabOf yN yB 6 none site
def P (a : Addr) (D : Cell) (fV fC : Field) (b : Addr) (A : Cell) (z : Int32) (o len : Nat) (args : Array Value) (s : State) : Prop := args = #[.ref a, .ref b, .int (Int32.ofNat o), .int (Int32.ofNat len), .null] ∧ Blank "java/lang/String" a D s ∧ Found "java/lang/String" "value" "[B" fV s ∧ Found "java/lang/String" "coder" "B" fC s ∧ Ch b A s ∧ StaticIs s "java/lang/String" "COMPACT_STRINGS" "Z" (.int z) ∧ ¬ z = 0 ∧ 0 < len ∧ o + len ≤ A.slots.size ∧ len ≤ 536870912 ∧ ∀ i, i < len → ¬ 255 < cv A (o + i)
def E (a : Addr) (D : Cell) (fV fC : Field) (A : Cell) (o len : Nat) (r : Option Value) (s u : State) : Prop := Got a D fV fC A o len r s u
/-- len > 0, no char of the range above 255: a Latin-1 String of their low bytes -/
theorem law (l : Launch) (a : Addr) (D : Cell) (fV fC : Field) (b : Addr) (A : Cell) (z : Int32) (o len : Nat) : Law l yN 5 4 2 35 yB 6 none site (P a D fV fC b A z o len) (E a D fV fC A o len) [⟨a, fC.slot⟩, ⟨a, fV.slot⟩] 1 len := by
  refine Law.of_walk (plainFor_of_name (by decide +kernel)) (by decide +kernel) (by decide +kernel) (by decide) (fun _ _ h => by rw [h.1]; rfl) (fun _ U U' hal hh h => ⟨h.1, h.2.1.mv hal hh, h.2.2.1.al hal, h.2.2.2.1.al hal, h.2.2.2.2.1.mv hal hh, h.2.2.2.2.2.1.there hal hh, h.2.2.2.2.2.2⟩) (fun r U U' V V' h1 hal h2 h => Got.mv r U U' V V' h1 hal h2 h) ?_
  intro p e s m args below meth c s₁ X0 hexec hbytes hml hret hlk hnm hown hh0 W hP
  obtain ⟨rfl, hB, f1, f2, hA, s1, hz, l0, l1, l2, hp⟩ := hP
  have a31 := hA.1.2.2.2
  have c1 : Steps p.tables e below (s₁.setTop (entryFrame m #[.ref a, .ref b, .int (Int32.ofNat o), .int (Int32.ofNat len), .null] 6)) (s₁.setTop (mkF m 0 #[.val (.ref a), .val (.ref b), .val (.int (Int32.ofNat o)), .val (.int (Int32.ofNat len)), .val .null, .unset] [])) := entry rfl
  have c2 : Steps p.tables e below (s₁.setTop (entryFrame m #[.ref a, .ref b, .int (Int32.ofNat o), .int (Int32.ofNat len), .null] 6)) (s₁.setTop (mkF m 1 #[.val (.ref a), .val (.ref b), .val (.int (Int32.ofNat o)), .val (.int (Int32.ofNat len)), .val .null, .unset] [.ref a])) := c1.trans (by
    refine XS.aloadN X0.here hexec rfl (hb hbytes d0) rfl rfl ?_
    exact Steps.refl _)
  obtain ⟨T3, X3, q3, st3⟩ := X0.oinit hexec hown (wks W (objW "java/lang/String" 1)) (g := (mkF m 1 #[.val (.ref a), .val (.ref b), .val (.int (Int32.ofNat o)), .val (.int (Int32.ofNat len)), .val .null, .unset] [.ref a])) rfl (by rw [hml]; rfl) (rest := []) rfl (hb hbytes d1) (W := 0) (by show 2 * 0 + 0 ≤ _; decide) (Nat.le_of_ble_eq_true rfl) (Nat.le_of_ble_eq_true rfl)
  have hh3 := q3.trans hh0
  have c4 : Steps p.tables e below (s₁.setTop (entryFrame m #[.ref a, .ref b, .int (Int32.ofNat o), .int (Int32.ofNat len), .null] 6)) (T3.setTop (mkF m 27 #[.val (.ref a), .val (.ref b), .val (.int (Int32.ofNat o)), .val (.int (Int32.ofNat len)), .val .null, .unset] [])) := (c2.trans (st3 _ (Steps.refl _))).trans (by
    refine XS.iloadN X3.here hexec rfl (hb hbytes d4) rfl ?_
    refine XS.ifYes X3.here hexec rfl (pc0 := 5) rfl (hb hbytes d5) rfl (i0_ne_t (nz32 (by omega) l0)) (by decide) rfl ?_
    exact Steps.refl _)
  obtain ⟨T5, X5, q5, st5⟩ := X3.sget hexec hown (wk W (.fieldLink "java/lang/String" 38 "java/lang/String" "COMPACT_STRINGS" "Z")) s1 (fun _ _ h => by rw [hh3]; exact h) (g := (mkF m 27 #[.val (.ref a), .val (.ref b), .val (.int (Int32.ofNat o)), .val (.int (Int32.ofNat len)), .val .null, .unset] [])) rfl (hb hbytes d27)
  have hh5 := q5.trans hh3
  have c6 : Steps p.tables e below (s₁.setTop (entryFrame m #[.ref a, .ref b, .int (Int32.ofNat o), .int (Int32.ofNat len), .null] 6)) (T5.setTop (mkF m 30 #[.val (.ref a), .val (.ref b), .val (.int (Int32.ofNat o)), .val (.int (Int32.ofNat len)), .val .null, .unset] [.int z])) := c4.trans (st5 _ (Steps.refl _))
  have c7 : Steps p.tables e below (s₁.setTop (entryFrame m #[.ref a, .ref b, .int (Int32.ofNat o), .int (Int32.ofNat len), .null] 6)) (T5.setTop (mkF m 36 #[.val (.ref a), .val (.ref b), .val (.int (Int32.ofNat o)), .val (.int (Int32.ofNat len)), .val .null, .unset] [.int (Int32.ofNat len), .int (Int32.ofNat o), .ref b])) := c6.trans (by
    refine XS.ifNo X5.here hexec rfl (hb hbytes d30) rfl (i0_eq_f hz) ?_
    refine XS.aloadN X5.here hexec rfl (hb hbytes d33) rfl rfl ?_
    refine XS.iloadN X5.here hexec rfl (hb hbytes d34) rfl ?_
    refine XS.iloadN X5.here hexec rfl (hb hbytes d35) rfl ?_
    exact Steps.refl _)
  obtain ⟨v8, T8, X8, E8, g8⟩ := X5.callS hexec (Cmp3.law l b A o len) hown (wks W (staticW "java/lang/String" 177 Cmp3.yN)) (wk W Cmp3.tab) (W := 0) (Nat.le_of_ble_eq_true rfl) (Nat.le_of_ble_eq_true rfl) (Nat.le_refl _) (by show 0 + len ≤ len; omega) (g := (mkF m 36 #[.val (.ref a), .val (.ref b), .val (.int (Int32.ofNat o)), .val (.int (Int32.ofNat len)), .val .null, .unset] [.int (Int32.ofNat len), .int (Int32.ofNat o), .ref b])) rfl (by rw [hml]; rfl) c7 (argsL := [.ref b, .int (Int32.ofNat o), .int (Int32.ofNat len)]) (rest := []) rfl rfl (by show 2 * 0 + 0 ≤ _; decide) (hb hbytes d36) (⟨rfl, hA.mv X5.warmed.alike hh5, l1, l2, hp⟩)
  obtain ⟨e8, z8⟩ := E8
  obtain ⟨rfl, N, n1, n2, n3, n4, n5, n6⟩ := NewArr.mv _ T5 s _ _ hh5.symm (Vm.Alike.refl _) rfl e8
  rw [hh5] at z8
  have hB1 := hB.keep X8.warmed.alike (n6 _ _ hB.1)
  have hne : s.heap.size ≠ a := (Nat.ne_of_lt (Array.getElem?_eq_some_iff.mp hB.1).1).symm
  have c9 : Steps p.tables e below (s₁.setTop (entryFrame m #[.ref a, .ref b, .int (Int32.ofNat o), .int (Int32.ofNat len), .null] 6)) (T8.setTop (mkF m 39 #[.val (.ref a), .val (.ref b), .val (.int (Int32.ofNat o)), .val (.int (Int32.ofNat len)), .val .null, .unset] [.ref s.heap.size])) := g8
  have c10 : Steps p.tables e below (s₁.setTop (entryFrame m #[.ref a, .ref b, .int (Int32.ofNat o), .int (Int32.ofNat len), .null] 6)) (T8.setTop (mkF m 45 #[.val (.ref a), .val (.ref b), .val (.int (Int32.ofNat o)), .val (.int (Int32.ofNat len)), .val .null, .val (.ref s.heap.size)] [.int (Int32.ofNat N.slots.size), .ref s.heap.size, .ref a])) := by
    have hc : Steps p.tables e below (s₁.setTop (entryFrame m #[.ref a, .ref b, .int (Int32.ofNat o), .int (Int32.ofNat len), .null] 6)) (T8.setTop (mkF m 45 #[.val (.ref a), .val (.ref b), .val (.int (Int32.ofNat o)), .val (.int (Int32.ofNat len)), .val .null, .val (.ref s.heap.size)] [.int (Int32.ofNat len), .ref s.heap.size, .ref a])) := c9.trans (by
      refine XS.astore X8.here hexec rfl (hb hbytes d39) rfl rfl rfl ?_
      refine XS.aloadN X8.here hexec rfl (hb hbytes d41) rfl rfl ?_
      refine XS.aload X8.here hexec rfl (hb hbytes d42) rfl rfl ?_
      refine XS.iloadN X8.here hexec rfl (hb hbytes d44) rfl ?_
      exact Steps.refl _)
    rw [n4]; exact hc
  obtain ⟨v11, T11, X11, E11, g11⟩ := X8.callS hexec (CodL.law l s.heap.size N) hown (wks W (staticW "java/lang/String" 47 CodL.yN)) (wk W CodL.tab) (W := 1) (Nat.le_of_ble_eq_true rfl) (Nat.le_of_ble_eq_true rfl) (Nat.le_refl _) (by show 0 + len + 0 ≤ len; omega) (g := (mkF m 45 #[.val (.ref a), .val (.ref b), .val (.int (Int32.ofNat o)), .val (.int (Int32.ofNat len)), .val .null, .val (.ref s.heap.size)] [.int (Int32.ofNat N.slots.size), .ref s.heap.size, .ref a])) rfl (by rw [hml]; rfl) c10 (argsL := [.ref s.heap.size, .int (Int32.ofNat N.slots.size)]) (rest := [.ref a]) rfl rfl (by show 2 * 0 + (1 + 0) ≤ _; decide) (hb hbytes d45) (⟨rfl, n1⟩)
  obtain ⟨rfl, q11⟩ := E11
  have hB11 := hB1.mv (X8.warmed.alike.symm.trans X11.warmed.alike) q11
  have c12 : Steps p.tables e below (s₁.setTop (entryFrame m #[.ref a, .ref b, .int (Int32.ofNat o), .int (Int32.ofNat len), .null] 6)) (T11.setTop (mkF m 48 #[.val (.ref a), .val (.ref b), .val (.int (Int32.ofNat o)), .val (.int (Int32.ofNat len)), .val .null, .val (.ref s.heap.size)] [.int 0, .ref a])) := g11
  obtain ⟨T13, X13, p13, bl13, sl13, st13⟩ := X11.finit hexec hown (wk W (.fieldLink "java/lang/String" 15 "java/lang/String" "coder" "B")) (Or.inr ⟨_, (wk W (.laysFinal "java/lang/String" "java/lang/String" "coder" "B"))⟩) (Or.inl ⟨rfl, hnm⟩) f2 (Or.inl rfl) hB11 (t := .byte) (by decide +kernel) rfl (g := (mkF m 48 #[.val (.ref a), .val (.ref b), .val (.int (Int32.ofNat o)), .val (.int (Int32.ofNat len)), .val .null, .val (.ref s.heap.size)] [.int 0, .ref a])) rfl (rest := []) rfl (hb hbytes d48)
  have c14 : Steps p.tables e below (s₁.setTop (entryFrame m #[.ref a, .ref b, .int (Int32.ofNat o), .int (Int32.ofNat len), .null] 6)) (T13.setTop (mkF m 54 #[.val (.ref a), .val (.ref b), .val (.int (Int32.ofNat o)), .val (.int (Int32.ofNat len)), .val .null, .val (.ref s.heap.size)] [.ref s.heap.size, .ref a])) := (c12.trans (st13 _ (Steps.refl _))).trans (by
    refine XS.aloadN X13.here hexec rfl (hb hbytes d51) rfl rfl ?_
    refine XS.aload X13.here hexec rfl (hb hbytes d52) rfl rfl ?_
    exact Steps.refl _)
  obtain ⟨T15, X15, p15, bl15, sl15, st15⟩ := X13.finit hexec hown (wk W (.fieldLink "java/lang/String" 9 "java/lang/String" "value" "[B")) (Or.inr ⟨_, (wk W (.laysFinal "java/lang/String" "java/lang/String" "value" "[B"))⟩) (Or.inl ⟨rfl, hnm⟩) f1 (Or.inl rfl) bl13 (t := (.array .byte)) (by decide +kernel) rfl (g := (mkF m 54 #[.val (.ref a), .val (.ref b), .val (.int (Int32.ofNat o)), .val (.int (Int32.ofNat len)), .val .null, .val (.ref s.heap.size)] [.ref s.heap.size, .ref a])) rfl (rest := []) rfl (hb hbytes d54)
  have c16 : Steps p.tables e below (s₁.setTop (entryFrame m #[.ref a, .ref b, .int (Int32.ofNat o), .int (Int32.ofNat len), .null] 6)) (T15.setTop (mkF m 57 #[.val (.ref a), .val (.ref b), .val (.int (Int32.ofNat o)), .val (.int (Int32.ofNat len)), .val .null, .val (.ref s.heap.size)] [])) := c14.trans (st15 _ (Steps.refl _))
  have ap := apart (Or.inr ⟨_, (wk W (.laysFinal "java/lang/String" "java/lang/String" "value" "[B"))⟩) (Or.inr ⟨_, (wk W (.laysFinal "java/lang/String" "java/lang/String" "coder" "B"))⟩) f1 f2 (t₁ := .array .byte) (t₂ := .byte) (by decide +kernel) (by decide +kernel) (by decide)
  have al := X8.warmed.alike.symm.trans X15.warmed.alike
  have n7 : T11.heap[s.heap.size]? = some N := by rw [q11]; exact n1.1
  exact ⟨T15, none, _, _, _, X15, by simp, rfl, by omega, (fun _ => rfl), ⟨rfl, _, N, bl15, ((Same.refl D _).set _ (by simp)).set _ (by simp), sl15, (Cell.slots_setSlot_ne _ ap).trans sl13, n1.keep al (p15.other hne (p13.other hne n7)), n2, by rw [al.findClass]; exact n3, n4, n5, fun y c h1 h2 => p15.other h1 (p13.other h1 (by rw [q11]; exact n6 y c h2)), by rw [p15.2.2, p13.2.2, q11]; exact z8⟩, fun fs hl => c16.trans (X15.returnOut hexec hret (hb hbytes d57) hl)⟩
end New4
namespace New1
def yN : MethodName := ⟨"java/lang/String", "<init>", "([C)V"⟩
abbrev yB : ByteArray := jdk_42_method_3_code
theorem d0 : decode yB 0 = .ok (.aload_n 0, 1) := by decide +kernel
theorem d1 : decode yB 1 = .ok (.aload_n 1, 1) := by decide +kernel
theorem d2 : decode yB 2 = .ok (.iconst 0, 1) := by decide +kernel
theorem d3 : decode yB 3 = .ok (.aload_n 1, 1) := by decide +kernel
theorem d4 : decode yB 4 = .ok (.arraylength, 1) := by decide +kernel
theorem d5 : decode yB 5 = .ok (.aconst_null, 1) := by decide +kernel
theorem d6 : decode yB 6 = .ok (.invokespecial 27, 3) := by decide +kernel
theorem d9 : decode yB 9 = .ok (.return_, 1) := by decide +kernel
def site : List Cond := [New4.tab] ++ initW "java/lang/String" 27 New4.yN
def tab : Cond := tabOf yN yB 2 none site
def P (a : Addr) (D : Cell) (fV fC : Field) (b : Addr) (A : Cell) (z : Int32) (args : Array Value) (s : State) : Prop := args = #[.ref a, .ref b] ∧ Blank "java/lang/String" a D s ∧ Found "java/lang/String" "value" "[B" fV s ∧ Found "java/lang/String" "coder" "B" fC s ∧ Ch b A s ∧ StaticIs s "java/lang/String" "COMPACT_STRINGS" "Z" (.int z) ∧ ¬ z = 0 ∧ 0 < A.slots.size ∧ A.slots.size ≤ 536870912 ∧ ∀ i, i < A.slots.size → ¬ 255 < cv A i
def E (a : Addr) (D : Cell) (fV fC : Field) (A : Cell) (r : Option Value) (s u : State) : Prop := Got a D fV fC A 0 A.slots.size r s u
/-- new String(chars), not empty, no char above 255: a Latin-1 String of their low bytes -/
theorem law (l : Launch) (a : Addr) (D : Cell) (fV fC : Field) (b : Addr) (A : Cell) (z : Int32) : Law l yN 2 1 3 52 yB 2 none site (P a D fV fC b A z) (E a D fV fC A) [⟨a, fC.slot⟩, ⟨a, fV.slot⟩] 1 A.slots.size := by
  refine Law.of_walk (plainFor_of_name (by decide +kernel)) (by decide +kernel) (by decide +kernel) (by decide) (fun _ _ h => by rw [h.1]; rfl) (fun _ U U' hal hh h => ⟨h.1, h.2.1.mv hal hh, h.2.2.1.al hal, h.2.2.2.1.al hal, h.2.2.2.2.1.mv hal hh, h.2.2.2.2.2.1.there hal hh, h.2.2.2.2.2.2⟩) (fun r U U' V V' h1 hal h2 h => Got.mv r U U' V V' h1 hal h2 h) ?_
  intro p e s m args below meth c s₁ X0 hexec hbytes hml hret hlk hnm hown hh0 W hP
  obtain ⟨rfl, hB, f1, f2, hA, s1, hz, l0, l2, hp⟩ := hP
  have c1 : Steps p.tables e below (s₁.setTop (entryFrame m #[.ref a, .ref b] 2)) (s₁.setTop (mkF m 0 #[.val (.ref a), .val (.ref b)] [])) := entry rfl
  have c2 : Steps p.tables e below (s₁.setTop (entryFrame m #[.ref a, .ref b] 2)) (s₁.setTop (mkF m 6 #[.val (.ref a), .val (.ref b)] [.null, .int (Int32.ofNat A.slots.size), .int 0, .ref b, .ref a])) := c1.trans (by
    refine XS.aloadN X0.here hexec rfl (hb hbytes d0) rfl rfl ?_
    refine XS.aloadN X0.here hexec rfl (hb hbytes d1) rfl rfl ?_
    refine iconstV X0.here hexec rfl 0 (hb hbytes d2) (by decide) ?_
    refine XS.aloadN X0.here hexec rfl (hb hbytes d3) rfl rfl ?_
    refine X0.alen hexec (hA.1.mv X0.warmed.alike hh0) rfl rfl (hb hbytes d4) ?_
    refine XS.aconstNull X0.here hexec rfl (hb hbytes d5) ?_
    exact Steps.refl _)
  obtain ⟨v3, T3, X3, E3, g3⟩ := X0.callN hexec (New4.law l a D fV fC b A z 0 A.slots.size) rfl hown (wks W (initW "java/lang/String" 27 New4.yN)) (W New4.tab (by simp only [site, List.mem_cons, List.mem_append, true_or, or_true])) (W := 0) (Nat.le_of_ble_eq_true rfl) (Nat.le_of_ble_eq_true rfl) (Nat.le_refl _) (by show 0 + A.slots.size ≤ A.slots.size; omega) (g := (mkF m 6 #[.val (.ref a), .val (.ref b)] [.null, .int (Int32.ofNat A.slots.size), .int (Int32.ofNat 0), .ref b, .ref a])) rfl (by rw [hml]; rfl) c2 (argsL := [.ref b, .int (Int32.ofNat 0), .int (Int32.ofNat A.slots.size), .null]) (rest := []) rfl rfl (by show 2 * 0 + 0 ≤ _; decide) (hb hbytes d6) (⟨rfl, hB.mv X0.warmed.alike hh0, f1.al X0.warmed.alike, f2.al X0.warmed.alike, hA.mv X0.warmed.alike hh0, s1.there X0.warmed.alike hh0, hz, l0, by omega, l2, fun i hi => by rw [Nat.zero_add]; exact hp i hi⟩)
  have e0 := Got.mv _ s₁ s _ _ hh0.symm (Vm.Alike.refl _) rfl E3
  obtain rfl := e0.1
  have c4 : Steps p.tables e below (s₁.setTop (entryFrame m #[.ref a, .ref b] 2)) (T3.setTop (mkF m 9 #[.val (.ref a), .val (.ref b)] [])) := g3
  exact ⟨T3, none, _, _, _, X3, by simp, rfl, by omega, (fun _ => rfl), e0, fun fs hl => c4.trans (X3.returnOut hexec hret (hb hbytes d9) hl)⟩
theorem pays {l : Launch} {R : Room} {p : Program} {e : Env} {below : List Frame} {s : State} {sargs : Array Value} {len W : Nat} (a : Addr) (D : Cell) (fV fC : Field) (b : Addr) (A : Cell) (z : Int32) (htab : tab.before sargs s = true) (hfr : 4 ≤ R.frames) (hlo : W + 65 ≤ R.locals) :
    Back l R p e below s sargs yN len W (fun A₁ a₁ => A₁.cells + 1 ≤ R.cells ∧ A₁.slots + A.slots.size ≤ R.slots ∧ P a D fV fC b A z a₁ A₁.U) (fun A₁ _ v₁ B₁ => E a D fV fC A v₁ A₁.U B₁.U ∧ B₁.locs = A₁.locs ++ [⟨a, fC.slot⟩, ⟨a, fV.slot⟩] ∧ B₁.cells = A₁.cells + 1 ∧ B₁.slots = A₁.slots + A.slots.size) :=
  (law l a D fV fC b A z).pays htab hfr (by omega)
end New1
/-- the byte, read back as charAt reads it, is the char -/
theorem lo8_mask {x : Int32} (h0 : ¬ x < 0) (h1 : ¬ 255 < x) : lo8 x &&& 255 = x := by
  have t : ∀ k : Fin 256, lo8 (Int32.ofNat k.val) &&& 255 = Int32.ofNat k.val := by decide +kernel
  rw [Int32.lt_iff_toInt_lt] at h0 h1
  have e0 : (0 : Int32).toInt = 0 := rfl
  have e1 : (255 : Int32).toInt = 255 := rfl
  obtain ⟨k, hk⟩ : ∃ k : Nat, x.toInt = k := ⟨x.toInt.toNat, by omega⟩
  have hx : x = Int32.ofNat k := Int32.toInt_inj.mp (by rw [hk, Int32.toInt_ofNat_small (by omega)])
  rw [hx]
  exact t ⟨k, by omega⟩
end StrChars
namespace StrChars.Road
open Jvm Sem ClassFile Op Lib Jvm.Stand Jvm.Free Jvm.Free.XT
open Jvm.Lib.Cold (StaticIs)
abbrev ST : String := "java/lang/String"
/-- every table word that New1's law asks, flat -/
abbrev words : List Jvm.Cond := [.code New1.yN New1.yB 2 none, .initialized ST, .methodLink ST 27 New4.yN, .instanceMethod New4.yN,
  .code New4.yN New4.yB 6 none, .fieldLink ST 38 ST "COMPACT_STRINGS" "Z", .laysFinal ST ST "value" "[B", .fieldLink ST 9 ST "value" "[B", .laysFinal ST ST "coder" "B", .fieldLink ST 15 ST "coder" "B",
  .methodLink ST 1 Lib.objectInit, .instanceMethod Lib.objectInit, .code Lib.objectInit ⟨#[0xb1]⟩ 1 none, .methodLink ST 177 Cmp3.yN, .static Cmp3.yN, .methodLink ST 47 CodL.yN, .static CodL.yN,
  .code Cmp3.yN Cmp3.yB 6 (some (.array .byte)), .initialized U16, .arrayClass .byte, .methodLink U16 115 Cmp5.yN, .static Cmp5.yN, .code Cmp5.yN Cmp5.yB 7 (some .int), .code CodL.yN CodL.yB 2 (some .byte)]
theorem tab_of {a : Array Value} {s : State} (h : ∀ w ∈ words, w.before a s = true) : New1.tab.before a s = true := by
  have h5 : Cmp5.tab.before a s = true := unparts (wk h (.code Cmp5.yN Cmp5.yB 7 (some .int))) (wks h (.initialized Cmp5.yN.cls :: Cmp5.site))
  have hc : CodL.tab.before a s = true := unparts (wk h (.code CodL.yN CodL.yB 2 (some .byte))) (wks h (.initialized CodL.yN.cls :: CodL.site))
  have q5 : ∀ w ∈ Cmp5.tab :: words, w.before a s = true := fun w hw => (List.mem_cons.mp hw).elim (fun e => e ▸ h5) (h w)
  have h3 : Cmp3.tab.before a s = true := unparts (wk q5 (.code Cmp3.yN Cmp3.yB 6 (some (.array .byte)))) (wks q5 (.initialized Cmp3.yN.cls :: Cmp3.site))
  have q3 : ∀ w ∈ Cmp3.tab :: CodL.tab :: words, w.before a s = true := fun w hw => (List.mem_cons.mp hw).elim (fun e => e ▸ h3) fun hw => (List.mem_cons.mp hw).elim (fun e => e ▸ hc) (h w)
  have h4 : New4.tab.before a s = true := unparts (wk q3 (.code New4.yN New4.yB 6 none)) (wks q3 (.initialized New4.yN.cls :: New4.site))
  have q4 : ∀ w ∈ New4.tab :: words, w.before a s = true := fun w hw => (List.mem_cons.mp hw).elim (fun e => e ▸ h4) (h w)
  exact unparts (wk q4 (.code New1.yN New1.yB 2 none)) (wks q4 (.initialized New1.yN.cls :: New1.site))
/-- the words ride from the start Z to the walk's own state -/
theorem moved {Z s : State} {a0 args : Array Value} (hZ : Z.Warmed39 s.vm) (hw : ∀ d ∈ words, d.before a0 Z = true) : ∀ d ∈ words, d.before args s = true := fun d hd => by
  have q := hw d hd
  have t : ∀ d ∈ words, d = .arrayClass .byte ∨ (d.onTables && d.keepsFace) = true := by decide +kernel
  rcases t d hd with rfl | t
  · exact RoadKit.mvA hZ q
  · exact RoadKit.mv hZ q t
/-- WHAT COMES BACK, over the tables of the start Z: h the heap at the call, h' behind it -/
def Q (Z : State) (x : Addr) (A : Cell) (h : Heap) (v : Option Value) (h' : Heap) (L : List Loc) : Prop := v = none ∧ (∀ y ∈ L, y.base = x) ∧ RoadKit.Keep h h' [x] ∧ h'.size = h.size + 1 ∧ RoadKit.Exa Z h' x ST ∧ RoadKit.Fld Z h' x ST "value" "[B" (.ref h.size) ∧ RoadKit.Fld Z h' x ST "coder" "B" (.int 0) ∧
  (∃ V : Cell, RoadKit.Arr Z h' h.size V .byte ∧ V.vm = .none ∧ Z.vm.findClass "[B" = some V.cls ∧ V.slots.size = A.slots.size ∧ ∀ j, j < A.slots.size → V.slots[j]? = some (.int (lo8 (cv A j)))) ∧
  ∀ (O n d : String) (w : Value), RoadKit.Fld Z h x O n d w → RoadKit.slotOf Z O n d ≠ RoadKit.slotOf Z ST "value" "[B" → RoadKit.slotOf Z O n d ≠ RoadKit.slotOf Z ST "coder" "B" → RoadKit.Fld Z h' x O n d w
/-- **new String(chars) AT A CALL, IN THE ROAD'S FORM**: for specialBack behind newO: x the fresh String, b the char[] with the cell A -/
theorem back {p : Program} {l : Launch} {e : Env} {R : Room} {s : State} {args : Array Value} {below : List Frame} {len W : Nat} {Z : State} {a0 : Array Value} {h : Heap} (hZ : Z.Warmed39 s.vm) (hw : ∀ d ∈ words, d.before a0 Z = true) {kI : Nat} (wi : (Jvm.Cond.instantiable ST kI).before a0 Z = true)
    {x b : Addr} {A : Cell} {z : Int32} {v0 c0 : Value} (E : RoadKit.Exa Z h x ST) (V : RoadKit.Fld Z h x ST "value" "[B" v0) (C : RoadKit.Fld Z h x ST "coder" "B" c0) (K : RoadKit.Arr Z h b A .char) (hty : Typed .char A) (S : RoadKit.Sta Z h ST "COMPACT_STRINGS" "Z" (.int z)) (hz : ¬ z = 0)
    (l0 : 0 < A.slots.size) (l2 : A.slots.size ≤ 536870912) (hp : ∀ i, i < A.slots.size → ¬ 255 < cv A i) (hfr : 4 ≤ R.frames) (hlo : W + 65 ≤ R.locals) :
    Back l R p e below s args New1.yN len W (fun P a => a = #[.ref x, .ref b] ∧ P.U.heap = h ∧ P.cells + 1 ≤ R.cells ∧ P.slots + A.slots.size ≤ R.slots)
      (fun P _ v B => ∃ L, Q Z x A h v B.U.heap L ∧ B.locs = P.locs ++ L ∧ B.cells = P.cells + 1 ∧ B.slots = P.slots + A.slots.size) := by
  intro m meth c P g ig mk a X hg hsize hdg hW hn hp'
  obtain ⟨rfl, rfl, r1, r2⟩ := hp'
  have al : Z.vm.Alike P.U.vm := hZ.alike.trans X.warmed.alike
  obtain ⟨D, cfV, kV, iV, fV, hD, gV, stV, knV, obV, asV, slV⟩ := id V
  obtain ⟨D', cfC, kC, iC, fC, hD', gC, stC, -, -, asC, slC⟩ := id C
  cases hD.symm.trans hD'
  obtain ⟨D2, kD, e1, e2, e3, e4, e5⟩ := id E
  cases hD.symm.trans e1
  obtain ⟨c2, k2, i1, i2, i3, -⟩ := Cond.instantiable_spec wi
  cases e2.symm.trans i1
  cases e3.symm.trans i2
  obtain ⟨kU, u1, u2⟩ := al.2.2 _ _ e3
  have hB : Blank ST x D P.U := ⟨hD, ⟨knV, fun q hq => by rw [hq] at obV; cases obV⟩, by rw [al.findClass]; exact e2, kU, u1, by rw [u2]; exact i3, by rw [u2]; exact e5 i3⟩
  have F1 : Found ST "value" "[B" fV P.U := ⟨SBG.found_only al ⟨cfV, kV, iV, gV⟩, stV⟩
  have F2 : Found ST "coder" "B" fC P.U := ⟨SBG.found_only al ⟨cfC, kC, iC, gC⟩, stC⟩
  have hA : Ch b A P.U := ⟨⟨K.1, State.isArrayOf_alike al K.2.1, K.2.2, by omega⟩, hty⟩
  have hS : StaticIs P.U ST "COMPACT_STRINGS" "Z" (.int z) := by
    obtain ⟨cfS, iS, kS, fS, st, cS, t1, t2, t3, t4, t5, t6, t7⟩ := S
    exact StaticIs.there (s := { Z with heap := P.U.heap }) ⟨cfS, iS, kS, fS, st, cS, t1, t2, t3, t4, t5, (fun q => by rw [q] at t6; cases t6), t7⟩ al rfl
  obtain ⟨v, B, X', ⟨⟨hv, E', V', q1, q2, q3, q4, q5, q6, q7, q8, q9, q10, q11⟩, hl, hc, hs⟩, st⟩ := New1.pays x D fV fC b A z (tab_of (moved hZ hw)) hfr hlo m meth c P g ig mk _ X hg hsize hdg hW hn ⟨r1, r2, rfl, hB, F1, F2, hA, hS, hz, l0, l2, hp⟩
  have al' : Z.vm.Alike B.U.vm := hZ.alike.trans X'.warmed.alike
  have hsz : E'.slots.size = D.slots.size := by
    obtain ⟨-, -, -, kB, w1, w2, w3⟩ := q1
    obtain ⟨kB', y1, y2⟩ := al'.2.2 _ _ e3
    rw [q2.2.1] at w1
    cases w1.symm.trans y1
    rw [w3, e5 i3, y2]
  refine ⟨v, B, X', ⟨_, ⟨hv, ?_, ⟨by omega, fun y cy hy hn' => q10 y cy (by simpa using hn') hy, fun y cy hy => ?_⟩, q11, ⟨E', _, q1.1, by rw [q2.2.1]; exact e2, by rw [q2.2.1]; exact e3, by rw [q2.1]; exact obV, fun _ => by rw [hsz]; exact e5 i3⟩,
    ⟨E', cfV, kV, iV, fV, q1.1, gV, stV, by rw [q2.1]; exact knV, by rw [q2.1]; exact obV, by rw [q2.2.1]; exact asV, q3⟩, ⟨E', cfC, kC, iC, fC, q1.1, gC, stC, by rw [q2.1]; exact knV, by rw [q2.1]; exact obV, by rw [q2.2.1]; exact asC, q4⟩,
    ⟨V', ⟨q5.1, State.isArrayOf_alike al'.symm q5.2.1, q5.2.2.1⟩, q6, by rw [← al'.findClass]; exact q7, q8, fun j hj => by have := q9 j hj; rwa [Nat.zero_add] at this⟩, fun O n d w F n1 n2 => ?_⟩, hl, hc, hs⟩, st⟩
  · intro y hy
    simp only [List.mem_cons, List.not_mem_nil, or_false] at hy
    rcases hy with rfl | rfl <;> rfl
  · by_cases q : y = x
    · subst q
      cases hD.symm.trans hy
      exact ⟨E', q1.1, q2.2.1, q2.1, hsz⟩
    · exact ⟨cy, q10 y cy q hy, rfl, rfl, rfl⟩
  · obtain ⟨D3, cf, k, i, f, g1, g2, g3, g4, g5, g6, g7⟩ := F
    cases hD.symm.trans g1
    simp only [RoadKit.slotOf, g2, gV, gC, Option.map_some, Option.getD_some] at n1 n2
    exact ⟨E', cf, k, i, f, q1.1, g2, g3, by rw [q2.1]; exact g4, by rw [q2.1]; exact g5, by rw [q2.2.1]; exact g6, by rw [q2.2.2 f.slot (by simp [n1, n2])]; exact g7⟩
end StrChars.Road
namespace StrChars.Road
open Jvm Sem ClassFile Op Lib Jvm.Stand Jvm.Free Jvm.Free.XT
/-- WHAT COMES BACK, the byte[] as a list of values -/
def QA (Z : State) (x : Addr) (zn : Int32) (cs : List Int32) (h : Heap) (v : Option Value) (h' : Heap) (L : List Loc) : Prop := v = none ∧ (∀ y ∈ L, y.base = x) ∧ RoadKit.Keep h h' [x] ∧ h'.size = h.size + 1 ∧ RoadKit.Exa Z h' x ST ∧ RoadKit.Fld Z h' x ST "value" "[B" (.ref h.size) ∧ RoadKit.Fld Z h' x ST "coder" "B" (.int 0) ∧
  (∃ kb, Z.vm.findClass "[B" = some kb ∧ RoadKit.Arv Z h' h.size kb .byte zn (cs.map fun c => .int (lo8 c)) (.int 0)) ∧
  ∀ (O n d : String) (w : Value), RoadKit.Fld Z h x O n d w → RoadKit.slotOf Z O n d ≠ RoadKit.slotOf Z ST "value" "[B" → RoadKit.slotOf Z O n d ≠ RoadKit.slotOf Z ST "coder" "B" → RoadKit.Fld Z h' x O n d w
/-- **new String(chars) AT A CALL, THE ARRAYS AS LISTS**: the char[] at b holds cs, not empty, no char above 255 -/
theorem backArv {p : Program} {l : Launch} {e : Env} {R : Room} {s : State} {args : Array Value} {below : List Frame} {len W : Nat} {Z : State} {a0 : Array Value} {h : Heap} (hZ : Z.Warmed39 s.vm) (hw : ∀ d ∈ words, d.before a0 Z = true) {kI : Nat} (wi : (Jvm.Cond.instantiable ST kI).before a0 Z = true)
    {x b : Addr} {k : ClassId} {zn z : Int32} {cs : List Int32} {dv v0 c0 : Value} (E : RoadKit.Exa Z h x ST) (V : RoadKit.Fld Z h x ST "value" "[B" v0) (C : RoadKit.Fld Z h x ST "coder" "B" c0) (K : RoadKit.Arv Z h b k .char zn (cs.map Value.int) dv) (S : RoadKit.Sta Z h ST "COMPACT_STRINGS" "Z" (.int z)) (hz : ¬ z = 0)
    (hlen : zn.toNatClampNeg = cs.length) (h0 : 0 < cs.length) (hbig : cs.length ≤ 536870912) (hall : ∀ c ∈ cs, ¬ 255 < c) (hfr : 4 ≤ R.frames) (hlo : W + 65 ≤ R.locals) :
    Back l R p e below s args New1.yN len W (fun P a => a = #[.ref x, .ref b] ∧ P.U.heap = h ∧ P.cells + 1 ≤ R.cells ∧ P.slots + cs.length ≤ R.slots)
      (fun P _ v B => ∃ L, QA Z x zn cs h v B.U.heap L ∧ B.locs = P.locs ++ L ∧ B.cells = P.cells + 1 ∧ B.slots = P.slots + cs.length) := by
  obtain ⟨A, K1, K2, K3, K4, K5, K6⟩ := K
  have e : A.slots.size = cs.length := K3.trans hlen
  have hat : ∀ (i : Nat) (hi : i < cs.length), A.slots[i]? = some (.int cs[i]) := fun i hi => by rw [K5 i (by omega)]; simp [List.getD_eq_getElem?_getD, hi]
  have hcv : ∀ (i : Nat) (hi : i < cs.length), cv A i = cs[i] := fun i hi => by unfold cv; rw [hat i hi]
  have hty : Typed .char A := fun i v hv => by
    have hi : i < A.slots.size := (Array.getElem?_eq_some_iff.mp hv).1
    have q := K5 i hi
    rw [hv] at q
    rw [Option.some.inj q]
    exact K6 i hi
  refine Back.mono (back hZ hw wi E V C K1 hty S hz (by omega) (by omega) (fun i hi => by rw [hcv i (by omega)]; exact hall _ (List.getElem_mem _)) hfr hlo) (fun P a hp => ⟨hp.1, hp.2.1, hp.2.2.1, by rw [e]; exact hp.2.2.2⟩) (fun P a v B hp hq => ?_)
  obtain ⟨L, ⟨q1, q2, q3, q4, q5, q6, q7, ⟨V', v1, v2, v3, v4, v5⟩, q9⟩, hl, hc, hs⟩ := hq
  refine ⟨L, ⟨q1, q2, q3, q4, q5, q6, q7, ⟨V'.cls, v3, V', v1, rfl, by rw [v4, e, hlen], K4, fun i hi => ?_, fun i hi => ?_⟩, q9⟩, hl, hc, by rw [hs, e]⟩
  · have hi' : i < cs.length := by omega
    rw [v5 i (by omega), hcv i hi']; simp [List.getD_eq_getElem?_getD, hi']
  · have hi' : i < cs.length := by omega
    simp only [List.getD_eq_getElem?_getD, List.getElem?_map, List.getElem?_eq_getElem hi', Option.map_some, Option.getD_some]
    exact fits_lo8 _
end StrChars.Road
namespace StrChars.Road
open Jvm Sem ClassFile Op Lib Jvm.Stand Jvm.Free Jvm.Free.XT
/-- WHAT COMES BACK, in the writer's own shape -/
def QV (Z : State) (x : Addr) (N : Int32) (bs : List Int32) (h : Heap) (n0 : Nat) (v : Option Value) (h' : Heap) (L : List Loc) : Prop := v = none ∧ RoadKit.Fr n0 L ∧ RoadKit.Keep h h' [x] ∧ RoadKit.Exa Z h' x ST ∧ RoadKit.Fld Z h' x ST "coder" "B" (.int 0) ∧
  ∃ (t : Addr) (kb : ClassId), n0 ≤ t ∧ h.size ≤ t ∧ ¬ t = x ∧ RoadKit.Fld Z h' x ST "value" "[B" (.ref t) ∧ RoadKit.Arv Z h' t kb .byte N (bs.map Value.int) (.int 0)
/-- **new String(chars) AT A CALL, FOR THE WRITER**: a char[] of n known ints, each 0 to 255 -/
theorem backV {p : Program} {l : Launch} {e : Env} {R : Room} {s : State} {args : Array Value} {below : List Frame} {len W : Nat} {Z : State} {a0 : Array Value} {h : Heap} (hZ : Z.Warmed39 s.vm) (hw : ∀ d ∈ words, d.before a0 Z = true) {kI : Nat} (wi : (Jvm.Cond.instantiable ST kI).before a0 Z = true)
    {x b : Addr} {kC : ClassId} {cs bs : List Int32} {d v0 c0 : Value} {z N : Int32} {n n0 : Nat} (hx0 : n0 ≤ x) (hh0 : n0 ≤ h.size) (E : RoadKit.Exa Z h x ST) (V : RoadKit.Fld Z h x ST "value" "[B" v0) (C : RoadKit.Fld Z h x ST "coder" "B" c0) (K : RoadKit.Arv Z h b kC .char N (cs.map Value.int) d) (S : RoadKit.Sta Z h ST "COMPACT_STRINGS" "Z" (.int z)) (hz : ¬ z = 0)
    (hn : cs.length = n) (hN : N = Int32.ofNat n) (l0 : 0 < n) (l2 : n ≤ 4000) (hp : ∀ c ∈ cs, ¬ c < 0 ∧ ¬ (255 : Int32) < c) (hb : bs = cs.map (fun c => c.toInt8.toInt32)) (hfr : 4 ≤ R.frames) (hlo : W + 65 ≤ R.locals) :
    Back l R p e below s args (⟨"java/lang/String", "<init>", "([C)V"⟩ : MethodName) len W (fun P a => a = #[.ref x, .ref b] ∧ P.U.heap = h ∧ P.cells + 1 ≤ R.cells ∧ P.slots + n ≤ R.slots)
      (fun P _ v B => ∃ L, QV Z x N bs h n0 v B.U.heap L ∧ B.locs = P.locs ++ L ∧ B.cells = P.cells + 1 ∧ B.slots = P.slots + n) := by
  subst hn hN hb
  refine Back.mono (backArv hZ hw wi E V C K S hz (n32 (by omega)) l0 (by omega) (fun c hc => (hp c hc).2) hfr hlo) (fun P a hp => hp) (fun P a v B hp hq => ?_)
  obtain ⟨L, ⟨q1, q2, q3, q4, q5, q6, q7, ⟨kb, v1, v2⟩, q9⟩, hl, hc, hs⟩ := hq
  exact ⟨L, ⟨q1, fun y hy => by rw [q2 y hy]; exact hx0, q3, q5, q7, h.size, kb, hh0, Nat.le_refl _, Nat.ne_of_gt E.lt, q6, by rw [List.map_map]; exact v2⟩, hl, hc, hs⟩
end StrChars.Road
namespace StrChars
open Jvm Sem ClassFile Op Lib Jvm.Stand Jvm.Free.XT Jvm.Free.ALB Jvm.Free.JM Jvm.Free
open Jvm.Lib.Cold (StaticIs)
def hi8 (x : Int32) : Int32 := lo8 (x >>> ((8 : Int32) &&& 31))
/-- what StringUTF16.getChar makes of two bytes -/
def pairCh (u v : Int32) : Int32 := (((u &&& 255) <<< ((0 : Int32) &&& 31)) ||| ((v &&& 255) <<< ((8 : Int32) &&& 31))).toUInt32.toUInt16.toUInt32.toInt32
theorem shr0 (c : Int32) : c >>> ((0 : Int32) &&& 31) = c := by
  have e : ((0 : Int32) &&& 31) = 0 := by decide
  rw [e]
  apply Int32.toBitVec_inj.mp
  rw [Int32.toBitVec_shiftRight]
  have e1 : ((0 : Int32).toBitVec.smod 32) = 0#32 := by decide
  rw [e1, BitVec.sshiftRight_eq']
  exact BitVec.sshiftRight_zero
theorem lo8_and (x : Int32) : (lo8 x &&& 255).toBitVec.toNat = x.toBitVec.toNat % 256 := by
  have h : (lo8 x).toBitVec = (x.toBitVec.signExtend 8).signExtend 32 := by rw [lo8, Int8.toBitVec_toInt32, Int32.toBitVec_toInt8]
  rw [Int32.toBitVec_and, BitVec.toNat_and, h]
  have e : ((x.toBitVec.signExtend 8).signExtend 32).toNat % 256 = x.toBitVec.toNat % 256 := by
    rw [BitVec.toNat_signExtend]
    have hlt := x.toBitVec.isLt
    simp only [BitVec.toNat_setWidth, BitVec.toNat_signExtend]
    split <;> split <;> omega
  rw [← e]
  exact Nat.and_two_pow_sub_one_eq_mod _ 8
theorem pair_says {c : Int32} (h0 : ¬ c < 0) (h1 : ¬ 65535 < c) : pairCh (lo8 c) (hi8 c) = c := by
  rw [Int32.lt_iff_toInt_lt] at h0 h1
  have e0 : (0 : Int32).toInt = 0 := rfl
  have e1 : (65535 : Int32).toInt = 65535 := rfl
  have hc : c.toInt = c.toBitVec.toNat := by
    have := c.toBitVec.isLt
    have e : c.toInt = c.toBitVec.toInt := rfl
    rw [e] at h0 h1
    rw [e]
    rw [BitVec.toInt_eq_toNat_cond] at h0 h1 ⊢
    split at h0 <;> split <;> omega
  have hn : c.toBitVec.toNat < 65536 := by omega
  have a1 := lo8_and c
  have a2 : (hi8 c &&& 255).toBitVec.toNat = c.toBitVec.toNat / 256 := by
    rw [hi8, lo8_and]
    have e : ((8 : Int32) &&& 31) = 8 := by decide
    rw [e, Int32.toBitVec_shiftRight]
    have e2 : ((8 : Int32).toBitVec.smod 32) = 8#32 := by decide
    rw [e2, BitVec.sshiftRight_eq', BitVec.toNat_sshiftRight_of_msb_false (by rw [BitVec.msb_eq_false_iff_two_mul_lt]; omega)]
    show c.toBitVec.toNat >>> 8 % 256 = _
    rw [Nat.shiftRight_eq_div_pow]
    omega
  unfold pairCh
  apply Int32.toBitVec_inj.mp
  apply BitVec.eq_of_toNat_eq
  have f0 : ((0 : Int32) &&& 31) = 0 := by decide
  have f8 : ((8 : Int32) &&& 31) = 8 := by decide
  rw [f0, f8]
  have g : (((lo8 c &&& 255) <<< (0 : Int32)) ||| ((hi8 c &&& 255) <<< (8 : Int32))).toBitVec.toNat = c.toBitVec.toNat := by
    rw [Int32.toBitVec_or, Int32.toBitVec_shiftLeft, Int32.toBitVec_shiftLeft]
    have s0 : ((0 : Int32).toBitVec.smod 32) = 0#32 := by decide
    have s8 : ((8 : Int32).toBitVec.smod 32) = 8#32 := by decide
    rw [s0, s8, BitVec.toNat_or]
    simp only [BitVec.shiftLeft_eq', BitVec.toNat_shiftLeft, a1, a2]
    show (c.toBitVec.toNat % 256) <<< 0 % 2 ^ 32 ||| (c.toBitVec.toNat / 256) <<< 8 % 2 ^ 32 = _
    rw [Nat.shiftLeft_zero, Nat.mod_eq_of_lt (show c.toBitVec.toNat % 256 < 2 ^ 32 by omega), Nat.mod_eq_of_lt (show (c.toBitVec.toNat / 256) <<< 8 < 2 ^ 32 by rw [Nat.shiftLeft_eq]; omega), Nat.or_comm, ← Nat.shiftLeft_add_eq_or_of_lt (by omega), Nat.shiftLeft_eq]
    omega
  show BitVec.toNat (((((lo8 c &&& 255) <<< (0 : Int32)) ||| ((hi8 c &&& 255) <<< (8 : Int32))).toBitVec.setWidth 16).setWidth 32) = _
  rw [BitVec.toNat_setWidth, BitVec.toNat_setWidth, g]
  omega
end StrChars
namespace StrChars
open Jvm Sem ClassFile Op Lib Jvm.Stand Jvm.Free.XT Jvm.Free.ALB Jvm.Free.JM Jvm.Free
open Jvm.Lib.Cold (StaticIs)
theorem shr1 {n : Nat} (h : 2 * n < 2 ^ 31) : Int32.ofNat (2 * n) >>> ((1 : Int32) &&& 31) = Int32.ofNat n := by
  have e : ((1 : Int32) &&& 31) = 1 := by decide
  rw [e]
  apply Int32.toBitVec_inj.mp
  rw [Int32.toBitVec_shiftRight]
  have e1 : ((1 : Int32).toBitVec.smod 32) = 1#32 := by decide
  have hm : (BitVec.ofNat 32 (2 * n)).toNat = 2 * n := by rw [BitVec.toNat_ofNat, Nat.mod_eq_of_lt (by omega)]
  rw [e1, BitVec.sshiftRight_eq']
  apply BitVec.eq_of_toNat_eq
  show ((BitVec.ofNat 32 (2 * n)).sshiftRight 1).toNat = (BitVec.ofNat 32 n).toNat
  rw [BitVec.toNat_sshiftRight_of_msb_false (by rw [BitVec.msb_eq_false_iff_two_mul_lt, hm]; omega), hm, BitVec.toNat_ofNat, Nat.shiftRight_eq_div_pow]
  omega
/-- charAt's cast of a byte read back -/
def chr8 (u : Int32) : Int32 := (u &&& 255).toUInt32.toUInt16.toUInt32.toInt32
theorem chr8_lo8 {c : Int32} (h0 : ¬ c < 0) (h1 : ¬ 255 < c) : chr8 (lo8 c) = c := by
  have t : ∀ k : Fin 256, (Int32.ofNat k.val).toUInt32.toUInt16.toUInt32.toInt32 = Int32.ofNat k.val := by decide +kernel
  unfold chr8
  rw [lo8_mask h0 h1]
  rw [Int32.lt_iff_toInt_lt] at h0 h1
  have e0 : (0 : Int32).toInt = 0 := rfl
  have e1 : (255 : Int32).toInt = 255 := rfl
  obtain ⟨k, hk⟩ : ∃ k : Nat, c.toInt = k := ⟨c.toInt.toNat, by omega⟩
  have hx : c = Int32.ofNat k := Int32.toInt_inj.mp (by rw [hk, Int32.toInt_ofNat_small (by omega)])
  rw [hx]
  exact t ⟨k, by omega⟩
theorem narrow_ch {c : Int32} (h0 : ¬ c < 0) (h1 : ¬ 65535 < c) : narrow .char (.int c) = .int c := by
  have q : narrow .char (.int (pairCh (lo8 c) (hi8 c))) = .int (pairCh (lo8 c) (hi8 c)) := narrow_c _
  rwa [pair_says h0 h1] at q
/-- the array's cell V codes the n chars f 0 .. f (n - 1) by the coder cd, as the JDK does: coder 1 just where some char is above 255 -/
def Cod (cd : Int32) (n : Nat) (f : Nat → Int32) (V : Cell) : Prop := (cd = 0 ∧ V.slots.size = n ∧ ∀ j, j < n → V.slots[j]? = some (.int (lo8 (f j))) ∧ ¬ 255 < f j) ∨ (cd = 1 ∧ V.slots.size = 2 * n ∧ (∀ j, j < n → V.slots[2 * j]? = some (.int (lo8 (f j))) ∧ V.slots[2 * j + 1]? = some (.int (hi8 (f j)))) ∧ ∃ j, j < n ∧ 255 < f j)
theorem Cod.cd {cd : Int32} {n : Nat} {f : Nat → Int32} {V : Cell} (h : Cod cd n f V) : cd = 0 ∨ cd = 1 := h.imp (fun q => q.1) fun q => q.1
theorem Cod.len {cd : Int32} {n : Nat} {f : Nat → Int32} {V : Cell} (h : Cod cd n f V) (hs : V.slots.size < 2 ^ 31) : Int32.ofNat V.slots.size >>> (cd &&& 31) = Int32.ofNat n := by
  rcases h with ⟨rfl, h, -⟩ | ⟨rfl, h, -⟩
  · rw [shr0, h]
  · rw [h, shr1 (by omega)]
/-- **x is a String of the n chars f 0 .. f (n - 1)**, Latin-1 or UTF-16; its array at t has the cell V -/
def Txt (x t : Addr) (V : Cell) (cd : Int32) (n : Nat) (f : Nat → Int32) (U : State) : Prop := Exact "java/lang/String" x U ∧ Has x "java/lang/String" "value" "[B" (.ref t) U ∧ Has x "java/lang/String" "coder" "B" (.int cd) U ∧ XT.Arr .byte t V U ∧ Cod cd n f V ∧ ∀ j, j < n → ¬ f j < 0 ∧ ¬ 65535 < f j
theorem Txt.mv {x t : Addr} {V : Cell} {cd : Int32} {n : Nat} {f : Nat → Int32} {U U' : State} (h : Txt x t V cd n f U) (hal : U.vm.Alike U'.vm) (hh : U'.heap = U.heap) : Txt x t V cd n f U' := ⟨h.1.mv hal hh, h.2.1.mv hal hh, h.2.2.1.mv hal hh, h.2.2.2.1.mv hal hh, h.2.2.2.2⟩
namespace Cdr
def yN : MethodName := ⟨"java/lang/String", "coder", "()B"⟩
abbrev yB : ByteArray := jdk_42_method_152_code
theorem d0 : decode yB 0 = .ok (.getstatic 38, 3) := by decide +kernel
theorem d3 : decode yB 3 = .ok (.ifCond (.eq) 10, 3) := by decide +kernel
theorem d6 : decode yB 6 = .ok (.aload_n 0, 1) := by decide +kernel
theorem d7 : decode yB 7 = .ok (.getfield 15, 3) := by decide +kernel
theorem d10 : decode yB 10 = .ok (.goto 4, 3) := by decide +kernel
theorem d14 : decode yB 14 = .ok (.ireturn, 1) := by decide +kernel
def site : List Cond := [.fieldLink "java/lang/String" 38 "java/lang/String" "COMPACT_STRINGS" "Z", .fieldLink "java/lang/String" 15 "java/lang/String" "coder" "B"]
def tab : Cond := tabOf yN yB 1 (some .byte) site
def P (x : Addr) (cd z : Int32) (args : Array Value) (s : State) : Prop := args = #[.ref x] ∧ Has x "java/lang/String" "coder" "B" (.int cd) s ∧ (cd = 0 ∨ cd = 1) ∧ StaticIs s "java/lang/String" "COMPACT_STRINGS" "Z" (.int z) ∧ ¬ z = 0
def E (cd : Int32) (r : Option Value) (s u : State) : Prop := XT.PureE (some (.int cd)) r s u
theorem law (l : Launch) (x : Addr) (cd z : Int32) : Law l yN 1 0 0 0 yB 1 (some .byte) site (P x cd z) (E cd) [] 0 0 := by
  refine Law.of_walk (plainFor_of_name (by decide +kernel)) (by decide +kernel) (by decide +kernel) (by decide) (fun _ _ h => by rw [h.1]; rfl) (fun _ U U' hal hh h => ⟨h.1, h.2.1.mv hal hh, h.2.2.1, h.2.2.2.1.there hal hh, h.2.2.2.2⟩) (fun r U U' V V' h1 hal h2 h => XT.PureE.mv r U U' V V' h1 hal h2 h) ?_
  intro p e s m args below meth c s₁ X0 hexec hbytes hml hret hlk hnm hown hh0 W hP
  obtain ⟨rfl, hx, hc, s1, hz⟩ := hP
  have c1 : Steps p.tables e below (s₁.setTop (entryFrame m #[.ref x] 1)) (s₁.setTop (mkF m 0 #[.val (.ref x)] [])) := entry rfl
  obtain ⟨T2, X2, q2, st2⟩ := X0.sget hexec hown (wk W (.fieldLink "java/lang/String" 38 "java/lang/String" "COMPACT_STRINGS" "Z")) s1 (fun _ _ h => by rw [hh0]; exact h) (g := (mkF m 0 #[.val (.ref x)] [])) rfl (hb hbytes d0)
  have hh2 := q2.trans hh0
  have c3 : Steps p.tables e below (s₁.setTop (entryFrame m #[.ref x] 1)) (T2.setTop (mkF m 7 #[.val (.ref x)] [.ref x])) := (c1.trans (st2 _ (Steps.refl _))).trans (by
    refine XS.ifNo X2.here hexec rfl (hb hbytes d3) rfl (i0_eq_f hz) ?_
    refine XS.aloadN X2.here hexec rfl (hb hbytes d6) rfl rfl ?_
    exact Steps.refl _)
  obtain ⟨T4, X4, q4, st4⟩ := X2.hget hexec hown (wk W (.fieldLink "java/lang/String" 15 "java/lang/String" "coder" "B")) (hx.mv X2.warmed.alike hh2) (g := (mkF m 7 #[.val (.ref x)] [.ref x])) rfl (rest := []) rfl (hb hbytes d7)
  have c5 : Steps p.tables e below (s₁.setTop (entryFrame m #[.ref x] 1)) (T4.setTop (mkF m 14 #[.val (.ref x)] [.int cd])) := (c3.trans (st4 _ (Steps.refl _))).trans (by
    refine XS.goto X4.here hexec rfl (pc0 := 10) rfl (hb hbytes d10) (by decide) rfl ?_
    exact Steps.refl _)
  exact ⟨T4, some (.int cd), _, _, _, X4, rfl, rfl, rfl, (fun h => by cases h), ⟨rfl, q4.trans hh2⟩, fun fs hl => c5.trans (X4.ireturnOut hexec hret (by rcases hc with rfl | rfl <;> rfl) (Or.inr (Or.inr (Or.inl rfl))) (hb hbytes d14) hl)⟩
end Cdr
namespace Len
def yN : MethodName := ⟨"java/lang/String", "length", "()I"⟩
abbrev yB : ByteArray := jdk_42_method_54_code
theorem d0 : decode yB 0 = .ok (.aload_n 0, 1) := by decide +kernel
theorem d1 : decode yB 1 = .ok (.getfield 9, 3) := by decide +kernel
theorem d4 : decode yB 4 = .ok (.arraylength, 1) := by decide +kernel
theorem d5 : decode yB 5 = .ok (.aload_n 0, 1) := by decide +kernel
theorem d6 : decode yB 6 = .ok (.invokevirtual 335, 3) := by decide +kernel
theorem d9 : decode yB 9 = .ok (.ishr, 1) := by decide +kernel
theorem d10 : decode yB 10 = .ok (.ireturn, 1) := by decide +kernel
def site : List Cond := [.fieldLink "java/lang/String" 9 "java/lang/String" "value" "[B", Cdr.tab] ++ virtW "java/lang/String" 335 "java/lang/String" Cdr.yN Cdr.yN
def tab : Cond := tabOf yN yB 1 (some .int) site
def P (x t : Addr) (V : Cell) (cd : Int32) (n : Nat) (f : Nat → Int32) (z : Int32) (args : Array Value) (s : State) : Prop := args = #[.ref x] ∧ Txt x t V cd n f s ∧ StaticIs s "java/lang/String" "COMPACT_STRINGS" "Z" (.int z) ∧ ¬ z = 0
def E (n : Nat) (r : Option Value) (s u : State) : Prop := XT.PureE (some (.int (Int32.ofNat n))) r s u
/-- length() of a String of n chars, in either coding -/
theorem law (l : Launch) (x t : Addr) (V : Cell) (cd : Int32) (n : Nat) (f : Nat → Int32) (z : Int32) : Law l yN 1 0 1 13 yB 1 (some .int) site (P x t V cd n f z) (E n) [] 0 0 := by
  refine Law.of_walk (plainFor_of_name (by decide +kernel)) (by decide +kernel) (by decide +kernel) (by decide) (fun _ _ h => by rw [h.1]; rfl) (fun _ U U' hal hh h => ⟨h.1, h.2.1.mv hal hh, h.2.2.1.there hal hh, h.2.2.2⟩) (fun r U U' V V' h1 hal h2 h => XT.PureE.mv r U U' V V' h1 hal h2 h) ?_
  intro p e s m args below meth c s₁ X0 hexec hbytes hml hret hlk hnm hown hh0 W hP
  obtain ⟨rfl, hx, s1, hz⟩ := hP
  have v31 := hx.2.2.2.1.2.2.2
  have c1 : Steps p.tables e below (s₁.setTop (entryFrame m #[.ref x] 1)) (s₁.setTop (mkF m 1 #[.val (.ref x)] [.ref x])) := Steps.trans (entry rfl) (by
    show Steps p.tables e below (s₁.setTop (mkF m 0 #[.val (.ref x)] [])) _
    refine XS.aloadN X0.here hexec rfl (hb hbytes d0) rfl rfl ?_
    exact Steps.refl _)
  obtain ⟨T2, X2, q2, st2⟩ := X0.hget hexec hown (wk W (.fieldLink "java/lang/String" 9 "java/lang/String" "value" "[B")) (hx.mv X0.warmed.alike hh0).2.1 (g := (mkF m 1 #[.val (.ref x)] [.ref x])) rfl (rest := []) rfl (hb hbytes d1)
  have hh2 := q2.trans hh0
  have hx2 := hx.mv X2.warmed.alike hh2
  have c3 : Steps p.tables e below (s₁.setTop (entryFrame m #[.ref x] 1)) (T2.setTop (mkF m 6 #[.val (.ref x)] [.ref x, .int (Int32.ofNat V.slots.size)])) := (c1.trans (st2 _ (Steps.refl _))).trans (by
    refine X2.alen hexec hx2.2.2.2.1 rfl rfl (hb hbytes d4) ?_
    refine XS.aloadN X2.here hexec rfl (hb hbytes d5) rfl rfl ?_
    exact Steps.refl _)
  obtain ⟨v4, T4, X4, E4, g4⟩ := X2.callV hexec (Cdr.law l x cd z) hown (wks W (virtW "java/lang/String" 335 "java/lang/String" Cdr.yN Cdr.yN)) rfl (by decide) (wk W Cdr.tab) (W := 1) (Nat.le_of_ble_eq_true rfl) (Nat.le_of_ble_eq_true rfl) (Nat.le_refl _) (Nat.le_refl _) (hx2.1.fc X2.warmed.alike) hx2.1.is (g := (mkF m 6 #[.val (.ref x)] [.ref x, .int (Int32.ofNat V.slots.size)])) rfl (by rw [hml]; rfl) c3 (argsL := []) (rest := [.int (Int32.ofNat V.slots.size)]) rfl rfl (by show 2 * 0 + (1 + 0) ≤ _; decide) (hb hbytes d6) (⟨rfl, hx2.2.2.1, hx.2.2.2.2.1.cd, s1.there X2.warmed.alike hh2, hz⟩)
  obtain ⟨rfl, q4⟩ := E4
  have c5 : Steps p.tables e below (s₁.setTop (entryFrame m #[.ref x] 1)) (T4.setTop (mkF m 10 #[.val (.ref x)] [.int (Int32.ofNat V.slots.size >>> (cd &&& 31))])) := Steps.trans g4 (by
    refine ishr X4.here hexec rfl (hb hbytes d9) rfl ?_
    exact Steps.refl _)
  rw [hx.2.2.2.2.1.len v31] at c5
  exact ⟨T4, some (.int (Int32.ofNat n)), _, _, _, X4, rfl, rfl, rfl, (fun h => by cases h), ⟨rfl, q4.trans hh2⟩, fun fs hl => c5.trans (X4.ireturnOut hexec hret rfl (Or.inl rfl) (hb hbytes d10) hl)⟩
theorem pays {l : Launch} {R : Room} {p : Program} {e : Env} {below : List Frame} {s : State} {sargs : Array Value} {len W : Nat} (x t : Addr) (V : Cell) (cd : Int32) (n : Nat) (f : Nat → Int32) (z : Int32) (htab : tab.before sargs s = true) (hfr : 2 ≤ R.frames) (hlo : W + 25 ≤ R.locals) :
    Back l R p e below s sargs yN len W (fun A₁ a₁ => A₁.cells + 0 ≤ R.cells ∧ A₁.slots + 0 ≤ R.slots ∧ P x t V cd n f z a₁ A₁.U) (fun A₁ _ v₁ B₁ => E n v₁ A₁.U B₁.U ∧ B₁.locs = A₁.locs ++ [] ∧ B₁.cells = A₁.cells + 0 ∧ B₁.slots = A₁.slots + 0) :=
  (law l x t V cd n f z).pays htab hfr (by omega)
end Len
namespace IsL
def yN : MethodName := ⟨"java/lang/String", "isLatin1", "()Z"⟩
abbrev yB : ByteArray := jdk_42_method_154_code
theorem d0 : decode yB 0 = .ok (.getstatic 38, 3) := by decide +kernel
theorem d3 : decode yB 3 = .ok (.ifCond (.eq) 14, 3) := by decide +kernel
theorem d6 : decode yB 6 = .ok (.aload_n 0, 1) := by decide +kernel
theorem d7 : decode yB 7 = .ok (.getfield 15, 3) := by decide +kernel
theorem d10 : decode yB 10 = .ok (.ifCond (.ne) 7, 3) := by decide +kernel
theorem d13 : decode yB 13 = .ok (.iconst 1, 1) := by decide +kernel
theorem d14 : decode yB 14 = .ok (.goto 4, 3) := by decide +kernel
theorem d17 : decode yB 17 = .ok (.iconst 0, 1) := by decide +kernel
theorem d18 : decode yB 18 = .ok (.ireturn, 1) := by decide +kernel
def site : List Cond := [.fieldLink "java/lang/String" 38 "java/lang/String" "COMPACT_STRINGS" "Z", .fieldLink "java/lang/String" 15 "java/lang/String" "coder" "B"]
def tab : Cond := tabOf yN yB 1 (some .boolean) site
def P (x : Addr) (cd z : Int32) (args : Array Value) (s : State) : Prop := args = #[.ref x] ∧ Has x "java/lang/String" "coder" "B" (.int cd) s ∧ (cd = 0 ∨ cd = 1) ∧ StaticIs s "java/lang/String" "COMPACT_STRINGS" "Z" (.int z) ∧ ¬ z = 0
def E (cd : Int32) (r : Option Value) (s u : State) : Prop := XT.PureE (some (.int (1 - cd))) r s u
theorem law (l : Launch) (x : Addr) (cd z : Int32) : Law l yN 1 0 0 0 yB 1 (some .boolean) site (P x cd z) (E cd) [] 0 0 := by
  refine Law.of_walk (plainFor_of_name (by decide +kernel)) (by decide +kernel) (by decide +kernel) (by decide) (fun _ _ h => by rw [h.1]; rfl) (fun _ U U' hal hh h => ⟨h.1, h.2.1.mv hal hh, h.2.2.1, h.2.2.2.1.there hal hh, h.2.2.2.2⟩) (fun r U U' V V' h1 hal h2 h => XT.PureE.mv r U U' V V' h1 hal h2 h) ?_
  intro p e s m args below meth c s₁ X0 hexec hbytes hml hret hlk hnm hown hh0 W hP
  obtain ⟨rfl, hx, hc, s1, hz⟩ := hP
  have c1 : Steps p.tables e below (s₁.setTop (entryFrame m #[.ref x] 1)) (s₁.setTop (mkF m 0 #[.val (.ref x)] [])) := entry rfl
  obtain ⟨T2, X2, q2, st2⟩ := X0.sget hexec hown (wk W (.fieldLink "java/lang/String" 38 "java/lang/String" "COMPACT_STRINGS" "Z")) s1 (fun _ _ h => by rw [hh0]; exact h) (g := (mkF m 0 #[.val (.ref x)] [])) rfl (hb hbytes d0)
  have hh2 := q2.trans hh0
  have c3 : Steps p.tables e below (s₁.setTop (entryFrame m #[.ref x] 1)) (T2.setTop (mkF m 7 #[.val (.ref x)] [.ref x])) := (c1.trans (st2 _ (Steps.refl _))).trans (by
    refine XS.ifNo X2.here hexec rfl (hb hbytes d3) rfl (i0_eq_f hz) ?_
    refine XS.aloadN X2.here hexec rfl (hb hbytes d6) rfl rfl ?_
    exact Steps.refl _)
  obtain ⟨T4, X4, q4, st4⟩ := X2.hget hexec hown (wk W (.fieldLink "java/lang/String" 15 "java/lang/String" "coder" "B")) (hx.mv X2.warmed.alike hh2) (g := (mkF m 7 #[.val (.ref x)] [.ref x])) rfl (rest := []) rfl (hb hbytes d7)
  have c5 : Steps p.tables e below (s₁.setTop (entryFrame m #[.ref x] 1)) (T4.setTop (mkF m 10 #[.val (.ref x)] [.int cd])) := c3.trans (st4 _ (Steps.refl _))
  have c6 : Steps p.tables e below (s₁.setTop (entryFrame m #[.ref x] 1)) (T4.setTop (mkF m 18 #[.val (.ref x)] [.int (1 - cd)])) := by
    rcases hc with rfl | rfl
    · exact c5.trans (by
        refine XS.ifNo X4.here hexec rfl (hb hbytes d10) rfl (i0_ne_f rfl) ?_
        refine iconstV X4.here hexec rfl 1 (hb hbytes d13) (by decide) ?_
        refine XS.goto X4.here hexec rfl (pc0 := 14) rfl (hb hbytes d14) (by decide) rfl ?_
        exact Steps.refl _)
    · exact c5.trans (by
        refine XS.ifYes X4.here hexec rfl (pc0 := 10) rfl (hb hbytes d10) rfl (i0_ne_t (by decide)) (by decide) rfl ?_
        refine iconstV X4.here hexec rfl 0 (hb hbytes d17) (by decide) ?_
        exact Steps.refl _)
  exact ⟨T4, some (.int (1 - cd)), _, _, _, X4, rfl, rfl, rfl, (fun h => by cases h), ⟨rfl, q4.trans hh2⟩, fun fs hl => c6.trans (X4.ireturnOut hexec hret (by rcases hc with rfl | rfl <;> rfl) (Or.inr (Or.inl rfl)) (hb hbytes d18) hl)⟩
end IsL
namespace LChA
def yN : MethodName := ⟨"java/lang/StringLatin1", "charAt", "([BI)C"⟩
abbrev yB : ByteArray := jdk_43_method_2_code
theorem d0 : decode yB 0 = .ok (.iload_n 1, 1) := by decide +kernel
theorem d1 : decode yB 1 = .ok (.aload_n 0, 1) := by decide +kernel
theorem d2 : decode yB 2 = .ok (.arraylength, 1) := by decide +kernel
theorem d3 : decode yB 3 = .ok (.invokestatic 9, 3) := by decide +kernel
theorem d6 : decode yB 6 = .ok (.aload_n 0, 1) := by decide +kernel
theorem d7 : decode yB 7 = .ok (.iload_n 1, 1) := by decide +kernel
theorem d8 : decode yB 8 = .ok (.baload, 1) := by decide +kernel
theorem d9 : decode yB 9 = .ok (.sipush 255, 3) := by decide +kernel
theorem d12 : decode yB 12 = .ok (.iand, 1) := by decide +kernel
theorem d13 : decode yB 13 = .ok (.i2c, 1) := by decide +kernel
theorem d14 : decode yB 14 = .ok (.ireturn, 1) := by decide +kernel
def site : List Cond := [JO.Str_checkIndex.tab] ++ staticW "java/lang/StringLatin1" 9 JO.Str_checkIndex.yN
def tab : Cond := tabOf yN yB 2 (some .char) site
def P (t : Addr) (V : Cell) (i : Nat) (u : Int32) (fm : Value) (args : Array Value) (s : State) : Prop := args = #[.ref t, .int (Int32.ofNat i)] ∧ XT.Arr .byte t V s ∧ V.slots[i]? = some (.int u) ∧ (StaticIs s "jdk/internal/util/Preconditions" "SIOOBE_FORMATTER" "Ljava/util/function/BiFunction;" fm ∧ fm.isRef = true)
def E (u : Int32) (r : Option Value) (s w : State) : Prop := XT.PureE (some (.int (chr8 u))) r s w
theorem law (l : Launch) (t : Addr) (V : Cell) (i : Nat) (u : Int32) (fm : Value) : Law l yN 2 2 2 27 yB 2 (some .char) site (P t V i u fm) (E u) [] 0 0 := by
  refine Law.of_walk (plainFor_of_name (by decide +kernel)) (by decide +kernel) (by decide +kernel) (by decide) (fun _ _ h => by rw [h.1]; rfl) (fun _ U U' hal hh h => ⟨h.1, h.2.1.mv hal hh, h.2.2.1, h.2.2.2.1.there hal hh, h.2.2.2.2⟩) (fun r U U' V V' h1 hal h2 h => XT.PureE.mv r U U' V V' h1 hal h2 h) ?_
  intro p e s m args below meth c s₁ X0 hexec hbytes hml hret hlk hnm hown hh0 W hP
  obtain ⟨rfl, hV, hu, s1, rf⟩ := hP
  have v31 := hV.2.2.2
  have hi : i < V.slots.size := (Array.getElem?_eq_some_iff.mp hu).1
  have c1 : Steps p.tables e below (s₁.setTop (entryFrame m #[.ref t, .int (Int32.ofNat i)] 2)) (s₁.setTop (mkF m 0 #[.val (.ref t), .val (.int (Int32.ofNat i))] [])) := entry rfl
  have c2 : Steps p.tables e below (s₁.setTop (entryFrame m #[.ref t, .int (Int32.ofNat i)] 2)) (s₁.setTop (mkF m 3 #[.val (.ref t), .val (.int (Int32.ofNat i))] [.int (Int32.ofNat V.slots.size), .int (Int32.ofNat i)])) := c1.trans (by
    refine XS.iloadN X0.here hexec rfl (hb hbytes d0) rfl ?_
    refine XS.aloadN X0.here hexec rfl (hb hbytes d1) rfl rfl ?_
    refine X0.alen hexec (hV.mv X0.warmed.alike hh0) rfl rfl (hb hbytes d2) ?_
    exact Steps.refl _)
  obtain ⟨v3, T3, X3, E3, g3⟩ := X0.callS hexec (JO.Str_checkIndex.law l (Int32.ofNat i) (Int32.ofNat V.slots.size) fm) hown (wks W (staticW "java/lang/StringLatin1" 9 JO.Str_checkIndex.yN)) (wk W JO.Str_checkIndex.tab) (W := 0) (Nat.le_of_ble_eq_true rfl) (Nat.le_of_ble_eq_true rfl) (Nat.le_refl _) (Nat.le_refl _) (g := (mkF m 3 #[.val (.ref t), .val (.int (Int32.ofNat i))] [.int (Int32.ofNat V.slots.size), .int (Int32.ofNat i)])) rfl (by rw [hml]; rfl) c2 (argsL := [.int (Int32.ofNat i), .int (Int32.ofNat V.slots.size)]) (rest := []) rfl rfl (by show 2 * 0 + 0 ≤ _; decide) (hb hbytes d3) (⟨rfl, rf, s1.there X0.warmed.alike hh0, Int32.ofNat_not_neg (by omega), lt32 v31 hi⟩)
  obtain ⟨rfl, q3⟩ := E3
  have hh3 := q3.trans hh0
  have c4 : Steps p.tables e below (s₁.setTop (entryFrame m #[.ref t, .int (Int32.ofNat i)] 2)) (T3.setTop (mkF m 14 #[.val (.ref t), .val (.int (Int32.ofNat i))] [.int (chr8 u)])) := Steps.trans g3 (by
    refine XS.aloadN X3.here hexec rfl (hb hbytes d6) rfl rfl ?_
    refine XS.iloadN X3.here hexec rfl (hb hbytes d7) rfl ?_
    refine X3.aget hexec (hV.mv X3.warmed.alike hh3) rfl hu rfl rfl (hb hbytes d8) ?_
    refine sipushV X3.here hexec rfl 255 (hb hbytes d9) (by decide) ?_
    refine XS.iand X3.here hexec rfl (hb hbytes d12) rfl ?_
    refine i2c X3.here hexec rfl (hb hbytes d13) rfl ?_
    exact Steps.refl _)
  exact ⟨T3, some (.int (chr8 u)), _, _, _, X3, rfl, rfl, rfl, (fun h => by cases h), ⟨rfl, hh3⟩, fun fs hl => c4.trans (X3.ireturnOut hexec hret (narrow_c _) (Or.inr (Or.inr (Or.inr (Or.inl rfl)))) (hb hbytes d14) hl)⟩
end LChA
end StrChars
namespace StrChars.Road
open Jvm Sem ClassFile Op Lib Jvm.Stand Jvm.Free Jvm.Free.XT
open Jvm.Lib.Cold (StaticIs)
theorem consq {a : Array Value} {s : State} {c : Jvm.Cond} {L : List Jvm.Cond} (h0 : c.before a s = true) (h : ∀ w ∈ L, w.before a s = true) : ∀ w ∈ c :: L, w.before a s = true := fun w hw => (List.mem_cons.mp hw).elim (fun e => e ▸ h0) (h w)
/-- the words of String.length(), either coding -/
abbrev wordsLen : List Jvm.Cond := [.code Len.yN Len.yB 1 (some .int), .initialized ST, .fieldLink ST 9 ST "value" "[B", .fieldLink ST 38 ST "COMPACT_STRINGS" "Z", .fieldLink ST 15 ST "coder" "B", .code Cdr.yN Cdr.yB 1 (some .byte), .methodLink ST 335 Cdr.yN, .declares Cdr.yN, .selects ST Cdr.yN Cdr.yN, .instanceMethod Cdr.yN]
theorem tabLen_of {a : Array Value} {s : State} (h : ∀ w ∈ wordsLen, w.before a s = true) : Len.tab.before a s = true := by
  have hc : Cdr.tab.before a s = true := unparts (wk h (.code Cdr.yN Cdr.yB 1 (some .byte))) (wks h (.initialized Cdr.yN.cls :: Cdr.site))
  have q := consq hc h
  exact unparts (wk q (.code Len.yN Len.yB 1 (some .int))) (wks q (.initialized Len.yN.cls :: Len.site))
theorem movedLen {Z s : State} {a0 args : Array Value} (hZ : Z.Warmed39 s.vm) (hw : ∀ d ∈ wordsLen, d.before a0 Z = true) : ∀ d ∈ wordsLen, d.before args s = true := fun d hd => by
  have q := hw d hd
  have t : ∀ d ∈ wordsLen, d = .arrayClass .byte ∨ (d.onTables && d.keepsFace) = true := by decide +kernel
  rcases t d hd with rfl | t
  · exact RoadKit.mvA hZ q
  · exact RoadKit.mv hZ q t
/-- the bytes of the chars cs, low before high -/
def wideBytes : List Int32 → List Value
  | [] => []
  | c :: cs => .int (lo8 c) :: .int (hi8 c) :: wideBytes cs
theorem wide_lo (d : Value) : ∀ (cs : List Int32) (j : Nat), j < cs.length → (wideBytes cs).getD (2 * j) d = .int (lo8 (cs.getD j 0))
  | [], j, h => absurd h (Nat.not_lt_zero j)
  | c :: cs, 0, _ => rfl
  | c :: cs, j + 1, h => by
    have q := wide_lo d cs j (by simpa using h)
    rw [show 2 * (j + 1) = 2 * j + 1 + 1 from by omega]
    simpa [wideBytes] using q
theorem wide_hi (d : Value) : ∀ (cs : List Int32) (j : Nat), j < cs.length → (wideBytes cs).getD (2 * j + 1) d = .int (hi8 (cs.getD j 0))
  | [], j, h => absurd h (Nat.not_lt_zero j)
  | c :: cs, 0, _ => rfl
  | c :: cs, j + 1, h => by
    have q := wide_hi d cs j (by simpa using h)
    rw [show 2 * (j + 1) + 1 = 2 * j + 1 + 1 + 1 from by omega]
    simpa [wideBytes] using q
theorem low_at (d : Value) (cs : List Int32) (j : Nat) (h : j < cs.length) : (cs.map fun c => Value.int (lo8 c)).getD j d = .int (lo8 (cs.getD j 0)) := by
  simp [List.getD_eq_getElem?_getD, h]
/-- an array of N2 bytes vs codes the chars cs by the coder cd -/
def CodA (cs : List Int32) (cd N2 : Int32) (vs : List Value) : Prop := (cd = 0 ∧ N2 = Int32.ofNat cs.length ∧ vs = (cs.map fun c => Value.int (lo8 c)) ∧ ∀ c ∈ cs, ¬ 255 < c) ∨ (cd = 1 ∧ N2 = Int32.ofNat (2 * cs.length) ∧ vs = wideBytes cs ∧ ∃ c ∈ cs, 255 < c)
theorem CodA.cod {cs : List Int32} {cd N2 : Int32} {vs : List Value} {V : Cell} (h : CodA cs cd N2 vs) (hn : 2 * cs.length < 2 ^ 31) (hs : V.slots.size = N2.toNatClampNeg) (hv : RoadKit.Has V vs (.int 0)) : Cod cd cs.length (fun j => cs.getD j 0) V := by
  rcases h with ⟨rfl, rfl, rfl, h⟩ | ⟨rfl, rfl, rfl, c, hc, hw⟩
  · rw [n32 (by omega)] at hs
    exact Or.inl ⟨rfl, hs, fun j hj => ⟨by rw [hv j (by omega), low_at _ _ _ hj], by
      have e : cs.getD j 0 = cs[j] := by simp [List.getD_eq_getElem?_getD, hj]
      show ¬ 255 < cs.getD j 0
      rw [e]; exact h _ (List.getElem_mem _)⟩⟩
  · rw [n32 (by omega)] at hs
    obtain ⟨j, hj, rfl⟩ := List.getElem_of_mem hc
    exact Or.inr ⟨rfl, hs, fun j hj => ⟨by rw [hv _ (by omega), wide_lo _ _ _ hj], by rw [hv _ (by omega), wide_hi _ _ _ hj]⟩, j, hj, by
      have e : cs.getD j 0 = cs[j] := by simp [List.getD_eq_getElem?_getD, hj]
      show 255 < cs.getD j 0
      rw [e]; exact hw⟩
/-- an object of exactly java/lang/String, its two fields found: as the laws ask it -/
theorem strObj {Z U : State} {a0 : Array Value} {kI : Nat} (wi : (Jvm.Cond.instantiable ST kI).before a0 Z = true) (al : Z.vm.Alike U.vm) {x : Addr} {v0 c0 : Value} (E : RoadKit.Exa Z U.heap x ST) (V : RoadKit.Fld Z U.heap x ST "value" "[B" v0) (C : RoadKit.Fld Z U.heap x ST "coder" "B" c0) :
    ∃ (D : Cell) (fV fC : Field), Blank ST x D U ∧ Found ST "value" "[B" fV U ∧ Found ST "coder" "B" fC U ∧ D.slots[fV.slot]? = some v0 ∧ D.slots[fC.slot]? = some c0 ∧ RoadKit.slotOf Z ST "value" "[B" = fV.slot ∧ RoadKit.slotOf Z ST "coder" "B" = fC.slot := by
  obtain ⟨D, cfV, kV, iV, fV, hD, gV, stV, knV, obV, asV, slV⟩ := V
  obtain ⟨D', cfC, kC, iC, fC, hD', gC, stC, -, -, asC, slC⟩ := C
  cases hD.symm.trans hD'
  obtain ⟨D2, kD, e1, e2, e3, e4, e5⟩ := E
  cases hD.symm.trans e1
  obtain ⟨c2, k2, i1, i2, i3, -⟩ := Cond.instantiable_spec wi
  cases e2.symm.trans i1
  cases e3.symm.trans i2
  obtain ⟨kU, u1, u2⟩ := al.2.2 _ _ e3
  exact ⟨D, fV, fC, ⟨hD, ⟨knV, fun q hq => by rw [hq] at obV; cases obV⟩, by rw [al.findClass]; exact e2, kU, u1, by rw [u2]; exact i3, by rw [u2]; exact e5 i3⟩, ⟨SBG.found_only al ⟨cfV, kV, iV, gV⟩, stV⟩, ⟨SBG.found_only al ⟨cfC, kC, iC, gC⟩, stC⟩, slV, slC, by simp [RoadKit.slotOf, gV], by simp [RoadKit.slotOf, gC]⟩
theorem sta_is {Z U : State} (al : Z.vm.Alike U.vm) {C n d : String} {v : Value} (S : RoadKit.Sta Z U.heap C n d v) : StaticIs U C n d v := by
  obtain ⟨cfS, iS, kS, fS, st, cS, t1, t2, t3, t4, t5, t6, t7⟩ := S
  exact StaticIs.there (s := { Z with heap := U.heap }) ⟨cfS, iS, kS, fS, st, cS, t1, t2, t3, t4, t5, (fun q => by rw [q] at t6; cases t6), t7⟩ al rfl
/-- **length() OF SUCH A STRING** -/
theorem lenW {p : Program} {l : Launch} {e : Env} {R : Room} {s : State} {args : Array Value} {below : List Frame} {len W : Nat} {Z : State} {a0 : Array Value} {h : Heap} (hZ : Z.Warmed39 s.vm) (hw : ∀ d ∈ wordsLen, d.before a0 Z = true) {kI : Nat} (wi : (Jvm.Cond.instantiable ST kI).before a0 Z = true)
    {x t : Addr} {kb : ClassId} {cs : List Int32} {cd N2 z : Int32} {vs : List Value} (E : RoadKit.Exa Z h x ST) (V : RoadKit.Fld Z h x ST "value" "[B" (.ref t)) (C : RoadKit.Fld Z h x ST "coder" "B" (.int cd)) (K : RoadKit.Arv Z h t kb .byte N2 vs (.int 0)) (hc : CodA cs cd N2 vs) (hb : ∀ c ∈ cs, ¬ c < 0 ∧ ¬ (65535 : Int32) < c)
    (S : RoadKit.Sta Z h ST "COMPACT_STRINGS" "Z" (.int z)) (hz : ¬ z = 0) (l2 : cs.length ≤ 4000) (hfr : 2 ≤ R.frames) (hlo : W + 25 ≤ R.locals) :
    Back l R p e below s args (⟨"java/lang/String", "length", "()I"⟩ : MethodName) len W (fun P a => a = #[.ref x] ∧ P.U.heap = h ∧ P.cells + 0 ≤ R.cells ∧ P.slots + 0 ≤ R.slots)
      (fun P _ v B => ∃ L, (v = some (.int (Int32.ofNat cs.length)) ∧ L = [] ∧ B.U.heap = h) ∧ B.locs = P.locs ++ L ∧ B.cells = P.cells + 0 ∧ B.slots = P.slots + 0) := by
  obtain ⟨A, K1, K2, K3, K4, K5, K6⟩ := K
  have hcod := hc.cod (by omega) K3 K5
  intro m meth c P g ig mk a X hg hsize hdg hW hn hp'
  obtain ⟨rfl, rfl, r1, r2⟩ := hp'
  have al : Z.vm.Alike P.U.vm := hZ.alike.trans X.warmed.alike
  obtain ⟨D, fV, fC, hB, F1, F2, g1, g2, -, -⟩ := strObj wi al E V C
  have hx : Txt x t A cd cs.length (fun j => cs.getD j 0) P.U := ⟨⟨_, hB.2.2.1, D, hB.1, rfl, by cases q : D.vm <;> first | rfl | exact absurd q (hB.2.1.2 _)⟩, Has.of hB F1 g1, Has.of hB F2 g2, ⟨K1.1, State.isArrayOf_alike al K1.2.1, K1.2.2, by rcases hcod with ⟨-, q, -⟩ | ⟨-, q, -⟩ <;> omega⟩, hcod, fun j hj => by
    have e : cs.getD j 0 = cs[j] := by simp [List.getD_eq_getElem?_getD, hj]
    show ¬ cs.getD j 0 < 0 ∧ ¬ 65535 < cs.getD j 0
    rw [e]; exact hb _ (List.getElem_mem _)⟩
  obtain ⟨v, B, X', ⟨⟨hv, hh⟩, hl, hk, hs⟩, st⟩ := Len.pays x t A cd cs.length (fun j => cs.getD j 0) z (tabLen_of (movedLen hZ hw)) hfr hlo m meth c P g ig mk _ X hg hsize hdg hW hn ⟨r1, r2, rfl, hx, sta_is al S, hz⟩
  exact ⟨v, B, X', ⟨[], ⟨hv, rfl, hh⟩, hl, hk, hs⟩, st⟩
end StrChars.Road
namespace StrChars.Road
open Jvm Sem ClassFile Op Lib Jvm.Stand Jvm.Free Jvm.Free.XT
open Jvm.Lib.Cold (StaticIs)
/-- the road's facts of a String, as the laws ask it -/
theorem txt_of {Z U : State} {a0 : Array Value} {kI : Nat} (wi : (Jvm.Cond.instantiable ST kI).before a0 Z = true) (al : Z.vm.Alike U.vm) {x t : Addr} {kb : ClassId} {cs : List Int32} {cd N2 : Int32} {vs : List Value} (E : RoadKit.Exa Z U.heap x ST) (V : RoadKit.Fld Z U.heap x ST "value" "[B" (.ref t)) (C : RoadKit.Fld Z U.heap x ST "coder" "B" (.int cd)) (K : RoadKit.Arv Z U.heap t kb .byte N2 vs (.int 0)) (hc : CodA cs cd N2 vs) (hb : ∀ c ∈ cs, ¬ c < 0 ∧ ¬ (65535 : Int32) < c) (l2 : cs.length ≤ 4000) :
    ∃ A, Txt x t A cd cs.length (fun j => cs.getD j 0) U := by
  obtain ⟨A, K1, K2, K3, K4, K5, K6⟩ := K
  have hcod := hc.cod (by omega) K3 K5
  obtain ⟨D, fV, fC, hB, F1, F2, g1, g2, -, -⟩ := strObj wi al E V C
  exact ⟨A, ⟨_, hB.2.2.1, D, hB.1, rfl, by cases q : D.vm <;> first | rfl | exact absurd q (hB.2.1.2 _)⟩, Has.of hB F1 g1, Has.of hB F2 g2, ⟨K1.1, State.isArrayOf_alike al K1.2.1, K1.2.2, by rcases hcod with ⟨-, q, -⟩ | ⟨-, q, -⟩ <;> omega⟩, hcod, fun j hj => by
    have e : cs.getD j 0 = cs[j] := by simp [List.getD_eq_getElem?_getD, hj]
    show ¬ cs.getD j 0 < 0 ∧ ¬ 65535 < cs.getD j 0
    rw [e]; exact hb _ (List.getElem_mem _)⟩
end StrChars.Road
namespace StrChars
open Jvm Sem ClassFile Op Lib Jvm.Stand Jvm.Free.XT Jvm.Free.ALB Jvm.Free.JM Jvm.Free
open Jvm.Lib.Cold (StaticIs)
namespace ChN
def yN : MethodName := ⟨"java/lang/String", "charAt", "(I)C"⟩
abbrev yB : ByteArray := jdk_42_method_56_code
theorem d0 : decode yB 0 = .ok (.aload_n 0, 1) := by decide +kernel
theorem d1 : decode yB 1 = .ok (.invokevirtual 492, 3) := by decide +kernel
theorem d4 : decode yB 4 = .ok (.ifCond (.eq) 12, 3) := by decide +kernel
theorem d7 : decode yB 7 = .ok (.aload_n 0, 1) := by decide +kernel
theorem d8 : decode yB 8 = .ok (.getfield 9, 3) := by decide +kernel
theorem d11 : decode yB 11 = .ok (.iload_n 1, 1) := by decide +kernel
theorem d12 : decode yB 12 = .ok (.invokestatic 495, 3) := by decide +kernel
theorem d15 : decode yB 15 = .ok (.ireturn, 1) := by decide +kernel
def site : List Cond := [.fieldLink "java/lang/String" 9 "java/lang/String" "value" "[B", IsL.tab, LChA.tab] ++ virtW "java/lang/String" 492 "java/lang/String" IsL.yN IsL.yN ++ staticW "java/lang/String" 495 LChA.yN
def tab : Cond := tabOf yN yB 2 (some .char) site
def P (x t : Addr) (V : Cell) (n : Nat) (f : Nat → Int32) (z : Int32) (fm : Value) (i : Nat) (args : Array Value) (s : State) : Prop := args = #[.ref x, .int (Int32.ofNat i)] ∧ Txt x t V 0 n f s ∧ i < n ∧ StaticIs s "java/lang/String" "COMPACT_STRINGS" "Z" (.int z) ∧ ¬ z = 0 ∧ StaticIs s "jdk/internal/util/Preconditions" "SIOOBE_FORMATTER" "Ljava/util/function/BiFunction;" fm ∧ fm.isRef = true
def E (f : Nat → Int32) (i : Nat) (r : Option Value) (s u : State) : Prop := XT.PureE (some (.int (f i))) r s u
/-- charAt(i) of a Latin-1 String of n chars, i < n: f i -/
theorem law (l : Launch) (x t : Addr) (V : Cell) (n : Nat) (f : Nat → Int32) (z : Int32) (fm : Value) (i : Nat) : Law l yN 2 1 3 40 yB 2 (some .char) site (P x t V n f z fm i) (E f i) [] 0 0 := by
  refine Law.of_walk (plainFor_of_name (by decide +kernel)) (by decide +kernel) (by decide +kernel) (by decide) (fun _ _ h => by rw [h.1]; rfl) (fun _ U U' hal hh h => ⟨h.1, h.2.1.mv hal hh, h.2.2.1, h.2.2.2.1.there hal hh, h.2.2.2.2.1, h.2.2.2.2.2.1.there hal hh, h.2.2.2.2.2.2⟩) (fun r U U' V V' h1 hal h2 h => XT.PureE.mv r U U' V V' h1 hal h2 h) ?_
  intro p e s m args below meth c s₁ X0 hexec hbytes hml hret hlk hnm hown hh0 W hP
  obtain ⟨rfl, hx, hi, s1, hz, s3, rf⟩ := hP
  have v31 := hx.2.2.2.1.2.2.2
  have hr := hx.2.2.2.2.2 i hi
  have hx0 := hx.mv X0.warmed.alike hh0
  have c1 : Steps p.tables e below (s₁.setTop (entryFrame m #[.ref x, .int (Int32.ofNat i)] 2)) (s₁.setTop (mkF m 1 #[.val (.ref x), .val (.int (Int32.ofNat i))] [.ref x])) := Steps.trans (entry rfl) (by
    show Steps p.tables e below (s₁.setTop (mkF m 0 #[.val (.ref x), .val (.int (Int32.ofNat i))] [])) _
    refine XS.aloadN X0.here hexec rfl (hb hbytes d0) rfl rfl ?_
    exact Steps.refl _)
  obtain ⟨v2, T2, X2, E2, g2⟩ := X0.callV hexec (IsL.law l x 0 z) hown (wks W (virtW "java/lang/String" 492 "java/lang/String" IsL.yN IsL.yN)) rfl (by decide) (wk W IsL.tab) (W := 0) (Nat.le_of_ble_eq_true rfl) (Nat.le_of_ble_eq_true rfl) (Nat.le_refl _) (Nat.le_refl _) (hx0.1.fc X0.warmed.alike) hx0.1.is (g := (mkF m 1 #[.val (.ref x), .val (.int (Int32.ofNat i))] [.ref x])) rfl (by rw [hml]; rfl) c1 (argsL := []) (rest := []) rfl rfl (by show 2 * 0 + 0 ≤ _; decide) (hb hbytes d1) (⟨rfl, hx0.2.2.1, hx.2.2.2.2.1.cd, s1.there X0.warmed.alike hh0, hz⟩)
  obtain ⟨rfl, q2⟩ := E2
  have hh2 := q2.trans hh0
  have hx2 := hx.mv X2.warmed.alike hh2
  obtain ⟨-, k1, k2⟩ | ⟨k0, -⟩ := hx.2.2.2.2.1
  · have c3 : Steps p.tables e below (s₁.setTop (entryFrame m #[.ref x, .int (Int32.ofNat i)] 2)) (T2.setTop (mkF m 8 #[.val (.ref x), .val (.int (Int32.ofNat i))] [.ref x])) := Steps.trans g2 (by
      refine XS.ifNo X2.here hexec rfl (hb hbytes d4) rfl (i0_eq_f (by decide)) ?_
      refine XS.aloadN X2.here hexec rfl (hb hbytes d7) rfl rfl ?_
      exact Steps.refl _)
    obtain ⟨T4, X4, q4, st4⟩ := X2.hget hexec hown (wk W (.fieldLink "java/lang/String" 9 "java/lang/String" "value" "[B")) hx2.2.1 (g := (mkF m 8 #[.val (.ref x), .val (.int (Int32.ofNat i))] [.ref x])) rfl (rest := []) rfl (hb hbytes d8)
    have hh4 := q4.trans hh2
    have c5 : Steps p.tables e below (s₁.setTop (entryFrame m #[.ref x, .int (Int32.ofNat i)] 2)) (T4.setTop (mkF m 12 #[.val (.ref x), .val (.int (Int32.ofNat i))] [.int (Int32.ofNat i), .ref t])) := (c3.trans (st4 _ (Steps.refl _))).trans (by
      refine XS.iloadN X4.here hexec rfl (hb hbytes d11) rfl ?_
      exact Steps.refl _)
    obtain ⟨v6, T6, X6, E6, g6⟩ := X4.callS hexec (LChA.law l t V i (lo8 (f i)) fm) hown (wks W (staticW "java/lang/String" 495 LChA.yN)) (wk W LChA.tab) (W := 0) (Nat.le_of_ble_eq_true rfl) (Nat.le_of_ble_eq_true rfl) (Nat.le_refl _) (Nat.le_refl _) (g := (mkF m 12 #[.val (.ref x), .val (.int (Int32.ofNat i))] [.int (Int32.ofNat i), .ref t])) rfl (by rw [hml]; rfl) c5 (argsL := [.ref t, .int (Int32.ofNat i)]) (rest := []) rfl rfl (by show 2 * 0 + 0 ≤ _; decide) (hb hbytes d12) (⟨rfl, hx.2.2.2.1.mv X4.warmed.alike hh4, (k2 i hi).1, s3.there X4.warmed.alike hh4, rf⟩)
    obtain ⟨rfl, q6⟩ := E6
    rw [chr8_lo8 hr.1 (k2 i hi).2] at g6
    exact ⟨T6, some (.int (f i)), _, _, _, X6, rfl, rfl, rfl, (fun h => by cases h), ⟨rfl, q6.trans hh4⟩, fun fs hl => Steps.trans g6 (X6.ireturnOut hexec hret (narrow_ch hr.1 hr.2) (Or.inr (Or.inr (Or.inr (Or.inl rfl)))) (hb hbytes d15) hl)⟩
  · exact absurd k0 (by decide)
theorem pays {l : Launch} {R : Room} {p : Program} {e : Env} {below : List Frame} {s : State} {sargs : Array Value} {len W : Nat} (x t : Addr) (V : Cell) (n : Nat) (f : Nat → Int32) (z : Int32) (fm : Value) (i : Nat) (htab : tab.before sargs s = true) (hfr : 4 ≤ R.frames) (hlo : W + 53 ≤ R.locals) :
    Back l R p e below s sargs yN len W (fun A₁ a₁ => A₁.cells + 0 ≤ R.cells ∧ A₁.slots + 0 ≤ R.slots ∧ P x t V n f z fm i a₁ A₁.U) (fun A₁ _ v₁ B₁ => E f i v₁ A₁.U B₁.U ∧ B₁.locs = A₁.locs ++ [] ∧ B₁.cells = A₁.cells + 0 ∧ B₁.slots = A₁.slots + 0) :=
  (law l x t V n f z fm i).pays htab hfr (by omega)
end ChN
end StrChars
namespace StrChars.Road
open Jvm Sem ClassFile Op Lib Jvm.Stand Jvm.Free Jvm.Free.XT
open Jvm.Lib.Cold (StaticIs)
/-- the words of String.charAt(int), the Latin-1 road alone -/
abbrev wordsChN : List Jvm.Cond := [.code ChN.yN ChN.yB 2 (some .char), .initialized ST, .fieldLink ST 9 ST "value" "[B", .fieldLink ST 38 ST "COMPACT_STRINGS" "Z", .fieldLink ST 15 ST "coder" "B", .code IsL.yN IsL.yB 1 (some .boolean), .methodLink ST 492 IsL.yN, .declares IsL.yN, .selects ST IsL.yN IsL.yN, .instanceMethod IsL.yN,
  .methodLink ST 495 LChA.yN, .static LChA.yN, .code LChA.yN LChA.yB 2 (some .char), .initialized "java/lang/StringLatin1", .methodLink "java/lang/StringLatin1" 9 JO.Str_checkIndex.yN, .static JO.Str_checkIndex.yN, .code JO.Str_checkIndex.yN JO.Str_checkIndex.yB 2 none,
  .fieldLink ST 1053 "jdk/internal/util/Preconditions" "SIOOBE_FORMATTER" "Ljava/util/function/BiFunction;", .methodLink ST 1059 JC.PreCheck.yN, .static JC.PreCheck.yN, .code JC.PreCheck.yN JC.PreCheck.yB 3 (some .int), .initialized "jdk/internal/util/Preconditions"]
theorem tabChN_of {a : Array Value} {s : State} (h : ∀ w ∈ wordsChN, w.before a s = true) : ChN.tab.before a s = true := by
  have hp : JC.PreCheck.tab.before a s = true := unparts (wk h (.code JC.PreCheck.yN JC.PreCheck.yB 3 (some .int))) (wks h (.initialized JC.PreCheck.yN.cls :: JC.PreCheck.site))
  have qk := consq hp h
  have hk : JO.Str_checkIndex.tab.before a s = true := unparts (wk qk (.code JO.Str_checkIndex.yN JO.Str_checkIndex.yB 2 none)) (wks qk (.initialized JO.Str_checkIndex.yN.cls :: JO.Str_checkIndex.site))
  have ql := consq hk h
  have hl : LChA.tab.before a s = true := unparts (wk ql (.code LChA.yN LChA.yB 2 (some .char))) (wks ql (.initialized LChA.yN.cls :: LChA.site))
  have hi : IsL.tab.before a s = true := unparts (wk h (.code IsL.yN IsL.yB 1 (some .boolean))) (wks h (.initialized IsL.yN.cls :: IsL.site))
  have q := consq hi (consq hl h)
  exact unparts (wk q (.code ChN.yN ChN.yB 2 (some .char))) (wks q (.initialized ChN.yN.cls :: ChN.site))
theorem movedChN {Z s : State} {a0 args : Array Value} (hZ : Z.Warmed39 s.vm) (hw : ∀ d ∈ wordsChN, d.before a0 Z = true) : ∀ d ∈ wordsChN, d.before args s = true := fun d hd => by
  have t : ∀ d ∈ wordsChN, (d.onTables && d.keepsFace) = true := by decide +kernel
  exact RoadKit.mv hZ (hw d hd) (t d hd)
/-- **charAt(i) OF A LATIN-1 STRING**, i < n: the char -/
theorem chN {p : Program} {l : Launch} {e : Env} {R : Room} {s : State} {args : Array Value} {below : List Frame} {len W : Nat} {Z : State} {a0 : Array Value} {h : Heap} (hZ : Z.Warmed39 s.vm) (hw : ∀ d ∈ wordsChN, d.before a0 Z = true) {kI : Nat} (wi : (Jvm.Cond.instantiable ST kI).before a0 Z = true)
    {x t : Addr} {kb : ClassId} {cs : List Int32} {N2 z : Int32} {vs : List Value} {fm : Value} {i : Nat} {j : Int32} (E : RoadKit.Exa Z h x ST) (V : RoadKit.Fld Z h x ST "value" "[B" (.ref t)) (C : RoadKit.Fld Z h x ST "coder" "B" (.int 0)) (K : RoadKit.Arv Z h t kb .byte N2 vs (.int 0)) (hc : CodA cs 0 N2 vs) (hb : ∀ c ∈ cs, ¬ c < 0 ∧ ¬ (65535 : Int32) < c)
    (S : RoadKit.Sta Z h ST "COMPACT_STRINGS" "Z" (.int z)) (hz : ¬ z = 0) (F : RoadKit.Sta Z h "jdk/internal/util/Preconditions" "SIOOBE_FORMATTER" "Ljava/util/function/BiFunction;" fm) (rf : fm.isRef = true) (l2 : cs.length ≤ 4000) (hi : i < cs.length) (hj : j = Int32.ofNat i) (hfr : 4 ≤ R.frames) (hlo : W + 53 ≤ R.locals) :
    Back l R p e below s args (⟨"java/lang/String", "charAt", "(I)C"⟩ : MethodName) len W (fun P a => a = #[.ref x, .int j] ∧ P.U.heap = h ∧ P.cells + 0 ≤ R.cells ∧ P.slots + 0 ≤ R.slots)
      (fun P _ v B => ∃ L, (v = some (.int (cs.getD i 0)) ∧ L = [] ∧ B.U.heap = h) ∧ B.locs = P.locs ++ L ∧ B.cells = P.cells + 0 ∧ B.slots = P.slots + 0) := by
  subst hj
  intro m meth c P g ig mk a X hg hsize hdg hW hn hp'
  obtain ⟨rfl, rfl, r1, r2⟩ := hp'
  have al : Z.vm.Alike P.U.vm := hZ.alike.trans X.warmed.alike
  obtain ⟨A, hx⟩ := txt_of wi al E V C K hc hb l2
  obtain ⟨v, B, X', ⟨⟨hv, hh⟩, hl, hk, hs⟩, st⟩ := ChN.pays x t A cs.length (fun j => cs.getD j 0) z fm i (tabChN_of (movedChN hZ hw)) hfr hlo m meth c P g ig mk _ X hg hsize hdg hW hn ⟨r1, r2, rfl, hx, hi, sta_is al S, hz, sta_is al F, rf⟩
  exact ⟨v, B, X', ⟨[], ⟨hv, rfl, hh⟩, hl, hk, hs⟩, st⟩
/-- what backV says of its String, as the contracts of this text ask it: cs's low bytes, coder 0 -/
theorem codOf {cs : List Int32} {n : Nat} (hn : cs.length = n) (hb : ∀ c ∈ cs, ¬ 255 < c) : CodA cs 0 (Int32.ofNat n) ((cs.map lo8).map Value.int) := Or.inl ⟨rfl, by rw [hn], by simp [List.map_map, Function.comp_def], hb⟩
end StrChars.Road
end Jvm.Pilot.@@N@@
namespace Jvm.Pilot.@@N@@
open Jvm Sem ClassFile Op Lib Jvm.Stand Jvm.Free Jvm.LawKit Jvm.RoadKit
section New
variable {p : Program} {l : Launch} {e : Env} {R : Room} {s : State} {m : MethodId} {args : Array Value} {below : List Frame} {meth : Method} {c : Code} {T : State} {locs : List Loc} {cells slots : Nat}
theorem retI (X : Stand p l e R s m args below meth c T locs cells slots) (hx : p.tables.exec = Jvm.exec) {pc : Nat} {Ls : Array Slot} {z : Int32} {rest : List Value} (hret : meth.sig.returnType = some .int) (hd : decode c.code pc = .ok (.ireturn, 1)) {fs : List Frame}
    (hl : ∀ (f : JFrame) (acts : List Action), f.method = m → f.locked = none → f.entered = [] → (doReturn e (T.setTop f) acts (some (.int z))).1 = T.setFrames fs) : Steps p.tables e below (T.setTop (mkF m pc Ls (.int z :: rest))) (T.setFrames fs) :=
  retOut X hx hret rfl (Or.inl ⟨rfl, Or.inl rfl, z, rfl⟩) hd hl
end New
end Jvm.Pilot.@@N@@
namespace Jvm.Pilot.@@N@@
open Jvm Jvm.ClassFile Sem Op Lib Jvm.Free Jvm.Stand Jvm.LawKit Jvm.RoadKit Bundle Jvm.Pilot.@@N@@.Jvm.D
theorem S.iload {tb : Tables} [Ours tb] {e : Env} {below : List Frame} {T t : State} {m : MethodId} {c : Code} {pc : Nat} {L : Array Slot} {S : List Value} (h : At T m c below) (hx : tb.exec = Jvm.exec) {k : Nat} {v : Int32} (hd : decode c.code pc = .ok (.iload k, 2)) (hl : L[k]? = some (.val (.int v))) (hr : Steps tb e below (T.setTop (mkF m (pc + 2) L (.int v :: S))) t) : Steps tb e below (T.setTop (mkF m pc L (S))) t := XS.iload h hx rfl hd hl hr
theorem S.iloadN {tb : Tables} [Ours tb] {e : Env} {below : List Frame} {T t : State} {m : MethodId} {c : Code} {pc : Nat} {L : Array Slot} {S : List Value} (h : At T m c below) (hx : tb.exec = Jvm.exec) {k : Fin 4} {v : Int32} (hd : decode c.code pc = .ok (.iload_n k, 1)) (hl : L[k.val]? = some (.val (.int v))) (hr : Steps tb e below (T.setTop (mkF m (pc + 1) L (.int v :: S))) t) : Steps tb e below (T.setTop (mkF m pc L (S))) t := XS.iloadN h hx rfl hd hl hr
theorem S.lload {tb : Tables} [Ours tb] {e : Env} {below : List Frame} {T t : State} {m : MethodId} {c : Code} {pc : Nat} {L : Array Slot} {S : List Value} (h : At T m c below) (hx : tb.exec = Jvm.exec) {k : Nat} {v : Int64} (hd : decode c.code pc = .ok (.lload k, 2)) (hl : L[k]? = some (.val (.long v))) (hr : Steps tb e below (T.setTop (mkF m (pc + 2) L (.long v :: S))) t) : Steps tb e below (T.setTop (mkF m pc L (S))) t := XS.lload h hx rfl hd hl hr
theorem S.lloadN {tb : Tables} [Ours tb] {e : Env} {below : List Frame} {T t : State} {m : MethodId} {c : Code} {pc : Nat} {L : Array Slot} {S : List Value} (h : At T m c below) (hx : tb.exec = Jvm.exec) {k : Fin 4} {v : Int64} (hd : decode c.code pc = .ok (.lload_n k, 1)) (hl : L[k.val]? = some (.val (.long v))) (hr : Steps tb e below (T.setTop (mkF m (pc + 1) L (.long v :: S))) t) : Steps tb e below (T.setTop (mkF m pc L (S))) t := XS.lloadN h hx rfl hd hl hr
theorem S.aload {tb : Tables} [Ours tb] {e : Env} {below : List Frame} {T t : State} {m : MethodId} {c : Code} {pc : Nat} {L : Array Slot} {S : List Value} (h : At T m c below) (hx : tb.exec = Jvm.exec) {k : Nat} {v : Value} (hd : decode c.code pc = .ok (.aload k, 2)) (hl : L[k]? = some (.val v)) (hv : v.isRef = true) (hr : Steps tb e below (T.setTop (mkF m (pc + 2) L (v :: S))) t) : Steps tb e below (T.setTop (mkF m pc L (S))) t := XS.aload h hx rfl hd hl hv hr
theorem S.aloadN {tb : Tables} [Ours tb] {e : Env} {below : List Frame} {T t : State} {m : MethodId} {c : Code} {pc : Nat} {L : Array Slot} {S : List Value} (h : At T m c below) (hx : tb.exec = Jvm.exec) {k : Fin 4} {v : Value} (hd : decode c.code pc = .ok (.aload_n k, 1)) (hl : L[k.val]? = some (.val v)) (hv : v.isRef = true) (hr : Steps tb e below (T.setTop (mkF m (pc + 1) L (v :: S))) t) : Steps tb e below (T.setTop (mkF m pc L (S))) t := XS.aloadN h hx rfl hd hl hv hr
theorem S.istore {tb : Tables} [Ours tb] {e : Env} {below : List Frame} {T t : State} {m : MethodId} {c : Code} {pc : Nat} {L : Array Slot} {S : List Value} (h : At T m c below) (hx : tb.exec = Jvm.exec) {k : Nat} {x : Int32} (hd : decode c.code pc = .ok (.istore k, 2)) (L' : Array Slot) (hl : storeLocals L k (.int x) = some L') (hr : Steps tb e below (T.setTop (mkF m (pc + 2) L' (S))) t) : Steps tb e below (T.setTop (mkF m pc L (.int x :: S))) t := XS.istore h hx rfl hd rfl hl hr
theorem S.istoreN {tb : Tables} [Ours tb] {e : Env} {below : List Frame} {T t : State} {m : MethodId} {c : Code} {pc : Nat} {L : Array Slot} {S : List Value} (h : At T m c below) (hx : tb.exec = Jvm.exec) {k : Fin 4} {x : Int32} (hd : decode c.code pc = .ok (.istore_n k, 1)) (L' : Array Slot) (hl : storeLocals L k.val (.int x) = some L') (hr : Steps tb e below (T.setTop (mkF m (pc + 1) L' (S))) t) : Steps tb e below (T.setTop (mkF m pc L (.int x :: S))) t := XS.istoreN h hx rfl hd rfl hl hr
theorem S.lstore {tb : Tables} [Ours tb] {e : Env} {below : List Frame} {T t : State} {m : MethodId} {c : Code} {pc : Nat} {L : Array Slot} {S : List Value} (h : At T m c below) (hx : tb.exec = Jvm.exec) {k : Nat} {x : Int64} (hd : decode c.code pc = .ok (.lstore k, 2)) (L' : Array Slot) (hl : storeLocals L k (.long x) = some L') (hr : Steps tb e below (T.setTop (mkF m (pc + 2) L' (S))) t) : Steps tb e below (T.setTop (mkF m pc L (.long x :: S))) t := XS.lstore h hx rfl hd rfl hl hr
theorem S.lstoreN {tb : Tables} [Ours tb] {e : Env} {below : List Frame} {T t : State} {m : MethodId} {c : Code} {pc : Nat} {L : Array Slot} {S : List Value} (h : At T m c below) (hx : tb.exec = Jvm.exec) {k : Fin 4} {x : Int64} (hd : decode c.code pc = .ok (.lstore_n k, 1)) (L' : Array Slot) (hl : storeLocals L k.val (.long x) = some L') (hr : Steps tb e below (T.setTop (mkF m (pc + 1) L' (S))) t) : Steps tb e below (T.setTop (mkF m pc L (.long x :: S))) t := XS.lstoreN h hx rfl hd rfl hl hr
theorem S.astore {tb : Tables} [Ours tb] {e : Env} {below : List Frame} {T t : State} {m : MethodId} {c : Code} {pc : Nat} {L : Array Slot} {S : List Value} (h : At T m c below) (hx : tb.exec = Jvm.exec) {k : Nat} {x : Value} (hd : decode c.code pc = .ok (.astore k, 2)) (hv : x.isRef = true) (L' : Array Slot) (hl : storeLocals L k x = some L') (hr : Steps tb e below (T.setTop (mkF m (pc + 2) L' (S))) t) : Steps tb e below (T.setTop (mkF m pc L (x :: S))) t := XS.astore h hx rfl hd rfl hv hl hr
theorem S.astoreN {tb : Tables} [Ours tb] {e : Env} {below : List Frame} {T t : State} {m : MethodId} {c : Code} {pc : Nat} {L : Array Slot} {S : List Value} (h : At T m c below) (hx : tb.exec = Jvm.exec) {k : Fin 4} {x : Value} (hd : decode c.code pc = .ok (.astore_n k, 1)) (hv : x.isRef = true) (L' : Array Slot) (hl : storeLocals L k.val x = some L') (hr : Steps tb e below (T.setTop (mkF m (pc + 1) L' (S))) t) : Steps tb e below (T.setTop (mkF m pc L (x :: S))) t := XS.astoreN h hx rfl hd rfl hv hl hr
theorem S.iconst {tb : Tables} [Ours tb] {e : Env} {below : List Frame} {T t : State} {m : MethodId} {c : Code} {pc : Nat} {L : Array Slot} {S : List Value} (h : At T m c below) (hx : tb.exec = Jvm.exec) {i : Int} (v : Int32) (hd : decode c.code pc = .ok (.iconst i, 1)) (hv : Int32.ofInt i = v) (hr : Steps tb e below (T.setTop (mkF m (pc + 1) L (.int v :: S))) t) : Steps tb e below (T.setTop (mkF m pc L (S))) t := XS.iconst h hx rfl hd (hv ▸ hr)
theorem S.bipush {tb : Tables} [Ours tb] {e : Env} {below : List Frame} {T t : State} {m : MethodId} {c : Code} {pc : Nat} {L : Array Slot} {S : List Value} (h : At T m c below) (hx : tb.exec = Jvm.exec) {i : Int} (v : Int32) (hd : decode c.code pc = .ok (.bipush i, 2)) (hv : (Int8.ofInt i).toInt32 = v) (hr : Steps tb e below (T.setTop (mkF m (pc + 2) L (.int v :: S))) t) : Steps tb e below (T.setTop (mkF m pc L (S))) t := XS.bipush h hx rfl hd (hv ▸ hr)
theorem S.sipush {tb : Tables} [Ours tb] {e : Env} {below : List Frame} {T t : State} {m : MethodId} {c : Code} {pc : Nat} {L : Array Slot} {S : List Value} (h : At T m c below) (hx : tb.exec = Jvm.exec) {i : Int} (v : Int32) (hd : decode c.code pc = .ok (.sipush i, 3)) (hv : (Int16.ofInt i).toInt32 = v) (hr : Steps tb e below (T.setTop (mkF m (pc + 3) L (.int v :: S))) t) : Steps tb e below (T.setTop (mkF m pc L (S))) t := XS.sipush h hx rfl hd (hv ▸ hr)
theorem S.lconst {tb : Tables} [Ours tb] {e : Env} {below : List Frame} {T t : State} {m : MethodId} {c : Code} {pc : Nat} {L : Array Slot} {S : List Value} (h : At T m c below) (hx : tb.exec = Jvm.exec) {k : Fin 2} (v : Int64) (hd : decode c.code pc = .ok (.lconst k, 1)) (hv : Int64.ofNat k = v) (hr : Steps tb e below (T.setTop (mkF m (pc + 1) L (.long v :: S))) t) : Steps tb e below (T.setTop (mkF m pc L (S))) t := XS.lconst h hx rfl hd (hv ▸ hr)
theorem S.aconstNull {tb : Tables} [Ours tb] {e : Env} {below : List Frame} {T t : State} {m : MethodId} {c : Code} {pc : Nat} {L : Array Slot} {S : List Value} (h : At T m c below) (hx : tb.exec = Jvm.exec)  (hd : decode c.code pc = .ok (.aconst_null, 1)) (hr : Steps tb e below (T.setTop (mkF m (pc + 1) L (.null :: S))) t) : Steps tb e below (T.setTop (mkF m pc L (S))) t := XS.aconstNull h hx rfl hd hr
theorem S.iadd {tb : Tables} [Ours tb] {e : Env} {below : List Frame} {T t : State} {m : MethodId} {c : Code} {pc : Nat} {L : Array Slot} {S : List Value} (h : At T m c below) (hx : tb.exec = Jvm.exec) {x y : Int32} (hd : decode c.code pc = .ok (.iadd, 1)) (hr : Steps tb e below (T.setTop (mkF m (pc + 1) L (.int (x + y) :: S))) t) : Steps tb e below (T.setTop (mkF m pc L (.int y :: .int x :: S))) t := XS.iadd h hx rfl hd rfl hr
theorem S.isub {tb : Tables} [Ours tb] {e : Env} {below : List Frame} {T t : State} {m : MethodId} {c : Code} {pc : Nat} {L : Array Slot} {S : List Value} (h : At T m c below) (hx : tb.exec = Jvm.exec) {x y : Int32} (hd : decode c.code pc = .ok (.isub, 1)) (hr : Steps tb e below (T.setTop (mkF m (pc + 1) L (.int (x - y) :: S))) t) : Steps tb e below (T.setTop (mkF m pc L (.int y :: .int x :: S))) t := XS.isub h hx rfl hd rfl hr
theorem S.imul {tb : Tables} [Ours tb] {e : Env} {below : List Frame} {T t : State} {m : MethodId} {c : Code} {pc : Nat} {L : Array Slot} {S : List Value} (h : At T m c below) (hx : tb.exec = Jvm.exec) {x y : Int32} (hd : decode c.code pc = .ok (.imul, 1)) (hr : Steps tb e below (T.setTop (mkF m (pc + 1) L (.int (x * y) :: S))) t) : Steps tb e below (T.setTop (mkF m pc L (.int y :: .int x :: S))) t := XS.imul h hx rfl hd rfl hr
theorem S.iand {tb : Tables} [Ours tb] {e : Env} {below : List Frame} {T t : State} {m : MethodId} {c : Code} {pc : Nat} {L : Array Slot} {S : List Value} (h : At T m c below) (hx : tb.exec = Jvm.exec) {x y : Int32} (hd : decode c.code pc = .ok (.iand, 1)) (hr : Steps tb e below (T.setTop (mkF m (pc + 1) L (.int (x &&& y) :: S))) t) : Steps tb e below (T.setTop (mkF m pc L (.int y :: .int x :: S))) t := XS.iand h hx rfl hd rfl hr
theorem S.ior {tb : Tables} [Ours tb] {e : Env} {below : List Frame} {T t : State} {m : MethodId} {c : Code} {pc : Nat} {L : Array Slot} {S : List Value} (h : At T m c below) (hx : tb.exec = Jvm.exec) {x y : Int32} (hd : decode c.code pc = .ok (.ior, 1)) (hr : Steps tb e below (T.setTop (mkF m (pc + 1) L (.int (x ||| y) :: S))) t) : Steps tb e below (T.setTop (mkF m pc L (.int y :: .int x :: S))) t := XS.ior h hx rfl hd rfl hr
theorem S.ixor {tb : Tables} [Ours tb] {e : Env} {below : List Frame} {T t : State} {m : MethodId} {c : Code} {pc : Nat} {L : Array Slot} {S : List Value} (h : At T m c below) (hx : tb.exec = Jvm.exec) {x y : Int32} (hd : decode c.code pc = .ok (.ixor, 1)) (hr : Steps tb e below (T.setTop (mkF m (pc + 1) L (.int (x ^^^ y) :: S))) t) : Steps tb e below (T.setTop (mkF m pc L (.int y :: .int x :: S))) t := XS.ixor h hx rfl hd rfl hr
theorem S.ladd {tb : Tables} [Ours tb] {e : Env} {below : List Frame} {T t : State} {m : MethodId} {c : Code} {pc : Nat} {L : Array Slot} {S : List Value} (h : At T m c below) (hx : tb.exec = Jvm.exec) {x y : Int64} (hd : decode c.code pc = .ok (.ladd, 1)) (hr : Steps tb e below (T.setTop (mkF m (pc + 1) L (.long (x + y) :: S))) t) : Steps tb e below (T.setTop (mkF m pc L (.long y :: .long x :: S))) t := XS.ladd h hx rfl hd rfl hr
theorem S.lsub {tb : Tables} [Ours tb] {e : Env} {below : List Frame} {T t : State} {m : MethodId} {c : Code} {pc : Nat} {L : Array Slot} {S : List Value} (h : At T m c below) (hx : tb.exec = Jvm.exec) {x y : Int64} (hd : decode c.code pc = .ok (.lsub, 1)) (hr : Steps tb e below (T.setTop (mkF m (pc + 1) L (.long (x - y) :: S))) t) : Steps tb e below (T.setTop (mkF m pc L (.long y :: .long x :: S))) t := XS.lsub h hx rfl hd rfl hr
theorem S.lmul {tb : Tables} [Ours tb] {e : Env} {below : List Frame} {T t : State} {m : MethodId} {c : Code} {pc : Nat} {L : Array Slot} {S : List Value} (h : At T m c below) (hx : tb.exec = Jvm.exec) {x y : Int64} (hd : decode c.code pc = .ok (.lmul, 1)) (hr : Steps tb e below (T.setTop (mkF m (pc + 1) L (.long (x * y) :: S))) t) : Steps tb e below (T.setTop (mkF m pc L (.long y :: .long x :: S))) t := XS.lmul h hx rfl hd rfl hr
theorem S.land {tb : Tables} [Ours tb] {e : Env} {below : List Frame} {T t : State} {m : MethodId} {c : Code} {pc : Nat} {L : Array Slot} {S : List Value} (h : At T m c below) (hx : tb.exec = Jvm.exec) {x y : Int64} (hd : decode c.code pc = .ok (.land, 1)) (hr : Steps tb e below (T.setTop (mkF m (pc + 1) L (.long (x &&& y) :: S))) t) : Steps tb e below (T.setTop (mkF m pc L (.long y :: .long x :: S))) t := XS.land h hx rfl hd rfl hr
theorem S.lor {tb : Tables} [Ours tb] {e : Env} {below : List Frame} {T t : State} {m : MethodId} {c : Code} {pc : Nat} {L : Array Slot} {S : List Value} (h : At T m c below) (hx : tb.exec = Jvm.exec) {x y : Int64} (hd : decode c.code pc = .ok (.lor, 1)) (hr : Steps tb e below (T.setTop (mkF m (pc + 1) L (.long (x ||| y) :: S))) t) : Steps tb e below (T.setTop (mkF m pc L (.long y :: .long x :: S))) t := XS.lor h hx rfl hd rfl hr
theorem S.lxor {tb : Tables} [Ours tb] {e : Env} {below : List Frame} {T t : State} {m : MethodId} {c : Code} {pc : Nat} {L : Array Slot} {S : List Value} (h : At T m c below) (hx : tb.exec = Jvm.exec) {x y : Int64} (hd : decode c.code pc = .ok (.lxor, 1)) (hr : Steps tb e below (T.setTop (mkF m (pc + 1) L (.long (x ^^^ y) :: S))) t) : Steps tb e below (T.setTop (mkF m pc L (.long y :: .long x :: S))) t := XS.lxor h hx rfl hd rfl hr
theorem S.iaddV {tb : Tables} [Ours tb] {e : Env} {below : List Frame} {T t : State} {m : MethodId} {c : Code} {pc : Nat} {L : Array Slot} {S : List Value} (h : At T m c below) (hx : tb.exec = Jvm.exec) {x y : Int32} (v : Int32) (hd : decode c.code pc = .ok (.iadd, 1)) (hv : x + y = v) (hr : Steps tb e below (T.setTop (mkF m (pc + 1) L (.int v :: S))) t) : Steps tb e below (T.setTop (mkF m pc L (.int y :: .int x :: S))) t := XS.iadd h hx rfl hd rfl (hv ▸ hr)
theorem S.isubV {tb : Tables} [Ours tb] {e : Env} {below : List Frame} {T t : State} {m : MethodId} {c : Code} {pc : Nat} {L : Array Slot} {S : List Value} (h : At T m c below) (hx : tb.exec = Jvm.exec) {x y : Int32} (v : Int32) (hd : decode c.code pc = .ok (.isub, 1)) (hv : x - y = v) (hr : Steps tb e below (T.setTop (mkF m (pc + 1) L (.int v :: S))) t) : Steps tb e below (T.setTop (mkF m pc L (.int y :: .int x :: S))) t := XS.isub h hx rfl hd rfl (hv ▸ hr)
theorem S.imulV {tb : Tables} [Ours tb] {e : Env} {below : List Frame} {T t : State} {m : MethodId} {c : Code} {pc : Nat} {L : Array Slot} {S : List Value} (h : At T m c below) (hx : tb.exec = Jvm.exec) {x y : Int32} (v : Int32) (hd : decode c.code pc = .ok (.imul, 1)) (hv : x * y = v) (hr : Steps tb e below (T.setTop (mkF m (pc + 1) L (.int v :: S))) t) : Steps tb e below (T.setTop (mkF m pc L (.int y :: .int x :: S))) t := XS.imul h hx rfl hd rfl (hv ▸ hr)
theorem S.ishl {tb : Tables} [Ours tb] {e : Env} {below : List Frame} {T t : State} {m : MethodId} {c : Code} {pc : Nat} {L : Array Slot} {S : List Value} (h : At T m c below) (hx : tb.exec = Jvm.exec) {x : Int32} {y : Int32} (hd : decode c.code pc = .ok (.ishl, 1)) (hr : Steps tb e below (T.setTop (mkF m (pc + 1) L (.int (x <<< (y &&& 31)) :: S))) t) : Steps tb e below (T.setTop (mkF m pc L (.int y :: .int x :: S))) t := XS.ishl h hx rfl hd rfl hr
theorem S.ishr {tb : Tables} [Ours tb] {e : Env} {below : List Frame} {T t : State} {m : MethodId} {c : Code} {pc : Nat} {L : Array Slot} {S : List Value} (h : At T m c below) (hx : tb.exec = Jvm.exec) {x : Int32} {y : Int32} (hd : decode c.code pc = .ok (.ishr, 1)) (hr : Steps tb e below (T.setTop (mkF m (pc + 1) L (.int (x >>> (y &&& 31)) :: S))) t) : Steps tb e below (T.setTop (mkF m pc L (.int y :: .int x :: S))) t := XS.ishr h hx rfl hd rfl hr
theorem S.iushr {tb : Tables} [Ours tb] {e : Env} {below : List Frame} {T t : State} {m : MethodId} {c : Code} {pc : Nat} {L : Array Slot} {S : List Value} (h : At T m c below) (hx : tb.exec = Jvm.exec) {x : Int32} {y : Int32} (hd : decode c.code pc = .ok (.iushr, 1)) (hr : Steps tb e below (T.setTop (mkF m (pc + 1) L (.int ((x.toUInt32 >>> (y &&& 31).toUInt32).toInt32) :: S))) t) : Steps tb e below (T.setTop (mkF m pc L (.int y :: .int x :: S))) t := XS.iushr h hx rfl hd rfl hr
theorem S.lshl {tb : Tables} [Ours tb] {e : Env} {below : List Frame} {T t : State} {m : MethodId} {c : Code} {pc : Nat} {L : Array Slot} {S : List Value} (h : At T m c below) (hx : tb.exec = Jvm.exec) {x : Int64} {y : Int32} (hd : decode c.code pc = .ok (.lshl, 1)) (hr : Steps tb e below (T.setTop (mkF m (pc + 1) L (.long (x <<< (y &&& 0x3f).toInt64) :: S))) t) : Steps tb e below (T.setTop (mkF m pc L (.int y :: .long x :: S))) t := XS.lshl h hx rfl hd rfl hr
theorem S.lshr {tb : Tables} [Ours tb] {e : Env} {below : List Frame} {T t : State} {m : MethodId} {c : Code} {pc : Nat} {L : Array Slot} {S : List Value} (h : At T m c below) (hx : tb.exec = Jvm.exec) {x : Int64} {y : Int32} (hd : decode c.code pc = .ok (.lshr, 1)) (hr : Steps tb e below (T.setTop (mkF m (pc + 1) L (.long (x >>> (y &&& 0x3f).toInt64) :: S))) t) : Steps tb e below (T.setTop (mkF m pc L (.int y :: .long x :: S))) t := XS.lshr h hx rfl hd rfl hr
theorem S.lushr {tb : Tables} [Ours tb] {e : Env} {below : List Frame} {T t : State} {m : MethodId} {c : Code} {pc : Nat} {L : Array Slot} {S : List Value} (h : At T m c below) (hx : tb.exec = Jvm.exec) {x : Int64} {y : Int32} (hd : decode c.code pc = .ok (.lushr, 1)) (hr : Steps tb e below (T.setTop (mkF m (pc + 1) L (.long ((x.toUInt64 >>> (y &&& 0x3f).toInt64.toUInt64).toInt64) :: S))) t) : Steps tb e below (T.setTop (mkF m pc L (.int y :: .long x :: S))) t := XS.lushr h hx rfl hd rfl hr
theorem S.i2c {tb : Tables} [Ours tb] {e : Env} {below : List Frame} {T t : State} {m : MethodId} {c : Code} {pc : Nat} {L : Array Slot} {S : List Value} (h : At T m c below) (hx : tb.exec = Jvm.exec) {x : Int32} (hd : decode c.code pc = .ok (.i2c, 1)) (hr : Steps tb e below (T.setTop (mkF m (pc + 1) L (.int (x.toUInt32.toUInt16.toUInt32.toInt32) :: S))) t) : Steps tb e below (T.setTop (mkF m pc L (.int x :: S))) t := XS.i2c h hx rfl hd rfl hr
theorem S.i2b {tb : Tables} [Ours tb] {e : Env} {below : List Frame} {T t : State} {m : MethodId} {c : Code} {pc : Nat} {L : Array Slot} {S : List Value} (h : At T m c below) (hx : tb.exec = Jvm.exec) {x : Int32} (hd : decode c.code pc = .ok (.i2b, 1)) (hr : Steps tb e below (T.setTop (mkF m (pc + 1) L (.int (x.toInt8.toInt32) :: S))) t) : Steps tb e below (T.setTop (mkF m pc L (.int x :: S))) t := XS.i2b h hx rfl hd rfl hr
theorem S.i2l {tb : Tables} [Ours tb] {e : Env} {below : List Frame} {T t : State} {m : MethodId} {c : Code} {pc : Nat} {L : Array Slot} {S : List Value} (h : At T m c below) (hx : tb.exec = Jvm.exec) {x : Int32} (hd : decode c.code pc = .ok (.i2l, 1)) (hr : Steps tb e below (T.setTop (mkF m (pc + 1) L (.long (x.toInt64) :: S))) t) : Steps tb e below (T.setTop (mkF m pc L (.int x :: S))) t := XS.i2l h hx rfl hd rfl hr
theorem S.l2i {tb : Tables} [Ours tb] {e : Env} {below : List Frame} {T t : State} {m : MethodId} {c : Code} {pc : Nat} {L : Array Slot} {S : List Value} (h : At T m c below) (hx : tb.exec = Jvm.exec) {x : Int64} (hd : decode c.code pc = .ok (.l2i, 1)) (hr : Steps tb e below (T.setTop (mkF m (pc + 1) L (.int (x.toInt32) :: S))) t) : Steps tb e below (T.setTop (mkF m pc L (.long x :: S))) t := XS.l2i h hx rfl hd rfl hr
theorem S.ineg {tb : Tables} [Ours tb] {e : Env} {below : List Frame} {T t : State} {m : MethodId} {c : Code} {pc : Nat} {L : Array Slot} {S : List Value} (h : At T m c below) (hx : tb.exec = Jvm.exec) {x : Int32} (hd : decode c.code pc = .ok (.ineg, 1)) (hr : Steps tb e below (T.setTop (mkF m (pc + 1) L (.int (-x) :: S))) t) : Steps tb e below (T.setTop (mkF m pc L (.int x :: S))) t := XS.ineg h hx rfl hd rfl hr
theorem S.i2cM {tb : Tables} [Ours tb] {e : Env} {below : List Frame} {T t : State} {m : MethodId} {c : Code} {pc : Nat} {L : Array Slot} {S : List Value} (h : At T m c below) (hx : tb.exec = Jvm.exec) {x : Int32} (hd : decode c.code pc = .ok (.i2c, 1)) (hr : Steps tb e below (T.setTop (mkF m (pc + 1) L (.int (x &&& 255) :: S))) t) : Steps tb e below (T.setTop (mkF m pc L (.int (x &&& 255) :: S))) t := XS.i2c h hx rfl hd rfl (by rw [i2c_mask]; exact hr)
theorem S.iinc {tb : Tables} [Ours tb] {e : Env} {below : List Frame} {T t : State} {m : MethodId} {c : Code} {pc : Nat} {L : Array Slot} {S : List Value} (h : At T m c below) (hx : tb.exec = Jvm.exec) {k : Nat} {d : Int} {x : Int32} (v : Int32) (hd : decode c.code pc = .ok (.iinc k d, 3)) (hl : L[k]? = some (.val (.int x))) (hv : x + Int32.ofInt d = v) (L' : Array Slot) (hl' : storeLocals L k (.int v) = some L') (hr : Steps tb e below (T.setTop (mkF m (pc + 3) L' (S))) t) : Steps tb e below (T.setTop (mkF m pc L (S))) t := XS.iinc h hx rfl hd hl (hv ▸ hl') hr
theorem S.dup {tb : Tables} [Ours tb] {e : Env} {below : List Frame} {T t : State} {m : MethodId} {c : Code} {pc : Nat} {L : Array Slot} {S : List Value} (h : At T m c below) (hx : tb.exec = Jvm.exec) {x : Value} (hd : decode c.code pc = .ok (.dup, 1)) (hc : x.category = 1) (hr : Steps tb e below (T.setTop (mkF m (pc + 1) L (x :: x :: S))) t) : Steps tb e below (T.setTop (mkF m pc L (x :: S))) t := XS.dup h hx rfl hd rfl hc hr
theorem S.pop {tb : Tables} [Ours tb] {e : Env} {below : List Frame} {T t : State} {m : MethodId} {c : Code} {pc : Nat} {L : Array Slot} {S : List Value} (h : At T m c below) (hx : tb.exec = Jvm.exec) {x : Value} (hd : decode c.code pc = .ok (.pop, 1)) (hc : x.category = 1) (hr : Steps tb e below (T.setTop (mkF m (pc + 1) L (S))) t) : Steps tb e below (T.setTop (mkF m pc L (x :: S))) t := XS.pop h hx rfl hd rfl hc hr
theorem S.lcmp {tb : Tables} [Ours tb] {e : Env} {below : List Frame} {T t : State} {m : MethodId} {c : Code} {pc : Nat} {L : Array Slot} {S : List Value} (h : At T m c below) (hx : tb.exec = Jvm.exec) {x y : Int64} (hd : decode c.code pc = .ok (.lcmp, 1)) (hr : Steps tb e below (T.setTop (mkF m (pc + 1) L (.int (if x > y then 1 else if x = y then 0 else -1) :: S))) t) : Steps tb e below (T.setTop (mkF m pc L (.long y :: .long x :: S))) t := XS.lcmp h hx rfl hd rfl hr
theorem S.goto {tb : Tables} [Ours tb] {e : Env} {below : List Frame} {T t : State} {m : MethodId} {c : Code} {pc : Nat} {L : Array Slot} {S : List Value} (h : At T m c below) (hx : tb.exec = Jvm.exec) {o : Int} (pc' : Nat) (hd : decode c.code pc = .ok (.goto o, 3)) (ho : 0 ≤ (pc : Int) + o) (hp : ((pc : Int) + o).toNat = pc') (hr : Steps tb e below (T.setTop (mkF m (pc') L (S))) t) : Steps tb e below (T.setTop (mkF m pc L (S))) t := XS.goto h hx rfl rfl hd ho hp hr
theorem S.ifYes {tb : Tables} [Ours tb] {e : Env} {below : List Frame} {T t : State} {m : MethodId} {c : Code} {pc : Nat} {L : Array Slot} {S : List Value} (h : At T m c below) (hx : tb.exec = Jvm.exec) {cd : ClassFile.Cond} {x : Int32} {o : Int} (pc' : Nat) (hd : decode c.code pc = .ok (.ifCond cd o, 3)) (hc : ifCond.holds cd x = true) (ho : 0 ≤ (pc : Int) + o) (hp : ((pc : Int) + o).toNat = pc') (hr : Steps tb e below (T.setTop (mkF m (pc') L (S))) t) : Steps tb e below (T.setTop (mkF m pc L (.int x :: S))) t := XS.ifYes h hx rfl rfl hd rfl hc ho hp hr
theorem S.ifNo {tb : Tables} [Ours tb] {e : Env} {below : List Frame} {T t : State} {m : MethodId} {c : Code} {pc : Nat} {L : Array Slot} {S : List Value} (h : At T m c below) (hx : tb.exec = Jvm.exec) {cd : ClassFile.Cond} {x : Int32} {o : Int} (hd : decode c.code pc = .ok (.ifCond cd o, 3)) (hc : ifCond.holds cd x = false) (hr : Steps tb e below (T.setTop (mkF m (pc + 3) L (S))) t) : Steps tb e below (T.setTop (mkF m pc L (.int x :: S))) t := XS.ifNo h hx rfl hd rfl hc hr
theorem S.icmpYes {tb : Tables} [Ours tb] {e : Env} {below : List Frame} {T t : State} {m : MethodId} {c : Code} {pc : Nat} {L : Array Slot} {S : List Value} (h : At T m c below) (hx : tb.exec = Jvm.exec) {cd : ClassFile.Cond} {x y : Int32} {o : Int} (pc' : Nat) (hd : decode c.code pc = .ok (.if_icmp cd o, 3)) (hc : if_icmp.holds cd x y = true) (ho : 0 ≤ (pc : Int) + o) (hp : ((pc : Int) + o).toNat = pc') (hr : Steps tb e below (T.setTop (mkF m (pc') L (S))) t) : Steps tb e below (T.setTop (mkF m pc L (.int y :: .int x :: S))) t := XS.icmpYes h hx rfl rfl hd rfl hc ho hp hr
theorem S.icmpNo {tb : Tables} [Ours tb] {e : Env} {below : List Frame} {T t : State} {m : MethodId} {c : Code} {pc : Nat} {L : Array Slot} {S : List Value} (h : At T m c below) (hx : tb.exec = Jvm.exec) {cd : ClassFile.Cond} {x y : Int32} {o : Int} (hd : decode c.code pc = .ok (.if_icmp cd o, 3)) (hc : if_icmp.holds cd x y = false) (hr : Steps tb e below (T.setTop (mkF m (pc + 3) L (S))) t) : Steps tb e below (T.setTop (mkF m pc L (.int y :: .int x :: S))) t := XS.icmpNo h hx rfl hd rfl hc hr
theorem S.ifnullYes {tb : Tables} [Ours tb] {e : Env} {below : List Frame} {T t : State} {m : MethodId} {c : Code} {pc : Nat} {L : Array Slot} {S : List Value} (h : At T m c below) (hx : tb.exec = Jvm.exec) {o : Int} (pc' : Nat) (hd : decode c.code pc = .ok (.ifnull o, 3)) (ho : 0 ≤ (pc : Int) + o) (hp : ((pc : Int) + o).toNat = pc') (hr : Steps tb e below (T.setTop (mkF m (pc') L (S))) t) : Steps tb e below (T.setTop (mkF m pc L (.null :: S))) t := XS.ifnullYes h hx rfl rfl hd rfl ho hp hr
theorem S.ifnullNo {tb : Tables} [Ours tb] {e : Env} {below : List Frame} {T t : State} {m : MethodId} {c : Code} {pc : Nat} {L : Array Slot} {S : List Value} (h : At T m c below) (hx : tb.exec = Jvm.exec) {o : Int} {b : Addr} (hd : decode c.code pc = .ok (.ifnull o, 3)) (hr : Steps tb e below (T.setTop (mkF m (pc + 3) L (S))) t) : Steps tb e below (T.setTop (mkF m pc L (.ref b :: S))) t := XS.ifnullNo h hx rfl hd rfl hr
theorem S.ifnonnullYes {tb : Tables} [Ours tb] {e : Env} {below : List Frame} {T t : State} {m : MethodId} {c : Code} {pc : Nat} {L : Array Slot} {S : List Value} (h : At T m c below) (hx : tb.exec = Jvm.exec) {o : Int} {b : Addr} (pc' : Nat) (hd : decode c.code pc = .ok (.ifnonnull o, 3)) (ho : 0 ≤ (pc : Int) + o) (hp : ((pc : Int) + o).toNat = pc') (hr : Steps tb e below (T.setTop (mkF m (pc') L (S))) t) : Steps tb e below (T.setTop (mkF m pc L (.ref b :: S))) t := XS.ifnonnullYes h hx rfl rfl hd rfl ho hp hr
theorem S.ifnonnullNo {tb : Tables} [Ours tb] {e : Env} {below : List Frame} {T t : State} {m : MethodId} {c : Code} {pc : Nat} {L : Array Slot} {S : List Value} (h : At T m c below) (hx : tb.exec = Jvm.exec) {o : Int} (hd : decode c.code pc = .ok (.ifnonnull o, 3)) (hr : Steps tb e below (T.setTop (mkF m (pc + 3) L (S))) t) : Steps tb e below (T.setTop (mkF m pc L (.null :: S))) t := XS.ifnonnullNo h hx rfl hd rfl hr
end Jvm.Pilot.@@N@@
namespace Jvm.Pilot.@@N@@
open Jvm Jvm.ClassFile Sem Op Lib Jvm.Free Jvm.Stand Jvm.LawKit Jvm.RoadKit Bundle Jvm.Pilot.@@N@@.Jvm.D
section OwnKit
variable {p : Program} {l : Launch} {e : Env} {R : Room} {s : State} {m : MethodId} {args : Array Value} {below : List Frame} {meth : Method} {c : Code} {Z : State} {a0 : Array Value} {EL : List (String × Nat)} {n0 : Nat} {own : String} {nw : Bool} {st : State} {vm0 : Vm} {h : Heap} {g g' : JFrame} {cells slots : Nat}
/-- where a walk stands: the heap h, the frame g, so many cells and slots made; nw: nothing interned since its start -/
def Wk (p : Program) (l : Launch) (e : Env) (R : Room) (s : State) (m : MethodId) (args : Array Value) (below : List Frame) (meth : Method) (c : Code) (Z : State) (a0 : Array Value) (EL : List (String × Nat)) (n0 : Nat) (own : String) (nw : Bool) (st : State) (vm0 : Vm) (h : Heap) (g : JFrame) (cells slots : Nat) : Prop :=
  ∃ (T : State) (locs : List Loc) (k0 : Nat), Stand p l e R (s.setVm vm0) m args below meth c T locs cells slots ∧ T.heap = h ∧ s.Since vm0 k0 ∧ k0 ≤ h.size ∧ Z.Warmed39 vm0 ∧ vm0.findClass own = some m.cls ∧ Fr n0 locs ∧ (nw = true → vm0 = s.vm) ∧ EW Z a0 EL ∧ CHr Z EL s.vm s.heap vm0 h ∧ p.tables.exec = Jvm.exec ∧ ∀ t, Steps p.tables e below (T.setTop g) t → Steps p.tables e below st t
theorem exlt {h : Heap} {a : Addr} {C : String} (E : Exa Z h a C) : h.size > a := E.lt
theorem arlt {h : Heap} {a : Addr} {k : ClassId} {ty : FieldType} {z : Int32} {vs : List Value} {d : Value} (V : Arv Z h a k ty z vs d) : h.size > a := V.lt
theorem nne {a b : Nat} (h : a < b ∨ b < a) : a ≠ b := by omega
theorem safe0 {vm : Vm} {h : Heap} {x : Addr} : Safe Z [] vm h x := fun ⟨_, hp, _⟩ => nomatch hp
theorem chv0 {vm : Vm} {h : Heap} : CHv Z [] vm h := fun _ hp => nomatch hp
theorem Wk.start {x : MethodName} {S : Spec} {code : ByteArray} {maxLocals : Nat} {ret : Option FieldType} {s₁ : State} (Bd : BodyLoose p l x S code maxLocals ret e s m args below meth c s₁) (hZ : Z.Warmed39 s.vm) (hh : s.heap = h) (hE : EW Z a0 EL) (hC : CHv Z EL s.vm h) (ef : entryFrame m args maxLocals = g) (R : Room) (hR : S.room = R) :
    Wk p l e R s m args below meth c Z a0 EL n0 x.cls nw (s₁.setTop (entryFrame m args maxLocals)) s.vm h g 0 0 := by
  subst hh hR
  exact ⟨s₁, [], s.heap.size, Stand.of_body Bd, by rw [Bd.state]; rfl, (State.WarmedH.refl s).since _, Nat.le_refl _, hZ, findClass_of_methodNamed Bd.named, Fr.nil _, fun _ => rfl, hE, CHr.refl hC, Bd.exec, fun t k => castTop ef k⟩
theorem Wk.hZ (w : Wk p l e R s m args below meth c Z a0 EL n0 own nw st vm0 h g cells slots) : Z.Warmed39 (s.setVm vm0).vm := by
  obtain ⟨T, locs, k0, X, eT, hS, hk, hZ, hown, N, hnw, hE, hC, hx, pre⟩ := w; exact hZ
theorem Wk.al (w : Wk p l e R s m args below meth c Z a0 EL n0 own nw st vm0 h g cells slots) : Z.vm.Alike vm0 := State.Warmed39.alike (s := Z) w.hZ
theorem Wk.chv (w : Wk p l e R s m args below meth c Z a0 EL n0 own nw st vm0 h g cells slots) : CHv Z EL vm0 h := by
  obtain ⟨T, locs, k0, X, eT, hS, hk, hZ, hown, N, hnw, hE, hC, hx, pre⟩ := w; exact hC.1
theorem Wk.pure (w : Wk p l e R s m args below meth c Z a0 EL n0 own nw st vm0 h g cells slots) (g' : JFrame)
    (k : ∀ {T : State} {locs : List Loc} {t : State}, Stand p l e R (s.setVm vm0) m args below meth c T locs cells slots → T.heap = h → Z.Warmed39 (s.setVm vm0).vm → (s.setVm vm0).vm.findClass own = some m.cls → Steps p.tables e below (T.setTop g') t → Steps p.tables e below (T.setTop g) t) :
    Wk p l e R s m args below meth c Z a0 EL n0 own nw st vm0 h g' cells slots := by
  obtain ⟨T, locs, k0, X, eT, hS, hk, hZ, hown, N, hnw, hE, hC, hx, pre⟩ := w
  exact ⟨T, locs, k0, X, eT, hS, hk, hZ, hown, N, hnw, hE, hC, hx, fun t q => pre t (k X eT hZ hown q)⟩
/-- a step that moves the tables alone -/
theorem Wk.same (w : Wk p l e R s m args below meth c Z a0 EL n0 own nw st vm0 h g cells slots) (g' : JFrame)
    (k : ∀ {T : State} {locs : List Loc}, Stand p l e R (s.setVm vm0) m args below meth c T locs cells slots → T.heap = h → Z.Warmed39 (s.setVm vm0).vm → (s.setVm vm0).vm.findClass own = some m.cls → ∃ T', Stand p l e R (s.setVm vm0) m args below meth c T' locs cells slots ∧ T'.heap = h ∧ ∀ t, Steps p.tables e below (T'.setTop g') t → Steps p.tables e below (T.setTop g) t) :
    Wk p l e R s m args below meth c Z a0 EL n0 own nw st vm0 h g' cells slots := by
  obtain ⟨T, locs, k0, X, eT, hS, hk, hZ, hown, N, hnw, hE, hC, hx, pre⟩ := w
  obtain ⟨T', X', e', q⟩ := k X eT hZ hown
  exact ⟨T', locs, k0, X', e', hS, hk, hZ, hown, N, hnw, hE, hC, hx, fun t z => pre t (q t z)⟩
theorem Wk.more (w : Wk p l e R s m args below meth c Z a0 EL n0 own nw st vm0 h g cells slots) {k n : Nat} (hc : cells ≤ k) (hn : slots ≤ n) : Wk p l e R s m args below meth c Z a0 EL n0 own nw st vm0 h g k n := by
  obtain ⟨T, locs, k0, X, eT, hS, hk, hZ, hown, N, hnw, hE, hC, hx, pre⟩ := w
  exact ⟨T, locs, k0, X.mono hc hn, eT, hS, hk, hZ, hown, N, hnw, hE, hC, hx, pre⟩
theorem Wk.newO (w : Wk p l e R s m args below meth c Z a0 EL n0 own nw st vm0 h g cells slots) (hx : p.tables.exec = Jvm.exec) {C : String} {index n : Nat} (w1 : (Cond.classLink own index C).before a0 Z = true) (w2 : (Cond.instantiable C n).before a0 Z = true) (w3 : (Cond.initialized C).before a0 Z = true)
    (hg : g.method = m) (hd : decode c.code g.pc = .ok (.new index, 3)) (hc : cells + 1 ≤ R.cells) (hl : slots + n ≤ R.slots) (g' : Addr → JFrame) (hg' : ∀ x, g' x = { g with pc := g.pc + 3, stack := .ref x :: g.stack }) :
    ∃ (x : Nat) (h' : Heap), x = h.size ∧ Ext h h' ∧ h'.size > x ∧ Exa Z h' x C ∧ (∀ {O nm d : String} {ty : FieldType}, Laid Z a0 C O nm d → parseFieldDescriptor d = some ty → Fld Z h' x O nm d (defaultValue ty)) ∧ Safe Z EL vm0 h' x ∧ Wk p l e R s m args below meth c Z a0 EL n0 own nw st vm0 h' (g' x) (cells + 1) (slots + n) := by
  obtain ⟨T, locs, k0, X, eT, hS, hk, hZ, hown, N, hnw, hE, hC, -, pre⟩ := w
  obtain ⟨T', h', X', e', E, A, D, -, st'⟩ := RoadKit.newO X hx hZ hown w1 w2 w3 eT hg hd hc hl
  exact ⟨h.size, h', rfl, E, A.lt, A, D, Safe.ext E hC.1 (Safe.new (Nat.le_refl _)), T', locs, k0, X', e', hS, Nat.le_trans hk E.1, hZ, hown, N, hnw, hE, hC.trans (CHr.ext E hC.1), hx, fun t k => pre t (st' t (hg' h.size ▸ k))⟩
theorem Wk.newP (w : Wk p l e R s m args below meth c Z a0 EL n0 own nw st vm0 h g cells slots) (hx : p.tables.exec = Jvm.exec) {aty : ArrayType} (w1 : (Cond.arrayClass (newarray.typeOf aty)).before a0 Z = true) (hg : g.method = m) (hd : decode c.code g.pc = .ok (.newarray aty, 2)) {n : Int32} {rest : List Value} (hs : g.stack = .int n :: rest)
    (hn : ¬ n < 0) (cap : Nat) (hcap : n.toNatClampNeg ≤ cap) (hb : cap * 8 ≤ 536870912) (hc : cells + 1 ≤ R.cells) (hl : slots + cap ≤ R.slots) (g' : Addr → JFrame) (hg' : ∀ x, g' x = { g with pc := g.pc + 2, stack := .ref x :: rest }) :
    ∃ (x : Nat) (h' : Heap) (k : ClassId), x = h.size ∧ Ext h h' ∧ h'.size > x ∧ Arv Z h' x k (newarray.typeOf aty) n [] (defaultValue (newarray.typeOf aty)) ∧ Safe Z EL vm0 h' x ∧ Wk p l e R s m args below meth c Z a0 EL n0 own nw st vm0 h' (g' x) (cells + 1) (slots + cap) := by
  obtain ⟨T, locs, k0, X, eT, hS, hk, hZ, hown, N, hnw, hE, hC, -, pre⟩ := w
  obtain ⟨T', h', k, X', e', E, A, st'⟩ := RoadKit.newP X hx hZ w1 eT hg hd hs hn hcap hb hc hl
  exact ⟨h.size, h', k, rfl, E, A.lt, Arv.new A hn, Safe.ext E hC.1 (Safe.new (Nat.le_refl _)), T', locs, k0, X', e', hS, Nat.le_trans hk E.1, hZ, hown, N, hnw, hE, hC.trans (CHr.ext E hC.1), hx, fun t q => pre t (st' t (hg' h.size ▸ q))⟩
theorem Wk.putF (w : Wk p l e R s m args below meth c Z a0 EL n0 own nw st vm0 h g cells slots) (hx : p.tables.exec = Jvm.exec) {R0 O n d host C : String} {index kk : Nat} {ty : FieldType} (w1 : (Cond.fieldLink own index R0 n d).before a0 Z = true ∨ (Cond.fieldLinkNest own index R0 n d host).before a0 Z = true) (via : Via Z R0 O n d)
    {a : Addr} {v old : Value} (F : Fld Z h a O n d old) (E : Exa Z h a C) (L : (Cond.lays C O n d).before a0 Z = true ∨ ((Cond.laysFinal C O n d).before a0 Z = true ∧ own = O ∧ meth.name = "<init>")) (wi : (Cond.instantiable C kk).before a0 Z = true)
    (hty : parseFieldDescriptor d = some ty) (hn : narrow ty v = v) (hf : fits ty v = true) (hg : g.method = m) {rest : List Value} (hs : g.stack = v :: .ref a :: rest) (hd : decode c.code g.pc = .ok (.putfield index, 3)) (na : n0 ≤ a) (sf : Safe Z EL vm0 h a) (g' : JFrame) (hg' : g' = { g with pc := g.pc + 3, stack := rest }) :
    ∃ h', Wr h h' a (RoadKit.slotOf Z O n d) v ∧ h'.size = h.size ∧ Fld Z h' a O n d v ∧ Wk p l e R s m args below meth c Z a0 EL n0 own nw st vm0 h' g' cells slots := by
  obtain ⟨T, locs, k0, X, eT, hS, hk, hZ, hown, N, hnw, hE, hC, -, pre⟩ := w
  obtain ⟨T', h', X', e', W, st'⟩ := RoadKit.putF X hx hZ hown w1 via eT F E L wi hty hn hf hg hs hd
  exact ⟨h', W, W.size, F.same W, T', _, k0, X', e', hS, by rw [W.size]; exact hk, hZ, hown, Fr.snoc X' N na, hnw, hE, hC.trans (CHr.wr W sf hC.1), hx, fun t q => pre t (st' t (hg' ▸ q))⟩
theorem Wk.putFN (w : Wk p l e R s m args below meth c Z a0 EL n0 own nw st vm0 h g cells slots) (hx : p.tables.exec = Jvm.exec) {R0 O n d C : String} {index kk : Nat} {ty : FieldType} (w1 : (Cond.fieldLink own index R0 n d).before a0 Z = true) (via : Via Z R0 O n d)
    {a : Addr} {v old : Value} (v' : Value) (F : Fld Z h a O n d old) (E : Exa Z h a C) (L : (Cond.lays C O n d).before a0 Z = true ∨ ((Cond.laysFinal C O n d).before a0 Z = true ∧ own = O ∧ meth.name = "<init>")) (wi : (Cond.instantiable C kk).before a0 Z = true)
    (hty : parseFieldDescriptor d = some ty) (hn : narrow ty v = v') (hf : fits ty v' = true) (hg : g.method = m) {rest : List Value} (hs : g.stack = v :: .ref a :: rest) (hd : decode c.code g.pc = .ok (.putfield index, 3)) (na : n0 ≤ a) (sf : Safe Z EL vm0 h a) (g' : JFrame) (hg' : g' = { g with pc := g.pc + 3, stack := rest }) :
    ∃ h', Wr h h' a (RoadKit.slotOf Z O n d) v' ∧ h'.size = h.size ∧ Fld Z h' a O n d v' ∧ Wk p l e R s m args below meth c Z a0 EL n0 own nw st vm0 h' g' cells slots := by
  obtain ⟨T, locs, k0, X, eT, hS, hk, hZ, hown, N, hnw, hE, hC, -, pre⟩ := w
  obtain ⟨T', h', X', e', W, st'⟩ := RoadKit.putFN X hx hZ hown w1 via eT F E L wi hty hn hf hg hs hd
  exact ⟨h', W, W.size, F.same W, T', _, k0, X', e', hS, by rw [W.size]; exact hk, hZ, hown, Fr.snoc X' N na, hnw, hE, hC.trans (CHr.wr W sf hC.1), hx, fun t q => pre t (st' t (hg' ▸ q))⟩
theorem Wk.stC (w : Wk p l e R s m args below meth c Z a0 EL n0 own nw st vm0 h g cells slots) (hx : p.tables.exec = Jvm.exec) {a : Addr} {k : ClassId} {z : Int32} {vs : List Value} {dv : Value} (V : Arv Z h a k .char z vs dv) {j x : Int32} (i : Nat) (hj : j.toNatClampNeg = i) (hi : i < vs.length) (hin : ¬ j < 0 ∧ j < z)
    (hg : g.method = m) {rest : List Value} (hs : g.stack = .int x :: .int j :: .ref a :: rest) (hd : decode c.code g.pc = .ok (.castore, 1)) (na : n0 ≤ a) (g' : JFrame) (hg' : g' = { g with pc := g.pc + 1, stack := rest }) :
    ∃ h', Wr h h' a j.toNatClampNeg (.int (nar .char x)) ∧ h'.size = h.size ∧ Arv Z h' a k .char z (vs.set i (.int (nar .char x))) dv ∧ Wk p l e R s m args below meth c Z a0 EL n0 own nw st vm0 h' g' cells slots := by
  obtain ⟨T, locs, k0, X, eT, hS, hk, hZ, hown, N, hnw, hE, hC, -, pre⟩ := w
  obtain ⟨cl, A, q, S, M, H, U⟩ := id V
  obtain ⟨T', h', X', e', W, st'⟩ := RoadKit.stC X hx hZ eT A (inb_of S hin) hg hs hd
  exact ⟨h', W, W.size, Arv.set A q S M H U (fits_nar_char _) W i hj hi, T', _, k0, X', e', hS, by rw [W.size]; exact hk, hZ, hown, Fr.snoc X' N na, hnw, hE, hC.trans (CHr.wr W (Safe.arv (State.Warmed39.alike (s := Z) hZ) V (by decide)) hC.1), hx, fun t q => pre t (st' t (hg' ▸ q))⟩
theorem Wk.stI (w : Wk p l e R s m args below meth c Z a0 EL n0 own nw st vm0 h g cells slots) (hx : p.tables.exec = Jvm.exec) {a : Addr} {k : ClassId} {z : Int32} {vs : List Value} {dv : Value} (V : Arv Z h a k .int z vs dv) {j x : Int32} (i : Nat) (hj : j.toNatClampNeg = i) (hi : i < vs.length) (hin : ¬ j < 0 ∧ j < z)
    (hg : g.method = m) {rest : List Value} (hs : g.stack = .int x :: .int j :: .ref a :: rest) (hd : decode c.code g.pc = .ok (.iastore, 1)) (na : n0 ≤ a) (g' : JFrame) (hg' : g' = { g with pc := g.pc + 1, stack := rest }) :
    ∃ h', Wr h h' a j.toNatClampNeg (.int x) ∧ h'.size = h.size ∧ Arv Z h' a k .int z (vs.set i (.int x)) dv ∧ Wk p l e R s m args below meth c Z a0 EL n0 own nw st vm0 h' g' cells slots := by
  obtain ⟨T, locs, k0, X, eT, hS, hk, hZ, hown, N, hnw, hE, hC, -, pre⟩ := w
  obtain ⟨cl, A, q, S, M, H, U⟩ := id V
  obtain ⟨T', h', X', e', W, st'⟩ := RoadKit.stI X hx hZ eT A (inb_of S hin) hg hs hd
  exact ⟨h', W, W.size, Arv.set A q S M H U rfl W i hj hi, T', _, k0, X', e', hS, by rw [W.size]; exact hk, hZ, hown, Fr.snoc X' N na, hnw, hE, hC.trans (CHr.wr W (Safe.arv (State.Warmed39.alike (s := Z) hZ) V (by decide)) hC.1), hx, fun t q => pre t (st' t (hg' ▸ q))⟩
theorem Wk.stB (w : Wk p l e R s m args below meth c Z a0 EL n0 own nw st vm0 h g cells slots) (hx : p.tables.exec = Jvm.exec) {a : Addr} {k : ClassId} {z : Int32} {vs : List Value} {dv : Value} (V : Arv Z h a k .byte z vs dv) (sf : Safe Z EL vm0 h a) {j x : Int32} (i : Nat) (hj : j.toNatClampNeg = i) (hi : i < vs.length) (hin : ¬ j < 0 ∧ j < z)
    (hg : g.method = m) {rest : List Value} (hs : g.stack = .int x :: .int j :: .ref a :: rest) (hd : decode c.code g.pc = .ok (.bastore, 1)) (na : n0 ≤ a) (g' : JFrame) (hg' : g' = { g with pc := g.pc + 1, stack := rest }) :
    ∃ h', Wr h h' a j.toNatClampNeg (.int x.toInt8.toInt32) ∧ h'.size = h.size ∧ Arv Z h' a k .byte z (vs.set i (.int x.toInt8.toInt32)) dv ∧ Wk p l e R s m args below meth c Z a0 EL n0 own nw st vm0 h' g' cells slots := by
  obtain ⟨T, locs, k0, X, eT, hS, hk, hZ, hown, N, hnw, hE, hC, -, pre⟩ := w
  obtain ⟨cl, A, q, S, M, H, U⟩ := id V
  obtain ⟨T', h', X', e', W, st'⟩ := RoadKit.stB X hx hZ eT A (inb_of S hin) hg hs hd
  exact ⟨h', W, W.size, Arv.set A q S M H U (fits_nar_byte _) W i hj hi, T', _, k0, X', e', hS, by rw [W.size]; exact hk, hZ, hown, Fr.snoc X' N na, hnw, hE, hC.trans (CHr.wr W sf hC.1), hx, fun t q => pre t (st' t (hg' ▸ q))⟩
/-! single steps that read an array -/
section Reads
variable {T : State} {locs : List Loc} {target : State}
theorem caV (X : Stand p l e R s m args below meth c T locs cells slots) (hx : p.tables.exec = Jvm.exec) (eT : T.heap = h) (hZ : Z.Warmed39 s.vm) {a : Addr} {k : ClassId} {z : Int32} {vs : List Value} {dv v : Value} (V : Arv Z h a k .char z vs dv) {j : Int32} (hin : ¬ j < 0 ∧ j < z) (hv : vs.getD j.toNatClampNeg dv = v)
    (hg : g.method = m) {rest : List Value} (hs : g.stack = .int j :: .ref a :: rest) (hd : decode c.code g.pc = .ok (.caload, 1)) (hr : Steps p.tables e below (T.setTop { g with pc := g.pc + 1, stack := v :: rest }) target) : Steps p.tables e below (T.setTop g) target := by
  obtain ⟨cl, A, q, S, M, H, U⟩ := V
  exact X.caload hx (by rw [eT]; exact A.1) (State.isArrayOf_alike hZ.alike A.2.1) A.2.2 (inb_of S hin) (H.at (inb_of S hin) hv) hg hs hd _ hr
theorem iaV (X : Stand p l e R s m args below meth c T locs cells slots) (hx : p.tables.exec = Jvm.exec) (eT : T.heap = h) (hZ : Z.Warmed39 s.vm) {a : Addr} {k : ClassId} {z : Int32} {vs : List Value} {dv v : Value} (V : Arv Z h a k .int z vs dv) {j : Int32} (hin : ¬ j < 0 ∧ j < z) (hv : vs.getD j.toNatClampNeg dv = v)
    (hg : g.method = m) {rest : List Value} (hs : g.stack = .int j :: .ref a :: rest) (hd : decode c.code g.pc = .ok (.iaload, 1)) (hr : Steps p.tables e below (T.setTop { g with pc := g.pc + 1, stack := v :: rest }) target) : Steps p.tables e below (T.setTop g) target := by
  obtain ⟨cl, A, q, S, M, H, U⟩ := V
  exact X.iaload hx (by rw [eT]; exact A.1) (State.isArrayOf_alike hZ.alike A.2.1) A.2.2 (inb_of S hin) (H.at (inb_of S hin) hv) hg hs hd _ hr
theorem baV (X : Stand p l e R s m args below meth c T locs cells slots) (hx : p.tables.exec = Jvm.exec) (eT : T.heap = h) (hZ : Z.Warmed39 s.vm) {a : Addr} {k : ClassId} {z : Int32} {vs : List Value} {dv v : Value} (V : Arv Z h a k .byte z vs dv) {j : Int32} (hin : ¬ j < 0 ∧ j < z) (hv : vs.getD j.toNatClampNeg dv = v)
    (hg : g.method = m) {rest : List Value} (hs : g.stack = .int j :: .ref a :: rest) (hd : decode c.code g.pc = .ok (.baload, 1)) (hr : Steps p.tables e below (T.setTop { g with pc := g.pc + 1, stack := v :: rest }) target) : Steps p.tables e below (T.setTop g) target := by
  obtain ⟨cl, A, q, S, M, H, U⟩ := V
  exact X.baloadBytes hx (by rw [eT]; exact A.1) (State.isArrayOf_alike hZ.alike A.2.1) A.2.2 (inb_of S hin) (H.at (inb_of S hin) hv) hg hs hd _ hr
theorem aaV (X : Stand p l e R s m args below meth c T locs cells slots) (hx : p.tables.exec = Jvm.exec) (eT : T.heap = h) (hZ : Z.Warmed39 s.vm) {a : Addr} {k : ClassId} {z : Int32} {vs : List Value} {dv v : Value} {ty : FieldType} (V : Arv Z h a k ty z vs dv) (hty : ty.isReference = true) {j : Int32} (hin : ¬ j < 0 ∧ j < z) (hv : vs.getD j.toNatClampNeg dv = v)
    (hg : g.method = m) {rest : List Value} (hs : g.stack = .int j :: .ref a :: rest) (hd : decode c.code g.pc = .ok (.aaload, 1)) (hr : Steps p.tables e below (T.setTop { g with pc := g.pc + 1, stack := v :: rest }) target) : Steps p.tables e below (T.setTop g) target := by
  obtain ⟨cl, A, q, S, M, H, U⟩ := V
  exact X.aaload hx (by rw [eT]; exact A.1) (State.isArrayOf_alike hZ.alike A.2.1) hty A.2.2 (inb_of S hin) (H.at (inb_of S hin) hv) hg hs hd _ hr
theorem alenV (X : Stand p l e R s m args below meth c T locs cells slots) (hx : p.tables.exec = Jvm.exec) (eT : T.heap = h) (hZ : Z.Warmed39 s.vm) {a : Addr} {k : ClassId} {z : Int32} {vs : List Value} {dv : Value} {ty : FieldType} (V : Arv Z h a k ty z vs dv)
    (hg : g.method = m) {rest : List Value} (hs : g.stack = .ref a :: rest) (hd : decode c.code g.pc = .ok (.arraylength, 1)) (hr : Steps p.tables e below (T.setTop { g with pc := g.pc + 1, stack := .int z :: rest }) target) : Steps p.tables e below (T.setTop g) target := by
  obtain ⟨cl, A, q, S, M, H, U⟩ := V
  exact X.arraylength hx (by rw [eT]; exact A.1) (State.isArrayOf_alike hZ.alike A.2.1) hg hs hd _ (by rw [len_of S M]; exact hr)
end Reads
/-! calls -/
/-- who pays a call: nothing interned -/
def Pay (l : Launch) (R : Room) (p : Program) (e : Env) (below : List Frame) (s : State) (args : Array Value) (y : MethodName) (W : Nat) (as' : List Value) (h : Heap) (kc ks n0 : Nat) (wr : List Addr) (Q : Option Value → Heap → Prop) : Prop :=
  Back l R p e below s args y 3 W (fun P a => a = as'.toArray ∧ P.U.heap = h ∧ P.cells + kc ≤ R.cells ∧ P.slots + ks ≤ R.slots) (fun P _ v B => ∃ L, (Q v B.U.heap ∧ Keep h B.U.heap wr ∧ Fr n0 L) ∧ B.locs = P.locs ++ L ∧ B.cells = P.cells + kc ∧ B.slots = P.slots + ks)
/-- a contract: nothing interned -/
def NMet (l : Launch) (Z : State) (y : MethodName) (bytes : ByteArray) (maxL : Nat) (ret : Option FieldType) (ws : List Jvm.Cond) (rm : Room) (as' : List Value) (h : Heap) (n0 : Nat) (wr : List Addr) (Q : Option Value → Heap → Prop) : Prop :=
  MetFree l y (head1 (Jvm.Cond.code y bytes maxL ret :: ws) rm) (fun a U => a = as'.toArray ∧ Z.Warmed39 U.vm ∧ U.heap = h) (fun _ _ _ _ _ => True) (fun _ U o U' => ∃ v L, o = .returned v ∧ (Q v U'.heap ∧ Keep h U'.heap wr ∧ Fr n0 L) ∧ FrameEnd U o U' L rm.cells rm.slots)
theorem NMet.pay {y : MethodName} {bytes : ByteArray} {maxL : Nat} {ret : Option FieldType} {rm : Room} {as' : List Value} {wr : List Addr} {Q : Option Value → Heap → Prop} {W : Nat} (M : NMet l Z y bytes maxL ret [] rm as' h n0 wr Q) (hZ : Z.Warmed39 s.vm) (wc : (Cond.code y bytes maxL ret).before a0 Z = true) (wz : (Cond.initialized y.cls).before a0 Z = true) (hf : rm.frames + 1 ≤ R.frames) (hl : W + (maxL + 11) + rm.locals ≤ R.locals) :
    Pay l R p e below s args y W as' h rm.cells rm.slots n0 wr Q := backOf (a0 := a0) (Q := fun v h' L => Q v h' ∧ Keep h h' wr ∧ Fr n0 L) M hZ wc wz hf hl
theorem Wk.callS (w : Wk p l e R s m args below meth c Z a0 EL n0 own nw st vm0 h g cells slots) (hx : p.tables.exec = Jvm.exec) {y : MethodName} {bytes : ByteArray} {maxL : Nat} {ret : Option FieldType} {index W kc ks : Nat} {as' : List Value} {wr : List Addr} {Q : Option Value → Heap → Prop}
    (w1 : (Cond.methodLink own index y).before a0 Z = true) (w2 : (Cond.static y).before a0 Z = true) (w3 : (Cond.initialized y.cls).before a0 Z = true) (w4 : (Cond.code y bytes maxL ret).before a0 Z = true) (hy : y.cls ≠ "java/lang/invoke/MethodHandle" ∧ y.cls ≠ "java/lang/invoke/VarHandle")
    (P : Pay l R p e below (s.setVm vm0) args y W as' h kc ks n0 wr Q) (hg : g.method = m) (hsize : g.locals.size = c.maxLocals) (rest : List Value) (hlen : ∀ sig, parseMethodDescriptor y.desc = some sig → as'.length = sig.parameters.length) (hstack : g.stack = as'.reverse ++ rest) (hW : 2 * g.monitorRoom + (rest.map fun v => v.category).sum ≤ W)
    (hd : decode c.code g.pc = .ok (.invokestatic index, 3)) (hc : cells + kc ≤ R.cells) (hl : slots + ks ≤ R.slots) (sf : ∀ x ∈ wr, Safe Z EL vm0 h x) (g' : Option Value → JFrame) (hg' : ∀ v, g' v = { g with pc := g.pc + 3, stack := v.toList ++ rest }) :
    ∃ v h', Q v h' ∧ Keep h h' wr ∧ h.size ≤ h'.size ∧ Wk p l e R s m args below meth c Z a0 EL n0 own nw st vm0 h' (g' v) (cells + kc) (slots + ks) := by
  obtain ⟨T, locs, k0, X, eT, hS, hk, hZ, hown, N, hnw, hE, hC, -, pre⟩ := w
  have hZ' : Z.Warmed39 (s.setVm vm0).vm := hZ
  obtain ⟨v, _, ⟨T', L', k', n'⟩, -, X', ⟨L, ⟨hQ, hK, hN⟩, l1, l2, l3⟩, st'⟩ := Jvm.LawKit.callS X hx (y := y) hown (mvT hZ' w1) (mvT hZ' w2) (mvT hZ' w3) (mvT hZ' w4) hy P hg hsize hlen hstack hW hd (fun _ _ => ⟨rfl, eT, hc, hl⟩)
  dsimp only [Pt.U, Pt.locs, Pt.cells, Pt.slots] at X' l1 l2 l3 st' hQ hK
  subst l1 l2 l3
  exact ⟨v, T'.heap, hQ, hK, hK.1, T', _, k0, X', rfl, hS, Nat.le_trans hk hK.1, hZ, hown, Fr.app N hN, hnw, hE, hC.trans (CHr.keep hK sf hC.1), hx, fun t k => pre t (st' t (hg' v ▸ k))⟩
theorem Wk.callI (w : Wk p l e R s m args below meth c Z a0 EL n0 own nw st vm0 h g cells slots) (hx : p.tables.exec = Jvm.exec) {y : MethodName} {bytes : ByteArray} {maxL : Nat} {index W kc ks : Nat} {a : Addr} {as' : List Value} {wr : List Addr} {Q : Option Value → Heap → Prop}
    (hy1 : y.name = "<init>") (w1 : (Cond.methodLink own index y).before a0 Z = true) (w2 : (Cond.instanceMethod y).before a0 Z = true) (w4 : (Cond.code y bytes maxL none).before a0 Z = true) (hy : y.cls ≠ "java/lang/invoke/MethodHandle" ∧ y.cls ≠ "java/lang/invoke/VarHandle")
    (P : Pay l R p e below (s.setVm vm0) args y W (.ref a :: as') h kc ks n0 wr Q) (hg : g.method = m) (hsize : g.locals.size = c.maxLocals) (rest : List Value) (hlen : ∀ sig, parseMethodDescriptor y.desc = some sig → as'.length = sig.parameters.length) (hstack : g.stack = as'.reverse ++ .ref a :: rest) (hW : 2 * g.monitorRoom + (rest.map fun v => v.category).sum ≤ W)
    (hd : decode c.code g.pc = .ok (.invokespecial index, 3)) (hc : cells + kc ≤ R.cells) (hl : slots + ks ≤ R.slots) (sf : ∀ x ∈ wr, Safe Z EL vm0 h x) (g' : Option Value → JFrame) (hg' : ∀ v, g' v = { g with pc := g.pc + 3, stack := v.toList ++ rest }) :
    ∃ v h', Q v h' ∧ Keep h h' wr ∧ h.size ≤ h'.size ∧ Wk p l e R s m args below meth c Z a0 EL n0 own nw st vm0 h' (g' v) (cells + kc) (slots + ks) := by
  obtain ⟨T, locs, k0, X, eT, hS, hk, hZ, hown, N, hnw, hE, hC, -, pre⟩ := w
  have hZ' : Z.Warmed39 (s.setVm vm0).vm := hZ
  obtain ⟨v, _, ⟨T', L', k', n'⟩, -, X', ⟨L, ⟨hQ, hK, hN⟩, l1, l2, l3⟩, st'⟩ := X.specialBack hx (y := y) hy1 hown (mvT hZ' w1) (mvT hZ' w2) (mvT hZ' w4) hy P hg hsize (Steps.refl _) hlen hstack hW hd (fun _ _ => ⟨rfl, eT, hc, hl⟩)
  dsimp only [Pt.U, Pt.locs, Pt.cells, Pt.slots] at X' l1 l2 l3 st' hQ hK
  subst l1 l2 l3
  exact ⟨v, T'.heap, hQ, hK, hK.1, T', _, k0, X', rfl, hS, Nat.le_trans hk hK.1, hZ, hown, Fr.app N hN, hnw, hE, hC.trans (CHr.keep hK sf hC.1), hx, fun t k => pre t (st'.trans (hg' v ▸ k))⟩
theorem Wk.callV (w : Wk p l e R s m args below meth c Z a0 EL n0 own nw st vm0 h g cells slots) (hx : p.tables.exec = Jvm.exec) {C : String} {y z : MethodName} {index W kc ks : Nat} {a : Addr} {as' : List Value} {wr : List Addr} {Q : Option Value → Heap → Prop}
    (w1 : (Cond.methodLink own index y).before a0 Z = true) (w2 : (Cond.declares y).before a0 Z = true) (w3 : (Cond.selects C y z).before a0 Z = true) (w4 : (Cond.instanceMethod z).before a0 Z = true) (nf : NotFace (s.setVm vm0) y) (hy : y.cls ≠ "java/lang/invoke/MethodHandle" ∧ y.cls ≠ "java/lang/invoke/VarHandle")
    (P : Pay l R p e below (s.setVm vm0) args z W (.ref a :: as') h kc ks n0 wr Q) (E : Exa Z h a C) (hg : g.method = m) (hsize : g.locals.size = c.maxLocals) (rest : List Value) (hlen : ∀ sig, parseMethodDescriptor y.desc = some sig → as'.length = sig.parameters.length) (hstack : g.stack = as'.reverse ++ .ref a :: rest) (hW : 2 * g.monitorRoom + (rest.map fun v => v.category).sum ≤ W)
    (hd : decode c.code g.pc = .ok (.invokevirtual index, 3)) (hc : cells + kc ≤ R.cells) (hl : slots + ks ≤ R.slots) (sf : ∀ x ∈ wr, Safe Z EL vm0 h x) (g' : Option Value → JFrame) (hg' : ∀ v, g' v = { g with pc := g.pc + 3, stack := v.toList ++ rest }) :
    ∃ v h', Q v h' ∧ Keep h h' wr ∧ h.size ≤ h'.size ∧ Wk p l e R s m args below meth c Z a0 EL n0 own nw st vm0 h' (g' v) (cells + kc) (slots + ks) := by
  obtain ⟨T, locs, k0, X, eT, hS, hk, hZ, hown, N, hnw, hE, hC, -, pre⟩ := w
  have hZ' : Z.Warmed39 (s.setVm vm0).vm := hZ
  obtain ⟨cB, kB, q1, -, q3⟩ := isOf (s := s.setVm vm0) hZ' eT E
  obtain ⟨v, _, ⟨T', L', k', n'⟩, -, X', ⟨L, ⟨hQ, hK, hN⟩, l1, l2, l3⟩, st'⟩ := X.virtualBack hx (y := y) (z := z) hown (mvT hZ' w1) (mvT hZ' w2) nf (mvT hZ' w3) (mvT hZ' w4) hy P q1 q3 hg hsize (Steps.refl _) hlen hstack hW hd (fun _ _ => ⟨rfl, eT, hc, hl⟩)
  dsimp only [Pt.U, Pt.locs, Pt.cells, Pt.slots] at X' l1 l2 l3 st' hQ hK
  subst l1 l2 l3
  exact ⟨v, T'.heap, hQ, hK, hK.1, T', _, k0, X', rfl, hS, Nat.le_trans hk hK.1, hZ, hown, Fr.app N hN, hnw, hE, hC.trans (CHr.keep hK sf hC.1), hx, fun t k => pre t (st'.trans (hg' v ▸ k))⟩
theorem sfNil {x : Addr} : x ∈ ([] : List Addr) → Safe Z EL vm0 h x := fun q => nomatch q
theorem sfOne {a : Addr} (sf : Safe Z EL vm0 h a) : ∀ x ∈ [a], Safe Z EL vm0 h x := fun x q => by cases List.mem_singleton.mp q; exact sf
theorem Wk.nf (w : Wk p l e R s m args below meth c Z a0 EL n0 own nw st vm0 h g cells slots) {C : String} {y : MethodName} (w3 : (Cond.selects C y y).before a0 Z = true) : NotFace (s.setVm vm0) y := notFace_of_selects (args := #[]) (mvT (s := s.setVm vm0) w.hZ w3)
/-! the end of a body -/
theorem Wk.out (w : Wk p l e R s m args below meth c Z a0 EL n0 own nw st vm0 h g cells slots) {v : Option Value} (hv : meth.sig.returnType = none → v = none) (hlk : meth.locks = false)
    (hret : ∀ {T : State} {locs : List Loc} {fs : List Frame}, Stand p l e R (s.setVm vm0) m args below meth c T locs cells slots → (∀ (f : JFrame) (acts : List Action), f.method = m → f.locked = none → f.entered = [] → (doReturn e (T.setTop f) acts v).1 = T.setFrames fs) → Steps p.tables e below (T.setTop g) (T.setFrames fs)) :
    ∃ s₂ L, Steps p.tables e below st s₂ ∧ s₂.status = .running ∧ Ended s₂ below (.returned v) ∧ s₂.heap = h ∧ Fr n0 L ∧ (nw = true → FrameEnd s (.returned v) s₂ L cells slots) ∧ ReturnedEndW s (.returned v) s₂ L cells slots ∧ CHr Z EL s.vm s.heap s₂.vm s₂.heap := by
  obtain ⟨T, locs, k0, X, eT, hS, hk, hZ, hown, N, hnw, hE, hC, hx, pre⟩ := w
  subst eT
  obtain ⟨fs, hr, h1, h2, hW, hs⟩ := X.leave hv hlk
  obtain ⟨b1, b2, b3⟩ := hS.ended (U := T.setFrames fs) hW hk hs
  refine ⟨T.setFrames fs, locs, pre _ (hret X hr), h1, h2, rfl, N, fun q => ?_, ⟨⟨v, rfl⟩, b1, b2, b3⟩, hC.trans (show CHr Z EL vm0 T.heap (T.setFrames fs).vm (T.setFrames fs).heap from CHv.at (T := T) X hZ hE hC.1)⟩
  have e0 := hnw q
  subst e0
  exact ⟨⟨v, rfl⟩, hW, hs⟩
theorem Wk.endN (w : Wk p l e R s m args below meth c Z a0 EL n0 own true st vm0 h g cells slots) {v : Option Value} {Q : Option Value → Heap → Prop} {wr : List Addr} {h0 : Heap} {kc ks : Nat} (hv : meth.sig.returnType = none → v = none) (hlk : meth.locks = false)
    (hret : ∀ {T : State} {locs : List Loc} {fs : List Frame}, Stand p l e R (s.setVm vm0) m args below meth c T locs cells slots → (∀ (f : JFrame) (acts : List Action), f.method = m → f.locked = none → f.entered = [] → (doReturn e (T.setTop f) acts v).1 = T.setFrames fs) → Steps p.tables e below (T.setTop g) (T.setFrames fs))
    (hc : cells ≤ kc) (hl : slots ≤ ks) (hQ : Q v h) (hK : Keep h0 h wr) :
    ∃ s₂ o, Steps p.tables e below st s₂ ∧ s₂.status = .running ∧ Ended s₂ below o ∧ ∃ v L, o = .returned v ∧ (Q v s₂.heap ∧ Keep h0 s₂.heap wr ∧ Fr n0 L) ∧ FrameEnd s o s₂ L kc ks := by
  obtain ⟨s₂, L, h1, h2, h3, h4, h5, h6, -, -⟩ := w.out hv hlk hret
  have F := h6 rfl
  exact ⟨s₂, _, h1, h2, h3, v, L, rfl, ⟨h4 ▸ hQ, h4 ▸ hK, h5⟩, F.1, F.2.1, F.2.2.mono hc hl⟩
def EndsN (p : Program) (e : Env) (below : List Frame) (st s : State) (n0 : Nat) (h0 : Heap) (wr : List Addr) (Q : Option Value → Heap → Prop) (kc ks : Nat) : Prop :=
  ∃ s₂ o, Steps p.tables e below st s₂ ∧ s₂.status = .running ∧ Ended s₂ below o ∧ ∃ v L, o = .returned v ∧ (Q v s₂.heap ∧ Keep h0 s₂.heap wr ∧ Fr n0 L) ∧ FrameEnd s o s₂ L kc ks
end OwnKit
end Jvm.Pilot.@@N@@
namespace Jvm.Pilot.@@N@@
open Jvm Jvm.ClassFile Sem Op Lib Jvm.Free Jvm.Stand Jvm.LawKit Jvm.RoadKit Bundle Jvm.Pilot.@@N@@.Jvm.D
section OwnWide
variable {p : Program} {l : Launch} {e : Env} {R : Room} {s : State} {m : MethodId} {args : Array Value} {below : List Frame} {meth : Method} {c : Code} {Z : State} {a0 : Array Value} {EL : List (String × Nat)} {n0 : Nat} {own : String} {nw : Bool} {st : State} {vm0 : Vm} {h : Heap} {g g' : JFrame} {cells slots : Nat}
theorem chs {vm1 : Vm} {h' : Heap} (A : CHr Z EL vm0 h vm1 h') {x : Nat} (hx : h.size > x) (S : Safe Z EL vm0 h x) : Safe Z EL vm1 h' x := A.safe hx S
/-- who pays a call that may intern -/
def PayW (l : Launch) (R : Room) (p : Program) (e : Env) (below : List Frame) (s : State) (args : Array Value) (y : MethodName) (W : Nat) (as' : List Value) (h : Heap) (kc ks n0 : Nat) (wr : List Addr) (Q : Option Value → Heap → Prop) (Z : State) (EL : List (String × Nat)) (vm0 : Vm) : Prop :=
  BackS l R p e below s args y 3 W (fun P a => a = as'.toArray ∧ P.U.heap = h ∧ P.cells + kc ≤ R.cells ∧ P.slots + ks ≤ R.slots) (fun P _ v B => ∃ L, (Q v B.U.heap ∧ Keep h B.U.heap wr ∧ Fr n0 L) ∧ B.locs = P.locs ++ L ∧ B.cells = P.cells + kc ∧ B.slots = P.slots + ks ∧ CHr Z EL vm0 h B.U.vm B.U.heap)
/-- a contract of a body that may intern -/
def WMet (l : Launch) (Z : State) (EL : List (String × Nat)) (y : MethodName) (bytes : ByteArray) (maxL : Nat) (ret : Option FieldType) (ws : List Jvm.Cond) (rm : Room) (as' : List Value) (h : Heap) (n0 : Nat) (sf : List Addr) (wr : List Addr) (Q : Option Value → Heap → Prop) : Prop :=
  MetFree l y (head1 (Jvm.Cond.code y bytes maxL ret :: ws) rm) (fun a U => a = as'.toArray ∧ Z.Warmed39 U.vm ∧ U.heap = h ∧ CHv Z EL U.vm h ∧ ∀ x ∈ sf, Safe Z EL U.vm h x) (fun _ _ _ _ _ => True) (fun _ U o U' => ∃ v L, o = .returned v ∧ (Q v U'.heap ∧ Keep h U'.heap wr ∧ Fr n0 L) ∧ CHr Z EL U.vm U.heap U'.vm U'.heap ∧ ReturnedEndW U o U' L rm.cells rm.slots)
theorem Wk.ew (w : Wk p l e R s m args below meth c Z a0 EL n0 own nw st vm0 h g cells slots) : EW Z a0 EL := by
  obtain ⟨T, locs, k0, X, eT, hS, hk, hZ, hown, N, hnw, hE, hC, hx, pre⟩ := w; exact hE
theorem WMet.pay {y : MethodName} {bytes : ByteArray} {maxL : Nat} {ret : Option FieldType} {rm : Room} {as' : List Value} {sf wr : List Addr} {Q : Option Value → Heap → Prop} {W : Nat} (M : WMet l Z EL y bytes maxL ret [] rm as' h n0 sf wr Q)
    (hw : Wk p l e R s m args below meth c Z a0 EL n0 own nw st vm0 h g cells slots) (wc : (Cond.code y bytes maxL ret).before a0 Z = true) (wz : (Cond.initialized y.cls).before a0 Z = true) (hf : rm.frames + 1 ≤ R.frames) (hl : W + (maxL + 11) + rm.locals ≤ R.locals) (hsf : ∀ x ∈ sf, h.size > x ∧ Safe Z EL vm0 h x) :
    PayW l R p e below (s.setVm vm0) args y W as' h rm.cells rm.slots n0 wr Q Z EL vm0 := by
  have hZ : Z.Warmed39 vm0 := hw.hZ
  have hEL := hw.ew
  have H := hw.chv
  refine BackS.of_freeW (bytes := bytes) (maxL := maxL) (ret := ret) (E := fun _ first o t L k n => k = rm.cells ∧ n = rm.slots ∧ (∃ v, o = .returned v ∧ (Q v t.heap ∧ Keep h t.heap wr ∧ Fr n0 L)) ∧ CHr Z EL first.vm first.heap t.vm t.heap) M hf hl ?_ ?_ ?_ ?_ ?_
  · intro m meth c A a Y hp
    have hU : Z.Warmed39 A.U.vm := wtrans (s := s.setVm vm0) hZ Y.warmed
    exact ⟨by show (Cond.and _ .tt).before a A.U = true; rw [Cond.before_and, mv hU wc]; rfl, mv hU wc, mv hU wz, hp.2.2.1, hp.2.2.2⟩
  · intro m meth c A a g mk Y hp
    have C := CHv.at Y hZ hEL H
    exact ⟨hp.1, wtrans (s := s.setVm vm0) hZ Y.warmed, hp.2.1, C.1, fun x hx => C.safe (hsf x hx).1 (hsf x hx).2⟩
  · exact fun _ _ _ _ _ _ _ _ _ => trivial
  · exact fun _ _ _ _ ⟨v, L, h1, h2, h3, h4⟩ => ⟨L, _, _, h4, rfl, rfl, ⟨v, h1, h2⟩, h3⟩
  · intro m meth c A a g mk v t L k n Y hp _ _ q
    obtain ⟨e1, e2, ⟨v', e3, e4⟩, e5⟩ := q
    cases e3; subst e1 e2
    refine ⟨L, e4, rfl, rfl, rfl, (CHv.at Y hZ hEL H).trans ?_⟩
    rw [← hp.2.1]; exact e5
theorem Wk.callSW (w : Wk p l e R s m args below meth c Z a0 EL n0 own false st vm0 h g cells slots) (hx : p.tables.exec = Jvm.exec) {y : MethodName} {bytes : ByteArray} {maxL : Nat} {ret : Option FieldType} {index W kc ks : Nat} {as' : List Value} {wr : List Addr} {Q : Option Value → Heap → Prop}
    (w1 : (Cond.methodLink own index y).before a0 Z = true) (w2 : (Cond.static y).before a0 Z = true) (w3 : (Cond.initialized y.cls).before a0 Z = true) (w4 : (Cond.code y bytes maxL ret).before a0 Z = true) (hy : y.cls ≠ "java/lang/invoke/MethodHandle" ∧ y.cls ≠ "java/lang/invoke/VarHandle")
    (P : PayW l R p e below (s.setVm vm0) args y W as' h kc ks n0 wr Q Z EL vm0) (hg : g.method = m) (hsize : g.locals.size = c.maxLocals) (rest : List Value) (hlen : ∀ sig, parseMethodDescriptor y.desc = some sig → as'.length = sig.parameters.length) (hstack : g.stack = as'.reverse ++ rest) (hW : 2 * g.monitorRoom + (rest.map fun v => v.category).sum ≤ W)
    (hd : decode c.code g.pc = .ok (.invokestatic index, 3)) (hc : cells + kc ≤ R.cells) (hl : slots + ks ≤ R.slots) (g' : Option Value → JFrame) (hg' : ∀ v, g' v = { g with pc := g.pc + 3, stack := v.toList ++ rest }) :
    ∃ v vm1 h', Q v h' ∧ Keep h h' wr ∧ h.size ≤ h'.size ∧ CHr Z EL vm0 h vm1 h' ∧ Wk p l e R s m args below meth c Z a0 EL n0 own false st vm1 h' (g' v) (cells + kc) (slots + ks) := by
  obtain ⟨T, locs, k0, X, eT, hS, hk, hZ, hown, N, hnw, hE, hC, -, pre⟩ := w
  have hZ' : Z.Warmed39 (s.setVm vm0).vm := hZ
  obtain ⟨v, _, ⟨T', L', k', n'⟩, -, X', hS', hgr, ⟨L, ⟨hQ, hK, hN⟩, l1, l2, l3, hC'⟩, st'⟩ := RoadKit.callSS X hx (y := y) hown (mvT hZ' w1) (mvT hZ' w2) (mvT hZ' w3) (mvT hZ' w4) hy P hg hsize hlen hstack hW hd (fun _ _ => ⟨rfl, eT, hc, hl⟩)
  dsimp only [Pt.U, Pt.locs, Pt.cells, Pt.slots] at X' l1 l2 l3 st' hQ hK hS' hgr hC'
  subst l1 l2 l3
  obtain ⟨X2, S2, Z2, O2⟩ := rebS (own := own) (n1 := T.heap.size) hS (by rw [eT]; exact hk) X' hS' hgr hZ' hown
  exact ⟨v, T'.vm, T'.heap, hQ, hK, hK.1, hC', T', _, T'.heap.size, X2, rfl, S2, Nat.le_refl _, Z2, O2, Fr.app N hN, (fun q => nomatch q), hE, hC.trans hC', hx, fun t k => pre t (st'.trans (hg' v ▸ k))⟩
theorem Wk.callIW (w : Wk p l e R s m args below meth c Z a0 EL n0 own false st vm0 h g cells slots) (hx : p.tables.exec = Jvm.exec) {y : MethodName} {bytes : ByteArray} {maxL : Nat} {index W kc ks : Nat} {a : Addr} {as' : List Value} {wr : List Addr} {Q : Option Value → Heap → Prop}
    (hy1 : y.name = "<init>") (w1 : (Cond.methodLink own index y).before a0 Z = true) (w2 : (Cond.instanceMethod y).before a0 Z = true) (w4 : (Cond.code y bytes maxL none).before a0 Z = true) (hy : y.cls ≠ "java/lang/invoke/MethodHandle" ∧ y.cls ≠ "java/lang/invoke/VarHandle")
    (P : PayW l R p e below (s.setVm vm0) args y W (.ref a :: as') h kc ks n0 wr Q Z EL vm0) (hg : g.method = m) (hsize : g.locals.size = c.maxLocals) (rest : List Value) (hlen : ∀ sig, parseMethodDescriptor y.desc = some sig → as'.length = sig.parameters.length) (hstack : g.stack = as'.reverse ++ .ref a :: rest) (hW : 2 * g.monitorRoom + (rest.map fun v => v.category).sum ≤ W)
    (hd : decode c.code g.pc = .ok (.invokespecial index, 3)) (hc : cells + kc ≤ R.cells) (hl : slots + ks ≤ R.slots) (g' : Option Value → JFrame) (hg' : ∀ v, g' v = { g with pc := g.pc + 3, stack := v.toList ++ rest }) :
    ∃ v vm1 h', Q v h' ∧ Keep h h' wr ∧ h.size ≤ h'.size ∧ CHr Z EL vm0 h vm1 h' ∧ Wk p l e R s m args below meth c Z a0 EL n0 own false st vm1 h' (g' v) (cells + kc) (slots + ks) := by
  obtain ⟨T, locs, k0, X, eT, hS, hk, hZ, hown, N, hnw, hE, hC, -, pre⟩ := w
  have hZ' : Z.Warmed39 (s.setVm vm0).vm := hZ
  obtain ⟨v, _, ⟨T', L', k', n'⟩, -, X', hS', hgr, ⟨L, ⟨hQ, hK, hN⟩, l1, l2, l3, hC'⟩, st'⟩ := X.specialBackS hx (y := y) hy1 hown (mvT hZ' w1) (mvT hZ' w2) (mvT hZ' w4) hy P hg hsize (Steps.refl _) hlen hstack hW hd (fun _ _ => ⟨rfl, eT, hc, hl⟩)
  dsimp only [Pt.U, Pt.locs, Pt.cells, Pt.slots] at X' l1 l2 l3 st' hQ hK hS' hgr hC'
  subst l1 l2 l3
  obtain ⟨X2, S2, Z2, O2⟩ := rebS (own := own) (n1 := T.heap.size) hS (by rw [eT]; exact hk) X' hS' hgr hZ' hown
  exact ⟨v, T'.vm, T'.heap, hQ, hK, hK.1, hC', T', _, T'.heap.size, X2, rfl, S2, Nat.le_refl _, Z2, O2, Fr.app N hN, (fun q => nomatch q), hE, hC.trans hC', hx, fun t k => pre t (st'.trans (hg' v ▸ k))⟩
theorem Wk.callVW (w : Wk p l e R s m args below meth c Z a0 EL n0 own false st vm0 h g cells slots) (hx : p.tables.exec = Jvm.exec) {C : String} {y z : MethodName} {index W kc ks : Nat} {a : Addr} {as' : List Value} {wr : List Addr} {Q : Option Value → Heap → Prop}
    (w1 : (Cond.methodLink own index y).before a0 Z = true) (w2 : (Cond.declares y).before a0 Z = true) (w3 : (Cond.selects C y z).before a0 Z = true) (w4 : (Cond.instanceMethod z).before a0 Z = true) (nf : NotFace (s.setVm vm0) y) (hy : y.cls ≠ "java/lang/invoke/MethodHandle" ∧ y.cls ≠ "java/lang/invoke/VarHandle")
    (P : PayW l R p e below (s.setVm vm0) args z W (.ref a :: as') h kc ks n0 wr Q Z EL vm0) (E : Exa Z h a C) (hg : g.method = m) (hsize : g.locals.size = c.maxLocals) (rest : List Value) (hlen : ∀ sig, parseMethodDescriptor y.desc = some sig → as'.length = sig.parameters.length) (hstack : g.stack = as'.reverse ++ .ref a :: rest) (hW : 2 * g.monitorRoom + (rest.map fun v => v.category).sum ≤ W)
    (hd : decode c.code g.pc = .ok (.invokevirtual index, 3)) (hc : cells + kc ≤ R.cells) (hl : slots + ks ≤ R.slots) (g' : Option Value → JFrame) (hg' : ∀ v, g' v = { g with pc := g.pc + 3, stack := v.toList ++ rest }) :
    ∃ v vm1 h', Q v h' ∧ Keep h h' wr ∧ h.size ≤ h'.size ∧ CHr Z EL vm0 h vm1 h' ∧ Wk p l e R s m args below meth c Z a0 EL n0 own false st vm1 h' (g' v) (cells + kc) (slots + ks) := by
  obtain ⟨T, locs, k0, X, eT, hS, hk, hZ, hown, N, hnw, hE, hC, -, pre⟩ := w
  have hZ' : Z.Warmed39 (s.setVm vm0).vm := hZ
  obtain ⟨cB, kB, q1, -, q3⟩ := isOf (s := s.setVm vm0) hZ' eT E
  obtain ⟨v, _, ⟨T', L', k', n'⟩, -, X', hS', hgr, ⟨L, ⟨hQ, hK, hN⟩, l1, l2, l3, hC'⟩, st'⟩ := X.virtualBackS hx (y := y) (z := z) hown (mvT hZ' w1) (mvT hZ' w2) nf (mvT hZ' w3) (mvT hZ' w4) hy P q1 q3 hg hsize (Steps.refl _) hlen hstack hW hd (fun _ _ => ⟨rfl, eT, hc, hl⟩)
  dsimp only [Pt.U, Pt.locs, Pt.cells, Pt.slots] at X' l1 l2 l3 st' hQ hK hS' hgr hC'
  subst l1 l2 l3
  obtain ⟨X2, S2, Z2, O2⟩ := rebS (own := own) (n1 := T.heap.size) hS (by rw [eT]; exact hk) X' hS' hgr hZ' hown
  exact ⟨v, T'.vm, T'.heap, hQ, hK, hK.1, hC', T', _, T'.heap.size, X2, rfl, S2, Nat.le_refl _, Z2, O2, Fr.app N hN, (fun q => nomatch q), hE, hC.trans hC', hx, fun t k => pre t (st'.trans (hg' v ▸ k))⟩
/-- ldc of a String constant whose text is read -/
theorem Wk.ldcCH (w : Wk p l e R s m args below meth c Z a0 EL n0 own false st vm0 h g cells slots) (hx : p.tables.exec = Jvm.exec) {text : String} {index : Nat} (w1 : (Cond.stringLink own index text).before a0 Z = true) (wS : ∀ a ∈ Bundle.stringAtoms, a.before a0 Z = true) (hmem : (own, index) ∈ EL)
    {vs : List Value} {z : Int32} (ht : (∀ c ∈ text.toList, c.toNat < 256) ∧ text.toList.map (fun c => Value.int (Jvm.Lit.byteI c.toNat.toUInt16)) = vs) (hz : ¬ z < 0) (hl : z.toNatClampNeg = vs.length)
    (hg : g.method = m) (hd : decode c.code g.pc = .ok (.ldc index, 2)) (n : Nat) (hn : 4 * text.toList.length ≤ n) (hbig : n ≤ 536870912) (hc : cells + 2 ≤ R.cells) (hl' : slots + (n + 4) ≤ R.slots) (g' : Addr → JFrame) (hg' : ∀ x, g' x = { g with pc := g.pc + 2, stack := .ref x :: g.stack }) :
    ∃ (a : Nat) (vm1 : Vm) (h' : Heap) (b : Nat) (k : ClassId), Ext h h' ∧ Exa Z h' a "java/lang/String" ∧ Fld Z h' a "java/lang/String" "coder" "B" (.int 0) ∧ Fld Z h' a "java/lang/String" "value" "[B" (.ref b) ∧ Arv Z h' b k .byte z vs (.int 0) ∧ h'.size > a ∧ h'.size > b ∧ CHr Z EL vm0 h vm1 h' ∧ (∀ x : Nat, Safe Z EL vm1 h' x → x ≠ a ∧ x ≠ b) ∧
      Wk p l e R s m args below meth c Z a0 EL n0 own false st vm1 h' (g' a) (cells + 2) (slots + (n + 4)) := by
  obtain ⟨T, locs, k0, X, eT, hS, hk, hZ, hown, N, hnw, hE, hC, -, pre⟩ := w
  obtain ⟨a, T', h', k1, b, k, X', e', E, hS', hk', hZ', hown', q1, q2, q3, q4, q5, q6, q7, -, q8, st'⟩ := RoadKit.ldcCH X hx hZ hown w1 wS eT hS hk hE hmem hC.1 ht hz hl hg hd hn hbig hc hl'
  exact ⟨a, T'.vm, h', b, k, E, q1, q2, q3, q4, q5, q6, q7, q8, T', locs, k1, X', e', hS', hk', hZ', hown', N, (fun q => nomatch q), hE, hC.trans q7, hx, fun t k => pre t (st' t (hg' a ▸ k))⟩
/-- ldc of a String constant, opaque -/
theorem Wk.ldcOH (w : Wk p l e R s m args below meth c Z a0 EL n0 own false st vm0 h g cells slots) (hx : p.tables.exec = Jvm.exec) {text : String} {index : Nat} (w1 : (Cond.stringLink own index text).before a0 Z = true) (wS : ∀ a ∈ Bundle.stringAtoms, a.before a0 Z = true)
    (hg : g.method = m) (hd : decode c.code g.pc = .ok (.ldc index, 2)) (n : Nat) (hn : 4 * text.toList.length ≤ n) (hbig : n ≤ 536870912) (hc : cells + 2 ≤ R.cells) (hl' : slots + (n + 4) ≤ R.slots) (g' : Addr → JFrame) (hg' : ∀ x, g' x = { g with pc := g.pc + 2, stack := .ref x :: g.stack }) :
    ∃ (a : Nat) (vm1 : Vm) (h' : Heap), Ext h h' ∧ CHr Z EL vm0 h vm1 h' ∧ Wk p l e R s m args below meth c Z a0 EL n0 own false st vm1 h' (g' a) (cells + 2) (slots + (n + 4)) := by
  obtain ⟨T, locs, k0, X, eT, hS, hk, hZ, hown, N, hnw, hE, hC, -, pre⟩ := w
  obtain ⟨a, T', h', k1, X', e', E, hS', hk', hZ', hown', q7, -, st'⟩ := RoadKit.ldcOH X hx hZ hown w1 wS eT hS hk hE hC.1 hg hd hn hbig hc hl'
  exact ⟨a, T'.vm, h', E, q7, T', locs, k1, X', e', hS', hk', hZ', hown', N, (fun q => nomatch q), hE, hC.trans q7, hx, fun t k => pre t (st' t (hg' a ▸ k))⟩
theorem Wk.endW (w : Wk p l e R s m args below meth c Z a0 EL n0 own nw st vm0 h g cells slots) {v : Option Value} {Q : Option Value → Heap → Prop} {wr : List Addr} {h0 : Heap} {kc ks : Nat} (hv : meth.sig.returnType = none → v = none) (hlk : meth.locks = false)
    (hret : ∀ {T : State} {locs : List Loc} {fs : List Frame}, Stand p l e R (s.setVm vm0) m args below meth c T locs cells slots → (∀ (f : JFrame) (acts : List Action), f.method = m → f.locked = none → f.entered = [] → (doReturn e (T.setTop f) acts v).1 = T.setFrames fs) → Steps p.tables e below (T.setTop g) (T.setFrames fs))
    (hc : cells ≤ kc) (hl : slots ≤ ks) (hQ : Q v h) (hK : Keep h0 h wr) :
    ∃ s₂ o, Steps p.tables e below st s₂ ∧ s₂.status = .running ∧ Ended s₂ below o ∧ ∃ v L, o = .returned v ∧ (Q v s₂.heap ∧ Keep h0 s₂.heap wr ∧ Fr n0 L) ∧ CHr Z EL s.vm s.heap s₂.vm s₂.heap ∧ ReturnedEndW s o s₂ L kc ks := by
  obtain ⟨s₂, L, h1, h2, h3, h4, h5, -, h6, h7⟩ := w.out hv hlk hret
  exact ⟨s₂, _, h1, h2, h3, v, L, rfl, ⟨h4 ▸ hQ, h4 ▸ hK, h5⟩, h7, h6.1, h6.2.1, h6.2.2.1, h6.2.2.2.mono hc hl⟩
def EndsW (p : Program) (e : Env) (below : List Frame) (st s : State) (Z : State) (EL : List (String × Nat)) (n0 : Nat) (h0 : Heap) (wr : List Addr) (Q : Option Value → Heap → Prop) (kc ks : Nat) : Prop :=
  ∃ s₂ o, Steps p.tables e below st s₂ ∧ s₂.status = .running ∧ Ended s₂ below o ∧ ∃ v L, o = .returned v ∧ (Q v s₂.heap ∧ Keep h0 s₂.heap wr ∧ Fr n0 L) ∧ CHr Z EL s.vm s.heap s₂.vm s₂.heap ∧ ReturnedEndW s o s₂ L kc ks
end OwnWide
end Jvm.Pilot.@@N@@
namespace Jvm.Pilot.@@N@@
open Jvm Jvm.ClassFile Sem Op Lib Jvm.Free Jvm.Stand Jvm.LawKit Jvm.RoadKit Bundle Jvm.Pilot.@@N@@.Jvm.D
section OwnSub
variable {p : Program} {l : Launch} {e : Env} {R : Room} {s : State} {m : MethodId} {args : Array Value} {below : List Frame} {meth : Method} {c : Code} {Z : State} {a0 : Array Value} {EL : List (String × Nat)} {n0 : Nat} {own : String} {nw : Bool} {st : State} {vm0 : Vm} {h : Heap} {g g' : JFrame} {cells slots : Nat}
theorem Wk.cpB (w : Wk p l e R s m args below meth c Z a0 EL n0 own nw st vm0 h g cells slots) (hx : p.tables.exec = Jvm.exec) {index : Nat}
    (w1 : (Cond.methodLink own index Jvm.Stand.acN).before a0 Z = true) (w2 : (Cond.native Jvm.Stand.acN).before a0 Z = true) (w3 : (Cond.static Jvm.Stand.acN).before a0 Z = true) (w4 : (Cond.initialized "java/lang/System").before a0 Z = true)
    {a b : Addr} {k k' : ClassId} {z z' sp dp nn : Int32} {vs vd us : List Value} {dv dd : Value} (A : Arv Z h a k .byte z vs dv) (B : Arv Z h b k' .byte z' vd dd)
    (h1 : ¬ sp < 0) (h2 : ¬ dp < 0) (h3 : ¬ nn < 0) (h4 : sp.toNatClampNeg + nn.toNatClampNeg ≤ z.toNatClampNeg) (h5 : dp.toNatClampNeg + nn.toNatClampNeg ≤ z'.toNatClampNeg)
    (hus : us = (List.range nn.toNatClampNeg).map fun i => vs.getD (sp.toNatClampNeg + i) dv) (hl : dp.toNatClampNeg + nn.toNatClampNeg ≤ vd.length) (ge : n0 ≤ b) (sf : ∀ x ∈ [b], Safe Z EL vm0 h x)
    (hg : g.method = m) (hsize : g.locals.size = c.maxLocals) {rest : List Value} (hs : g.stack = .int nn :: .int dp :: .ref b :: .int sp :: .ref a :: rest) (hd : decode c.code g.pc = .ok (.invokestatic index, 3))
    (hf : 1 ≤ R.frames) {W : Nat} (hW : 2 * g.monitorRoom + (rest.map fun v => v.category).sum ≤ W) (hlo : W + (nativeFrameWords "java/lang/System" "arraycopy" 5 + 11) ≤ R.locals) (g' : JFrame) (hg' : g' = { g with pc := g.pc + 3, stack := rest }) :
    ∃ h', Keep h h' [b] ∧ h.size ≤ h'.size ∧ Arv Z h' b k' .byte z' (vd.take dp.toNatClampNeg ++ us ++ vd.drop (dp.toNatClampNeg + nn.toNatClampNeg)) dd ∧ Wk p l e R s m args below meth c Z a0 EL n0 own nw st vm0 h' g' cells slots := by
  obtain ⟨T, locs, k0, X, eT, hS, hk, hZ, hown, N, hnw, hE, hC, -, pre⟩ := w
  obtain ⟨T', h', L, X', e', N', K, V, st'⟩ := cpA X hx hZ hown w1 w2 w3 w4 eT A B (Or.inl ⟨rfl, rfl⟩) h1 h2 h3 h4 h5 hus hl N ge hg hsize hs hd hf hW hlo
  exact ⟨h', K, K.1, V, T', L, k0, X', e', hS, Nat.le_trans hk K.1, hZ, hown, N', hnw, hE, hC.trans (CHr.keep K sf hC.1), hx, fun t q => pre t (st' t (hg' ▸ q))⟩
theorem i_toInt {a : Nat} (h : a ≤ 4000) : (Int32.ofNat a).toInt = a := Int32.toInt_ofNat_of_lt (by omega)
theorem i_clamp {a : Nat} (h : a ≤ 4000) : (Int32.ofNat a).toNatClampNeg = a := by show (Int32.ofNat a).toInt.toNat = a; rw [i_toInt h]; omega
theorem i_nn {a : Nat} (h : a ≤ 4000) : ¬ Int32.ofNat a < 0 := by rw [Int32.lt_iff_toInt_lt, i_toInt h]; show ¬ (a : Int) < 0; omega
theorem i_lt {a b : Nat} (ha : a ≤ 4000) (hb : b ≤ 4000) : Int32.ofNat a < Int32.ofNat b ↔ a < b := by rw [Int32.lt_iff_toInt_lt, i_toInt ha, i_toInt hb]; omega
theorem i_eq {a b : Nat} (ha : a ≤ 4000) (hb : b ≤ 4000) : Int32.ofNat a = Int32.ofNat b ↔ a = b := by rw [← Int32.toInt_inj, i_toInt ha, i_toInt hb]; omega
theorem i_add (a b : Nat) : Int32.ofNat a + Int32.ofNat b = Int32.ofNat (a + b) := (Int32.ofNat_add a b).symm
theorem i_sub (b n : Nat) : Int32.ofNat (b + n) - Int32.ofNat b = Int32.ofNat n := by rw [Nat.add_comm, ← i_add]; exact Int32.add_sub_cancel _ _
theorem i_pred (n : Nat) : Int32.ofNat (n + 1) - (1 : Int32) = Int32.ofNat n := by rw [show (1 : Int32) = Int32.ofNat 1 from rfl, Nat.add_comm, i_sub]
theorem i_dec (n : Nat) : Int32.ofNat n + (-1 : Int32) = Int32.ofNat n - (1 : Int32) := (Int32.sub_eq_add_neg _ _).symm
/-- where ch stands last among the first n -/
def own_lix (cs : List Int32) (ch : Int32) : Nat → Int32
  | 0 => (-1 : Int32)
  | n + 1 => if cs.getD n 0 = ch then Int32.ofNat n else own_lix cs ch n
def own_sl (cs : List Int32) (b n : Nat) : List Int32 := (cs.drop b).take n
def own_slb (cs : List Int32) (b n : Nat) : List Value := ((own_sl cs b n).map (fun c => c.toInt8.toInt32)).map Value.int
theorem own_sl_len {cs : List Int32} {b n : Nat} (h : b + n ≤ cs.length) : (own_sl cs b n).length = n := by unfold own_sl; rw [List.length_take, List.length_drop]; omega
theorem own_sl_rng {cs : List Int32} {b n : Nat} (hr : ∀ c ∈ cs, ¬ c < 0 ∧ ¬ (255 : Int32) < c) : ∀ c ∈ own_sl cs b n, ¬ c < 0 ∧ ¬ (255 : Int32) < c := fun c q => hr c (List.mem_of_mem_drop (List.mem_of_mem_take q))
theorem own_copy {cs : List Int32} {b n : Nat} (h : b + n ≤ cs.length) (dv : Value) : (List.range n).map (fun i => ((cs.map (fun c => c.toInt8.toInt32)).map Value.int).getD (b + i) dv) = own_slb cs b n := by
  unfold own_slb
  apply List.ext_getElem
  · simp [own_sl_len h]
  · intro i h1 h2
    simp only [List.length_map, List.length_range] at h1
    simp [own_sl, List.getD_eq_getElem?_getD, show b + i < cs.length by omega]
theorem own_b8 {c : Int32} (hc : ¬ c < 0 ∧ ¬ (255 : Int32) < c) {d : Int32} (hd : ¬ d < 0 ∧ ¬ (127 : Int32) < d) (q : c.toInt8.toInt32 = d.toInt8.toInt32) : c = d := by
  have e := congrArg Int32.toInt q
  simp only [Int8.toInt_toInt32, Int32.toInt_toInt8, Int32.lt_iff_toInt_lt, show (0 : Int32).toInt = 0 from rfl, show (255 : Int32).toInt = 255 from rfl, show (127 : Int32).toInt = 127 from rfl] at e hc hd
  apply Int32.toInt_inj.mp
  rw [Int.bmod_def, Int.bmod_def] at e
  omega
end OwnSub
end Jvm.Pilot.@@N@@
namespace Jvm.Pilot.@@N@@
open Jvm Jvm.ClassFile Sem Op Lib Jvm.Free Jvm.Stand Jvm.LawKit Jvm.RoadKit Bundle Jvm.Pilot.@@N@@.Jvm.D
section OwnStrB
variable {p : Program} {l : Launch} {e : Env} {R : Room} {s : State} {args : Array Value} {below : List Frame} {Z : State} {a0 : Array Value} {n0 : Nat} {h h' : Heap} {W : Nat} {x : Nat} {cs : List Int32} {b : Nat}
theorem up255 {c : Int32} (q : ¬ (255 : Int32) < c) : ¬ (65535 : Int32) < c := fun r => q (by rw [Int32.lt_iff_toInt_lt] at r ⊢; have e1 : (65535 : Int32).toInt = 65535 := rfl; have e2 : (255 : Int32).toInt = 255 := rfl; omega)
/-- the object x is a String of Latin-1 chars cs; it and its bytes lie below b -/
def Str (Z : State) (h : Heap) (x : Nat) (cs : List Int32) (b : Nat) : Prop := ∃ (t : Nat) (kb : ClassId), Exa Z h x "java/lang/String" ∧ Fld Z h x "java/lang/String" "value" "[B" (.ref t) ∧ Fld Z h x "java/lang/String" "coder" "B" (.int 0) ∧ Arv Z h t kb .byte (Int32.ofNat cs.length) ((cs.map (fun c => c.toInt8.toInt32)).map Value.int) (.int 0) ∧ (∀ c ∈ cs, ¬ c < 0 ∧ ¬ (255 : Int32) < c) ∧ cs.length ≤ 4000 ∧ b > x ∧ b > t
theorem Str.exa (F : Str Z h x cs b) : Exa Z h x "java/lang/String" := by obtain ⟨t, kb, E, r⟩ := F; exact E
theorem Str.lt (F : Str Z h x cs b) : b > x := by obtain ⟨t, kb, -, -, -, -, -, -, q, -⟩ := F; exact q
theorem Str.rng (F : Str Z h x cs b) : ∀ c ∈ cs, ¬ c < 0 ∧ ¬ (255 : Int32) < c := by obtain ⟨t, kb, -, -, -, -, q, -⟩ := F; exact q
theorem Str.len (F : Str Z h x cs b) : cs.length ≤ 4000 := by obtain ⟨t, kb, -, -, -, -, -, q, -⟩ := F; exact q
theorem Str.more (F : Str Z h x cs b) {b' : Nat} (q : b ≤ b') : Str Z h x cs b' := by
  obtain ⟨t, kb, E, V, C, K, r2, r3, r4, r5⟩ := F
  exact ⟨t, kb, E, V, C, K, r2, r3, Nat.lt_of_lt_of_le r4 q, Nat.lt_of_lt_of_le r5 q⟩
theorem Str.ext (F : Str Z h x cs b) (X : Ext h h') : Str Z h' x cs b := by
  obtain ⟨t, kb, E, V, C, K, r⟩ := F
  exact ⟨t, kb, E.ext X, V.ext X, C.ext X, K.ext X, r⟩
theorem Str.keep (F : Str Z h x cs b) {ws : List Addr} (X : Keep h h' ws) (q : ∀ y ∈ ws, b ≤ y) : Str Z h' x cs b := by
  obtain ⟨t, kb, E, V, C, K, r2, r3, r4, r5⟩ := F
  have nx : x ∉ ws := fun z => by have := q x z; omega
  have nt : t ∉ ws := fun z => by have := q t z; omega
  exact ⟨t, kb, E.keep X, V.keep X nx, C.keep X nx, K.keep X nt, r2, r3, r4, r5⟩
theorem Str.wr (F : Str Z h x cs b) {a : Addr} {sl : Nat} {v : Value} (X : Wr h h' a sl v) (q : b ≤ a) : Str Z h' x cs b := F.keep (Keep.of_wr X) (fun y hy => by cases List.mem_singleton.mp hy; exact q)
theorem Str.keepO (F : Str Z h x cs b) {y : Nat} (X : Keep h h' [y]) {C : String} {n : Nat} (E : Exa Z h y C) (hC : C ≠ "java/lang/String") (wi : (Jvm.Cond.instantiable C n).before a0 Z = true) : Str Z h' x cs b := by
  obtain ⟨t, kb, E', V, C', K, r2, r3, r4, r5⟩ := F
  have nx : x ∉ [y] := fun z => by cases List.mem_singleton.mp z; exact Exa.ne E E' hC rfl
  have nt : t ∉ [y] := fun z => by cases List.mem_singleton.mp z; exact Exa.neArv E K wi rfl
  exact ⟨t, kb, E'.keep X, V.keep X nx, C'.keep X nx, K.keep X nt, r2, r3, r4, r5⟩
theorem Str.of (E : Exa Z h x "java/lang/String") {t : Addr} {kb : ClassId} {z : Int32} {vs : List Value} (V : Fld Z h x "java/lang/String" "value" "[B" (.ref t)) (C : Fld Z h x "java/lang/String" "coder" "B" (.int 0)) (K : Arv Z h t kb .byte z vs (.int 0)) (hz : z = Int32.ofNat cs.length) (hv : vs = (cs.map (fun c => c.toInt8.toInt32)).map Value.int) (hp : ∀ c ∈ cs, ¬ c < 0 ∧ ¬ (255 : Int32) < c) (hl : cs.length ≤ 4000) (h1 : b > x) (h2 : b > t) : Str Z h x cs b :=
  ⟨t, kb, E, V, C, by subst hz hv; exact K, hp, hl, h1, h2⟩
end OwnStrB
end Jvm.Pilot.@@N@@
namespace Jvm.Pilot.@@N@@
open Jvm Jvm.ClassFile Sem Op Lib Jvm.Free Jvm.Stand Jvm.LawKit Jvm.RoadKit Bundle Jvm.Pilot.@@N@@.Jvm.D
section OwnStr
variable {p : Program} {l : Launch} {e : Env} {R : Room} {s : State} {args : Array Value} {below : List Frame} {Z : State} {a0 : Array Value} {n0 : Nat} {h h' : Heap} {W : Nat}
theorem nar_i2c (x : Int32) : nar .char (x.toUInt32.toUInt16.toUInt32.toInt32) = x.toUInt32.toUInt16.toUInt32.toInt32 := by simp only [nar, UInt32.toUInt32_toInt32, UInt16.toUInt16_toUInt32]
theorem nar_255 (x : Int32) : nar .char (x &&& (255 : Int32)) = x &&& (255 : Int32) := i2c_mask x
theorem and255_rng (x : Int32) : ¬ (x &&& (255 : Int32)) < 0 ∧ ¬ (255 : Int32) < (x &&& (255 : Int32)) := by
  have q := c_and x (255 : Int32) (by decide)
  have e1 : (255 : Int32).toInt = 255 := rfl
  have e2 : (0 : Int32).toInt = 0 := rfl
  simp only [Int32.lt_iff_toInt_lt, e1, e2] at q ⊢
  omega
theorem rng_ite {P : Prop} [Decidable P] {a b : Int32} (h1 : ¬ a < 0 ∧ ¬ (255 : Int32) < a) (h2 : ¬ b < 0 ∧ ¬ (255 : Int32) < b) : ¬ (if P then a else b) < 0 ∧ ¬ (255 : Int32) < (if P then a else b) := by split <;> assumption
theorem nar_rng {x : Int32} (h : ¬ x < 0 ∧ ¬ (255 : Int32) < x) : nar .char x = x := by
  have e : x = x &&& 255 := by
    apply Int32.toInt_inj.mp
    have q := c_mask x 255 8 (by decide) (by decide)
    simp only [Int32.lt_iff_toInt_lt, show (255 : Int32).toInt = 255 from rfl, show (0 : Int32).toInt = 0 from rfl] at h
    rw [q]; omega
  rw [e]; exact nar_255 x
/-- the JDK's statics that the sheet's sets name -/
def SetsOk (Z : State) : Prop := ∃ (G1 : Int32) (G3 : Value), Sta Z Z.heap "java/lang/String" "COMPACT_STRINGS" "Z" (.int G1) ∧ ¬ (G1 = (0 : Int32)) ∧ Sta Z Z.heap "jdk/internal/util/Preconditions" "SIOOBE_FORMATTER" "Ljava/util/function/BiFunction;" G3 ∧ G3.isRef = true
theorem payNew (hG : SetsOk Z) (hZ : Z.Warmed39 s.vm) (hws : ∀ d ∈ StrChars.Road.words, d.before a0 Z = true) (wi : (Jvm.Cond.instantiable "java/lang/String" 4).before a0 Z = true)
    {x b : Nat} {kC : ClassId} {d v0 c0 : Value} {N : Int32} (cs : List Int32) (n : Nat) (hx0 : n0 ≤ x) (E : Exa Z h x "java/lang/String") (V : Fld Z h x "java/lang/String" "value" "[B" v0) (C : Fld Z h x "java/lang/String" "coder" "B" c0) (K : Arv Z h b kC .char N (cs.map Value.int) d) (X0 : Old Z n0 h)
    (hn : cs.length = n) (hN : N = Int32.ofNat n) (l0 : 0 < n) (l2 : n ≤ 4000) (hp : ∀ c ∈ cs, ¬ c < 0 ∧ ¬ (255 : Int32) < c) (hfr : 4 ≤ R.frames) (hlo : W + 65 ≤ R.locals) :
    Pay l R p e below s args (⟨"java/lang/String", "<init>", "([C)V"⟩ : MethodName) W [.ref x, .ref b] h 1 n n0 [x] (fun v h' => v = none ∧ Str Z h' x cs h'.size) := by
  obtain ⟨G1, G3, S1, P1, -, -⟩ := hG
  refine Back.mono (StrChars.Road.backV (n0 := n0) (bs := cs.map (fun c => c.toInt8.toInt32)) hZ hws wi hx0 (by have := X0.1; have := X0.2.1; omega) E V C K (S1.ext X0.2) P1 hn hN l0 l2 hp rfl hfr hlo) (fun P a hp => hp) (fun P a v B hp' hq => ?_)
  obtain ⟨L, ⟨q1, q2, q3, q4, q5, t, kb, q6, q7, q8, q9, q10⟩, r1, r2, r3⟩ := hq
  exact ⟨L, ⟨⟨q1, Str.of q4 q9 q5 q10 (by rw [hN, hn]) rfl hp (by omega) q4.lt q10.lt⟩, q3, q2⟩, r1, r2, r3⟩
end OwnStr
end Jvm.Pilot.@@N@@
namespace Jvm.Pilot.@@N@@
open Jvm Jvm.ClassFile Sem Op Lib Jvm.Free Jvm.Stand Jvm.LawKit Jvm.RoadKit Bundle Jvm.Pilot.@@N@@.Jvm.D
section OwnPay
variable {p : Program} {l : Launch} {e : Env} {R : Room} {s : State} {args : Array Value} {below : List Frame} {Z : State} {a0 : Array Value} {n0 : Nat} {h h' : Heap} {W : Nat} {x : Nat} {cs : List Int32} {b : Nat}
theorem payLen (hG : SetsOk Z) (hZ : Z.Warmed39 s.vm) (hws : ∀ d ∈ StrChars.Road.wordsLen, d.before a0 Z = true) (wi : (Jvm.Cond.instantiable "java/lang/String" 4).before a0 Z = true) (F : Str Z h x cs b) (X0 : Old Z n0 h) (hfr : 2 ≤ R.frames) (hlo : W + 25 ≤ R.locals) :
    Pay l R p e below s args (⟨"java/lang/String", "length", "()I"⟩ : MethodName) W [.ref x] h 0 0 n0 [] (fun v h' => v = some (.int (Int32.ofNat cs.length)) ∧ h = h') := by
  obtain ⟨G1, G3, S1, P1, -, -⟩ := hG
  obtain ⟨t, kb, E, V, C, K, r2, r3, r4, r5⟩ := F
  have r1 := StrChars.Road.codOf (cs := cs) rfl (fun c hc => (r2 c hc).2)
  have r2' : ∀ c ∈ cs, ¬ c < 0 ∧ ¬ (65535 : Int32) < c := fun c hc => ⟨(r2 c hc).1, up255 (r2 c hc).2⟩
  refine Back.mono (StrChars.Road.lenW hZ hws wi E V C K r1 r2' (S1.ext X0.2) P1 r3 hfr hlo) (fun P a hp => hp) (fun P a v B hp hq => ?_)
  obtain ⟨L, ⟨q1, rfl, q3⟩, s1, s2, s3⟩ := hq
  exact ⟨[], ⟨⟨q1, q3.symm⟩, by rw [q3]; exact Keep.refl _ _, Fr.nil _⟩, s1, s2, s3⟩
theorem payCh (hG : SetsOk Z) (hZ : Z.Warmed39 s.vm) (hws : ∀ d ∈ StrChars.Road.wordsChN, d.before a0 Z = true) (wi : (Jvm.Cond.instantiable "java/lang/String" 4).before a0 Z = true) (F : Str Z h x cs b) (X0 : Old Z n0 h) (i : Nat) {j : Int32} (hi : i < cs.length) (hj : j = Int32.ofNat i) (hfr : 4 ≤ R.frames) (hlo : W + 53 ≤ R.locals) :
    Pay l R p e below s args (⟨"java/lang/String", "charAt", "(I)C"⟩ : MethodName) W [.ref x, .int j] h 0 0 n0 [] (fun v h' => v = some (.int (cs.getD i 0)) ∧ h = h') := by
  obtain ⟨G1, G3, S1, P1, S3, P3⟩ := hG
  obtain ⟨t, kb, E, V, C, K, r2, r3, r4, r5⟩ := F
  have r1 := StrChars.Road.codOf (cs := cs) rfl (fun c hc => (r2 c hc).2)
  have r2' : ∀ c ∈ cs, ¬ c < 0 ∧ ¬ (65535 : Int32) < c := fun c hc => ⟨(r2 c hc).1, up255 (r2 c hc).2⟩
  refine Back.mono (StrChars.Road.chN hZ hws wi E V C K r1 r2' (S1.ext X0.2) P1 (S3.ext X0.2) P3 r3 hi hj hfr hlo) (fun P a hp => hp) (fun P a v B hp hq => ?_)
  obtain ⟨L, ⟨q1, rfl, q3⟩, s1, s2, s3⟩ := hq
  exact ⟨[], ⟨⟨q1, q3.symm⟩, by rw [q3]; exact Keep.refl _ _, Fr.nil _⟩, s1, s2, s3⟩
end OwnPay
end Jvm.Pilot.@@N@@
namespace Jvm.Pilot.@@N@@
open Jvm Jvm.ClassFile Sem Op Lib Jvm.Free Jvm.Stand Jvm.LawKit Jvm.RoadKit Bundle Jvm.Pilot.@@N@@.Jvm.D
section OwnVm
variable {p : Program} {l : Launch} {e : Env} {R : Room} {s : State} {m : MethodId} {args : Array Value} {below : List Frame} {meth : Method} {c : Code} {Z : State} {a0 : Array Value} {EL : List (String × Nat)} {n0 : Nat} {own : String} {nw : Bool} {st : State} {vm0 vm1 : Vm} {h : Heap} {g g' : JFrame} {cells slots : Nat}
/-- the entry of a String constant stands resolved to a -/
def LitV (own : String) (index : Nat) (a : Addr) (vm : Vm) : Prop := ∀ s : State, Lit (s.setVm vm) own index a
theorem LitV.of {index : Nat} {a : Addr} (L : Lit (s.setVm vm0) own index a) : LitV own index a vm0 := fun _ => L
theorem LitV.stays {index : Nat} {a : Addr} (L : LitV own index a vm0) (hW : (s.setVm vm0).Warmed39 vm1) : LitV own index a vm1 := LitV.of (Lit.stays (L s) hW)
def PayV (l : Launch) (R : Room) (p : Program) (e : Env) (below : List Frame) (s : State) (args : Array Value) (y : MethodName) (W : Nat) (as' : List Value) (h : Heap) (kc ks n0 : Nat) (wr : List Addr) (Q : Option Value → Vm → Heap → Prop) (Z : State) (EL : List (String × Nat)) (vm0 : Vm) : Prop :=
  BackS l R p e below s args y 3 W (fun P a => a = as'.toArray ∧ P.U.heap = h ∧ P.cells + kc ≤ R.cells ∧ P.slots + ks ≤ R.slots) (fun P _ v B => ∃ L, (Q v B.U.vm B.U.heap ∧ Keep h B.U.heap wr ∧ Fr n0 L) ∧ B.locs = P.locs ++ L ∧ B.cells = P.cells + kc ∧ B.slots = P.slots + ks ∧ CHr Z EL vm0 h B.U.vm B.U.heap)
/-- a contract of a body that may intern, which asks and tells of the tables -/
def WMetV (l : Launch) (Z : State) (EL : List (String × Nat)) (y : MethodName) (bytes : ByteArray) (maxL : Nat) (ret : Option FieldType) (ws : List Jvm.Cond) (rm : Room) (as' : List Value) (h : Heap) (n0 : Nat) (PV : Vm → Prop) (wr : List Addr) (Q : Option Value → Vm → Heap → Prop) : Prop :=
  MetFree l y (head1 (Jvm.Cond.code y bytes maxL ret :: ws) rm) (fun a U => a = as'.toArray ∧ Z.Warmed39 U.vm ∧ U.heap = h ∧ CHv Z EL U.vm h ∧ PV U.vm) (fun _ _ _ _ _ => True) (fun _ U o U' => ∃ v L, o = .returned v ∧ (Q v U'.vm U'.heap ∧ Keep h U'.heap wr ∧ Fr n0 L) ∧ CHr Z EL U.vm U.heap U'.vm U'.heap ∧ ReturnedEndW U o U' L rm.cells rm.slots)
theorem WMetV.pay {y : MethodName} {bytes : ByteArray} {maxL : Nat} {ret : Option FieldType} {rm : Room} {as' : List Value} {PV : Vm → Prop} {wr : List Addr} {Q : Option Value → Vm → Heap → Prop} {W : Nat} (M : WMetV l Z EL y bytes maxL ret [] rm as' h n0 PV wr Q)
    (hw : Wk p l e R s m args below meth c Z a0 EL n0 own nw st vm0 h g cells slots) (wc : (Cond.code y bytes maxL ret).before a0 Z = true) (wz : (Cond.initialized y.cls).before a0 Z = true) (hf : rm.frames + 1 ≤ R.frames) (hl : W + (maxL + 11) + rm.locals ≤ R.locals) (hPV : ∀ vm1, (s.setVm vm0).Warmed39 vm1 → PV vm1) :
    PayV l R p e below (s.setVm vm0) args y W as' h rm.cells rm.slots n0 wr Q Z EL vm0 := by
  have hZ : Z.Warmed39 vm0 := hw.hZ
  have hEL := hw.ew
  have H := hw.chv
  refine BackS.of_freeW (bytes := bytes) (maxL := maxL) (ret := ret) (E := fun _ first o t L k n => k = rm.cells ∧ n = rm.slots ∧ (∃ v, o = .returned v ∧ (Q v t.vm t.heap ∧ Keep h t.heap wr ∧ Fr n0 L)) ∧ CHr Z EL first.vm first.heap t.vm t.heap) M hf hl ?_ ?_ ?_ ?_ ?_
  · intro m meth c A a Y hp
    have hU : Z.Warmed39 A.U.vm := wtrans (s := s.setVm vm0) hZ Y.warmed
    exact ⟨by show (Cond.and _ .tt).before a A.U = true; rw [Cond.before_and, mv hU wc]; rfl, mv hU wc, mv hU wz, hp.2.2.1, hp.2.2.2⟩
  · intro m meth c A a g mk Y hp
    exact ⟨hp.1, wtrans (s := s.setVm vm0) hZ Y.warmed, hp.2.1, (CHv.at Y hZ hEL H).1, hPV _ (wtrans (s := s.setVm vm0) (State.Warmed39.refl (s.setVm vm0)) Y.warmed)⟩
  · exact fun _ _ _ _ _ _ _ _ _ => trivial
  · exact fun _ _ _ _ ⟨v, L, h1, h2, h3, h4⟩ => ⟨L, _, _, h4, rfl, rfl, ⟨v, h1, h2⟩, h3⟩
  · intro m meth c A a g mk v t L k n Y hp _ _ q
    obtain ⟨e1, e2, ⟨v', e3, e4⟩, e5⟩ := q
    cases e3; subst e1 e2
    refine ⟨L, e4, rfl, rfl, rfl, (CHv.at Y hZ hEL H).trans ?_⟩
    rw [← hp.2.1]; exact e5
theorem Wk.callSV (w : Wk p l e R s m args below meth c Z a0 EL n0 own false st vm0 h g cells slots) (hx : p.tables.exec = Jvm.exec) {y : MethodName} {bytes : ByteArray} {maxL : Nat} {ret : Option FieldType} {index W kc ks : Nat} {as' : List Value} {wr : List Addr} {Q : Option Value → Vm → Heap → Prop}
    (w1 : (Cond.methodLink own index y).before a0 Z = true) (w2 : (Cond.static y).before a0 Z = true) (w3 : (Cond.initialized y.cls).before a0 Z = true) (w4 : (Cond.code y bytes maxL ret).before a0 Z = true) (hy : y.cls ≠ "java/lang/invoke/MethodHandle" ∧ y.cls ≠ "java/lang/invoke/VarHandle")
    (P : PayV l R p e below (s.setVm vm0) args y W as' h kc ks n0 wr Q Z EL vm0) (hg : g.method = m) (hsize : g.locals.size = c.maxLocals) (rest : List Value) (hlen : ∀ sig, parseMethodDescriptor y.desc = some sig → as'.length = sig.parameters.length) (hstack : g.stack = as'.reverse ++ rest) (hW : 2 * g.monitorRoom + (rest.map fun v => v.category).sum ≤ W)
    (hd : decode c.code g.pc = .ok (.invokestatic index, 3)) (hc : cells + kc ≤ R.cells) (hl : slots + ks ≤ R.slots) (g' : Option Value → JFrame) (hg' : ∀ v, g' v = { g with pc := g.pc + 3, stack := v.toList ++ rest }) :
    ∃ v vm1 h', Q v vm1 h' ∧ Keep h h' wr ∧ h.size ≤ h'.size ∧ (s.setVm vm0).Warmed39 vm1 ∧ CHr Z EL vm0 h vm1 h' ∧ Wk p l e R s m args below meth c Z a0 EL n0 own false st vm1 h' (g' v) (cells + kc) (slots + ks) := by
  obtain ⟨T, locs, k0, X, eT, hS, hk, hZ, hown, N, hnw, hE, hC, -, pre⟩ := w
  have hZ' : Z.Warmed39 (s.setVm vm0).vm := hZ
  obtain ⟨v, _, ⟨T', L', k', n'⟩, -, X', hS', hgr, ⟨L, ⟨hQ, hK, hN⟩, l1, l2, l3, hC'⟩, st'⟩ := RoadKit.callSS X hx (y := y) hown (mvT hZ' w1) (mvT hZ' w2) (mvT hZ' w3) (mvT hZ' w4) hy P hg hsize hlen hstack hW hd (fun _ _ => ⟨rfl, eT, hc, hl⟩)
  dsimp only [Pt.U, Pt.locs, Pt.cells, Pt.slots] at X' l1 l2 l3 st' hQ hK hS' hgr hC'
  subst l1 l2 l3
  obtain ⟨X2, S2, Z2, O2⟩ := rebS (own := own) (n1 := T.heap.size) hS (by rw [eT]; exact hk) X' hS' hgr hZ' hown
  exact ⟨v, T'.vm, T'.heap, hQ, hK, hK.1, hS'.1, hC', T', _, T'.heap.size, X2, rfl, S2, Nat.le_refl _, Z2, O2, Fr.app N hN, (fun q => nomatch q), hE, hC.trans hC', hx, fun t k => pre t (st'.trans (hg' v ▸ k))⟩
/-- ldc of a String constant whose text is read, and the entry stands resolved then -/
theorem Wk.ldcCV (w : Wk p l e R s m args below meth c Z a0 EL n0 own false st vm0 h g cells slots) (hx : p.tables.exec = Jvm.exec) {text : String} {index : Nat} (w1 : (Cond.stringLink own index text).before a0 Z = true) (wS : ∀ a ∈ Bundle.stringAtoms, a.before a0 Z = true) (hmem : (own, index) ∈ EL)
    {vs : List Value} {z : Int32} (ht : (∀ c ∈ text.toList, c.toNat < 256) ∧ text.toList.map (fun c => Value.int (Jvm.Lit.byteI c.toNat.toUInt16)) = vs) (hz : ¬ z < 0) (hl : z.toNatClampNeg = vs.length)
    (hg : g.method = m) (hd : decode c.code g.pc = .ok (.ldc index, 2)) (n : Nat) (hn : 4 * text.toList.length ≤ n) (hbig : n ≤ 536870912) (hc : cells + 2 ≤ R.cells) (hl' : slots + (n + 4) ≤ R.slots) (g' : Addr → JFrame) (hg' : ∀ x, g' x = { g with pc := g.pc + 2, stack := .ref x :: g.stack }) :
    ∃ (a : Nat) (vm1 : Vm) (h' : Heap) (b : Nat) (k : ClassId), Ext h h' ∧ Exa Z h' a "java/lang/String" ∧ Fld Z h' a "java/lang/String" "coder" "B" (.int 0) ∧ Fld Z h' a "java/lang/String" "value" "[B" (.ref b) ∧ Arv Z h' b k .byte z vs (.int 0) ∧ h'.size > a ∧ h'.size > b ∧ CHr Z EL vm0 h vm1 h' ∧ LitV own index a vm1 ∧
      Wk p l e R s m args below meth c Z a0 EL n0 own false st vm1 h' (g' a) (cells + 2) (slots + (n + 4)) := by
  obtain ⟨T, locs, k0, X, eT, hS, hk, hZ, hown, N, hnw, hE, hC, -, pre⟩ := w
  obtain ⟨a, T', h', k1, b, k, X', e', E, hS', hk', hZ', hown', q1, q2, q3, q4, q5, q6, q7, q8, -, st'⟩ := RoadKit.ldcCH X hx hZ hown w1 wS eT hS hk hE hmem hC.1 ht hz hl hg hd hn hbig hc hl'
  exact ⟨a, T'.vm, h', b, k, E, q1, q2, q3, q4, q5, q6, q7, LitV.of q8, T', locs, k1, X', e', hS', hk', hZ', hown', N, (fun q => nomatch q), hE, hC.trans q7, hx, fun t k => pre t (st' t (hg' a ▸ k))⟩
/-- .. the same entry again -/
theorem Wk.ldcAg (w : Wk p l e R s m args below meth c Z a0 EL n0 own nw st vm0 h g cells slots) (hx : p.tables.exec = Jvm.exec) {text : String} {index : Nat} (w1 : (Cond.stringLink own index text).before a0 Z = true) {a : Nat} (L : LitV own index a vm0) (hg : g.method = m) (hd : decode c.code g.pc = .ok (.ldc index, 2)) (g' : JFrame) (hg' : g' = { g with pc := g.pc + 2, stack := .ref a :: g.stack }) :
    Wk p l e R s m args below meth c Z a0 EL n0 own nw st vm0 h g' cells slots := by
  obtain ⟨T, locs, k0, X, eT, hS, hk, hZ, hown, N, hnw, hE, hC, hx, pre⟩ := w
  subst hg'
  exact ⟨T, locs, k0, X, eT, hS, hk, hZ, hown, N, hnw, hE, hC, hx, fun t q => pre t (ldcAgain X hx hZ hown w1 (L s) hg hd t q)⟩
theorem Wk.endV (w : Wk p l e R s m args below meth c Z a0 EL n0 own nw st vm0 h g cells slots) {v : Option Value} {Q : Option Value → Vm → Heap → Prop} {wr : List Addr} {h0 : Heap} {kc ks : Nat} (hv : meth.sig.returnType = none → v = none) (hlk : meth.locks = false)
    (hret : ∀ {T : State} {locs : List Loc} {fs : List Frame}, Stand p l e R (s.setVm vm0) m args below meth c T locs cells slots → (∀ (f : JFrame) (acts : List Action), f.method = m → f.locked = none → f.entered = [] → (doReturn e (T.setTop f) acts v).1 = T.setFrames fs) → Steps p.tables e below (T.setTop g) (T.setFrames fs))
    (hc : cells ≤ kc) (hl : slots ≤ ks) (hQ : ∀ vm1, (s.setVm vm0).Warmed39 vm1 → Q v vm1 h) (hK : Keep h0 h wr) :
    ∃ s₂ o, Steps p.tables e below st s₂ ∧ s₂.status = .running ∧ Ended s₂ below o ∧ ∃ v L, o = .returned v ∧ (Q v s₂.vm s₂.heap ∧ Keep h0 s₂.heap wr ∧ Fr n0 L) ∧ CHr Z EL s.vm s.heap s₂.vm s₂.heap ∧ ReturnedEndW s o s₂ L kc ks := by
  obtain ⟨T, locs, k0, X, eT, hS, hk, hZ, hown, N, hnw, hE, hC, hx, pre⟩ := w
  have hq := hQ T.vm (wtrans (s := s.setVm vm0) (State.Warmed39.refl (s.setVm vm0)) X.warmed)
  subst eT
  obtain ⟨fs, hr, h1, h2, hW, hs⟩ := X.leave hv hlk
  obtain ⟨b1, b2, b3⟩ := hS.ended (U := T.setFrames fs) hW hk hs
  exact ⟨T.setFrames fs, _, pre _ (hret X hr), h1, h2, v, locs, rfl, ⟨hq, hK, N⟩, hC.trans (show CHr Z EL vm0 T.heap (T.setFrames fs).vm (T.setFrames fs).heap from CHv.at (T := T) X hZ hE hC.1), ⟨v, rfl⟩, b1, b2, b3.mono hc hl⟩
theorem arv_ne {a b : Addr} {k k' : ClassId} {ty ty' : FieldType} {z z' : Int32} {vs vs' : List Value} {d d' : Value} (A : Arv Z h a k ty z vs d) (B : Arv Z h b k' ty' z' vs' d') (q : ty ≠ ty') : a ≠ b := fun e => by
  subst e
  obtain ⟨c1, ⟨e1, ⟨_, k1, hk1, comp1, hkind1⟩, _⟩, _⟩ := A
  obtain ⟨c2, ⟨e2, ⟨_, k2, hk2, comp2, hkind2⟩, _⟩, _⟩ := B
  cases e1.symm.trans e2
  cases hk1.symm.trans hk2
  rw [hkind1] at hkind2; cases hkind2; exact q rfl
theorem Str.wrA {x : Nat} {cs : List Int32} {b : Nat} {h' : Heap} (F : Str Z h x cs b) {a : Addr} {sl : Nat} {v : Value} (X : Wr h h' a sl v) {k : ClassId} {z : Int32} {vs : List Value} {d : Value} (V : Arv Z h a k .char z vs d) (wi : (Jvm.Cond.instantiable "java/lang/String" 4).before a0 Z = true) : Str Z h' x cs b := by
  obtain ⟨t, kb, E, Vv, C, K, r⟩ := F
  have Kp := Keep.of_wr X
  have nx : x ∉ [a] := fun q => Exa.neArv E V wi (List.mem_singleton.mp q)
  have nt : t ∉ [a] := fun q => arv_ne K V (by decide) (List.mem_singleton.mp q)
  exact ⟨t, kb, E.keep Kp, Vv.keep Kp nx, C.keep Kp nx, K.keep Kp nt, r⟩
end OwnVm
end Jvm.Pilot.@@N@@
namespace Jvm.Pilot.@@N@@
open Jvm Jvm.ClassFile Sem Op Lib Jvm.Free Jvm.Stand Jvm.LawKit Jvm.RoadKit Bundle Jvm.Pilot.@@N@@.Jvm.D
def own_min (p0 : Int32) (p1 : Int32) : Int32 := (if p1 < p0 then p1 else p0)
theorem dmn_0 : decode jdk_29_method_69_code 0 = .ok (.iload_n 0, 1) := by decide +kernel
theorem dmn_1 : decode jdk_29_method_69_code 1 = .ok (.iload_n 1, 1) := by decide +kernel
theorem dmn_2 : decode jdk_29_method_69_code 2 = .ok (.if_icmp .gt 7, 3) := by decide +kernel
theorem dmn_5 : decode jdk_29_method_69_code 5 = .ok (.iload_n 0, 1) := by decide +kernel
theorem dmn_6 : decode jdk_29_method_69_code 6 = .ok (.goto 4, 3) := by decide +kernel
theorem dmn_9 : decode jdk_29_method_69_code 9 = .ok (.iload_n 1, 1) := by decide +kernel
theorem dmn_10 : decode jdk_29_method_69_code 10 = .ok (.ireturn, 1) := by decide +kernel
theorem efmn (m : MethodId) (x0 : Int32) (x1 : Int32) : entryFrame m #[(.int x0), (.int x1)] 2 = mkF m 0 #[.val (.int x0), .val (.int x1)] [] := by first | (simp [entryFrame, mkF, argsToLocals, Value.category, maxLocals]; done) | rfl
theorem pn_0 : plainFor (⟨"java/lang/Math", "min", "(II)I"⟩ : MethodName) = true := by first | decide +kernel | (apply plainFor_of_name; simp [plainName, overriddenIn]; done)
set_option maxRecDepth 65536 in
set_option maxHeartbeats 40000000 in
theorem rmmn (l : Launch) (Z : State) (a0 : Array Value) (hw : ∀ d ∈ tables_1, d.before a0 Z = true) (p0 : Int32) (p1 : Int32) (h0 : Heap) (n0 : Nat) (Z0 : n0 ≤ h0.size)  :
    NMet l Z (⟨"java/lang/Math", "min", "(II)I"⟩ : MethodName) jdk_29_method_69_code 2 (some .int) [] ({ frames := 0, cells := 0, slots := 0, locals := 0 } : Room) [(.int p0), (.int p1)] h0 n0 [] (fun v h => v = some (.int (own_min p0 p1)) ∧ h0 = h) := by
  refine MetFree.of_bodySF pn_0 hisR ?_
  intro p e s m args below meth c s₁ Bd hml0 hP hK
  obtain ⟨rfl, hZ, hh⟩ := hP
  have hx := Bd.exec
  have hby := Bd.bytes
  have hml : c.maxLocals = 2 := hml0
  have hnm := (name_of_methodNamed Bd.named Bd.method).1
  have w0 := Wk.start (a0 := a0) (EL := []) (n0 := n0) (nw := true) Bd hZ hh EW.nil chv0 (efmn m p0 p1) ({ frames := 0, cells := 0, slots := 0, locals := 0 } : Room) rfl
  have K0 : Keep h0 h0 [] := Keep.refl _ _
  have w1 := w0.pure (mkF m 2 #[.val (.int p0), .val (.int p1)] [(.int p1), (.int p0)]) (fun X eT hZ hown k => by
      show Steps _ _ _ (State.setTop _ (mkF m 0 #[.val (.int p0), .val (.int p1)] [])) _
      refine S.iloadN X.here hx (hb hby dmn_0) rfl ?_
      refine S.iloadN X.here hx (hb hby dmn_1) rfl ?_
      exact k)
  by_cases hc2 : p1 < p0
  · have w3 := w1.pure (mkF m 10 #[.val (.int p0), .val (.int p1)] [(.int p1)]) (fun X eT hZ hown k => by
        show Steps _ _ _ (State.setTop _ (mkF m 2 #[.val (.int p0), .val (.int p1)] [(.int p1), (.int p0)])) _
        refine S.icmpYes X.here hx 9 (hb hby dmn_2) (tlt hc2).2.2.1 (by decide) (by decide) ?_
        refine S.iloadN X.here hx (hb hby dmn_9) rfl ?_
        exact k)
    exact w3.endN (v := some (.int p1)) (Q := (fun v h => v = some (.int (own_min p0 p1)) ∧ h0 = h)) (wr := []) (h0 := h0) (fun h => by rw [Bd.returns] at h; cases h) Bd.notSynchronized (fun X hr => retI X hx Bd.returns (hb hby dmn_10) hr) (by decide) (by decide) ⟨by simp only [own_min, if_pos hc2], rfl⟩ K0
  · have w4 := w1.pure (mkF m 10 #[.val (.int p0), .val (.int p1)] [(.int p0)]) (fun X eT hZ hown k => by
        show Steps _ _ _ (State.setTop _ (mkF m 2 #[.val (.int p0), .val (.int p1)] [(.int p1), (.int p0)])) _
        refine S.icmpNo X.here hx (hb hby dmn_2) (flt hc2).2.2.1 ?_
        refine S.iloadN X.here hx (hb hby dmn_5) rfl ?_
        refine S.goto X.here hx 10 (hb hby dmn_6) (by decide) (by decide) ?_
        exact k)
    exact w4.endN (v := some (.int p0)) (Q := (fun v h => v = some (.int (own_min p0 p1)) ∧ h0 = h)) (wr := []) (h0 := h0) (fun h => by rw [Bd.returns] at h; cases h) Bd.notSynchronized (fun X hr => retI X hx Bd.returns (hb hby dmn_10) hr) (by decide) (by decide) ⟨by simp only [own_min, if_neg hc2], rfl⟩ K0
theorem own_min_same (x : Int32) : own_min x x = x := by unfold own_min; split <;> rfl
theorem own_min_cp {L b n : Nat} (h : b + n ≤ L) (hL : L ≤ 4000) : own_min (Int32.ofNat L - Int32.ofNat b) (Int32.ofNat n) = Int32.ofNat n := by
  rw [show L = b + (L - b) by omega, i_sub]; unfold own_min; split
  · rfl
  · next q => rw [i_lt (by omega) (by omega)] at q; rw [i_eq (by omega) (by omega)]; omega
theorem dil_0 : decode jdk_42_method_154_code 0 = .ok (.getstatic 38, 3) := by decide +kernel
theorem dil_3 : decode jdk_42_method_154_code 3 = .ok (.ifCond .eq 14, 3) := by decide +kernel
theorem dil_6 : decode jdk_42_method_154_code 6 = .ok (.aload_n 0, 1) := by decide +kernel
theorem dil_7 : decode jdk_42_method_154_code 7 = .ok (.getfield 15, 3) := by decide +kernel
theorem dil_10 : decode jdk_42_method_154_code 10 = .ok (.ifCond .ne 7, 3) := by decide +kernel
theorem dil_13 : decode jdk_42_method_154_code 13 = .ok (.iconst 1, 1) := by decide +kernel
theorem dil_14 : decode jdk_42_method_154_code 14 = .ok (.goto 4, 3) := by decide +kernel
theorem dil_18 : decode jdk_42_method_154_code 18 = .ok (.ireturn, 1) := by decide +kernel
theorem efil (m : MethodId) (x0 : Nat) : entryFrame m #[(.ref x0)] 1 = mkF m 0 #[.val (.ref x0)] [] := by first | (simp [entryFrame, mkF, argsToLocals, Value.category, maxLocals]; done) | rfl
theorem pn_1 : plainFor (⟨"java/lang/String", "isLatin1", "()Z"⟩ : MethodName) = true := by first | decide +kernel | (apply plainFor_of_name; simp [plainName, overriddenIn]; done)
set_option maxRecDepth 65536 in
set_option maxHeartbeats 40000000 in
theorem rmil (l : Launch) (Z : State) (a0 : Array Value) (hw : ∀ d ∈ tables_1, d.before a0 Z = true) (x : Nat) (h0 : Heap) (n0 : Nat) (Z0 : n0 ≤ h0.size) (hG : SetsOk Z) (X0 : Old Z n0 h0) (F2 : Fld Z h0 x "java/lang/String" "coder" "B" (.int (0 : Int32))) :
    NMet l Z (⟨"java/lang/String", "isLatin1", "()Z"⟩ : MethodName) jdk_42_method_154_code 1 (some .boolean) [] ({ frames := 0, cells := 0, slots := 0, locals := 0 } : Room) [(.ref x)] h0 n0 [] (fun v h => v = some (.int (1 : Int32)) ∧ h0 = h) := by
  refine MetFree.of_bodySF pn_1 hisR ?_
  intro p e s m args below meth c s₁ Bd hml0 hP hK
  obtain ⟨rfl, hZ, hh⟩ := hP
  obtain ⟨G1, G3, S1, P1, S3, P3⟩ := hG
  have hx := Bd.exec
  have hby := Bd.bytes
  have hml : c.maxLocals = 1 := hml0
  have hnm := (name_of_methodNamed Bd.named Bd.method).1
  have w0 := Wk.start (a0 := a0) (EL := []) (n0 := n0) (nw := true) Bd hZ hh EW.nil chv0 (efil m x) ({ frames := 0, cells := 0, slots := 0, locals := 0 } : Room) rfl
  have K0 : Keep h0 h0 [] := Keep.refl _ _
  have lt_F2 : h0.size > x := Fld.lt F2
  have w1 := w0.same (mkF m 3 #[.val (.ref x)] [(.int G1)]) (fun X eT hZ hown => getS (host := "") X hx hZ hown (hw _ (List.mem_of_getElem? (i := 31) rfl)) Via.refl eT (S1.ext X0.2) (g := (mkF m 0 #[.val (.ref x)] [])) rfl (hb hby dil_0))
  have w2 := w1.pure (mkF m 7 #[.val (.ref x)] [(.ref x)]) (fun X eT hZ hown k => by
      show Steps _ _ _ (State.setTop _ (mkF m 3 #[.val (.ref x)] [(.int G1)])) _
      refine S.ifNo X.here hx (hb hby dil_3) ((if0 _ _).trans (feq P1).1) ?_
      refine S.aloadN X.here hx (hb hby dil_6) rfl rfl ?_
      exact k)
  have w3 := w2.same (mkF m 10 #[.val (.ref x)] [(.int (0 : Int32))]) (fun X eT hZ hown => getF X hx hZ hown (host := "") (Or.inl (hw _ (List.mem_of_getElem? (i := 32) rfl))) Via.refl eT F2 (g := (mkF m 7 #[.val (.ref x)] [(.ref x)])) rfl rfl (hb hby dil_7))
  have w4 := w3.pure (mkF m 18 #[.val (.ref x)] [(.int (1 : Int32))]) (fun X eT hZ hown k => by
      show Steps _ _ _ (State.setTop _ (mkF m 10 #[.val (.ref x)] [(.int (0 : Int32))])) _
      refine S.ifNo X.here hx (hb hby dil_10) (by decide) ?_
      refine S.iconst X.here hx (1 : Int32) (hb hby dil_13) rfl ?_
      refine S.goto X.here hx 18 (hb hby dil_14) (by decide) (by decide) ?_
      exact k)
  exact w4.endN (v := some (.int (1 : Int32))) (Q := (fun v h => v = some (.int (1 : Int32)) ∧ h0 = h)) (wr := []) (h0 := h0) (fun h => by rw [Bd.returns] at h; cases h) Bd.notSynchronized (fun X hr => retN X hx (t := .boolean) Bd.returns (by simp) (hb hby dil_18) hr) (by decide) (by decide) ⟨rfl, rfl⟩ K0
theorem dbb_0 : decode jdk_42_method_151_code 0 = .ok (.aload_n 0, 1) := by decide +kernel
theorem dbb_1 : decode jdk_42_method_151_code 1 = .ok (.invokespecial 1, 3) := by decide +kernel
theorem dbb_4 : decode jdk_42_method_151_code 4 = .ok (.aload_n 0, 1) := by decide +kernel
theorem dbb_5 : decode jdk_42_method_151_code 5 = .ok (.aload_n 1, 1) := by decide +kernel
theorem dbb_6 : decode jdk_42_method_151_code 6 = .ok (.putfield 9, 3) := by decide +kernel
theorem dbb_9 : decode jdk_42_method_151_code 9 = .ok (.aload_n 0, 1) := by decide +kernel
theorem dbb_10 : decode jdk_42_method_151_code 10 = .ok (.iload_n 2, 1) := by decide +kernel
theorem dbb_11 : decode jdk_42_method_151_code 11 = .ok (.putfield 15, 3) := by decide +kernel
theorem dbb_14 : decode jdk_42_method_151_code 14 = .ok (.return_, 1) := by decide +kernel
theorem efbb (m : MethodId) (x0 : Nat) (x1 : Nat) (x2 : Int32) : entryFrame m #[(.ref x0), (.ref x1), (.int x2)] 3 = mkF m 0 #[.val (.ref x0), .val (.ref x1), .val (.int x2)] [] := by first | (simp [entryFrame, mkF, argsToLocals, Value.category, maxLocals]; done) | rfl
theorem pn_2 : plainFor (⟨"java/lang/String", "<init>", "([BB)V"⟩ : MethodName) = true := by first | decide +kernel | (apply plainFor_of_name; simp [plainName, overriddenIn]; done)
set_option maxRecDepth 65536 in
set_option maxHeartbeats 40000000 in
theorem rmbb (l : Launch) (Z : State) (a0 : Array Value) (hw : ∀ d ∈ tables_1, d.before a0 Z = true) (a t : Nat) (h0 : Heap) (n0 : Nat) (Z0 : n0 ≤ h0.size) (ga : n0 ≤ a) (E0 : Exa Z h0 a "java/lang/String") (F01 : Fld Z h0 a "java/lang/String" "value" "[B" .null) (F02 : Fld Z h0 a "java/lang/String" "coder" "B" (.int (0 : Int32))) :
    NMet l Z (⟨"java/lang/String", "<init>", "([BB)V"⟩ : MethodName) jdk_42_method_151_code 3 none [] ({ frames := 1, cells := 0, slots := 0, locals := 12 } : Room) [(.ref a), (.ref t), (.int (0 : Int32))] h0 n0 [a] (fun v h => v = none ∧ Exa Z h a "java/lang/String" ∧ Fld Z h a "java/lang/String" "value" "[B" (.ref t) ∧ Fld Z h a "java/lang/String" "coder" "B" (.int (0 : Int32))) := by
  refine MetFree.of_bodySF pn_2 hisR ?_
  intro p e s m args below meth c s₁ Bd hml0 hP hK
  obtain ⟨rfl, hZ, hh⟩ := hP
  have hx := Bd.exec
  have hby := Bd.bytes
  have hml : c.maxLocals = 3 := hml0
  have hnm := (name_of_methodNamed Bd.named Bd.method).1
  have w0 := Wk.start (a0 := a0) (EL := []) (n0 := n0) (nw := true) Bd hZ hh EW.nil chv0 (efbb m a t (0 : Int32)) ({ frames := 1, cells := 0, slots := 0, locals := 12 } : Room) rfl
  have K0 : Keep h0 h0 [a] := Keep.refl _ _
  have lt_E0 := exlt E0
  have lt_F01 : h0.size > a := Fld.lt F01
  have lt_F02 : h0.size > a := Fld.lt F02
  have w1 := w0.pure (mkF m 1 #[.val (.ref a), .val (.ref t), .val (.int (0 : Int32))] [(.ref a)]) (fun X eT hZ hown k => by
      show Steps _ _ _ (State.setTop _ (mkF m 0 #[.val (.ref a), .val (.ref t), .val (.int (0 : Int32))] [])) _
      refine S.aloadN X.here hx (hb hby dbb_0) rfl rfl ?_
      exact k)
  have w2 := w1.same (mkF m 4 #[.val (.ref a), .val (.ref t), .val (.int (0 : Int32))] []) (fun X eT hZ hown => initO X hx hZ hown (hw _ (List.mem_of_getElem? (i := 76) rfl)) (hw _ (List.mem_of_getElem? (i := 77) rfl)) (hw _ (List.mem_of_getElem? (i := 78) rfl)) eT (g := (mkF m 1 #[.val (.ref a), .val (.ref t), .val (.int (0 : Int32))] [(.ref a)])) rfl (by rw [hml]; rfl) rfl (hb hby dbb_1) (by decide) (W := 0) (by show 2 * 0 + _ ≤ _; exact Nat.le_of_eq rfl) (by decide))
  have w3 := w2.pure (mkF m 6 #[.val (.ref a), .val (.ref t), .val (.int (0 : Int32))] [(.ref t), (.ref a)]) (fun X eT hZ hown k => by
      show Steps _ _ _ (State.setTop _ (mkF m 4 #[.val (.ref a), .val (.ref t), .val (.int (0 : Int32))] [])) _
      refine S.aloadN X.here hx (hb hby dbb_4) rfl rfl ?_
      refine S.aloadN X.here hx (hb hby dbb_5) rfl rfl ?_
      exact k)
  obtain ⟨h4, W4, z4, F4, w4⟩ := w3.putF hx (host := "") (Or.inl (hw _ (List.mem_of_getElem? (i := 25) rfl))) Via.refl F01 E0 (Or.inr ⟨(hw _ (List.mem_of_getElem? (i := 16) rfl)), rfl, hnm⟩) (hw _ (List.mem_of_getElem? (i := 14) rfl)) (ty := (.array .byte)) (by decide) rfl rfl rfl rfl (hb hby dbb_6) (by omega) safe0 (mkF m 9 #[.val (.ref a), .val (.ref t), .val (.int (0 : Int32))] []) rfl
  have K5 : Keep h0 h4 [a] := K0.wr W4 (Or.inl (List.mem_of_getElem? (i := 0) rfl))
  have w6 := w4.pure (mkF m 11 #[.val (.ref a), .val (.ref t), .val (.int (0 : Int32))] [(.int (0 : Int32)), (.ref a)]) (fun X eT hZ hown k => by
      show Steps _ _ _ (State.setTop _ (mkF m 9 #[.val (.ref a), .val (.ref t), .val (.int (0 : Int32))] [])) _
      refine S.aloadN X.here hx (hb hby dbb_9) rfl rfl ?_
      refine S.iloadN X.here hx (hb hby dbb_10) rfl ?_
      exact k)
  have F7 := F02.other W4 (Or.inr (slot_ne (Or.inr (hw _ (List.mem_of_getElem? (i := 17) rfl))) (Or.inr (hw _ (List.mem_of_getElem? (i := 16) rfl))) (by decide) (t := .byte) (t' := (.array .byte)) (by decide) (by decide)))
  have F8 := E0.wr W4
  obtain ⟨h9, W9, z9, F9, w9⟩ := w6.putFN hx (hw _ (List.mem_of_getElem? (i := 32) rfl)) Via.refl (.int (0 : Int32)) F7 F8 (Or.inr ⟨(hw _ (List.mem_of_getElem? (i := 17) rfl)), rfl, hnm⟩) (hw _ (List.mem_of_getElem? (i := 14) rfl)) (ty := .byte) (by decide) rfl rfl rfl rfl (hb hby dbb_11) (by omega) safe0 (mkF m 14 #[.val (.ref a), .val (.ref t), .val (.int (0 : Int32))] []) rfl
  have K10 : Keep h0 h9 [a] := K5.wr W9 (Or.inl (List.mem_of_getElem? (i := 0) rfl))
  have F11 := F8.wr W9
  have F12 := F4.other W9 (Or.inr (slot_ne (Or.inr (hw _ (List.mem_of_getElem? (i := 16) rfl))) (Or.inr (hw _ (List.mem_of_getElem? (i := 17) rfl))) (by decide) (t := (.array .byte)) (t' := .byte) (by decide) (by decide)))
  exact w9.endN (v := none) (Q := (fun v h => v = none ∧ Exa Z h a "java/lang/String" ∧ Fld Z h a "java/lang/String" "value" "[B" (.ref t) ∧ Fld Z h a "java/lang/String" "coder" "B" (.int (0 : Int32)))) (wr := [a]) (h0 := h0) (fun _ => rfl) Bd.notSynchronized (fun X hr => X.returnOut hx Bd.returns (hb hby dbb_14) hr) (by decide) (by decide) ⟨rfl, F11, F12, F9⟩ K10
theorem dlc_0 : decode jdk_43_method_4_code 0 = .ok (.iload_n 0, 1) := by decide +kernel
theorem dlc_1 : decode jdk_43_method_4_code 1 = .ok (.ifCond .lt 14, 3) := by decide +kernel
theorem dlc_4 : decode jdk_43_method_4_code 4 = .ok (.iload_n 0, 1) := by decide +kernel
theorem dlc_5 : decode jdk_43_method_4_code 5 = .ok (.sipush 255, 3) := by decide +kernel
theorem dlc_8 : decode jdk_43_method_4_code 8 = .ok (.if_icmp .gt 7, 3) := by decide +kernel
theorem dlc_11 : decode jdk_43_method_4_code 11 = .ok (.iconst 1, 1) := by decide +kernel
theorem dlc_12 : decode jdk_43_method_4_code 12 = .ok (.goto 4, 3) := by decide +kernel
theorem dlc_16 : decode jdk_43_method_4_code 16 = .ok (.ireturn, 1) := by decide +kernel
theorem eflc (m : MethodId) (x0 : Int32) : entryFrame m #[(.int x0)] 1 = mkF m 0 #[.val (.int x0)] [] := by first | (simp [entryFrame, mkF, argsToLocals, Value.category, maxLocals]; done) | rfl
theorem pn_3 : plainFor (⟨"java/lang/StringLatin1", "canEncode", "(I)Z"⟩ : MethodName) = true := by first | decide +kernel | (apply plainFor_of_name; simp [plainName, overriddenIn]; done)
set_option maxRecDepth 65536 in
set_option maxHeartbeats 40000000 in
theorem rmlc (l : Launch) (Z : State) (a0 : Array Value) (hw : ∀ d ∈ tables_1, d.before a0 Z = true)  (h0 : Heap) (n0 : Nat) (Z0 : n0 ≤ h0.size)  :
    NMet l Z (⟨"java/lang/StringLatin1", "canEncode", "(I)Z"⟩ : MethodName) jdk_43_method_4_code 1 (some .boolean) [] ({ frames := 0, cells := 0, slots := 0, locals := 0 } : Room) [(.int (64 : Int32))] h0 n0 [] (fun v h => v = some (.int (1 : Int32)) ∧ h0 = h) := by
  refine MetFree.of_bodySF pn_3 hisR ?_
  intro p e s m args below meth c s₁ Bd hml0 hP hK
  obtain ⟨rfl, hZ, hh⟩ := hP
  have hx := Bd.exec
  have hby := Bd.bytes
  have hml : c.maxLocals = 1 := hml0
  have hnm := (name_of_methodNamed Bd.named Bd.method).1
  have w0 := Wk.start (a0 := a0) (EL := []) (n0 := n0) (nw := true) Bd hZ hh EW.nil chv0 (eflc m (64 : Int32)) ({ frames := 0, cells := 0, slots := 0, locals := 0 } : Room) rfl
  have K0 : Keep h0 h0 [] := Keep.refl _ _
  have w1 := w0.pure (mkF m 16 #[.val (.int (64 : Int32))] [(.int (1 : Int32))]) (fun X eT hZ hown k => by
      show Steps _ _ _ (State.setTop _ (mkF m 0 #[.val (.int (64 : Int32))] [])) _
      refine S.iloadN X.here hx (hb hby dlc_0) rfl ?_
      refine S.ifNo X.here hx (hb hby dlc_1) (by decide) ?_
      refine S.iloadN X.here hx (hb hby dlc_4) rfl ?_
      refine S.sipush X.here hx (255 : Int32) (hb hby dlc_5) rfl ?_
      refine S.icmpNo X.here hx (hb hby dlc_8) (by decide) ?_
      refine S.iconst X.here hx (1 : Int32) (hb hby dlc_11) rfl ?_
      refine S.goto X.here hx 16 (hb hby dlc_12) (by decide) (by decide) ?_
      exact k)
  exact w1.endN (v := some (.int (1 : Int32))) (Q := (fun v h => v = some (.int (1 : Int32)) ∧ h0 = h)) (wr := []) (h0 := h0) (fun h => by rw [Bd.returns] at h; cases h) Bd.notSynchronized (fun X hr => retN X hx (t := .boolean) Bd.returns (by simp) (hb hby dlc_16) hr) (by decide) (by decide) ⟨rfl, rfl⟩ K0
theorem dlz_18 : decode jdk_43_method_27_code 18 = .ok (.iload_n 3, 1) := by decide +kernel
theorem dlz_19 : decode jdk_43_method_27_code 19 = .ok (.ifCond .lt 19, 3) := by decide +kernel
theorem dlz_38 : decode jdk_43_method_27_code 38 = .ok (.iconst (-1), 1) := by decide +kernel
theorem dlz_39 : decode jdk_43_method_27_code 39 = .ok (.ireturn, 1) := by decide +kernel
set_option maxRecDepth 65536 in
set_option maxHeartbeats 40000000 in
theorem ptlz (l : Launch) (Z : State) (a0 : Array Value) (hw : ∀ d ∈ tables_1, d.before a0 Z = true) {p : Program} {e : Env} {s s₁ st : State} {m : MethodId} {args : Array Value} {below : List Frame} {meth : Method} {c : Code} {Sp : Spec} (Bd : BodyLoose p l (⟨"java/lang/StringLatin1", "lastIndexOf", "([BII)I"⟩ : MethodName) Sp jdk_43_method_27_code 4 (some .int) e s m args below meth c s₁) (hml : c.maxLocals = 4) (t : Nat) (kb : ClassId) (cs : List Int32) (p2 : Int32) (h0 : Heap) (n0 : Nat) (Z0 : n0 ≤ h0.size) {h1 : Heap} {vm1 : Vm}
    (w0 : Wk p l e ({ frames := 1, cells := 0, slots := 0, locals := 19 } : Room) s m args below meth c Z a0 [] n0 "java/lang/StringLatin1" true st vm1 h1 (mkF m 18 #[.val (.ref t), .val (.int (64 : Int32)), .val (.int p2), .val (.int (-1 : Int32))] []) 0 0) (K0 : Keep h0 h1 []) (Z1 : h0.size ≤ h1.size) (V1 : Arv Z h1 t kb .byte (Int32.ofNat cs.length) ((cs.map (fun c => c.toInt8.toInt32)).map Value.int) (.int (0 : Int32))) (e01 : h0 = h1) :
    EndsN p e below st s n0 h0 [] (fun v h => v = some (.int (own_lix cs (64 : Int32) 0)) ∧ h0 = h) ({ frames := 1, cells := 0, slots := 0, locals := 19 } : Room).cells ({ frames := 1, cells := 0, slots := 0, locals := 19 } : Room).slots := by
  have hx := Bd.exec
  have hby := Bd.bytes
  have hnm := (name_of_methodNamed Bd.named Bd.method).1
  have lt_V1 := arlt V1
  have w1 := w0.pure (mkF m 39 #[.val (.ref t), .val (.int (64 : Int32)), .val (.int p2), .val (.int (-1 : Int32))] [(.int (-1 : Int32))]) (fun X eT hZ hown k => by
      show Steps _ _ _ (State.setTop _ (mkF m 18 #[.val (.ref t), .val (.int (64 : Int32)), .val (.int p2), .val (.int (-1 : Int32))] [])) _
      refine S.iloadN X.here hx (hb hby dlz_18) rfl ?_
      refine S.ifYes X.here hx 38 (hb hby dlz_19) (by decide) (by decide) (by decide) ?_
      refine S.iconst X.here hx (-1 : Int32) (hb hby dlz_38) rfl ?_
      exact k)
  exact w1.endN (v := some (.int (-1 : Int32))) (Q := (fun v h => v = some (.int (own_lix cs (64 : Int32) 0)) ∧ h0 = h)) (wr := []) (h0 := h0) (fun h => by rw [Bd.returns] at h; cases h) Bd.notSynchronized (fun X hr => retI X hx Bd.returns (hb hby dlz_39) hr) (by decide) (by decide) ⟨rfl, e01⟩ K0
theorem own_byte {cs : List Int32} {n : Nat} (hn : n < cs.length) (ln : cs.length ≤ 4000) : ((cs.map (fun c => c.toInt8.toInt32)).map Value.int).getD (Int32.ofNat n).toNatClampNeg (.int (0 : Int32)) = .int ((cs.getD n 0).toInt8.toInt32) := by
  rw [i_clamp (by omega)]; simp [List.getD_eq_getElem?_getD, hn]
theorem own_lix_hit {cs : List Int32} {n : Nat} (hn : n < cs.length) (rg : ∀ c ∈ cs, ¬ c < 0 ∧ ¬ (255 : Int32) < c) (q : ((cs.getD n 0).toInt8.toInt32) = ((64 : Int32).toInt8.toInt32)) : own_lix cs (64 : Int32) (n + 1) = Int32.ofNat n :=
  if_pos (own_b8 (by simp only [List.getD_eq_getElem?_getD, List.getElem?_eq_getElem hn, Option.getD_some]; exact rg _ (List.getElem_mem hn)) (by decide) q)
theorem own_lix_miss {cs : List Int32} {n : Nat} (q : ¬ ((cs.getD n 0).toInt8.toInt32) = ((64 : Int32).toInt8.toInt32)) : own_lix cs (64 : Int32) (n + 1) = own_lix cs (64 : Int32) n := if_neg (fun r => q (by rw [r]))
theorem dlt_18 : decode jdk_43_method_27_code 18 = .ok (.iload_n 3, 1) := by decide +kernel
theorem dlt_19 : decode jdk_43_method_27_code 19 = .ok (.ifCond .lt 19, 3) := by decide +kernel
theorem dlt_22 : decode jdk_43_method_27_code 22 = .ok (.aload_n 0, 1) := by decide +kernel
theorem dlt_23 : decode jdk_43_method_27_code 23 = .ok (.iload_n 3, 1) := by decide +kernel
theorem dlt_24 : decode jdk_43_method_27_code 24 = .ok (.baload, 1) := by decide +kernel
theorem dlt_25 : decode jdk_43_method_27_code 25 = .ok (.iload_n 1, 1) := by decide +kernel
theorem dlt_26 : decode jdk_43_method_27_code 26 = .ok (.i2b, 1) := by decide +kernel
theorem dlt_27 : decode jdk_43_method_27_code 27 = .ok (.if_icmp .ne 5, 3) := by decide +kernel
theorem dlt_30 : decode jdk_43_method_27_code 30 = .ok (.iload_n 3, 1) := by decide +kernel
theorem dlt_31 : decode jdk_43_method_27_code 31 = .ok (.ireturn, 1) := by decide +kernel
theorem dlt_32 : decode jdk_43_method_27_code 32 = .ok (.iinc 3 (-1), 3) := by decide +kernel
theorem dlt_35 : decode jdk_43_method_27_code 35 = .ok (.goto (-17), 3) := by decide +kernel
set_option maxRecDepth 65536 in
set_option maxHeartbeats 40000000 in
theorem ptlt (l : Launch) (Z : State) (a0 : Array Value) (hw : ∀ d ∈ tables_1, d.before a0 Z = true) {p : Program} {e : Env} {s s₁ st : State} {m : MethodId} {args : Array Value} {below : List Frame} {meth : Method} {c : Code} {Sp : Spec} (Bd : BodyLoose p l (⟨"java/lang/StringLatin1", "lastIndexOf", "([BII)I"⟩ : MethodName) Sp jdk_43_method_27_code 4 (some .int) e s m args below meth c s₁) (hml : c.maxLocals = 4) (t : Nat) (kb : ClassId) (cs : List Int32) (p2 : Int32) (n : Nat) (h0 : Heap) (n0 : Nat) (Z0 : n0 ≤ h0.size) {h1 : Heap} {vm1 : Vm}
    (w0 : Wk p l e ({ frames := 1, cells := 0, slots := 0, locals := 19 } : Room) s m args below meth c Z a0 [] n0 "java/lang/StringLatin1" true st vm1 h1 (mkF m 18 #[.val (.ref t), .val (.int (64 : Int32)), .val (.int p2), .val (.int (Int32.ofNat n))] []) 0 0) (K0 : Keep h0 h1 []) (Z1 : h0.size ≤ h1.size) (V1 : Arv Z h1 t kb .byte (Int32.ofNat cs.length) ((cs.map (fun c => c.toInt8.toInt32)).map Value.int) (.int (0 : Int32))) (e01 : h0 = h1) (hn : n < cs.length) (ln : cs.length ≤ 4000) (rg : ∀ c ∈ cs, ¬ c < 0 ∧ ¬ (255 : Int32) < c) (ih : Wk p l e ({ frames := 1, cells := 0, slots := 0, locals := 19 } : Room) s m args below meth c Z a0 [] n0 "java/lang/StringLatin1" true st vm1 h1 (mkF m 18 #[.val (.ref t), .val (.int (64 : Int32)), .val (.int p2), .val (.int (Int32.ofNat n - (1 : Int32)))] []) 0 0 → EndsN p e below st s n0 h0 [] (fun v h => v = some (.int (own_lix cs (64 : Int32) n)) ∧ h0 = h) ({ frames := 1, cells := 0, slots := 0, locals := 19 } : Room).cells ({ frames := 1, cells := 0, slots := 0, locals := 19 } : Room).slots) :
    EndsN p e below st s n0 h0 [] (fun v h => v = some (.int (own_lix cs (64 : Int32) (n + 1))) ∧ h0 = h) ({ frames := 1, cells := 0, slots := 0, locals := 19 } : Room).cells ({ frames := 1, cells := 0, slots := 0, locals := 19 } : Room).slots := by
  have hx := Bd.exec
  have hby := Bd.bytes
  have hnm := (name_of_methodNamed Bd.named Bd.method).1
  have lt_V1 := arlt V1
  have w1 := w0.pure (mkF m 27 #[.val (.ref t), .val (.int (64 : Int32)), .val (.int p2), .val (.int (Int32.ofNat n))] [(.int ((64 : Int32).toInt8.toInt32)), (.int ((cs.getD n 0).toInt8.toInt32))]) (fun X eT hZ hown k => by
      show Steps _ _ _ (State.setTop _ (mkF m 18 #[.val (.ref t), .val (.int (64 : Int32)), .val (.int p2), .val (.int (Int32.ofNat n))] [])) _
      refine S.iloadN X.here hx (hb hby dlt_18) rfl ?_
      refine S.ifNo X.here hx (hb hby dlt_19) ((if0 _ _).trans (flt (i_nn (by omega))).1) ?_
      refine S.aloadN X.here hx (hb hby dlt_22) rfl rfl ?_
      refine S.iloadN X.here hx (hb hby dlt_23) rfl ?_
      refine baV X hx eT hZ V1 (v := (.int ((cs.getD n 0).toInt8.toInt32))) ⟨i_nn (by omega), (i_lt (by omega) ln).mpr hn⟩ (own_byte hn ln) rfl rfl (hb hby dlt_24) ?_
      show Steps _ _ _ (State.setTop _ (mkF m 25 #[.val (.ref t), .val (.int (64 : Int32)), .val (.int p2), .val (.int (Int32.ofNat n))] [(.int ((cs.getD n 0).toInt8.toInt32))])) _
      refine S.iloadN X.here hx (hb hby dlt_25) rfl ?_
      refine S.i2b X.here hx (hb hby dlt_26) ?_
      exact k)
  by_cases hc2 : ((cs.getD n 0).toInt8.toInt32) = ((64 : Int32).toInt8.toInt32)
  · have w3 := w1.pure (mkF m 31 #[.val (.ref t), .val (.int (64 : Int32)), .val (.int p2), .val (.int (Int32.ofNat n))] [(.int (Int32.ofNat n))]) (fun X eT hZ hown k => by
        show Steps _ _ _ (State.setTop _ (mkF m 27 #[.val (.ref t), .val (.int (64 : Int32)), .val (.int p2), .val (.int (Int32.ofNat n))] [(.int ((64 : Int32).toInt8.toInt32)), (.int ((cs.getD n 0).toInt8.toInt32))])) _
        refine S.icmpNo X.here hx (hb hby dlt_27) (teq hc2).2 ?_
        refine S.iloadN X.here hx (hb hby dlt_30) rfl ?_
        exact k)
    exact w3.endN (v := some (.int (Int32.ofNat n))) (Q := (fun v h => v = some (.int (own_lix cs (64 : Int32) (n + 1))) ∧ h0 = h)) (wr := []) (h0 := h0) (fun h => by rw [Bd.returns] at h; cases h) Bd.notSynchronized (fun X hr => retI X hx Bd.returns (hb hby dlt_31) hr) (by decide) (by decide) ⟨by rw [own_lix_hit hn rg hc2], e01⟩ K0
  · have w4 := w1.pure (mkF m 18 #[.val (.ref t), .val (.int (64 : Int32)), .val (.int p2), .val (.int ((Int32.ofNat n) + (-1 : Int32)))] []) (fun X eT hZ hown k => by
        show Steps _ _ _ (State.setTop _ (mkF m 27 #[.val (.ref t), .val (.int (64 : Int32)), .val (.int p2), .val (.int (Int32.ofNat n))] [(.int ((64 : Int32).toInt8.toInt32)), (.int ((cs.getD n 0).toInt8.toInt32))])) _
        refine S.icmpYes X.here hx 32 (hb hby dlt_27) (feq hc2).2 (by decide) (by decide) ?_
        refine S.iinc X.here hx ((Int32.ofNat n) + (-1 : Int32)) (hb hby dlt_32) rfl rfl #[.val (.ref t), .val (.int (64 : Int32)), .val (.int p2), .val (.int ((Int32.ofNat n) + (-1 : Int32)))] rfl ?_
        refine S.goto X.here hx 18 (hb hby dlt_35) (by decide) (by decide) ?_
        exact k)
    rw [own_lix_miss hc2]
    exact ih (by rw [← i_dec]; exact w4)
theorem own_lixL (l : Launch) (Z : State) (a0 : Array Value) (hw : ∀ d ∈ tables_1, d.before a0 Z = true) {p : Program} {e : Env} {s s₁ st : State} {m : MethodId} {args : Array Value} {below : List Frame} {meth : Method} {c : Code} {Sp : Spec} (Bd : BodyLoose p l (⟨"java/lang/StringLatin1", "lastIndexOf", "([BII)I"⟩ : MethodName) Sp jdk_43_method_27_code 4 (some .int) e s m args below meth c s₁) (hml : c.maxLocals = 4) (t : Nat) (kb : ClassId) (cs : List Int32) (p2 : Int32) (h0 : Heap) (n0 : Nat) (Z0 : n0 ≤ h0.size) {h1 : Heap} {vm1 : Vm} (K0 : Keep h0 h1 []) (Z1 : h0.size ≤ h1.size) (V1 : Arv Z h1 t kb .byte (Int32.ofNat cs.length) ((cs.map (fun c => c.toInt8.toInt32)).map Value.int) (.int (0 : Int32))) (e01 : h0 = h1) (ln : cs.length ≤ 4000) (rg : ∀ c ∈ cs, ¬ c < 0 ∧ ¬ (255 : Int32) < c) :
    ∀ n : Nat, n ≤ cs.length → Wk p l e ({ frames := 1, cells := 0, slots := 0, locals := 19 } : Room) s m args below meth c Z a0 [] n0 "java/lang/StringLatin1" true st vm1 h1 (mkF m 18 #[.val (.ref t), .val (.int (64 : Int32)), .val (.int p2), .val (.int (Int32.ofNat n - (1 : Int32)))] []) 0 0 → EndsN p e below st s n0 h0 [] (fun v h => v = some (.int (own_lix cs (64 : Int32) n)) ∧ h0 = h) ({ frames := 1, cells := 0, slots := 0, locals := 19 } : Room).cells ({ frames := 1, cells := 0, slots := 0, locals := 19 } : Room).slots := by
  intro n
  induction n with
  | zero => intro _ w; exact ptlz l Z a0 hw Bd hml t kb cs p2 h0 n0 Z0 w K0 Z1 V1 e01
  | succ n ih => intro q w; exact ptlt l Z a0 hw Bd hml t kb cs p2 n h0 n0 Z0 (by rw [← i_pred]; exact w) K0 Z1 V1 e01 (by omega) ln rg (ih (by omega))
theorem pd_0 : parseMethodDescriptor "(I)Z" = some ⟨[.int], some .boolean⟩ := by decide +kernel
theorem pd_1 : parseMethodDescriptor "(II)I" = some ⟨[.int, .int], some .int⟩ := by decide +kernel
theorem dl1_0 : decode jdk_43_method_27_code 0 = .ok (.iload_n 1, 1) := by decide +kernel
theorem dl1_1 : decode jdk_43_method_27_code 1 = .ok (.invokestatic 88, 3) := by decide +kernel
theorem dl1_4 : decode jdk_43_method_27_code 4 = .ok (.ifCond .ne 5, 3) := by decide +kernel
theorem dl1_9 : decode jdk_43_method_27_code 9 = .ok (.iload_n 2, 1) := by decide +kernel
theorem dl1_10 : decode jdk_43_method_27_code 10 = .ok (.aload_n 0, 1) := by decide +kernel
theorem dl1_11 : decode jdk_43_method_27_code 11 = .ok (.arraylength, 1) := by decide +kernel
theorem dl1_12 : decode jdk_43_method_27_code 12 = .ok (.iconst 1, 1) := by decide +kernel
theorem dl1_13 : decode jdk_43_method_27_code 13 = .ok (.isub, 1) := by decide +kernel
theorem dl1_14 : decode jdk_43_method_27_code 14 = .ok (.invokestatic 38, 3) := by decide +kernel
theorem dl1_17 : decode jdk_43_method_27_code 17 = .ok (.istore_n 3, 1) := by decide +kernel
theorem efl1 (m : MethodId) (x0 : Nat) (x1 : Int32) (x2 : Int32) : entryFrame m #[(.ref x0), (.int x1), (.int x2)] 4 = mkF m 0 #[.val (.ref x0), .val (.int x1), .val (.int x2), .unset] [] := by first | (simp [entryFrame, mkF, argsToLocals, Value.category, maxLocals]; done) | rfl
theorem pn_4 : plainFor (⟨"java/lang/StringLatin1", "lastIndexOf", "([BII)I"⟩ : MethodName) = true := by first | decide +kernel | (apply plainFor_of_name; simp [plainName, overriddenIn]; done)
set_option maxRecDepth 65536 in
set_option maxHeartbeats 40000000 in
theorem rml1 (l : Launch) (Z : State) (a0 : Array Value) (hw : ∀ d ∈ tables_1, d.before a0 Z = true) (t : Nat) (kb : ClassId) (cs : List Int32) (h0 : Heap) (n0 : Nat) (Z0 : n0 ≤ h0.size) (V0 : Arv Z h0 t kb .byte (Int32.ofNat cs.length) ((cs.map (fun c => c.toInt8.toInt32)).map Value.int) (.int (0 : Int32))) (ln : cs.length ≤ 4000) (rg : ∀ c ∈ cs, ¬ c < 0 ∧ ¬ (255 : Int32) < c) :
    NMet l Z (⟨"java/lang/StringLatin1", "lastIndexOf", "([BII)I"⟩ : MethodName) jdk_43_method_27_code 4 (some .int) [] ({ frames := 1, cells := 0, slots := 0, locals := 19 } : Room) [(.ref t), (.int (64 : Int32)), (.int ((Int32.ofNat cs.length) - (1 : Int32)))] h0 n0 [] (fun v h => v = some (.int (own_lix cs (64 : Int32) cs.length)) ∧ h0 = h) := by
  refine MetFree.of_bodySF pn_4 hisR ?_
  intro p e s m args below meth c s₁ Bd hml0 hP hK
  obtain ⟨rfl, hZ, hh⟩ := hP
  have hx := Bd.exec
  have hby := Bd.bytes
  have hml : c.maxLocals = 4 := hml0
  have hnm := (name_of_methodNamed Bd.named Bd.method).1
  have w0 := Wk.start (a0 := a0) (EL := []) (n0 := n0) (nw := true) Bd hZ hh EW.nil chv0 (efl1 m t (64 : Int32) ((Int32.ofNat cs.length) - (1 : Int32))) ({ frames := 1, cells := 0, slots := 0, locals := 19 } : Room) rfl
  have K0 : Keep h0 h0 [] := Keep.refl _ _
  have lt_t := arlt V0
  have w1 := w0.pure (mkF m 1 #[.val (.ref t), .val (.int (64 : Int32)), .val (.int ((Int32.ofNat cs.length) - (1 : Int32))), .unset] [(.int (64 : Int32))]) (fun X eT hZ hown k => by
      show Steps _ _ _ (State.setTop _ (mkF m 0 #[.val (.ref t), .val (.int (64 : Int32)), .val (.int ((Int32.ofNat cs.length) - (1 : Int32))), .unset] [])) _
      refine S.iloadN X.here hx (hb hby dl1_0) rfl ?_
      exact k)
  obtain ⟨v2, h2, Q2, K2, z2, w2⟩ := w1.callS hx (y := (⟨"java/lang/StringLatin1", "canEncode", "(I)Z"⟩ : MethodName)) (W := 0) (hw _ (List.mem_of_getElem? (i := 107) rfl)) (hw _ (List.mem_of_getElem? (i := 108) rfl)) (hw _ (List.mem_of_getElem? (i := 45) rfl)) (hw _ (List.mem_of_getElem? (i := 109) rfl)) (by decide) ((rmlc l Z a0 hw  h0 n0 (by omega) ).pay w1.hZ (hw _ (List.mem_of_getElem? (i := 109) rfl)) (hw _ (List.mem_of_getElem? (i := 45) rfl)) (by decide) (by decide)) rfl (by rw [hml]; rfl) [] (lenOf pd_0 rfl) rfl (by show 2 * 0 + _ ≤ _; exact Nat.le_of_eq rfl) (hb hby dl1_1) (by decide) (by decide) (fun _ q => nomatch q) (fun rv => (mkF m 4 #[.val (.ref t), .val (.int (64 : Int32)), .val (.int ((Int32.ofNat cs.length) - (1 : Int32))), .unset] (rv.toList ++ []))) (fun _ => rfl)
  obtain ⟨rfl, rfl⟩ := Q2
  have w3 := w2.pure (mkF m 14 #[.val (.ref t), .val (.int (64 : Int32)), .val (.int ((Int32.ofNat cs.length) - (1 : Int32))), .unset] [(.int ((Int32.ofNat cs.length) - (1 : Int32))), (.int ((Int32.ofNat cs.length) - (1 : Int32)))]) (fun X eT hZ hown k => by
      show Steps _ _ _ (State.setTop _ (mkF m 4 #[.val (.ref t), .val (.int (64 : Int32)), .val (.int ((Int32.ofNat cs.length) - (1 : Int32))), .unset] [(.int (1 : Int32))])) _
      refine S.ifYes X.here hx 9 (hb hby dl1_4) (by decide) (by decide) (by decide) ?_
      refine S.iloadN X.here hx (hb hby dl1_9) rfl ?_
      refine S.aloadN X.here hx (hb hby dl1_10) rfl rfl ?_
      refine alenV X hx eT hZ V0 rfl rfl (hb hby dl1_11) ?_
      show Steps _ _ _ (State.setTop _ (mkF m 12 #[.val (.ref t), .val (.int (64 : Int32)), .val (.int ((Int32.ofNat cs.length) - (1 : Int32))), .unset] [(.int (Int32.ofNat cs.length)), (.int ((Int32.ofNat cs.length) - (1 : Int32)))])) _
      refine S.iconst X.here hx (1 : Int32) (hb hby dl1_12) rfl ?_
      refine S.isub X.here hx (hb hby dl1_13) ?_
      exact k)
  obtain ⟨v4, h4, Q4, K4, z4, w4⟩ := w3.callS hx (y := (⟨"java/lang/Math", "min", "(II)I"⟩ : MethodName)) (W := 0) (hw _ (List.mem_of_getElem? (i := 110) rfl)) (hw _ (List.mem_of_getElem? (i := 111) rfl)) (hw _ (List.mem_of_getElem? (i := 112) rfl)) (hw _ (List.mem_of_getElem? (i := 113) rfl)) (by decide) ((rmmn l Z a0 hw ((Int32.ofNat cs.length) - (1 : Int32)) ((Int32.ofNat cs.length) - (1 : Int32)) h0 n0 (by omega)).pay w3.hZ (hw _ (List.mem_of_getElem? (i := 113) rfl)) (hw _ (List.mem_of_getElem? (i := 112) rfl)) (by decide) (by decide)) rfl (by rw [hml]; rfl) [] (lenOf pd_1 rfl) rfl (by show 2 * 0 + _ ≤ _; exact Nat.le_of_eq rfl) (hb hby dl1_14) (by decide) (by decide) (fun _ q => nomatch q) (fun rv => (mkF m 17 #[.val (.ref t), .val (.int (64 : Int32)), .val (.int ((Int32.ofNat cs.length) - (1 : Int32))), .unset] (rv.toList ++ []))) (fun _ => rfl)
  obtain ⟨rfl, rfl⟩ := Q4
  have w5 := w4
  rw [own_min_same ((Int32.ofNat cs.length) - (1 : Int32))] at w5
  have w6 := w5.pure (mkF m 18 #[.val (.ref t), .val (.int (64 : Int32)), .val (.int ((Int32.ofNat cs.length) - (1 : Int32))), .val (.int ((Int32.ofNat cs.length) - (1 : Int32)))] []) (fun X eT hZ hown k => by
      show Steps _ _ _ (State.setTop _ (mkF m 17 #[.val (.ref t), .val (.int (64 : Int32)), .val (.int ((Int32.ofNat cs.length) - (1 : Int32))), .unset] [(.int ((Int32.ofNat cs.length) - (1 : Int32)))])) _
      refine S.istoreN X.here hx (hb hby dl1_17) #[.val (.ref t), .val (.int (64 : Int32)), .val (.int ((Int32.ofNat cs.length) - (1 : Int32))), .val (.int ((Int32.ofNat cs.length) - (1 : Int32)))] rfl ?_
      exact k)
  exact own_lixL l Z a0 hw Bd hml t kb cs ((Int32.ofNat cs.length) - (1 : Int32)) h0 n0 Z0 K0 (by omega) V0 rfl ln rg cs.length (Nat.le_refl _) w6
theorem pd_2 : parseMethodDescriptor "()Z" = some ⟨[], some .boolean⟩ := by decide +kernel
theorem pd_3 : parseMethodDescriptor "([BII)I" = some ⟨[(.array .byte), .int, .int], some .int⟩ := by decide +kernel
theorem dl2_0 : decode jdk_42_method_83_code 0 = .ok (.aload_n 0, 1) := by decide +kernel
theorem dl2_1 : decode jdk_42_method_83_code 1 = .ok (.invokevirtual 492, 3) := by decide +kernel
theorem dl2_4 : decode jdk_42_method_83_code 4 = .ok (.ifCond .eq 15, 3) := by decide +kernel
theorem dl2_7 : decode jdk_42_method_83_code 7 = .ok (.aload_n 0, 1) := by decide +kernel
theorem dl2_8 : decode jdk_42_method_83_code 8 = .ok (.getfield 9, 3) := by decide +kernel
theorem dl2_11 : decode jdk_42_method_83_code 11 = .ok (.iload_n 1, 1) := by decide +kernel
theorem dl2_12 : decode jdk_42_method_83_code 12 = .ok (.iload_n 2, 1) := by decide +kernel
theorem dl2_13 : decode jdk_42_method_83_code 13 = .ok (.invokestatic 644, 3) := by decide +kernel
theorem dl2_16 : decode jdk_42_method_83_code 16 = .ok (.goto 12, 3) := by decide +kernel
theorem dl2_28 : decode jdk_42_method_83_code 28 = .ok (.ireturn, 1) := by decide +kernel
theorem efl2 (m : MethodId) (x0 : Nat) (x1 : Int32) (x2 : Int32) : entryFrame m #[(.ref x0), (.int x1), (.int x2)] 3 = mkF m 0 #[.val (.ref x0), .val (.int x1), .val (.int x2)] [] := by first | (simp [entryFrame, mkF, argsToLocals, Value.category, maxLocals]; done) | rfl
theorem pn_5 : plainFor (⟨"java/lang/String", "lastIndexOf", "(II)I"⟩ : MethodName) = true := by first | decide +kernel | (apply plainFor_of_name; simp [plainName, overriddenIn]; done)
set_option maxRecDepth 65536 in
set_option maxHeartbeats 40000000 in
theorem rml2 (l : Launch) (Z : State) (a0 : Array Value) (hw : ∀ d ∈ tables_1, d.before a0 Z = true) (x : Nat) (cs : List Int32) (b : Nat) (h0 : Heap) (n0 : Nat) (Z0 : n0 ≤ h0.size) (hG : SetsOk Z) (X0 : Old Z n0 h0) (Sx : Str Z h0 x cs b) :
    NMet l Z (⟨"java/lang/String", "lastIndexOf", "(II)I"⟩ : MethodName) jdk_42_method_83_code 3 (some .int) [] ({ frames := 2, cells := 0, slots := 0, locals := 34 } : Room) [(.ref x), (.int (64 : Int32)), (.int ((Int32.ofNat cs.length) - (1 : Int32)))] h0 n0 [] (fun v h => v = some (.int (own_lix cs (64 : Int32) cs.length)) ∧ h0 = h) := by
  refine MetFree.of_bodySF pn_5 hisR ?_
  intro p e s m args below meth c s₁ Bd hml0 hP hK
  obtain ⟨rfl, hZ, hh⟩ := hP
  have hx := Bd.exec
  have hby := Bd.bytes
  have hml : c.maxLocals = 3 := hml0
  have hnm := (name_of_methodNamed Bd.named Bd.method).1
  have w0 := Wk.start (a0 := a0) (EL := []) (n0 := n0) (nw := true) Bd hZ hh EW.nil chv0 (efl2 m x (64 : Int32) ((Int32.ofNat cs.length) - (1 : Int32))) ({ frames := 2, cells := 0, slots := 0, locals := 34 } : Room) rfl
  have K0 : Keep h0 h0 [] := Keep.refl _ _
  obtain ⟨t, kb, Ex, Fv, Fc, Kb, rg, ln, bx, bt⟩ := Sx
  have lt_x := exlt Ex
  have lt_t := arlt Kb
  have w1 := w0.pure (mkF m 1 #[.val (.ref x), .val (.int (64 : Int32)), .val (.int ((Int32.ofNat cs.length) - (1 : Int32)))] [(.ref x)]) (fun X eT hZ hown k => by
      show Steps _ _ _ (State.setTop _ (mkF m 0 #[.val (.ref x), .val (.int (64 : Int32)), .val (.int ((Int32.ofNat cs.length) - (1 : Int32)))] [])) _
      refine S.aloadN X.here hx (hb hby dl2_0) rfl rfl ?_
      exact k)
  obtain ⟨v2, h2, Q2, K2, z2, w2⟩ := w1.callV hx (C := "java/lang/String") (y := (⟨"java/lang/String", "isLatin1", "()Z"⟩ : MethodName)) (z := (⟨"java/lang/String", "isLatin1", "()Z"⟩ : MethodName)) (W := 0) (hw _ (List.mem_of_getElem? (i := 38) rfl)) (hw _ (List.mem_of_getElem? (i := 39) rfl)) (hw _ (List.mem_of_getElem? (i := 41) rfl)) (hw _ (List.mem_of_getElem? (i := 40) rfl)) (w1.nf (hw _ (List.mem_of_getElem? (i := 41) rfl))) (by decide) ((rmil l Z a0 hw x h0 n0 (by omega) hG X0 Fc).pay w1.hZ (hw _ (List.mem_of_getElem? (i := 42) rfl)) (hw _ (List.mem_of_getElem? (i := 13) rfl)) (by decide) (by decide)) Ex rfl (by rw [hml]; rfl) [] (lenOf pd_2 rfl) rfl (by show 2 * 0 + _ ≤ _; exact Nat.le_of_eq rfl) (hb hby dl2_1) (by decide) (by decide) (fun _ q => nomatch q) (fun rv => (mkF m 4 #[.val (.ref x), .val (.int (64 : Int32)), .val (.int ((Int32.ofNat cs.length) - (1 : Int32)))] (rv.toList ++ []))) (fun _ => rfl)
  obtain ⟨rfl, rfl⟩ := Q2
  have w3 := w2.pure (mkF m 8 #[.val (.ref x), .val (.int (64 : Int32)), .val (.int ((Int32.ofNat cs.length) - (1 : Int32)))] [(.ref x)]) (fun X eT hZ hown k => by
      show Steps _ _ _ (State.setTop _ (mkF m 4 #[.val (.ref x), .val (.int (64 : Int32)), .val (.int ((Int32.ofNat cs.length) - (1 : Int32)))] [(.int (1 : Int32))])) _
      refine S.ifNo X.here hx (hb hby dl2_4) (by decide) ?_
      refine S.aloadN X.here hx (hb hby dl2_7) rfl rfl ?_
      exact k)
  have w4 := w3.same (mkF m 11 #[.val (.ref x), .val (.int (64 : Int32)), .val (.int ((Int32.ofNat cs.length) - (1 : Int32)))] [(.ref t)]) (fun X eT hZ hown => getF X hx hZ hown (host := "") (Or.inl (hw _ (List.mem_of_getElem? (i := 25) rfl))) Via.refl eT Fv (g := (mkF m 8 #[.val (.ref x), .val (.int (64 : Int32)), .val (.int ((Int32.ofNat cs.length) - (1 : Int32)))] [(.ref x)])) rfl rfl (hb hby dl2_8))
  have w5 := w4.pure (mkF m 13 #[.val (.ref x), .val (.int (64 : Int32)), .val (.int ((Int32.ofNat cs.length) - (1 : Int32)))] [(.int ((Int32.ofNat cs.length) - (1 : Int32))), (.int (64 : Int32)), (.ref t)]) (fun X eT hZ hown k => by
      show Steps _ _ _ (State.setTop _ (mkF m 11 #[.val (.ref x), .val (.int (64 : Int32)), .val (.int ((Int32.ofNat cs.length) - (1 : Int32)))] [(.ref t)])) _
      refine S.iloadN X.here hx (hb hby dl2_11) rfl ?_
      refine S.iloadN X.here hx (hb hby dl2_12) rfl ?_
      exact k)
  obtain ⟨v6, h6, Q6, K6, z6, w6⟩ := w5.callS hx (y := (⟨"java/lang/StringLatin1", "lastIndexOf", "([BII)I"⟩ : MethodName)) (W := 0) (hw _ (List.mem_of_getElem? (i := 104) rfl)) (hw _ (List.mem_of_getElem? (i := 105) rfl)) (hw _ (List.mem_of_getElem? (i := 45) rfl)) (hw _ (List.mem_of_getElem? (i := 106) rfl)) (by decide) ((rml1 l Z a0 hw t kb cs h0 n0 (by omega) Kb ln rg).pay w5.hZ (hw _ (List.mem_of_getElem? (i := 106) rfl)) (hw _ (List.mem_of_getElem? (i := 45) rfl)) (by decide) (by decide)) rfl (by rw [hml]; rfl) [] (lenOf pd_3 rfl) rfl (by show 2 * 0 + _ ≤ _; exact Nat.le_of_eq rfl) (hb hby dl2_13) (by decide) (by decide) (fun _ q => nomatch q) (fun rv => (mkF m 16 #[.val (.ref x), .val (.int (64 : Int32)), .val (.int ((Int32.ofNat cs.length) - (1 : Int32)))] (rv.toList ++ []))) (fun _ => rfl)
  obtain ⟨rfl, rfl⟩ := Q6
  have w7 := w6.pure (mkF m 28 #[.val (.ref x), .val (.int (64 : Int32)), .val (.int ((Int32.ofNat cs.length) - (1 : Int32)))] [(.int (own_lix cs (64 : Int32) cs.length))]) (fun X eT hZ hown k => by
      show Steps _ _ _ (State.setTop _ (mkF m 16 #[.val (.ref x), .val (.int (64 : Int32)), .val (.int ((Int32.ofNat cs.length) - (1 : Int32)))] [(.int (own_lix cs (64 : Int32) cs.length))])) _
      refine S.goto X.here hx 28 (hb hby dl2_16) (by decide) (by decide) ?_
      exact k)
  exact w7.endN (v := some (.int (own_lix cs (64 : Int32) cs.length))) (Q := (fun v h => v = some (.int (own_lix cs (64 : Int32) cs.length)) ∧ h0 = h)) (wr := []) (h0 := h0) (fun h => by rw [Bd.returns] at h; cases h) Bd.notSynchronized (fun X hr => retI X hx Bd.returns (hb hby dl2_28) hr) (by decide) (by decide) ⟨rfl, rfl⟩ K0
theorem pd_4 : parseMethodDescriptor "()I" = some ⟨[], some .int⟩ := by decide +kernel
theorem dl3_0 : decode jdk_42_method_82_code 0 = .ok (.aload_n 0, 1) := by decide +kernel
theorem dl3_1 : decode jdk_42_method_82_code 1 = .ok (.iload_n 1, 1) := by decide +kernel
theorem dl3_2 : decode jdk_42_method_82_code 2 = .ok (.aload_n 0, 1) := by decide +kernel
theorem dl3_3 : decode jdk_42_method_82_code 3 = .ok (.invokevirtual 505, 3) := by decide +kernel
theorem dl3_6 : decode jdk_42_method_82_code 6 = .ok (.iconst 1, 1) := by decide +kernel
theorem dl3_7 : decode jdk_42_method_82_code 7 = .ok (.isub, 1) := by decide +kernel
theorem dl3_8 : decode jdk_42_method_82_code 8 = .ok (.invokevirtual 641, 3) := by decide +kernel
theorem dl3_11 : decode jdk_42_method_82_code 11 = .ok (.ireturn, 1) := by decide +kernel
theorem efl3 (m : MethodId) (x0 : Nat) (x1 : Int32) : entryFrame m #[(.ref x0), (.int x1)] 2 = mkF m 0 #[.val (.ref x0), .val (.int x1)] [] := by first | (simp [entryFrame, mkF, argsToLocals, Value.category, maxLocals]; done) | rfl
theorem pn_6 : plainFor (⟨"java/lang/String", "lastIndexOf", "(I)I"⟩ : MethodName) = true := by first | decide +kernel | (apply plainFor_of_name; simp [plainName, overriddenIn]; done)
set_option maxRecDepth 65536 in
set_option maxHeartbeats 40000000 in
theorem rml3 (l : Launch) (Z : State) (a0 : Array Value) (hw : ∀ d ∈ tables_1, d.before a0 Z = true) (x : Nat) (cs : List Int32) (b : Nat) (h0 : Heap) (n0 : Nat) (Z0 : n0 ≤ h0.size) (hG : SetsOk Z) (X0 : Old Z n0 h0) (Sx : Str Z h0 x cs b) :
    NMet l Z (⟨"java/lang/String", "lastIndexOf", "(I)I"⟩ : MethodName) jdk_42_method_82_code 2 (some .int) [] ({ frames := 3, cells := 0, slots := 0, locals := 48 } : Room) [(.ref x), (.int (64 : Int32))] h0 n0 [] (fun v h => v = some (.int (own_lix cs (64 : Int32) cs.length)) ∧ h0 = h) := by
  refine MetFree.of_bodySF pn_6 hisR ?_
  intro p e s m args below meth c s₁ Bd hml0 hP hK
  obtain ⟨rfl, hZ, hh⟩ := hP
  have hx := Bd.exec
  have hby := Bd.bytes
  have hml : c.maxLocals = 2 := hml0
  have hnm := (name_of_methodNamed Bd.named Bd.method).1
  have w0 := Wk.start (a0 := a0) (EL := []) (n0 := n0) (nw := true) Bd hZ hh EW.nil chv0 (efl3 m x (64 : Int32)) ({ frames := 3, cells := 0, slots := 0, locals := 48 } : Room) rfl
  have K0 : Keep h0 h0 [] := Keep.refl _ _
  have lt_Sx := Sx.lt
  have hq_lenW : ∀ d ∈ StrChars.Road.wordsLen, d.before a0 Z = true := fun d hd => hw d ((by decide +kernel : ∀ d ∈ StrChars.Road.wordsLen, d ∈ tables_1) d hd)
  have w1 := w0.pure (mkF m 3 #[.val (.ref x), .val (.int (64 : Int32))] [(.ref x), (.int (64 : Int32)), (.ref x)]) (fun X eT hZ hown k => by
      show Steps _ _ _ (State.setTop _ (mkF m 0 #[.val (.ref x), .val (.int (64 : Int32))] [])) _
      refine S.aloadN X.here hx (hb hby dl3_0) rfl rfl ?_
      refine S.iloadN X.here hx (hb hby dl3_1) rfl ?_
      refine S.aloadN X.here hx (hb hby dl3_2) rfl rfl ?_
      exact k)
  obtain ⟨v2, h2, Q2, K2, z2, w2⟩ := w1.callV hx (C := "java/lang/String") (y := (⟨"java/lang/String", "length", "()I"⟩ : MethodName)) (z := (⟨"java/lang/String", "length", "()I"⟩ : MethodName)) (W := 2) (hw _ (List.mem_of_getElem? (i := 98) rfl)) (hw _ (List.mem_of_getElem? (i := 21) rfl)) (hw _ (List.mem_of_getElem? (i := 23) rfl)) (hw _ (List.mem_of_getElem? (i := 22) rfl)) (w1.nf (hw _ (List.mem_of_getElem? (i := 23) rfl))) (by decide) (payLen hG w1.hZ hq_lenW (hw _ (List.mem_of_getElem? (i := 14) rfl)) Sx X0 (by decide) (by decide)) Sx.exa rfl (by rw [hml]; rfl) [(.int (64 : Int32)), (.ref x)] (lenOf pd_4 rfl) rfl (by show 2 * 0 + _ ≤ _; exact Nat.le_of_eq rfl) (hb hby dl3_3) (by decide) (by decide) (fun _ q => nomatch q) (fun rv => (mkF m 6 #[.val (.ref x), .val (.int (64 : Int32))] (rv.toList ++ [(.int (64 : Int32)), (.ref x)]))) (fun _ => rfl)
  obtain ⟨rfl, rfl⟩ := Q2
  have w3 := w2.pure (mkF m 8 #[.val (.ref x), .val (.int (64 : Int32))] [(.int ((Int32.ofNat cs.length) - (1 : Int32))), (.int (64 : Int32)), (.ref x)]) (fun X eT hZ hown k => by
      show Steps _ _ _ (State.setTop _ (mkF m 6 #[.val (.ref x), .val (.int (64 : Int32))] [(.int (Int32.ofNat cs.length)), (.int (64 : Int32)), (.ref x)])) _
      refine S.iconst X.here hx (1 : Int32) (hb hby dl3_6) rfl ?_
      refine S.isub X.here hx (hb hby dl3_7) ?_
      exact k)
  obtain ⟨v4, h4, Q4, K4, z4, w4⟩ := w3.callV hx (C := "java/lang/String") (y := (⟨"java/lang/String", "lastIndexOf", "(II)I"⟩ : MethodName)) (z := (⟨"java/lang/String", "lastIndexOf", "(II)I"⟩ : MethodName)) (W := 0) (hw _ (List.mem_of_getElem? (i := 99) rfl)) (hw _ (List.mem_of_getElem? (i := 100) rfl)) (hw _ (List.mem_of_getElem? (i := 102) rfl)) (hw _ (List.mem_of_getElem? (i := 101) rfl)) (w3.nf (hw _ (List.mem_of_getElem? (i := 102) rfl))) (by decide) ((rml2 l Z a0 hw x cs _ h0 n0 (by omega) hG X0 Sx).pay w3.hZ (hw _ (List.mem_of_getElem? (i := 103) rfl)) (hw _ (List.mem_of_getElem? (i := 13) rfl)) (by decide) (by decide)) Sx.exa rfl (by rw [hml]; rfl) [] (lenOf pd_1 rfl) rfl (by show 2 * 0 + _ ≤ _; exact Nat.le_of_eq rfl) (hb hby dl3_8) (by decide) (by decide) (fun _ q => nomatch q) (fun rv => (mkF m 11 #[.val (.ref x), .val (.int (64 : Int32))] (rv.toList ++ []))) (fun _ => rfl)
  obtain ⟨rfl, rfl⟩ := Q4
  exact w4.endN (v := some (.int (own_lix cs (64 : Int32) cs.length))) (Q := (fun v h => v = some (.int (own_lix cs (64 : Int32) cs.length)) ∧ h0 = h)) (wr := []) (h0 := h0) (fun h => by rw [Bd.returns] at h; cases h) Bd.notSynchronized (fun X hr => retI X hx Bd.returns (hb hby dl3_11) hr) (by decide) (by decide) ⟨rfl, rfl⟩ K0
theorem ds0_0 : decode jdk_65_method_131_code 0 = .ok (.iload_n 1, 1) := by decide +kernel
theorem ds0_1 : decode jdk_65_method_131_code 1 = .ok (.iload_n 0, 1) := by decide +kernel
theorem ds0_2 : decode jdk_65_method_131_code 2 = .ok (.if_icmp .ge 35, 3) := by decide +kernel
theorem ds0_37 : decode jdk_65_method_131_code 37 = .ok (.return_, 1) := by decide +kernel
theorem efs0 (m : MethodId) (x0 : Int32) (x1 : Int32) : entryFrame m #[(.int x0), (.int x1)] 2 = mkF m 0 #[.val (.int x0), .val (.int x1)] [] := by first | (simp [entryFrame, mkF, argsToLocals, Value.category, maxLocals]; done) | rfl
theorem pn_7 : plainFor (⟨"java/util/Arrays", "checkLength", "(II)V"⟩ : MethodName) = true := by first | decide +kernel | (apply plainFor_of_name; simp [plainName, overriddenIn]; done)
set_option maxRecDepth 65536 in
set_option maxHeartbeats 40000000 in
theorem rms0 (l : Launch) (Z : State) (a0 : Array Value) (hw : ∀ d ∈ tables_1, d.before a0 Z = true) (p0 p1 : Int32) (h0 : Heap) (n0 : Nat) (Z0 : n0 ≤ h0.size) (q : ¬ p1 < p0) :
    NMet l Z (⟨"java/util/Arrays", "checkLength", "(II)V"⟩ : MethodName) jdk_65_method_131_code 2 none [] ({ frames := 0, cells := 0, slots := 0, locals := 0 } : Room) [(.int p0), (.int p1)] h0 n0 [] (fun v h => v = none ∧ h0 = h) := by
  refine MetFree.of_bodySF pn_7 hisR ?_
  intro p e s m args below meth c s₁ Bd hml0 hP hK
  obtain ⟨rfl, hZ, hh⟩ := hP
  have hx := Bd.exec
  have hby := Bd.bytes
  have hml : c.maxLocals = 2 := hml0
  have hnm := (name_of_methodNamed Bd.named Bd.method).1
  have w0 := Wk.start (a0 := a0) (EL := []) (n0 := n0) (nw := true) Bd hZ hh EW.nil chv0 (efs0 m p0 p1) ({ frames := 0, cells := 0, slots := 0, locals := 0 } : Room) rfl
  have K0 : Keep h0 h0 [] := Keep.refl _ _
  have w1 := w0.pure (mkF m 37 #[.val (.int p0), .val (.int p1)] []) (fun X eT hZ hown k => by
      show Steps _ _ _ (State.setTop _ (mkF m 0 #[.val (.int p0), .val (.int p1)] [])) _
      refine S.iloadN X.here hx (hb hby ds0_0) rfl ?_
      refine S.iloadN X.here hx (hb hby ds0_1) rfl ?_
      refine S.icmpYes X.here hx 37 (hb hby ds0_2) (flt q).2.1 (by decide) (by decide) ?_
      exact k)
  exact w1.endN (v := none) (Q := (fun v h => v = none ∧ h0 = h)) (wr := []) (h0 := h0) (fun _ => rfl) Bd.notSynchronized (fun X hr => X.returnOut hx Bd.returns (hb hby ds0_37) hr) (by decide) (by decide) ⟨rfl, rfl⟩ K0
theorem own_pad {n : Nat} {dv : Value} (us : List Value) : (([] : List Value) ++ List.replicate n dv).take 0 ++ us ++ (([] : List Value) ++ List.replicate n dv).drop (0 + n) = us := by simp
theorem pd_5 : parseMethodDescriptor "(II)V" = some ⟨[.int, .int], none⟩ := by decide +kernel
theorem ds1_0 : decode jdk_65_method_133_code 0 = .ok (.iload_n 1, 1) := by decide +kernel
theorem ds1_1 : decode jdk_65_method_133_code 1 = .ok (.iload_n 2, 1) := by decide +kernel
theorem ds1_2 : decode jdk_65_method_133_code 2 = .ok (.invokestatic 343, 3) := by decide +kernel
theorem ds1_5 : decode jdk_65_method_133_code 5 = .ok (.iload_n 2, 1) := by decide +kernel
theorem ds1_6 : decode jdk_65_method_133_code 6 = .ok (.iload_n 1, 1) := by decide +kernel
theorem ds1_7 : decode jdk_65_method_133_code 7 = .ok (.isub, 1) := by decide +kernel
theorem ds1_8 : decode jdk_65_method_133_code 8 = .ok (.istore_n 3, 1) := by decide +kernel
theorem ds1_9 : decode jdk_65_method_133_code 9 = .ok (.iload_n 3, 1) := by decide +kernel
theorem ds1_10 : decode jdk_65_method_133_code 10 = .ok (.newarray .byte, 2) := by decide +kernel
theorem ds1_12 : decode jdk_65_method_133_code 12 = .ok (.astore 4, 2) := by decide +kernel
theorem ds1_14 : decode jdk_65_method_133_code 14 = .ok (.aload_n 0, 1) := by decide +kernel
theorem ds1_15 : decode jdk_65_method_133_code 15 = .ok (.iload_n 1, 1) := by decide +kernel
theorem ds1_16 : decode jdk_65_method_133_code 16 = .ok (.aload 4, 2) := by decide +kernel
theorem ds1_18 : decode jdk_65_method_133_code 18 = .ok (.iconst 0, 1) := by decide +kernel
theorem ds1_19 : decode jdk_65_method_133_code 19 = .ok (.aload_n 0, 1) := by decide +kernel
theorem ds1_20 : decode jdk_65_method_133_code 20 = .ok (.arraylength, 1) := by decide +kernel
theorem ds1_21 : decode jdk_65_method_133_code 21 = .ok (.iload_n 1, 1) := by decide +kernel
theorem ds1_22 : decode jdk_65_method_133_code 22 = .ok (.isub, 1) := by decide +kernel
theorem ds1_23 : decode jdk_65_method_133_code 23 = .ok (.iload_n 3, 1) := by decide +kernel
theorem ds1_24 : decode jdk_65_method_133_code 24 = .ok (.invokestatic 304, 3) := by decide +kernel
theorem ds1_27 : decode jdk_65_method_133_code 27 = .ok (.invokestatic 150, 3) := by decide +kernel
theorem ds1_30 : decode jdk_65_method_133_code 30 = .ok (.aload 4, 2) := by decide +kernel
theorem ds1_32 : decode jdk_65_method_133_code 32 = .ok (.areturn, 1) := by decide +kernel
theorem efs1 (m : MethodId) (x0 : Nat) (x1 : Int32) (x2 : Int32) : entryFrame m #[(.ref x0), (.int x1), (.int x2)] 5 = mkF m 0 #[.val (.ref x0), .val (.int x1), .val (.int x2), .unset, .unset] [] := by first | (simp [entryFrame, mkF, argsToLocals, Value.category, maxLocals]; done) | rfl
theorem pn_8 : plainFor (⟨"java/util/Arrays", "copyOfRangeByte", "([BII)[B"⟩ : MethodName) = true := by first | decide +kernel | (apply plainFor_of_name; simp [plainName, overriddenIn]; done)
set_option maxRecDepth 65536 in
set_option maxHeartbeats 40000000 in
theorem rms1 (l : Launch) (Z : State) (a0 : Array Value) (hw : ∀ d ∈ tables_1, d.before a0 Z = true) (t : Nat) (kb : ClassId) (cs : List Int32) (b n : Nat) (h0 : Heap) (n0 : Nat) (Z0 : n0 ≤ h0.size) (V0 : Arv Z h0 t kb .byte (Int32.ofNat cs.length) ((cs.map (fun c => c.toInt8.toInt32)).map Value.int) (.int (0 : Int32))) (hbn : b + n ≤ cs.length) (ln : cs.length ≤ 4000) (hcap : n ≤ 8) :
    NMet l Z (⟨"java/util/Arrays", "copyOfRangeByte", "([BII)[B"⟩ : MethodName) jdk_65_method_133_code 5 (some (.array .byte)) [] ({ frames := 1, cells := 1, slots := 8, locals := 27 } : Room) [(.ref t), (.int (Int32.ofNat b)), (.int (Int32.ofNat (b + n)))] h0 n0 [] (fun v h => ∃ (r : Nat) (k : ClassId), v = some (.ref r) ∧ h0.size ≤ r ∧ Arv Z h r k .byte (Int32.ofNat n) (own_slb cs b n) (.int (0 : Int32))) := by
  refine MetFree.of_bodySF pn_8 hisR ?_
  intro p e s m args below meth c s₁ Bd hml0 hP hK
  obtain ⟨rfl, hZ, hh⟩ := hP
  have hx := Bd.exec
  have hby := Bd.bytes
  have hml : c.maxLocals = 5 := hml0
  have hnm := (name_of_methodNamed Bd.named Bd.method).1
  have w0 := Wk.start (a0 := a0) (EL := []) (n0 := n0) (nw := true) Bd hZ hh EW.nil chv0 (efs1 m t (Int32.ofNat b) (Int32.ofNat (b + n))) ({ frames := 1, cells := 1, slots := 8, locals := 27 } : Room) rfl
  have K0 : Keep h0 h0 [] := Keep.refl _ _
  have lt_V0 := arlt V0
  have w1 := w0.pure (mkF m 2 #[.val (.ref t), .val (.int (Int32.ofNat b)), .val (.int (Int32.ofNat (b + n))), .unset, .unset] [(.int (Int32.ofNat (b + n))), (.int (Int32.ofNat b))]) (fun X eT hZ hown k => by
      show Steps _ _ _ (State.setTop _ (mkF m 0 #[.val (.ref t), .val (.int (Int32.ofNat b)), .val (.int (Int32.ofNat (b + n))), .unset, .unset] [])) _
      refine S.iloadN X.here hx (hb hby ds1_0) rfl ?_
      refine S.iloadN X.here hx (hb hby ds1_1) rfl ?_
      exact k)
  obtain ⟨v2, h2, Q2, K2, z2, w2⟩ := w1.callS hx (y := (⟨"java/util/Arrays", "checkLength", "(II)V"⟩ : MethodName)) (W := 0) (hw _ (List.mem_of_getElem? (i := 141) rfl)) (hw _ (List.mem_of_getElem? (i := 142) rfl)) (hw _ (List.mem_of_getElem? (i := 136) rfl)) (hw _ (List.mem_of_getElem? (i := 143) rfl)) (by decide) ((rms0 l Z a0 hw (Int32.ofNat b) (Int32.ofNat (b + n)) h0 n0 (by omega) (fun q => absurd ((i_lt (by omega) (by omega)).mp q) (by omega))).pay w1.hZ (hw _ (List.mem_of_getElem? (i := 143) rfl)) (hw _ (List.mem_of_getElem? (i := 136) rfl)) (by decide) (by decide)) rfl (by rw [hml]; rfl) [] (lenOf pd_5 rfl) rfl (by show 2 * 0 + _ ≤ _; exact Nat.le_of_eq rfl) (hb hby ds1_2) (by decide) (by decide) (fun _ q => nomatch q) (fun rv => (mkF m 5 #[.val (.ref t), .val (.int (Int32.ofNat b)), .val (.int (Int32.ofNat (b + n))), .unset, .unset] (rv.toList ++ []))) (fun _ => rfl)
  obtain ⟨rfl, rfl⟩ := Q2
  have w3 := w2.pure (mkF m 9 #[.val (.ref t), .val (.int (Int32.ofNat b)), .val (.int (Int32.ofNat (b + n))), .val (.int ((Int32.ofNat (b + n)) - (Int32.ofNat b))), .unset] []) (fun X eT hZ hown k => by
      show Steps _ _ _ (State.setTop _ (mkF m 5 #[.val (.ref t), .val (.int (Int32.ofNat b)), .val (.int (Int32.ofNat (b + n))), .unset, .unset] [])) _
      refine S.iloadN X.here hx (hb hby ds1_5) rfl ?_
      refine S.iloadN X.here hx (hb hby ds1_6) rfl ?_
      refine S.isub X.here hx (hb hby ds1_7) ?_
      refine S.istoreN X.here hx (hb hby ds1_8) #[.val (.ref t), .val (.int (Int32.ofNat b)), .val (.int (Int32.ofNat (b + n))), .val (.int ((Int32.ofNat (b + n)) - (Int32.ofNat b))), .unset] rfl ?_
      exact k)
  have w4 := w3
  rw [i_sub] at w4
  have w5 := w4.pure (mkF m 10 #[.val (.ref t), .val (.int (Int32.ofNat b)), .val (.int (Int32.ofNat (b + n))), .val (.int (Int32.ofNat n)), .unset] [(.int (Int32.ofNat n))]) (fun X eT hZ hown k => by
      show Steps _ _ _ (State.setTop _ (mkF m 9 #[.val (.ref t), .val (.int (Int32.ofNat b)), .val (.int (Int32.ofNat (b + n))), .val (.int (Int32.ofNat n)), .unset] [])) _
      refine S.iloadN X.here hx (hb hby ds1_9) rfl ?_
      exact k)
  obtain ⟨b6, h6, k6, g6, E6, l6, A6, y6, w6⟩ := w5.newP hx (hw _ (List.mem_of_getElem? (i := 15) rfl)) rfl (hb hby ds1_10) rfl (i_nn (by omega)) 8 (by rw [i_clamp (by omega)]; exact hcap) (by decide) (by decide) (by decide) (fun xq => (mkF m 12 #[.val (.ref t), .val (.int (Int32.ofNat b)), .val (.int (Int32.ofNat (b + n))), .val (.int (Int32.ofNat n)), .unset] (.ref xq :: []))) (fun _ => rfl)
  have z6 := E6.1
  have K7 : Keep h0 h6 [] := K0.ext E6
  have V6 : Arv Z h6 b6 k6 .byte (Int32.ofNat n) [] (.int (0 : Int32)) := A6
  have P8 : Arv Z h6 b6 k6 .byte (Int32.ofNat n) (([] : List Value) ++ List.replicate n (.int (0 : Int32))) (.int (0 : Int32)) := V6.pad (pad_rep [] _ n)
  have F9 := V0.ext E6
  have w10 := w6.pure (mkF m 24 #[.val (.ref t), .val (.int (Int32.ofNat b)), .val (.int (Int32.ofNat (b + n))), .val (.int (Int32.ofNat n)), .val (.ref b6)] [(.int (Int32.ofNat n)), (.int ((Int32.ofNat cs.length) - (Int32.ofNat b))), (.int (0 : Int32)), (.ref b6), (.int (Int32.ofNat b)), (.ref t)]) (fun X eT hZ hown k => by
      show Steps _ _ _ (State.setTop _ (mkF m 12 #[.val (.ref t), .val (.int (Int32.ofNat b)), .val (.int (Int32.ofNat (b + n))), .val (.int (Int32.ofNat n)), .unset] [(.ref b6)])) _
      refine S.astore X.here hx (hb hby ds1_12) rfl #[.val (.ref t), .val (.int (Int32.ofNat b)), .val (.int (Int32.ofNat (b + n))), .val (.int (Int32.ofNat n)), .val (.ref b6)] rfl ?_
      refine S.aloadN X.here hx (hb hby ds1_14) rfl rfl ?_
      refine S.iloadN X.here hx (hb hby ds1_15) rfl ?_
      refine S.aload X.here hx (hb hby ds1_16) rfl rfl ?_
      refine S.iconst X.here hx (0 : Int32) (hb hby ds1_18) rfl ?_
      refine S.aloadN X.here hx (hb hby ds1_19) rfl rfl ?_
      refine alenV X hx eT hZ F9 rfl rfl (hb hby ds1_20) ?_
      show Steps _ _ _ (State.setTop _ (mkF m 21 #[.val (.ref t), .val (.int (Int32.ofNat b)), .val (.int (Int32.ofNat (b + n))), .val (.int (Int32.ofNat n)), .val (.ref b6)] [(.int (Int32.ofNat cs.length)), (.int (0 : Int32)), (.ref b6), (.int (Int32.ofNat b)), (.ref t)])) _
      refine S.iloadN X.here hx (hb hby ds1_21) rfl ?_
      refine S.isub X.here hx (hb hby ds1_22) ?_
      refine S.iloadN X.here hx (hb hby ds1_23) rfl ?_
      exact k)
  obtain ⟨v11, h11, Q11, K11, z11, w11⟩ := w10.callS hx (y := (⟨"java/lang/Math", "min", "(II)I"⟩ : MethodName)) (W := 4) (hw _ (List.mem_of_getElem? (i := 144) rfl)) (hw _ (List.mem_of_getElem? (i := 111) rfl)) (hw _ (List.mem_of_getElem? (i := 112) rfl)) (hw _ (List.mem_of_getElem? (i := 113) rfl)) (by decide) ((rmmn l Z a0 hw ((Int32.ofNat cs.length) - (Int32.ofNat b)) (Int32.ofNat n) h6 n0 (by omega)).pay w10.hZ (hw _ (List.mem_of_getElem? (i := 113) rfl)) (hw _ (List.mem_of_getElem? (i := 112) rfl)) (by decide) (by decide)) rfl (by rw [hml]; rfl) [(.int (0 : Int32)), (.ref b6), (.int (Int32.ofNat b)), (.ref t)] (lenOf pd_1 rfl) rfl (by show 2 * 0 + _ ≤ _; exact Nat.le_of_eq rfl) (hb hby ds1_24) (by decide) (by decide) (fun _ q => nomatch q) (fun rv => (mkF m 27 #[.val (.ref t), .val (.int (Int32.ofNat b)), .val (.int (Int32.ofNat (b + n))), .val (.int (Int32.ofNat n)), .val (.ref b6)] (rv.toList ++ [(.int (0 : Int32)), (.ref b6), (.int (Int32.ofNat b)), (.ref t)]))) (fun _ => rfl)
  obtain ⟨rfl, rfl⟩ := Q11
  have w12 := w11
  rw [own_min_cp hbn ln] at w12
  obtain ⟨h13, K13, z13, V13, w13⟩ := w12.cpB hx (hw _ (List.mem_of_getElem? (i := 145) rfl)) (hw _ (List.mem_of_getElem? (i := 148) rfl)) (hw _ (List.mem_of_getElem? (i := 146) rfl)) (hw _ (List.mem_of_getElem? (i := 147) rfl)) F9 P8 (i_nn (by omega)) (by decide) (i_nn (by omega)) (by rw [i_clamp (by omega), i_clamp (by omega), i_clamp (by omega)]; omega) (by rw [i_clamp (by omega)]; exact Nat.le_of_eq (Nat.zero_add _)) rfl (by rw [i_clamp (by omega)]; simp) (by omega) (allS safe0 all0) rfl (by rw [hml]; rfl) rfl (hb hby ds1_27) (by decide) (W := 0) (by show 2 * 0 + _ ≤ _; exact Nat.le_of_eq rfl) (by decide) (mkF m 30 #[.val (.ref t), .val (.int (Int32.ofNat b)), .val (.int (Int32.ofNat (b + n))), .val (.int (Int32.ofNat n)), .val (.ref b6)] []) rfl
  rw [i_clamp (by omega : n ≤ 4000), i_clamp (by omega : b ≤ 4000), own_copy hbn, show (0 : Int32).toNatClampNeg = 0 from rfl, own_pad] at V13
  have K14 : Keep h0 h13 [] := K7.trans K13 (allS (Or.inr (by omega)) (fun _ q => nomatch q))
  have w15 := w13.pure (mkF m 32 #[.val (.ref t), .val (.int (Int32.ofNat b)), .val (.int (Int32.ofNat (b + n))), .val (.int (Int32.ofNat n)), .val (.ref b6)] [(.ref b6)]) (fun X eT hZ hown k => by
      show Steps _ _ _ (State.setTop _ (mkF m 30 #[.val (.ref t), .val (.int (Int32.ofNat b)), .val (.int (Int32.ofNat (b + n))), .val (.int (Int32.ofNat n)), .val (.ref b6)] [])) _
      refine S.aload X.here hx (hb hby ds1_30) rfl rfl ?_
      exact k)
  exact w15.endN (v := some (.ref b6)) (Q := (fun v h => ∃ (r : Nat) (k : ClassId), v = some (.ref r) ∧ h0.size ≤ r ∧ Arv Z h r k .byte (Int32.ofNat n) (own_slb cs b n) (.int (0 : Int32)))) (wr := []) (h0 := h0) (fun h => by rw [Bd.returns] at h; cases h) Bd.notSynchronized (fun X hr => X.areturnOut hx rfl Bd.returns rfl (hb hby ds1_32) hr) (by decide) (by decide) ⟨b6, k6, rfl, by omega, V13⟩ K14
theorem own_whole {b n L : Nat} (hbn : b + n ≤ L) (ln : L ≤ 4000) (q0 : Int32.ofNat b = (0 : Int32)) (q1 : Int32.ofNat (b + n) = Int32.ofNat L) : b = 0 ∧ n = L := by
  have e0 : b = 0 := (i_eq (by omega) (by omega)).mp (show Int32.ofNat b = Int32.ofNat 0 from q0)
  have e1 := (i_eq (by omega) (by omega)).mp q1
  omega
theorem pd_6 : parseMethodDescriptor "([BII)[B" = some ⟨[(.array .byte), .int, .int], some (.array .byte)⟩ := by decide +kernel
theorem ds2_0 : decode jdk_65_method_132_code 0 = .ok (.iload_n 1, 1) := by decide +kernel
theorem ds2_1 : decode jdk_65_method_132_code 1 = .ok (.ifCond .ne 9, 3) := by decide +kernel
theorem ds2_4 : decode jdk_65_method_132_code 4 = .ok (.iload_n 2, 1) := by decide +kernel
theorem ds2_5 : decode jdk_65_method_132_code 5 = .ok (.aload_n 0, 1) := by decide +kernel
theorem ds2_6 : decode jdk_65_method_132_code 6 = .ok (.arraylength, 1) := by decide +kernel
theorem ds2_7 : decode jdk_65_method_132_code 7 = .ok (.if_icmp .eq 10, 3) := by decide +kernel
theorem ds2_10 : decode jdk_65_method_132_code 10 = .ok (.aload_n 0, 1) := by decide +kernel
theorem ds2_11 : decode jdk_65_method_132_code 11 = .ok (.iload_n 1, 1) := by decide +kernel
theorem ds2_12 : decode jdk_65_method_132_code 12 = .ok (.iload_n 2, 1) := by decide +kernel
theorem ds2_13 : decode jdk_65_method_132_code 13 = .ok (.invokestatic 339, 3) := by decide +kernel
theorem ds2_16 : decode jdk_65_method_132_code 16 = .ok (.areturn, 1) := by decide +kernel
theorem efs2 (m : MethodId) (x0 : Nat) (x1 : Int32) (x2 : Int32) : entryFrame m #[(.ref x0), (.int x1), (.int x2)] 3 = mkF m 0 #[.val (.ref x0), .val (.int x1), .val (.int x2)] [] := by first | (simp [entryFrame, mkF, argsToLocals, Value.category, maxLocals]; done) | rfl
theorem pn_9 : plainFor (⟨"java/util/Arrays", "copyOfRange", "([BII)[B"⟩ : MethodName) = true := by first | decide +kernel | (apply plainFor_of_name; simp [plainName, overriddenIn]; done)
set_option maxRecDepth 65536 in
set_option maxHeartbeats 40000000 in
theorem rms2 (l : Launch) (Z : State) (a0 : Array Value) (hw : ∀ d ∈ tables_1, d.before a0 Z = true) (t : Nat) (kb : ClassId) (cs : List Int32) (b n : Nat) (h0 : Heap) (n0 : Nat) (Z0 : n0 ≤ h0.size) (V0 : Arv Z h0 t kb .byte (Int32.ofNat cs.length) ((cs.map (fun c => c.toInt8.toInt32)).map Value.int) (.int (0 : Int32))) (hbn : b + n ≤ cs.length) (ln : cs.length ≤ 4000) (hcap : n ≤ 8) (hne : ¬ (b = 0 ∧ n = cs.length)) :
    NMet l Z (⟨"java/util/Arrays", "copyOfRange", "([BII)[B"⟩ : MethodName) jdk_65_method_132_code 3 (some (.array .byte)) [] ({ frames := 2, cells := 1, slots := 8, locals := 43 } : Room) [(.ref t), (.int (Int32.ofNat b)), (.int (Int32.ofNat (b + n)))] h0 n0 [] (fun v h => ∃ (r : Nat) (k : ClassId), v = some (.ref r) ∧ h0.size ≤ r ∧ Arv Z h r k .byte (Int32.ofNat n) (own_slb cs b n) (.int (0 : Int32))) := by
  refine MetFree.of_bodySF pn_9 hisR ?_
  intro p e s m args below meth c s₁ Bd hml0 hP hK
  obtain ⟨rfl, hZ, hh⟩ := hP
  have hx := Bd.exec
  have hby := Bd.bytes
  have hml : c.maxLocals = 3 := hml0
  have hnm := (name_of_methodNamed Bd.named Bd.method).1
  have w0 := Wk.start (a0 := a0) (EL := []) (n0 := n0) (nw := true) Bd hZ hh EW.nil chv0 (efs2 m t (Int32.ofNat b) (Int32.ofNat (b + n))) ({ frames := 2, cells := 1, slots := 8, locals := 43 } : Room) rfl
  have K0 : Keep h0 h0 [] := Keep.refl _ _
  have lt_V0 := arlt V0
  have w1 := w0.pure (mkF m 1 #[.val (.ref t), .val (.int (Int32.ofNat b)), .val (.int (Int32.ofNat (b + n)))] [(.int (Int32.ofNat b))]) (fun X eT hZ hown k => by
      show Steps _ _ _ (State.setTop _ (mkF m 0 #[.val (.ref t), .val (.int (Int32.ofNat b)), .val (.int (Int32.ofNat (b + n)))] [])) _
      refine S.iloadN X.here hx (hb hby ds2_0) rfl ?_
      exact k)
  by_cases hc2 : (Int32.ofNat b) = (0 : Int32)
  · have w3 := w1.pure (mkF m 13 #[.val (.ref t), .val (.int (Int32.ofNat b)), .val (.int (Int32.ofNat (b + n)))] [(.int (Int32.ofNat (b + n))), (.int (Int32.ofNat b)), (.ref t)]) (fun X eT hZ hown k => by
        show Steps _ _ _ (State.setTop _ (mkF m 1 #[.val (.ref t), .val (.int (Int32.ofNat b)), .val (.int (Int32.ofNat (b + n)))] [(.int (Int32.ofNat b))])) _
        refine S.ifNo X.here hx (hb hby ds2_1) ((if0 _ _).trans (teq hc2).2) ?_
        refine S.iloadN X.here hx (hb hby ds2_4) rfl ?_
        refine S.aloadN X.here hx (hb hby ds2_5) rfl rfl ?_
        refine alenV X hx eT hZ V0 rfl rfl (hb hby ds2_6) ?_
        show Steps _ _ _ (State.setTop _ (mkF m 7 #[.val (.ref t), .val (.int (Int32.ofNat b)), .val (.int (Int32.ofNat (b + n)))] [(.int (Int32.ofNat cs.length)), (.int (Int32.ofNat (b + n)))])) _
        refine S.icmpNo X.here hx (hb hby ds2_7) (feq (fun q => hne (own_whole hbn ln hc2 q))).1 ?_
        refine S.aloadN X.here hx (hb hby ds2_10) rfl rfl ?_
        refine S.iloadN X.here hx (hb hby ds2_11) rfl ?_
        refine S.iloadN X.here hx (hb hby ds2_12) rfl ?_
        exact k)
    obtain ⟨v4, h4, Q4, K4, z4, w4⟩ := w3.callS hx (y := (⟨"java/util/Arrays", "copyOfRangeByte", "([BII)[B"⟩ : MethodName)) (W := 0) (hw _ (List.mem_of_getElem? (i := 138) rfl)) (hw _ (List.mem_of_getElem? (i := 139) rfl)) (hw _ (List.mem_of_getElem? (i := 136) rfl)) (hw _ (List.mem_of_getElem? (i := 140) rfl)) (by decide) ((rms1 l Z a0 hw t kb cs b n h0 n0 (by omega) V0 hbn ln hcap).pay w3.hZ (hw _ (List.mem_of_getElem? (i := 140) rfl)) (hw _ (List.mem_of_getElem? (i := 136) rfl)) (by decide) (by decide)) rfl (by rw [hml]; rfl) [] (lenOf pd_6 rfl) rfl (by show 2 * 0 + _ ≤ _; exact Nat.le_of_eq rfl) (hb hby ds2_13) (by decide) (by decide) (fun _ q => nomatch q) (fun rv => (mkF m 16 #[.val (.ref t), .val (.int (Int32.ofNat b)), .val (.int (Int32.ofNat (b + n)))] (rv.toList ++ []))) (fun _ => rfl)
    obtain ⟨r4, k4, rfl, gr4, V4⟩ := Q4
    have K5 : Keep h0 h4 [] := K0.trans K4 (fun _ q => nomatch q)
    have lt_r4 := arlt V4
    exact w4.endN (v := some (.ref r4)) (Q := (fun v h => ∃ (r : Nat) (k : ClassId), v = some (.ref r) ∧ h0.size ≤ r ∧ Arv Z h r k .byte (Int32.ofNat n) (own_slb cs b n) (.int (0 : Int32)))) (wr := []) (h0 := h0) (fun h => by rw [Bd.returns] at h; cases h) Bd.notSynchronized (fun X hr => X.areturnOut hx rfl Bd.returns rfl (hb hby ds2_16) hr) (by decide) (by decide) ⟨r4, k4, rfl, by omega, V4⟩ K5
  · have w6 := w1.pure (mkF m 13 #[.val (.ref t), .val (.int (Int32.ofNat b)), .val (.int (Int32.ofNat (b + n)))] [(.int (Int32.ofNat (b + n))), (.int (Int32.ofNat b)), (.ref t)]) (fun X eT hZ hown k => by
        show Steps _ _ _ (State.setTop _ (mkF m 1 #[.val (.ref t), .val (.int (Int32.ofNat b)), .val (.int (Int32.ofNat (b + n)))] [(.int (Int32.ofNat b))])) _
        refine S.ifYes X.here hx 10 (hb hby ds2_1) ((if0 _ _).trans (feq hc2).2) (by decide) (by decide) ?_
        refine S.aloadN X.here hx (hb hby ds2_10) rfl rfl ?_
        refine S.iloadN X.here hx (hb hby ds2_11) rfl ?_
        refine S.iloadN X.here hx (hb hby ds2_12) rfl ?_
        exact k)
    obtain ⟨v7, h7, Q7, K7, z7, w7⟩ := w6.callS hx (y := (⟨"java/util/Arrays", "copyOfRangeByte", "([BII)[B"⟩ : MethodName)) (W := 0) (hw _ (List.mem_of_getElem? (i := 138) rfl)) (hw _ (List.mem_of_getElem? (i := 139) rfl)) (hw _ (List.mem_of_getElem? (i := 136) rfl)) (hw _ (List.mem_of_getElem? (i := 140) rfl)) (by decide) ((rms1 l Z a0 hw t kb cs b n h0 n0 (by omega) V0 hbn ln hcap).pay w6.hZ (hw _ (List.mem_of_getElem? (i := 140) rfl)) (hw _ (List.mem_of_getElem? (i := 136) rfl)) (by decide) (by decide)) rfl (by rw [hml]; rfl) [] (lenOf pd_6 rfl) rfl (by show 2 * 0 + _ ≤ _; exact Nat.le_of_eq rfl) (hb hby ds2_13) (by decide) (by decide) (fun _ q => nomatch q) (fun rv => (mkF m 16 #[.val (.ref t), .val (.int (Int32.ofNat b)), .val (.int (Int32.ofNat (b + n)))] (rv.toList ++ []))) (fun _ => rfl)
    obtain ⟨r7, k7, rfl, gr7, V7⟩ := Q7
    have K8 : Keep h0 h7 [] := K0.trans K7 (fun _ q => nomatch q)
    have lt_r7 := arlt V7
    exact w7.endN (v := some (.ref r7)) (Q := (fun v h => ∃ (r : Nat) (k : ClassId), v = some (.ref r) ∧ h0.size ≤ r ∧ Arv Z h r k .byte (Int32.ofNat n) (own_slb cs b n) (.int (0 : Int32)))) (wr := []) (h0 := h0) (fun h => by rw [Bd.returns] at h; cases h) Bd.notSynchronized (fun X hr => X.areturnOut hx rfl Bd.returns rfl (hb hby ds2_16) hr) (by decide) (by decide) ⟨r7, k7, rfl, by omega, V7⟩ K8
theorem pd_7 : parseMethodDescriptor "([BB)V" = some ⟨[(.array .byte), .byte], none⟩ := by decide +kernel
theorem ds3_0 : decode jdk_43_method_47_code 0 = .ok (.iload_n 2, 1) := by decide +kernel
theorem ds3_1 : decode jdk_43_method_47_code 1 = .ok (.ifCond .ne 6, 3) := by decide +kernel
theorem ds3_7 : decode jdk_43_method_47_code 7 = .ok (.new 1, 3) := by decide +kernel
theorem ds3_10 : decode jdk_43_method_47_code 10 = .ok (.dup, 1) := by decide +kernel
theorem ds3_11 : decode jdk_43_method_47_code 11 = .ok (.aload_n 0, 1) := by decide +kernel
theorem ds3_12 : decode jdk_43_method_47_code 12 = .ok (.iload_n 1, 1) := by decide +kernel
theorem ds3_13 : decode jdk_43_method_47_code 13 = .ok (.iload_n 1, 1) := by decide +kernel
theorem ds3_14 : decode jdk_43_method_47_code 14 = .ok (.iload_n 2, 1) := by decide +kernel
theorem ds3_15 : decode jdk_43_method_47_code 15 = .ok (.iadd, 1) := by decide +kernel
theorem ds3_16 : decode jdk_43_method_47_code 16 = .ok (.invokestatic 232, 3) := by decide +kernel
theorem ds3_19 : decode jdk_43_method_47_code 19 = .ok (.iconst 0, 1) := by decide +kernel
theorem ds3_20 : decode jdk_43_method_47_code 20 = .ok (.invokespecial 112, 3) := by decide +kernel
theorem ds3_23 : decode jdk_43_method_47_code 23 = .ok (.areturn, 1) := by decide +kernel
theorem efs3 (m : MethodId) (x0 : Nat) (x1 : Int32) (x2 : Int32) : entryFrame m #[(.ref x0), (.int x1), (.int x2)] 3 = mkF m 0 #[.val (.ref x0), .val (.int x1), .val (.int x2)] [] := by first | (simp [entryFrame, mkF, argsToLocals, Value.category, maxLocals]; done) | rfl
theorem pn_10 : plainFor (⟨"java/lang/StringLatin1", "newString", "([BII)Ljava/lang/String;"⟩ : MethodName) = true := by first | decide +kernel | (apply plainFor_of_name; simp [plainName, overriddenIn]; done)
set_option maxRecDepth 65536 in
set_option maxHeartbeats 40000000 in
theorem rms3 (l : Launch) (Z : State) (a0 : Array Value) (hw : ∀ d ∈ tables_1, d.before a0 Z = true) (t : Nat) (kb : ClassId) (cs : List Int32) (b n : Nat) (h0 : Heap) (n0 : Nat) (Z0 : n0 ≤ h0.size) (X0 : Old Z n0 h0) (V0 : Arv Z h0 t kb .byte (Int32.ofNat cs.length) ((cs.map (fun c => c.toInt8.toInt32)).map Value.int) (.int (0 : Int32))) (hbn : b + n ≤ cs.length) (ln : cs.length ≤ 4000) (hcap : n ≤ 8) (hne : ¬ (b = 0 ∧ n = cs.length)) (hn0 : n ≠ 0) (rg : ∀ c ∈ cs, ¬ c < 0 ∧ ¬ (255 : Int32) < c) :
    NMet l Z (⟨"java/lang/StringLatin1", "newString", "([BII)Ljava/lang/String;"⟩ : MethodName) jdk_43_method_47_code 3 (some (.object "java/lang/String")) [] ({ frames := 3, cells := 2, slots := 12, locals := 59 } : Room) [(.ref t), (.int (Int32.ofNat b)), (.int (Int32.ofNat n))] h0 n0 [] (fun v h => ∃ y, v = some (.ref y) ∧ n0 ≤ y ∧ Str Z h y (own_sl cs b n) h.size) := by
  refine MetFree.of_bodySF pn_10 hisR ?_
  intro p e s m args below meth c s₁ Bd hml0 hP hK
  obtain ⟨rfl, hZ, hh⟩ := hP
  have hx := Bd.exec
  have hby := Bd.bytes
  have hml : c.maxLocals = 3 := hml0
  have hnm := (name_of_methodNamed Bd.named Bd.method).1
  have w0 := Wk.start (a0 := a0) (EL := []) (n0 := n0) (nw := true) Bd hZ hh EW.nil chv0 (efs3 m t (Int32.ofNat b) (Int32.ofNat n)) ({ frames := 3, cells := 2, slots := 12, locals := 59 } : Room) rfl
  have K0 : Keep h0 h0 [] := Keep.refl _ _
  have lt_V0 := arlt V0
  have w1 := w0.pure (mkF m 7 #[.val (.ref t), .val (.int (Int32.ofNat b)), .val (.int (Int32.ofNat n))] []) (fun X eT hZ hown k => by
      show Steps _ _ _ (State.setTop _ (mkF m 0 #[.val (.ref t), .val (.int (Int32.ofNat b)), .val (.int (Int32.ofNat n))] [])) _
      refine S.iloadN X.here hx (hb hby ds3_0) rfl ?_
      refine S.ifYes X.here hx 7 (hb hby ds3_1) ((if0 _ _).trans (feq (fun q => hn0 ((i_eq (by omega) (by omega)).mp (show Int32.ofNat n = Int32.ofNat 0 from q)))).2) (by decide) (by decide) ?_
      exact k)
  obtain ⟨b2, h2, g2, E2, l2, A2, D2, y2, w2⟩ := w1.newO hx (hw _ (List.mem_of_getElem? (i := 133) rfl)) (hw _ (List.mem_of_getElem? (i := 14) rfl)) (hw _ (List.mem_of_getElem? (i := 13) rfl)) rfl (hb hby ds3_7) (by decide) (by decide) (fun xq => (mkF m 10 #[.val (.ref t), .val (.int (Int32.ofNat b)), .val (.int (Int32.ofNat n))] (.ref xq :: []))) (fun _ => rfl)
  have z2 := E2.1
  have K3 : Keep h0 h2 [] := K0.ext E2
  have D2_16 : Fld Z h2 b2 "java/lang/String" "value" "[B" .null := D2 (Or.inr (hw _ (List.mem_of_getElem? (i := 16) rfl))) (ty := (.array .byte)) (by decide)
  have D2_17 : Fld Z h2 b2 "java/lang/String" "coder" "B" (.int (0 : Int32)) := D2 (Or.inr (hw _ (List.mem_of_getElem? (i := 17) rfl))) (ty := .byte) (by decide)
  have w4 := w2.pure (mkF m 16 #[.val (.ref t), .val (.int (Int32.ofNat b)), .val (.int (Int32.ofNat n))] [(.int ((Int32.ofNat b) + (Int32.ofNat n))), (.int (Int32.ofNat b)), (.ref t), (.ref b2), (.ref b2)]) (fun X eT hZ hown k => by
      show Steps _ _ _ (State.setTop _ (mkF m 10 #[.val (.ref t), .val (.int (Int32.ofNat b)), .val (.int (Int32.ofNat n))] [(.ref b2)])) _
      refine S.dup X.here hx (hb hby ds3_10) rfl ?_
      refine S.aloadN X.here hx (hb hby ds3_11) rfl rfl ?_
      refine S.iloadN X.here hx (hb hby ds3_12) rfl ?_
      refine S.iloadN X.here hx (hb hby ds3_13) rfl ?_
      refine S.iloadN X.here hx (hb hby ds3_14) rfl ?_
      refine S.iadd X.here hx (hb hby ds3_15) ?_
      exact k)
  have w5 := w4
  rw [i_add] at w5
  have F6 := V0.ext E2
  obtain ⟨v7, h7, Q7, K7, z7, w7⟩ := w5.callS hx (y := (⟨"java/util/Arrays", "copyOfRange", "([BII)[B"⟩ : MethodName)) (W := 2) (hw _ (List.mem_of_getElem? (i := 134) rfl)) (hw _ (List.mem_of_getElem? (i := 135) rfl)) (hw _ (List.mem_of_getElem? (i := 136) rfl)) (hw _ (List.mem_of_getElem? (i := 137) rfl)) (by decide) ((rms2 l Z a0 hw t kb cs b n h2 n0 (by omega) F6 hbn ln hcap hne).pay w5.hZ (hw _ (List.mem_of_getElem? (i := 137) rfl)) (hw _ (List.mem_of_getElem? (i := 136) rfl)) (by decide) (by decide)) rfl (by rw [hml]; rfl) [(.ref b2), (.ref b2)] (lenOf pd_6 rfl) rfl (by show 2 * 0 + _ ≤ _; exact Nat.le_of_eq rfl) (hb hby ds3_16) (by decide) (by decide) (fun _ q => nomatch q) (fun rv => (mkF m 19 #[.val (.ref t), .val (.int (Int32.ofNat b)), .val (.int (Int32.ofNat n))] (rv.toList ++ [(.ref b2), (.ref b2)]))) (fun _ => rfl)
  obtain ⟨r7, k7, rfl, gr7, V7⟩ := Q7
  have K8 : Keep h0 h7 [] := K3.trans K7 (fun _ q => nomatch q)
  have lt_r7 := arlt V7
  have w9 := w7.pure (mkF m 20 #[.val (.ref t), .val (.int (Int32.ofNat b)), .val (.int (Int32.ofNat n))] [(.int (0 : Int32)), (.ref r7), (.ref b2), (.ref b2)]) (fun X eT hZ hown k => by
      show Steps _ _ _ (State.setTop _ (mkF m 19 #[.val (.ref t), .val (.int (Int32.ofNat b)), .val (.int (Int32.ofNat n))] [(.ref r7), (.ref b2), (.ref b2)])) _
      refine S.iconst X.here hx (0 : Int32) (hb hby ds3_19) rfl ?_
      exact k)
  have F10 := A2.keep K7
  have F11 := D2_16.keep K7 nin0
  have F12 := D2_17.keep K7 nin0
  obtain ⟨v13, h13, Q13, K13, z13, w13⟩ := w9.callI hx (y := (⟨"java/lang/String", "<init>", "([BB)V"⟩ : MethodName)) (W := 1) rfl (hw _ (List.mem_of_getElem? (i := 149) rfl)) (hw _ (List.mem_of_getElem? (i := 150) rfl)) (hw _ (List.mem_of_getElem? (i := 151) rfl)) (by decide) ((rmbb l Z a0 hw b2 r7 h7 n0 (by omega) (by omega) F10 F11 F12).pay w9.hZ (hw _ (List.mem_of_getElem? (i := 151) rfl)) (hw _ (List.mem_of_getElem? (i := 13) rfl)) (by decide) (by decide)) rfl (by rw [hml]; rfl) [(.ref b2)] (lenOf pd_7 rfl) rfl (by show 2 * 0 + _ ≤ _; exact Nat.le_of_eq rfl) (hb hby ds3_20) (by decide) (by decide) (fun _ _ => safe0) (fun rv => (mkF m 23 #[.val (.ref t), .val (.int (Int32.ofNat b)), .val (.int (Int32.ofNat n))] (rv.toList ++ [(.ref b2)]))) (fun _ => rfl)
  obtain ⟨rfl, E13x, G13v, G13c⟩ := Q13
  have K14 : Keep h0 h13 [] := K8.trans K13 (allS (Or.inr (by omega)) (fun _ q => nomatch q))
  have F15 := V7.keep K13 (ninS (nne (by omega)) nin0)
  exact w13.endN (v := some (.ref b2)) (Q := (fun v h => ∃ y, v = some (.ref y) ∧ n0 ≤ y ∧ Str Z h y (own_sl cs b n) h.size)) (wr := []) (h0 := h0) (fun h => by rw [Bd.returns] at h; cases h) Bd.notSynchronized (fun X hr => X.areturnOut hx rfl Bd.returns rfl (hb hby ds3_23) hr) (by decide) (by decide) ⟨b2, rfl, by omega, Str.of E13x G13v G13c F15 (by rw [own_sl_len hbn]) rfl (own_sl_rng rg) (by rw [own_sl_len hbn]; omega) (exlt E13x) (arlt F15)⟩ K14
theorem ds4_0 : decode jdk_41_method_12_code 0 = .ok (.iload_n 0, 1) := by decide +kernel
theorem ds4_1 : decode jdk_41_method_12_code 1 = .ok (.ifCond .lt 13, 3) := by decide +kernel
theorem ds4_4 : decode jdk_41_method_12_code 4 = .ok (.iload_n 0, 1) := by decide +kernel
theorem ds4_5 : decode jdk_41_method_12_code 5 = .ok (.iload_n 1, 1) := by decide +kernel
theorem ds4_6 : decode jdk_41_method_12_code 6 = .ok (.if_icmp .gt 8, 3) := by decide +kernel
theorem ds4_9 : decode jdk_41_method_12_code 9 = .ok (.iload_n 1, 1) := by decide +kernel
theorem ds4_10 : decode jdk_41_method_12_code 10 = .ok (.iload_n 2, 1) := by decide +kernel
theorem ds4_11 : decode jdk_41_method_12_code 11 = .ok (.if_icmp .le 11, 3) := by decide +kernel
theorem ds4_22 : decode jdk_41_method_12_code 22 = .ok (.iload_n 0, 1) := by decide +kernel
theorem ds4_23 : decode jdk_41_method_12_code 23 = .ok (.ireturn, 1) := by decide +kernel
theorem efs4 (m : MethodId) (x0 : Int32) (x1 : Int32) (x2 : Int32) (x3 : Value) (q3 : x3.isRef = true) : entryFrame m #[(.int x0), (.int x1), (.int x2), x3] 4 = mkF m 0 #[.val (.int x0), .val (.int x1), .val (.int x2), .val x3] [] := by rcases ref_cases q3 with rfl | ⟨_, rfl⟩ <;> first | (simp [entryFrame, mkF, argsToLocals, Value.category, maxLocals]; done) | rfl
theorem pn_11 : plainFor (⟨"jdk/internal/util/Preconditions", "checkFromToIndex", "(IIILjava/util/function/BiFunction;)I"⟩ : MethodName) = true := by first | decide +kernel | (apply plainFor_of_name; simp [plainName, overriddenIn]; done)
set_option maxRecDepth 65536 in
set_option maxHeartbeats 40000000 in
theorem rms4 (l : Launch) (Z : State) (a0 : Array Value) (hw : ∀ d ∈ tables_1, d.before a0 Z = true) (p0 p1 p2 : Int32) (u : Value) (qu : u.isRef = true) (h0 : Heap) (n0 : Nat) (Z0 : n0 ≤ h0.size) (q0 : ¬ p0 < (0 : Int32)) (q1 : ¬ p1 < p0) (q2 : ¬ p2 < p1) :
    NMet l Z (⟨"jdk/internal/util/Preconditions", "checkFromToIndex", "(IIILjava/util/function/BiFunction;)I"⟩ : MethodName) jdk_41_method_12_code 4 (some .int) [] ({ frames := 0, cells := 0, slots := 0, locals := 0 } : Room) [(.int p0), (.int p1), (.int p2), u] h0 n0 [] (fun v h => v = some (.int p0) ∧ h0 = h) := by
  refine MetFree.of_bodySF pn_11 hisR ?_
  intro p e s m args below meth c s₁ Bd hml0 hP hK
  obtain ⟨rfl, hZ, hh⟩ := hP
  have hx := Bd.exec
  have hby := Bd.bytes
  have hml : c.maxLocals = 4 := hml0
  have hnm := (name_of_methodNamed Bd.named Bd.method).1
  have w0 := Wk.start (a0 := a0) (EL := []) (n0 := n0) (nw := true) Bd hZ hh EW.nil chv0 (efs4 m p0 p1 p2 u qu) ({ frames := 0, cells := 0, slots := 0, locals := 0 } : Room) rfl
  have K0 : Keep h0 h0 [] := Keep.refl _ _
  have w1 := w0.pure (mkF m 23 #[.val (.int p0), .val (.int p1), .val (.int p2), .val u] [(.int p0)]) (fun X eT hZ hown k => by
      show Steps _ _ _ (State.setTop _ (mkF m 0 #[.val (.int p0), .val (.int p1), .val (.int p2), .val u] [])) _
      refine S.iloadN X.here hx (hb hby ds4_0) rfl ?_
      refine S.ifNo X.here hx (hb hby ds4_1) ((if0 _ _).trans (flt q0).1) ?_
      refine S.iloadN X.here hx (hb hby ds4_4) rfl ?_
      refine S.iloadN X.here hx (hb hby ds4_5) rfl ?_
      refine S.icmpNo X.here hx (hb hby ds4_6) (flt q1).2.2.1 ?_
      refine S.iloadN X.here hx (hb hby ds4_9) rfl ?_
      refine S.iloadN X.here hx (hb hby ds4_10) rfl ?_
      refine S.icmpYes X.here hx 22 (hb hby ds4_11) (flt q2).2.2.2 (by decide) (by decide) ?_
      refine S.iloadN X.here hx (hb hby ds4_22) rfl ?_
      exact k)
  exact w1.endN (v := some (.int p0)) (Q := (fun v h => v = some (.int p0) ∧ h0 = h)) (wr := []) (h0 := h0) (fun h => by rw [Bd.returns] at h; cases h) Bd.notSynchronized (fun X hr => retI X hx Bd.returns (hb hby ds4_23) hr) (by decide) (by decide) ⟨rfl, rfl⟩ K0
theorem pd_8 : parseMethodDescriptor "(IIILjava/util/function/BiFunction;)I" = some ⟨[.int, .int, .int, (.object "java/util/function/BiFunction")], some .int⟩ := by decide +kernel
theorem ds5_0 : decode jdk_42_method_158_code 0 = .ok (.iload_n 0, 1) := by decide +kernel
theorem ds5_1 : decode jdk_42_method_158_code 1 = .ok (.iload_n 1, 1) := by decide +kernel
theorem ds5_2 : decode jdk_42_method_158_code 2 = .ok (.iload_n 2, 1) := by decide +kernel
theorem ds5_3 : decode jdk_42_method_158_code 3 = .ok (.getstatic 1053, 3) := by decide +kernel
theorem ds5_6 : decode jdk_42_method_158_code 6 = .ok (.invokestatic 1062, 3) := by decide +kernel
theorem ds5_9 : decode jdk_42_method_158_code 9 = .ok (.pop, 1) := by decide +kernel
theorem ds5_10 : decode jdk_42_method_158_code 10 = .ok (.return_, 1) := by decide +kernel
theorem efs5 (m : MethodId) (x0 : Int32) (x1 : Int32) (x2 : Int32) : entryFrame m #[(.int x0), (.int x1), (.int x2)] 3 = mkF m 0 #[.val (.int x0), .val (.int x1), .val (.int x2)] [] := by first | (simp [entryFrame, mkF, argsToLocals, Value.category, maxLocals]; done) | rfl
theorem pn_12 : plainFor (⟨"java/lang/String", "checkBoundsBeginEnd", "(III)V"⟩ : MethodName) = true := by first | decide +kernel | (apply plainFor_of_name; simp [plainName, overriddenIn]; done)
set_option maxRecDepth 65536 in
set_option maxHeartbeats 40000000 in
theorem rms5 (l : Launch) (Z : State) (a0 : Array Value) (hw : ∀ d ∈ tables_1, d.before a0 Z = true) (p0 p1 p2 : Int32) (h0 : Heap) (n0 : Nat) (Z0 : n0 ≤ h0.size) (hG : SetsOk Z) (X0 : Old Z n0 h0) (q0 : ¬ p0 < (0 : Int32)) (q1 : ¬ p1 < p0) (q2 : ¬ p2 < p1) :
    NMet l Z (⟨"java/lang/String", "checkBoundsBeginEnd", "(III)V"⟩ : MethodName) jdk_42_method_158_code 3 none [] ({ frames := 1, cells := 0, slots := 0, locals := 15 } : Room) [(.int p0), (.int p1), (.int p2)] h0 n0 [] (fun v h => v = none ∧ h0 = h) := by
  refine MetFree.of_bodySF pn_12 hisR ?_
  intro p e s m args below meth c s₁ Bd hml0 hP hK
  obtain ⟨rfl, hZ, hh⟩ := hP
  obtain ⟨G1, G3, S1, P1, S3, P3⟩ := hG
  have hx := Bd.exec
  have hby := Bd.bytes
  have hml : c.maxLocals = 3 := hml0
  have hnm := (name_of_methodNamed Bd.named Bd.method).1
  have w0 := Wk.start (a0 := a0) (EL := []) (n0 := n0) (nw := true) Bd hZ hh EW.nil chv0 (efs5 m p0 p1 p2) ({ frames := 1, cells := 0, slots := 0, locals := 15 } : Room) rfl
  have K0 : Keep h0 h0 [] := Keep.refl _ _
  have w1 := w0.pure (mkF m 3 #[.val (.int p0), .val (.int p1), .val (.int p2)] [(.int p2), (.int p1), (.int p0)]) (fun X eT hZ hown k => by
      show Steps _ _ _ (State.setTop _ (mkF m 0 #[.val (.int p0), .val (.int p1), .val (.int p2)] [])) _
      refine S.iloadN X.here hx (hb hby ds5_0) rfl ?_
      refine S.iloadN X.here hx (hb hby ds5_1) rfl ?_
      refine S.iloadN X.here hx (hb hby ds5_2) rfl ?_
      exact k)
  have w2 := w1.same (mkF m 6 #[.val (.int p0), .val (.int p1), .val (.int p2)] [G3, (.int p2), (.int p1), (.int p0)]) (fun X eT hZ hown => getS (host := "") X hx hZ hown (hw _ (List.mem_of_getElem? (i := 50) rfl)) Via.refl eT (S3.ext X0.2) (g := (mkF m 3 #[.val (.int p0), .val (.int p1), .val (.int p2)] [(.int p2), (.int p1), (.int p0)])) rfl (hb hby ds5_3))
  obtain ⟨v3, h3, Q3, K3, z3, w3⟩ := w2.callS hx (y := (⟨"jdk/internal/util/Preconditions", "checkFromToIndex", "(IIILjava/util/function/BiFunction;)I"⟩ : MethodName)) (W := 0) (hw _ (List.mem_of_getElem? (i := 127) rfl)) (hw _ (List.mem_of_getElem? (i := 128) rfl)) (hw _ (List.mem_of_getElem? (i := 51) rfl)) (hw _ (List.mem_of_getElem? (i := 129) rfl)) (by decide) ((rms4 l Z a0 hw p0 p1 p2 G3 P3 h0 n0 (by omega) q0 q1 q2).pay w2.hZ (hw _ (List.mem_of_getElem? (i := 129) rfl)) (hw _ (List.mem_of_getElem? (i := 51) rfl)) (by decide) (by decide)) rfl (by rw [hml]; rfl) [] (lenOf pd_8 rfl) rfl (by show 2 * 0 + _ ≤ _; exact Nat.le_of_eq rfl) (hb hby ds5_6) (by decide) (by decide) (fun _ q => nomatch q) (fun rv => (mkF m 9 #[.val (.int p0), .val (.int p1), .val (.int p2)] (rv.toList ++ []))) (fun _ => rfl)
  obtain ⟨rfl, rfl⟩ := Q3
  have w4 := w3.pure (mkF m 10 #[.val (.int p0), .val (.int p1), .val (.int p2)] []) (fun X eT hZ hown k => by
      show Steps _ _ _ (State.setTop _ (mkF m 9 #[.val (.int p0), .val (.int p1), .val (.int p2)] [(.int p0)])) _
      refine S.pop X.here hx (hb hby ds5_9) rfl ?_
      exact k)
  exact w4.endN (v := none) (Q := (fun v h => v = none ∧ h0 = h)) (wr := []) (h0 := h0) (fun _ => rfl) Bd.notSynchronized (fun X hr => X.returnOut hx Bd.returns (hb hby ds5_10) hr) (by decide) (by decide) ⟨rfl, rfl⟩ K0
theorem pd_9 : parseMethodDescriptor "(III)V" = some ⟨[.int, .int, .int], none⟩ := by decide +kernel
theorem pd_10 : parseMethodDescriptor "([BII)Ljava/lang/String;" = some ⟨[(.array .byte), .int, .int], some (.object "java/lang/String")⟩ := by decide +kernel
theorem ds6_0 : decode jdk_42_method_92_code 0 = .ok (.aload_n 0, 1) := by decide +kernel
theorem ds6_1 : decode jdk_42_method_92_code 1 = .ok (.invokevirtual 505, 3) := by decide +kernel
theorem ds6_4 : decode jdk_42_method_92_code 4 = .ok (.istore_n 3, 1) := by decide +kernel
theorem ds6_5 : decode jdk_42_method_92_code 5 = .ok (.iload_n 1, 1) := by decide +kernel
theorem ds6_6 : decode jdk_42_method_92_code 6 = .ok (.iload_n 2, 1) := by decide +kernel
theorem ds6_7 : decode jdk_42_method_92_code 7 = .ok (.iload_n 3, 1) := by decide +kernel
theorem ds6_8 : decode jdk_42_method_92_code 8 = .ok (.invokestatic 521, 3) := by decide +kernel
theorem ds6_11 : decode jdk_42_method_92_code 11 = .ok (.iload_n 1, 1) := by decide +kernel
theorem ds6_12 : decode jdk_42_method_92_code 12 = .ok (.ifCond .ne 10, 3) := by decide +kernel
theorem ds6_15 : decode jdk_42_method_92_code 15 = .ok (.iload_n 2, 1) := by decide +kernel
theorem ds6_16 : decode jdk_42_method_92_code 16 = .ok (.iload_n 3, 1) := by decide +kernel
theorem ds6_17 : decode jdk_42_method_92_code 17 = .ok (.if_icmp .ne 5, 3) := by decide +kernel
theorem ds6_22 : decode jdk_42_method_92_code 22 = .ok (.iload_n 2, 1) := by decide +kernel
theorem ds6_23 : decode jdk_42_method_92_code 23 = .ok (.iload_n 1, 1) := by decide +kernel
theorem ds6_24 : decode jdk_42_method_92_code 24 = .ok (.isub, 1) := by decide +kernel
theorem ds6_25 : decode jdk_42_method_92_code 25 = .ok (.istore 4, 2) := by decide +kernel
theorem ds6_27 : decode jdk_42_method_92_code 27 = .ok (.aload_n 0, 1) := by decide +kernel
theorem ds6_28 : decode jdk_42_method_92_code 28 = .ok (.invokevirtual 492, 3) := by decide +kernel
theorem ds6_31 : decode jdk_42_method_92_code 31 = .ok (.ifCond .eq 16, 3) := by decide +kernel
theorem ds6_34 : decode jdk_42_method_92_code 34 = .ok (.aload_n 0, 1) := by decide +kernel
theorem ds6_35 : decode jdk_42_method_92_code 35 = .ok (.getfield 9, 3) := by decide +kernel
theorem ds6_38 : decode jdk_42_method_92_code 38 = .ok (.iload_n 1, 1) := by decide +kernel
theorem ds6_39 : decode jdk_42_method_92_code 39 = .ok (.iload 4, 2) := by decide +kernel
theorem ds6_41 : decode jdk_42_method_92_code 41 = .ok (.invokestatic 685, 3) := by decide +kernel
theorem ds6_44 : decode jdk_42_method_92_code 44 = .ok (.goto 13, 3) := by decide +kernel
theorem ds6_57 : decode jdk_42_method_92_code 57 = .ok (.areturn, 1) := by decide +kernel
theorem efs6 (m : MethodId) (x0 : Nat) (x1 : Int32) (x2 : Int32) : entryFrame m #[(.ref x0), (.int x1), (.int x2)] 5 = mkF m 0 #[.val (.ref x0), .val (.int x1), .val (.int x2), .unset, .unset] [] := by first | (simp [entryFrame, mkF, argsToLocals, Value.category, maxLocals]; done) | rfl
theorem pn_13 : plainFor (⟨"java/lang/String", "substring", "(II)Ljava/lang/String;"⟩ : MethodName) = true := by first | decide +kernel | (apply plainFor_of_name; simp [plainName, overriddenIn]; done)
set_option maxRecDepth 65536 in
set_option maxHeartbeats 40000000 in
theorem rms6 (l : Launch) (Z : State) (a0 : Array Value) (hw : ∀ d ∈ tables_1, d.before a0 Z = true) (x : Nat) (cs : List Int32) (bd : Nat) (b n : Nat) (h0 : Heap) (n0 : Nat) (Z0 : n0 ≤ h0.size) (hG : SetsOk Z) (X0 : Old Z n0 h0) (Sx : Str Z h0 x cs bd) (hbn : b + n ≤ cs.length) (hcap : n ≤ 8) (hne : ¬ (b = 0 ∧ n = cs.length)) (hn0 : n ≠ 0) :
    NMet l Z (⟨"java/lang/String", "substring", "(II)Ljava/lang/String;"⟩ : MethodName) jdk_42_method_92_code 5 (some (.object "java/lang/String")) [] ({ frames := 4, cells := 2, slots := 12, locals := 73 } : Room) [(.ref x), (.int (Int32.ofNat b)), (.int (Int32.ofNat (b + n)))] h0 n0 [] (fun v h => ∃ y, v = some (.ref y) ∧ n0 ≤ y ∧ Str Z h y (own_sl cs b n) h.size) := by
  refine MetFree.of_bodySF pn_13 hisR ?_
  intro p e s m args below meth c s₁ Bd hml0 hP hK
  obtain ⟨rfl, hZ, hh⟩ := hP
  have hx := Bd.exec
  have hby := Bd.bytes
  have hml : c.maxLocals = 5 := hml0
  have hnm := (name_of_methodNamed Bd.named Bd.method).1
  have w0 := Wk.start (a0 := a0) (EL := []) (n0 := n0) (nw := true) Bd hZ hh EW.nil chv0 (efs6 m x (Int32.ofNat b) (Int32.ofNat (b + n))) ({ frames := 4, cells := 2, slots := 12, locals := 73 } : Room) rfl
  have K0 : Keep h0 h0 [] := Keep.refl _ _
  have Sx0 := Sx
  obtain ⟨t, kb, Ex, Fv, Fc, Kb, rg, ln, bx, bt⟩ := Sx
  have lt_x := exlt Ex
  have lt_t := arlt Kb
  have hq_lenW : ∀ d ∈ StrChars.Road.wordsLen, d.before a0 Z = true := fun d hd => hw d ((by decide +kernel : ∀ d ∈ StrChars.Road.wordsLen, d ∈ tables_1) d hd)
  have w1 := w0.pure (mkF m 1 #[.val (.ref x), .val (.int (Int32.ofNat b)), .val (.int (Int32.ofNat (b + n))), .unset, .unset] [(.ref x)]) (fun X eT hZ hown k => by
      show Steps _ _ _ (State.setTop _ (mkF m 0 #[.val (.ref x), .val (.int (Int32.ofNat b)), .val (.int (Int32.ofNat (b + n))), .unset, .unset] [])) _
      refine S.aloadN X.here hx (hb hby ds6_0) rfl rfl ?_
      exact k)
  obtain ⟨v2, h2, Q2, K2, z2, w2⟩ := w1.callV hx (C := "java/lang/String") (y := (⟨"java/lang/String", "length", "()I"⟩ : MethodName)) (z := (⟨"java/lang/String", "length", "()I"⟩ : MethodName)) (W := 0) (hw _ (List.mem_of_getElem? (i := 98) rfl)) (hw _ (List.mem_of_getElem? (i := 21) rfl)) (hw _ (List.mem_of_getElem? (i := 23) rfl)) (hw _ (List.mem_of_getElem? (i := 22) rfl)) (w1.nf (hw _ (List.mem_of_getElem? (i := 23) rfl))) (by decide) (payLen hG w1.hZ hq_lenW (hw _ (List.mem_of_getElem? (i := 14) rfl)) Sx0 X0 (by decide) (by decide)) Sx0.exa rfl (by rw [hml]; rfl) [] (lenOf pd_4 rfl) rfl (by show 2 * 0 + _ ≤ _; exact Nat.le_of_eq rfl) (hb hby ds6_1) (by decide) (by decide) (fun _ q => nomatch q) (fun rv => (mkF m 4 #[.val (.ref x), .val (.int (Int32.ofNat b)), .val (.int (Int32.ofNat (b + n))), .unset, .unset] (rv.toList ++ []))) (fun _ => rfl)
  obtain ⟨rfl, rfl⟩ := Q2
  have w3 := w2.pure (mkF m 8 #[.val (.ref x), .val (.int (Int32.ofNat b)), .val (.int (Int32.ofNat (b + n))), .val (.int (Int32.ofNat cs.length)), .unset] [(.int (Int32.ofNat cs.length)), (.int (Int32.ofNat (b + n))), (.int (Int32.ofNat b))]) (fun X eT hZ hown k => by
      show Steps _ _ _ (State.setTop _ (mkF m 4 #[.val (.ref x), .val (.int (Int32.ofNat b)), .val (.int (Int32.ofNat (b + n))), .unset, .unset] [(.int (Int32.ofNat cs.length))])) _
      refine S.istoreN X.here hx (hb hby ds6_4) #[.val (.ref x), .val (.int (Int32.ofNat b)), .val (.int (Int32.ofNat (b + n))), .val (.int (Int32.ofNat cs.length)), .unset] rfl ?_
      refine S.iloadN X.here hx (hb hby ds6_5) rfl ?_
      refine S.iloadN X.here hx (hb hby ds6_6) rfl ?_
      refine S.iloadN X.here hx (hb hby ds6_7) rfl ?_
      exact k)
  obtain ⟨v4, h4, Q4, K4, z4, w4⟩ := w3.callS hx (y := (⟨"java/lang/String", "checkBoundsBeginEnd", "(III)V"⟩ : MethodName)) (W := 0) (hw _ (List.mem_of_getElem? (i := 124) rfl)) (hw _ (List.mem_of_getElem? (i := 125) rfl)) (hw _ (List.mem_of_getElem? (i := 13) rfl)) (hw _ (List.mem_of_getElem? (i := 126) rfl)) (by decide) ((rms5 l Z a0 hw (Int32.ofNat b) (Int32.ofNat (b + n)) (Int32.ofNat cs.length) h0 n0 (by omega) hG X0 (i_nn (by omega)) (fun q => absurd ((i_lt (by omega) (by omega)).mp q) (by omega)) (fun q => absurd ((i_lt (by omega) (by omega)).mp q) (by omega))).pay w3.hZ (hw _ (List.mem_of_getElem? (i := 126) rfl)) (hw _ (List.mem_of_getElem? (i := 13) rfl)) (by decide) (by decide)) rfl (by rw [hml]; rfl) [] (lenOf pd_9 rfl) rfl (by show 2 * 0 + _ ≤ _; exact Nat.le_of_eq rfl) (hb hby ds6_8) (by decide) (by decide) (fun _ q => nomatch q) (fun rv => (mkF m 11 #[.val (.ref x), .val (.int (Int32.ofNat b)), .val (.int (Int32.ofNat (b + n))), .val (.int (Int32.ofNat cs.length)), .unset] (rv.toList ++ []))) (fun _ => rfl)
  obtain ⟨rfl, rfl⟩ := Q4
  have w5 := w4.pure (mkF m 12 #[.val (.ref x), .val (.int (Int32.ofNat b)), .val (.int (Int32.ofNat (b + n))), .val (.int (Int32.ofNat cs.length)), .unset] [(.int (Int32.ofNat b))]) (fun X eT hZ hown k => by
      show Steps _ _ _ (State.setTop _ (mkF m 11 #[.val (.ref x), .val (.int (Int32.ofNat b)), .val (.int (Int32.ofNat (b + n))), .val (.int (Int32.ofNat cs.length)), .unset] [])) _
      refine S.iloadN X.here hx (hb hby ds6_11) rfl ?_
      exact k)
  by_cases hc6 : (Int32.ofNat b) = (0 : Int32)
  · have w7 := w5.pure (mkF m 27 #[.val (.ref x), .val (.int (Int32.ofNat b)), .val (.int (Int32.ofNat (b + n))), .val (.int (Int32.ofNat cs.length)), .val (.int ((Int32.ofNat (b + n)) - (Int32.ofNat b)))] []) (fun X eT hZ hown k => by
        show Steps _ _ _ (State.setTop _ (mkF m 12 #[.val (.ref x), .val (.int (Int32.ofNat b)), .val (.int (Int32.ofNat (b + n))), .val (.int (Int32.ofNat cs.length)), .unset] [(.int (Int32.ofNat b))])) _
        refine S.ifNo X.here hx (hb hby ds6_12) ((if0 _ _).trans (teq hc6).2) ?_
        refine S.iloadN X.here hx (hb hby ds6_15) rfl ?_
        refine S.iloadN X.here hx (hb hby ds6_16) rfl ?_
        refine S.icmpYes X.here hx 22 (hb hby ds6_17) (feq (fun q => hne (own_whole hbn ln hc6 q))).2 (by decide) (by decide) ?_
        refine S.iloadN X.here hx (hb hby ds6_22) rfl ?_
        refine S.iloadN X.here hx (hb hby ds6_23) rfl ?_
        refine S.isub X.here hx (hb hby ds6_24) ?_
        refine S.istore X.here hx (hb hby ds6_25) #[.val (.ref x), .val (.int (Int32.ofNat b)), .val (.int (Int32.ofNat (b + n))), .val (.int (Int32.ofNat cs.length)), .val (.int ((Int32.ofNat (b + n)) - (Int32.ofNat b)))] rfl ?_
        exact k)
    have w8 := w7
    rw [i_sub] at w8
    have w9 := w8.pure (mkF m 28 #[.val (.ref x), .val (.int (Int32.ofNat b)), .val (.int (Int32.ofNat (b + n))), .val (.int (Int32.ofNat cs.length)), .val (.int (Int32.ofNat n))] [(.ref x)]) (fun X eT hZ hown k => by
        show Steps _ _ _ (State.setTop _ (mkF m 27 #[.val (.ref x), .val (.int (Int32.ofNat b)), .val (.int (Int32.ofNat (b + n))), .val (.int (Int32.ofNat cs.length)), .val (.int (Int32.ofNat n))] [])) _
        refine S.aloadN X.here hx (hb hby ds6_27) rfl rfl ?_
        exact k)
    obtain ⟨v10, h10, Q10, K10, z10, w10⟩ := w9.callV hx (C := "java/lang/String") (y := (⟨"java/lang/String", "isLatin1", "()Z"⟩ : MethodName)) (z := (⟨"java/lang/String", "isLatin1", "()Z"⟩ : MethodName)) (W := 0) (hw _ (List.mem_of_getElem? (i := 38) rfl)) (hw _ (List.mem_of_getElem? (i := 39) rfl)) (hw _ (List.mem_of_getElem? (i := 41) rfl)) (hw _ (List.mem_of_getElem? (i := 40) rfl)) (w9.nf (hw _ (List.mem_of_getElem? (i := 41) rfl))) (by decide) ((rmil l Z a0 hw x h0 n0 (by omega) hG X0 Fc).pay w9.hZ (hw _ (List.mem_of_getElem? (i := 42) rfl)) (hw _ (List.mem_of_getElem? (i := 13) rfl)) (by decide) (by decide)) Ex rfl (by rw [hml]; rfl) [] (lenOf pd_2 rfl) rfl (by show 2 * 0 + _ ≤ _; exact Nat.le_of_eq rfl) (hb hby ds6_28) (by decide) (by decide) (fun _ q => nomatch q) (fun rv => (mkF m 31 #[.val (.ref x), .val (.int (Int32.ofNat b)), .val (.int (Int32.ofNat (b + n))), .val (.int (Int32.ofNat cs.length)), .val (.int (Int32.ofNat n))] (rv.toList ++ []))) (fun _ => rfl)
    obtain ⟨rfl, rfl⟩ := Q10
    have w11 := w10.pure (mkF m 35 #[.val (.ref x), .val (.int (Int32.ofNat b)), .val (.int (Int32.ofNat (b + n))), .val (.int (Int32.ofNat cs.length)), .val (.int (Int32.ofNat n))] [(.ref x)]) (fun X eT hZ hown k => by
        show Steps _ _ _ (State.setTop _ (mkF m 31 #[.val (.ref x), .val (.int (Int32.ofNat b)), .val (.int (Int32.ofNat (b + n))), .val (.int (Int32.ofNat cs.length)), .val (.int (Int32.ofNat n))] [(.int (1 : Int32))])) _
        refine S.ifNo X.here hx (hb hby ds6_31) (by decide) ?_
        refine S.aloadN X.here hx (hb hby ds6_34) rfl rfl ?_
        exact k)
    have w12 := w11.same (mkF m 38 #[.val (.ref x), .val (.int (Int32.ofNat b)), .val (.int (Int32.ofNat (b + n))), .val (.int (Int32.ofNat cs.length)), .val (.int (Int32.ofNat n))] [(.ref t)]) (fun X eT hZ hown => getF X hx hZ hown (host := "") (Or.inl (hw _ (List.mem_of_getElem? (i := 25) rfl))) Via.refl eT Fv (g := (mkF m 35 #[.val (.ref x), .val (.int (Int32.ofNat b)), .val (.int (Int32.ofNat (b + n))), .val (.int (Int32.ofNat cs.length)), .val (.int (Int32.ofNat n))] [(.ref x)])) rfl rfl (hb hby ds6_35))
    have w13 := w12.pure (mkF m 41 #[.val (.ref x), .val (.int (Int32.ofNat b)), .val (.int (Int32.ofNat (b + n))), .val (.int (Int32.ofNat cs.length)), .val (.int (Int32.ofNat n))] [(.int (Int32.ofNat n)), (.int (Int32.ofNat b)), (.ref t)]) (fun X eT hZ hown k => by
        show Steps _ _ _ (State.setTop _ (mkF m 38 #[.val (.ref x), .val (.int (Int32.ofNat b)), .val (.int (Int32.ofNat (b + n))), .val (.int (Int32.ofNat cs.length)), .val (.int (Int32.ofNat n))] [(.ref t)])) _
        refine S.iloadN X.here hx (hb hby ds6_38) rfl ?_
        refine S.iload X.here hx (hb hby ds6_39) rfl ?_
        exact k)
    obtain ⟨v14, h14, Q14, K14, z14, w14⟩ := w13.callS hx (y := (⟨"java/lang/StringLatin1", "newString", "([BII)Ljava/lang/String;"⟩ : MethodName)) (W := 0) (hw _ (List.mem_of_getElem? (i := 130) rfl)) (hw _ (List.mem_of_getElem? (i := 131) rfl)) (hw _ (List.mem_of_getElem? (i := 45) rfl)) (hw _ (List.mem_of_getElem? (i := 132) rfl)) (by decide) ((rms3 l Z a0 hw t kb cs b n h0 n0 (by omega) X0 Kb hbn ln hcap hne hn0 rg).pay w13.hZ (hw _ (List.mem_of_getElem? (i := 132) rfl)) (hw _ (List.mem_of_getElem? (i := 45) rfl)) (by decide) (by decide)) rfl (by rw [hml]; rfl) [] (lenOf pd_10 rfl) rfl (by show 2 * 0 + _ ≤ _; exact Nat.le_of_eq rfl) (hb hby ds6_41) (by decide) (by decide) (fun _ q => nomatch q) (fun rv => (mkF m 44 #[.val (.ref x), .val (.int (Int32.ofNat b)), .val (.int (Int32.ofNat (b + n))), .val (.int (Int32.ofNat cs.length)), .val (.int (Int32.ofNat n))] (rv.toList ++ []))) (fun _ => rfl)
    obtain ⟨y14, rfl, gy14, S14⟩ := Q14
    have K15 : Keep h0 h14 [] := K0.trans K14 (fun _ q => nomatch q)
    have lt_y14 := S14.lt
    have w16 := w14.pure (mkF m 57 #[.val (.ref x), .val (.int (Int32.ofNat b)), .val (.int (Int32.ofNat (b + n))), .val (.int (Int32.ofNat cs.length)), .val (.int (Int32.ofNat n))] [(.ref y14)]) (fun X eT hZ hown k => by
        show Steps _ _ _ (State.setTop _ (mkF m 44 #[.val (.ref x), .val (.int (Int32.ofNat b)), .val (.int (Int32.ofNat (b + n))), .val (.int (Int32.ofNat cs.length)), .val (.int (Int32.ofNat n))] [(.ref y14)])) _
        refine S.goto X.here hx 57 (hb hby ds6_44) (by decide) (by decide) ?_
        exact k)
    exact w16.endN (v := some (.ref y14)) (Q := (fun v h => ∃ y, v = some (.ref y) ∧ n0 ≤ y ∧ Str Z h y (own_sl cs b n) h.size)) (wr := []) (h0 := h0) (fun h => by rw [Bd.returns] at h; cases h) Bd.notSynchronized (fun X hr => X.areturnOut hx rfl Bd.returns rfl (hb hby ds6_57) hr) (by decide) (by decide) ⟨y14, rfl, by omega, S14.more (by omega)⟩ K15
  · have w17 := w5.pure (mkF m 27 #[.val (.ref x), .val (.int (Int32.ofNat b)), .val (.int (Int32.ofNat (b + n))), .val (.int (Int32.ofNat cs.length)), .val (.int ((Int32.ofNat (b + n)) - (Int32.ofNat b)))] []) (fun X eT hZ hown k => by
        show Steps _ _ _ (State.setTop _ (mkF m 12 #[.val (.ref x), .val (.int (Int32.ofNat b)), .val (.int (Int32.ofNat (b + n))), .val (.int (Int32.ofNat cs.length)), .unset] [(.int (Int32.ofNat b))])) _
        refine S.ifYes X.here hx 22 (hb hby ds6_12) ((if0 _ _).trans (feq hc6).2) (by decide) (by decide) ?_
        refine S.iloadN X.here hx (hb hby ds6_22) rfl ?_
        refine S.iloadN X.here hx (hb hby ds6_23) rfl ?_
        refine S.isub X.here hx (hb hby ds6_24) ?_
        refine S.istore X.here hx (hb hby ds6_25) #[.val (.ref x), .val (.int (Int32.ofNat b)), .val (.int (Int32.ofNat (b + n))), .val (.int (Int32.ofNat cs.length)), .val (.int ((Int32.ofNat (b + n)) - (Int32.ofNat b)))] rfl ?_
        exact k)
    have w18 := w17
    rw [i_sub] at w18
    have w19 := w18.pure (mkF m 28 #[.val (.ref x), .val (.int (Int32.ofNat b)), .val (.int (Int32.ofNat (b + n))), .val (.int (Int32.ofNat cs.length)), .val (.int (Int32.ofNat n))] [(.ref x)]) (fun X eT hZ hown k => by
        show Steps _ _ _ (State.setTop _ (mkF m 27 #[.val (.ref x), .val (.int (Int32.ofNat b)), .val (.int (Int32.ofNat (b + n))), .val (.int (Int32.ofNat cs.length)), .val (.int (Int32.ofNat n))] [])) _
        refine S.aloadN X.here hx (hb hby ds6_27) rfl rfl ?_
        exact k)
    obtain ⟨v20, h20, Q20, K20, z20, w20⟩ := w19.callV hx (C := "java/lang/String") (y := (⟨"java/lang/String", "isLatin1", "()Z"⟩ : MethodName)) (z := (⟨"java/lang/String", "isLatin1", "()Z"⟩ : MethodName)) (W := 0) (hw _ (List.mem_of_getElem? (i := 38) rfl)) (hw _ (List.mem_of_getElem? (i := 39) rfl)) (hw _ (List.mem_of_getElem? (i := 41) rfl)) (hw _ (List.mem_of_getElem? (i := 40) rfl)) (w19.nf (hw _ (List.mem_of_getElem? (i := 41) rfl))) (by decide) ((rmil l Z a0 hw x h0 n0 (by omega) hG X0 Fc).pay w19.hZ (hw _ (List.mem_of_getElem? (i := 42) rfl)) (hw _ (List.mem_of_getElem? (i := 13) rfl)) (by decide) (by decide)) Ex rfl (by rw [hml]; rfl) [] (lenOf pd_2 rfl) rfl (by show 2 * 0 + _ ≤ _; exact Nat.le_of_eq rfl) (hb hby ds6_28) (by decide) (by decide) (fun _ q => nomatch q) (fun rv => (mkF m 31 #[.val (.ref x), .val (.int (Int32.ofNat b)), .val (.int (Int32.ofNat (b + n))), .val (.int (Int32.ofNat cs.length)), .val (.int (Int32.ofNat n))] (rv.toList ++ []))) (fun _ => rfl)
    obtain ⟨rfl, rfl⟩ := Q20
    have w21 := w20.pure (mkF m 35 #[.val (.ref x), .val (.int (Int32.ofNat b)), .val (.int (Int32.ofNat (b + n))), .val (.int (Int32.ofNat cs.length)), .val (.int (Int32.ofNat n))] [(.ref x)]) (fun X eT hZ hown k => by
        show Steps _ _ _ (State.setTop _ (mkF m 31 #[.val (.ref x), .val (.int (Int32.ofNat b)), .val (.int (Int32.ofNat (b + n))), .val (.int (Int32.ofNat cs.length)), .val (.int (Int32.ofNat n))] [(.int (1 : Int32))])) _
        refine S.ifNo X.here hx (hb hby ds6_31) (by decide) ?_
        refine S.aloadN X.here hx (hb hby ds6_34) rfl rfl ?_
        exact k)
    have w22 := w21.same (mkF m 38 #[.val (.ref x), .val (.int (Int32.ofNat b)), .val (.int (Int32.ofNat (b + n))), .val (.int (Int32.ofNat cs.length)), .val (.int (Int32.ofNat n))] [(.ref t)]) (fun X eT hZ hown => getF X hx hZ hown (host := "") (Or.inl (hw _ (List.mem_of_getElem? (i := 25) rfl))) Via.refl eT Fv (g := (mkF m 35 #[.val (.ref x), .val (.int (Int32.ofNat b)), .val (.int (Int32.ofNat (b + n))), .val (.int (Int32.ofNat cs.length)), .val (.int (Int32.ofNat n))] [(.ref x)])) rfl rfl (hb hby ds6_35))
    have w23 := w22.pure (mkF m 41 #[.val (.ref x), .val (.int (Int32.ofNat b)), .val (.int (Int32.ofNat (b + n))), .val (.int (Int32.ofNat cs.length)), .val (.int (Int32.ofNat n))] [(.int (Int32.ofNat n)), (.int (Int32.ofNat b)), (.ref t)]) (fun X eT hZ hown k => by
        show Steps _ _ _ (State.setTop _ (mkF m 38 #[.val (.ref x), .val (.int (Int32.ofNat b)), .val (.int (Int32.ofNat (b + n))), .val (.int (Int32.ofNat cs.length)), .val (.int (Int32.ofNat n))] [(.ref t)])) _
        refine S.iloadN X.here hx (hb hby ds6_38) rfl ?_
        refine S.iload X.here hx (hb hby ds6_39) rfl ?_
        exact k)
    obtain ⟨v24, h24, Q24, K24, z24, w24⟩ := w23.callS hx (y := (⟨"java/lang/StringLatin1", "newString", "([BII)Ljava/lang/String;"⟩ : MethodName)) (W := 0) (hw _ (List.mem_of_getElem? (i := 130) rfl)) (hw _ (List.mem_of_getElem? (i := 131) rfl)) (hw _ (List.mem_of_getElem? (i := 45) rfl)) (hw _ (List.mem_of_getElem? (i := 132) rfl)) (by decide) ((rms3 l Z a0 hw t kb cs b n h0 n0 (by omega) X0 Kb hbn ln hcap hne hn0 rg).pay w23.hZ (hw _ (List.mem_of_getElem? (i := 132) rfl)) (hw _ (List.mem_of_getElem? (i := 45) rfl)) (by decide) (by decide)) rfl (by rw [hml]; rfl) [] (lenOf pd_10 rfl) rfl (by show 2 * 0 + _ ≤ _; exact Nat.le_of_eq rfl) (hb hby ds6_41) (by decide) (by decide) (fun _ q => nomatch q) (fun rv => (mkF m 44 #[.val (.ref x), .val (.int (Int32.ofNat b)), .val (.int (Int32.ofNat (b + n))), .val (.int (Int32.ofNat cs.length)), .val (.int (Int32.ofNat n))] (rv.toList ++ []))) (fun _ => rfl)
    obtain ⟨y24, rfl, gy24, S24⟩ := Q24
    have K25 : Keep h0 h24 [] := K0.trans K24 (fun _ q => nomatch q)
    have lt_y24 := S24.lt
    have w26 := w24.pure (mkF m 57 #[.val (.ref x), .val (.int (Int32.ofNat b)), .val (.int (Int32.ofNat (b + n))), .val (.int (Int32.ofNat cs.length)), .val (.int (Int32.ofNat n))] [(.ref y24)]) (fun X eT hZ hown k => by
        show Steps _ _ _ (State.setTop _ (mkF m 44 #[.val (.ref x), .val (.int (Int32.ofNat b)), .val (.int (Int32.ofNat (b + n))), .val (.int (Int32.ofNat cs.length)), .val (.int (Int32.ofNat n))] [(.ref y24)])) _
        refine S.goto X.here hx 57 (hb hby ds6_44) (by decide) (by decide) ?_
        exact k)
    exact w26.endN (v := some (.ref y24)) (Q := (fun v h => ∃ y, v = some (.ref y) ∧ n0 ≤ y ∧ Str Z h y (own_sl cs b n) h.size)) (wr := []) (h0 := h0) (fun h => by rw [Bd.returns] at h; cases h) Bd.notSynchronized (fun X hr => X.areturnOut hx rfl Bd.returns rfl (hb hby ds6_57) hr) (by decide) (by decide) ⟨y24, rfl, by omega, S24.more (by omega)⟩ K25
def own_ok (c : Int32) : Prop := (¬ c < 0 ∧ ¬ (255 : Int32) < c) ∧ ¬ c = 64
def own_AT : List Int32 := [(65 : Int32), (66 : Int32), (67 : Int32), (68 : Int32), (69 : Int32), (70 : Int32), (71 : Int32), (72 : Int32), (73 : Int32), (74 : Int32), (75 : Int32), (76 : Int32), (77 : Int32), (78 : Int32), (79 : Int32), (80 : Int32), (81 : Int32), (82 : Int32), (83 : Int32), (84 : Int32), (85 : Int32), (86 : Int32), (87 : Int32), (88 : Int32), (89 : Int32), (90 : Int32), (97 : Int32), (98 : Int32), (99 : Int32), (100 : Int32), (101 : Int32), (102 : Int32), (103 : Int32), (104 : Int32), (105 : Int32), (106 : Int32), (107 : Int32), (108 : Int32), (109 : Int32), (110 : Int32), (111 : Int32), (112 : Int32), (113 : Int32), (114 : Int32), (115 : Int32), (116 : Int32), (117 : Int32), (118 : Int32), (119 : Int32), (120 : Int32), (121 : Int32), (122 : Int32), (48 : Int32), (49 : Int32), (50 : Int32), (51 : Int32), (52 : Int32), (53 : Int32), (54 : Int32), (55 : Int32), (56 : Int32), (57 : Int32), (33 : Int32), (35 : Int32), (36 : Int32), (37 : Int32), (38 : Int32), (39 : Int32), (42 : Int32), (43 : Int32), (47 : Int32), (61 : Int32), (63 : Int32), (94 : Int32), (95 : Int32), (96 : Int32), (123 : Int32), (124 : Int32), (125 : Int32), (126 : Int32), (45 : Int32)]
set_option maxRecDepth 10000 in
theorem own_AT_ok : ∀ c ∈ own_AT, (¬ c < 0 ∧ ¬ (255 : Int32) < c) ∧ ¬ c = 64 := by decide +kernel
set_option maxRecDepth 10000 in
theorem own_AT_t : (∀ c ∈ ("ABCDEFGHIJKLMNOPQRSTUVWXYZabcdefghijklmnopqrstuvwxyz0123456789!#$%&'*+/=?^_`{|}~-").toList, c.toNat < 256) ∧ ("ABCDEFGHIJKLMNOPQRSTUVWXYZabcdefghijklmnopqrstuvwxyz0123456789!#$%&'*+/=?^_`{|}~-").toList.map (fun c => Value.int (Jvm.Lit.byteI c.toNat.toUInt16)) = (own_AT.map (fun c => c.toInt8.toInt32)).map Value.int := ⟨by decide +kernel, by decide +kernel⟩
def own_AL : List Int32 := [(65 : Int32), (66 : Int32), (67 : Int32), (68 : Int32), (69 : Int32), (70 : Int32), (71 : Int32), (72 : Int32), (73 : Int32), (74 : Int32), (75 : Int32), (76 : Int32), (77 : Int32), (78 : Int32), (79 : Int32), (80 : Int32), (81 : Int32), (82 : Int32), (83 : Int32), (84 : Int32), (85 : Int32), (86 : Int32), (87 : Int32), (88 : Int32), (89 : Int32), (90 : Int32), (97 : Int32), (98 : Int32), (99 : Int32), (100 : Int32), (101 : Int32), (102 : Int32), (103 : Int32), (104 : Int32), (105 : Int32), (106 : Int32), (107 : Int32), (108 : Int32), (109 : Int32), (110 : Int32), (111 : Int32), (112 : Int32), (113 : Int32), (114 : Int32), (115 : Int32), (116 : Int32), (117 : Int32), (118 : Int32), (119 : Int32), (120 : Int32), (121 : Int32), (122 : Int32), (48 : Int32), (49 : Int32), (50 : Int32), (51 : Int32), (52 : Int32), (53 : Int32), (54 : Int32), (55 : Int32), (56 : Int32), (57 : Int32)]
set_option maxRecDepth 10000 in
theorem own_AL_ok : ∀ c ∈ own_AL, (¬ c < 0 ∧ ¬ (255 : Int32) < c) ∧ ¬ c = 64 := by decide +kernel
set_option maxRecDepth 10000 in
theorem own_AL_t : (∀ c ∈ ("ABCDEFGHIJKLMNOPQRSTUVWXYZabcdefghijklmnopqrstuvwxyz0123456789").toList, c.toNat < 256) ∧ ("ABCDEFGHIJKLMNOPQRSTUVWXYZabcdefghijklmnopqrstuvwxyz0123456789").toList.map (fun c => Value.int (Jvm.Lit.byteI c.toNat.toUInt16)) = (own_AL.map (fun c => c.toInt8.toInt32)).map Value.int := ⟨by decide +kernel, by decide +kernel⟩
theorem own_getD_ok {bs : List Int32} (hb : ∀ c ∈ bs, (¬ c < 0 ∧ ¬ (255 : Int32) < c) ∧ ¬ c = 64) (i : Nat) : own_ok (bs.getD i 0) := by
  unfold own_ok
  rw [List.getD_eq_getElem?_getD]
  cases q : bs[i]? with
  | none => decide
  | some c => exact hb c (List.mem_of_getElem? q)
theorem own_and3 (n : Int32) : (n &&& (3 : Int32)) = 0 ∨ (n &&& (3 : Int32)) = 1 ∨ (n &&& (3 : Int32)) = 2 ∨ (n &&& (3 : Int32)) = 3 := by
  have q := c_and n (3 : Int32) (by decide)
  simp only [← Int32.toInt_inj, show (3 : Int32).toInt = 3 from rfl, show (2 : Int32).toInt = 2 from rfl, show (1 : Int32).toInt = 1 from rfl, show (0 : Int32).toInt = 0 from rfl] at q ⊢
  omega
theorem own_rem {n L : Int32} (k : Nat) (hL : L.toInt = k) (h0 : 0 < k) (hk : k ≤ 4000) : (((n &&& (127 : Int32)) % L).toNatClampNeg < k ∧ ((n &&& (127 : Int32)) % L) = Int32.ofNat ((n &&& (127 : Int32)) % L).toNatClampNeg) := by
  have q := c_and n (127 : Int32) (by decide)
  have r := (c_irem (n &&& (127 : Int32)) L k hL).1 q.1
  have r1 := Int.emod_nonneg (n &&& (127 : Int32)).toInt (show (k : Int) ≠ 0 by omega)
  have r2 := Int.emod_lt_of_pos (n &&& (127 : Int32)).toInt (show (0 : Int) < k by omega)
  rw [← r] at r1 r2
  have e : ((n &&& (127 : Int32)) % L).toNatClampNeg = ((n &&& (127 : Int32)) % L).toInt.toNat := rfl
  refine ⟨by omega, Int32.toInt_inj.mp ?_⟩
  rw [e, Int32.toInt_ofNat_of_lt (by omega)]; omega
def own_oct (p0 : Int64) (p1 : Int32) : Int32 := ((((p0.toUInt64 >>> (((8 : Int32) * p1) &&& 0x3f).toInt64.toUInt64).toInt64) &&& (255 : Int64)).toInt32)
theorem doc_0 : decode method_2_code 0 = .ok (.lload_n 0, 1) := by decide +kernel
theorem doc_1 : decode method_2_code 1 = .ok (.bipush 8, 2) := by decide +kernel
theorem doc_3 : decode method_2_code 3 = .ok (.iload_n 2, 1) := by decide +kernel
theorem doc_4 : decode method_2_code 4 = .ok (.imul, 1) := by decide +kernel
theorem doc_5 : decode method_2_code 5 = .ok (.lushr, 1) := by decide +kernel
theorem doc_6 : decode method_2_code 6 = .ok (.ldc2_w 7, 3) := by decide +kernel
theorem doc_9 : decode method_2_code 9 = .ok (.land, 1) := by decide +kernel
theorem doc_10 : decode method_2_code 10 = .ok (.l2i, 1) := by decide +kernel
theorem doc_11 : decode method_2_code 11 = .ok (.ireturn, 1) := by decide +kernel
theorem efoc (m : MethodId) (x0 : Int64) (x1 : Int32) : entryFrame m #[(.long x0), (.int x1)] 3 = mkF m 0 #[.val (.long x0), .second, .val (.int x1)] [] := by first | (simp [entryFrame, mkF, argsToLocals, Value.category, maxLocals]; done) | rfl
theorem pn_14 : plainFor (⟨"com/example/rowanport/rowanport/util/MailAddressesDomainPinLaw", "octet", "(JI)I"⟩ : MethodName) = true := by first | decide +kernel | (apply plainFor_of_name; simp [plainName, overriddenIn]; done)
set_option maxRecDepth 65536 in
set_option maxHeartbeats 40000000 in
theorem rmoc (l : Launch) (Z : State) (a0 : Array Value) (hw : ∀ d ∈ tables_1, d.before a0 Z = true) (p0 : Int64) (p1 : Int32) (h0 : Heap) (n0 : Nat) (Z0 : n0 ≤ h0.size)  :
    NMet l Z (⟨"com/example/rowanport/rowanport/util/MailAddressesDomainPinLaw", "octet", "(JI)I"⟩ : MethodName) method_2_code 3 (some .int) [] ({ frames := 0, cells := 0, slots := 0, locals := 0 } : Room) [(.long p0), (.int p1)] h0 n0 [] (fun v h => v = some (.int (own_oct p0 p1)) ∧ h0 = h) := by
  refine MetFree.of_bodySF pn_14 hisR ?_
  intro p e s m args below meth c s₁ Bd hml0 hP hK
  obtain ⟨rfl, hZ, hh⟩ := hP
  have hx := Bd.exec
  have hby := Bd.bytes
  have hml : c.maxLocals = 3 := hml0
  have hnm := (name_of_methodNamed Bd.named Bd.method).1
  have w0 := Wk.start (a0 := a0) (EL := []) (n0 := n0) (nw := true) Bd hZ hh EW.nil chv0 (efoc m p0 p1) ({ frames := 0, cells := 0, slots := 0, locals := 0 } : Room) rfl
  have K0 : Keep h0 h0 [] := Keep.refl _ _
  have w1 := w0.pure (mkF m 11 #[.val (.long p0), .second, .val (.int p1)] [(.int ((((p0.toUInt64 >>> (((8 : Int32) * p1) &&& 0x3f).toInt64.toUInt64).toInt64) &&& (255 : Int64)).toInt32))]) (fun X eT hZ hown k => by
      show Steps _ _ _ (State.setTop _ (mkF m 0 #[.val (.long p0), .second, .val (.int p1)] [])) _
      refine S.lloadN X.here hx (hb hby doc_0) rfl ?_
      refine S.bipush X.here hx (8 : Int32) (hb hby doc_1) rfl ?_
      refine S.iloadN X.here hx (hb hby doc_3) rfl ?_
      refine S.imul X.here hx (hb hby doc_4) ?_
      refine S.lushr X.here hx (hb hby doc_5) ?_
      refine X.ldc2J hx hown (mvT hZ (hw _ (List.mem_of_getElem? (i := 8) rfl))) rfl (hb hby doc_6) ?_
      show Steps _ _ _ (State.setTop _ (mkF m 9 #[.val (.long p0), .second, .val (.int p1)] [(.long (255 : Int64)), (.long ((p0.toUInt64 >>> (((8 : Int32) * p1) &&& 0x3f).toInt64.toUInt64).toInt64))])) _
      refine S.land X.here hx (hb hby doc_9) ?_
      refine S.l2i X.here hx (hb hby doc_10) ?_
      exact k)
  exact w1.endN (v := some (.int ((((p0.toUInt64 >>> (((8 : Int32) * p1) &&& 0x3f).toInt64.toUInt64).toInt64) &&& (255 : Int64)).toInt32))) (Q := (fun v h => v = some (.int (own_oct p0 p1)) ∧ h0 = h)) (wr := []) (h0 := h0) (fun h => by rw [Bd.returns] at h; cases h) Bd.notSynchronized (fun X hr => retI X hx Bd.returns (hb hby doc_11) hr) (by decide) (by decide) ⟨by simp only [own_oct], rfl⟩ K0
theorem pd_11 : parseMethodDescriptor "(I)C" = some ⟨[.int], some .char⟩ := by decide +kernel
theorem dcAT_0 : decode method_3_code 0 = .ok (.ldc 9, 2) := by decide +kernel
theorem dcAT_2 : decode method_3_code 2 = .ok (.astore_n 1, 1) := by decide +kernel
theorem dcAT_3 : decode method_3_code 3 = .ok (.aload_n 1, 1) := by decide +kernel
theorem dcAT_4 : decode method_3_code 4 = .ok (.iload_n 0, 1) := by decide +kernel
theorem dcAT_5 : decode method_3_code 5 = .ok (.bipush 127, 2) := by decide +kernel
theorem dcAT_7 : decode method_3_code 7 = .ok (.iand, 1) := by decide +kernel
theorem dcAT_8 : decode method_3_code 8 = .ok (.aload_n 1, 1) := by decide +kernel
theorem dcAT_9 : decode method_3_code 9 = .ok (.invokevirtual 11, 3) := by decide +kernel
theorem dcAT_12 : decode method_3_code 12 = .ok (.irem, 1) := by decide +kernel
theorem dcAT_13 : decode method_3_code 13 = .ok (.invokevirtual 17, 3) := by decide +kernel
theorem dcAT_16 : decode method_3_code 16 = .ok (.ireturn, 1) := by decide +kernel
theorem efcAT (m : MethodId) (x0 : Int32) : entryFrame m #[(.int x0)] 2 = mkF m 0 #[.val (.int x0), .unset] [] := by first | (simp [entryFrame, mkF, argsToLocals, Value.category, maxLocals]; done) | rfl
theorem pn_15 : plainFor (⟨"com/example/rowanport/rowanport/util/MailAddressesDomainPinLaw", "atom", "(I)C"⟩ : MethodName) = true := by first | decide +kernel | (apply plainFor_of_name; simp [plainName, overriddenIn]; done)
set_option maxRecDepth 65536 in
set_option maxHeartbeats 40000000 in
theorem rmcAT (l : Launch) (Z : State) (a0 : Array Value) (hw : ∀ d ∈ tables_1, d.before a0 Z = true) (hE : EW Z a0 consts_1) (p0 : Int32) (h0 : Heap) (n0 : Nat) (Z0 : n0 ≤ h0.size) (hG : SetsOk Z) (X0 : Old Z n0 h0) :
    WMetV l Z consts_1 (⟨"com/example/rowanport/rowanport/util/MailAddressesDomainPinLaw", "atom", "(I)C"⟩ : MethodName) method_3_code 2 (some .char) [] ({ frames := 4, cells := 2, slots := 328, locals := 53 } : Room) [(.int p0)] h0 n0 (fun _ => True) [] (fun v vm h => ∃ (c : Int32) (a : Nat), v = some (.int c) ∧ own_ok c ∧ LitV "com/example/rowanport/rowanport/util/MailAddressesDomainPinLaw" 9 a vm ∧ Str Z h a own_AT h.size) := by
  refine MetFree.of_bodySF pn_15 hisR ?_
  intro p e s m args below meth c s₁ Bd hml0 hP hK
  obtain ⟨rfl, hZ, hh, hC, hPV⟩ := hP
  have hx := Bd.exec
  have hby := Bd.bytes
  have hml : c.maxLocals = 2 := hml0
  have hnm := (name_of_methodNamed Bd.named Bd.method).1
  have w0 := Wk.start (a0 := a0) (EL := consts_1) (n0 := n0) (nw := false) Bd hZ hh hE hC (efcAT m p0) ({ frames := 4, cells := 2, slots := 328, locals := 53 } : Room) rfl
  have K0 : Keep h0 h0 [] := Keep.refl _ _
  have hS : ∀ d ∈ Bundle.stringAtoms, d.before a0 Z = true := fun d hd => hw d ((by decide +kernel : ∀ d ∈ Bundle.stringAtoms, d ∈ tables_1) d hd)
  have hq_lenW : ∀ d ∈ StrChars.Road.wordsLen, d.before a0 Z = true := fun d hd => hw d ((by decide +kernel : ∀ d ∈ StrChars.Road.wordsLen, d ∈ tables_1) d hd)
  have hq_chN : ∀ d ∈ StrChars.Road.wordsChN, d.before a0 Z = true := fun d hd => hw d ((by decide +kernel : ∀ d ∈ StrChars.Road.wordsChN, d ∈ tables_1) d hd)
  obtain ⟨b1, vm1, h1, t1, k1, E1, A1, F1c, F1v, V1, l1, m1, C1, LL, w1⟩ := w0.ldcCV hx (text := "ABCDEFGHIJKLMNOPQRSTUVWXYZabcdefghijklmnopqrstuvwxyz0123456789!#$%&'*+/=?^_`{|}~-") (hw _ (List.mem_of_getElem? (i := 12) rfl)) hS (List.mem_of_getElem? (i := 0) rfl) (z := (Int32.ofNat own_AT.length)) own_AT_t (by decide) (by decide) rfl (hb hby dcAT_0) 324 (by decide) (by decide) (by decide) (by decide) (fun xq => (mkF m 2 #[.val (.int p0), .unset] (.ref xq :: []))) (fun _ => rfl)
  have z1 := E1.1
  have K2 : Keep h0 h1 [] := K0.ext E1
  have S1 : Str Z h1 b1 own_AT h1.size := Str.of A1 F1v F1c V1 rfl rfl (fun c q => (own_AT_ok c q).1) (by decide) l1 m1
  have w3 := w1.pure (mkF m 9 #[.val (.int p0), .val (.ref b1)] [(.ref b1), (.int (p0 &&& (127 : Int32))), (.ref b1)]) (fun X eT hZ hown k => by
      show Steps _ _ _ (State.setTop _ (mkF m 2 #[.val (.int p0), .unset] [(.ref b1)])) _
      refine S.astoreN X.here hx (hb hby dcAT_2) rfl #[.val (.int p0), .val (.ref b1)] rfl ?_
      refine S.aloadN X.here hx (hb hby dcAT_3) rfl rfl ?_
      refine S.iloadN X.here hx (hb hby dcAT_4) rfl ?_
      refine S.bipush X.here hx (127 : Int32) (hb hby dcAT_5) rfl ?_
      refine S.iand X.here hx (hb hby dcAT_7) ?_
      refine S.aloadN X.here hx (hb hby dcAT_8) rfl rfl ?_
      exact k)
  have F4 := X0.ext E1
  obtain ⟨v5, h5, Q5, K5, z5, w5⟩ := w3.callV hx (C := "java/lang/String") (y := (⟨"java/lang/String", "length", "()I"⟩ : MethodName)) (z := (⟨"java/lang/String", "length", "()I"⟩ : MethodName)) (W := 2) (hw _ (List.mem_of_getElem? (i := 20) rfl)) (hw _ (List.mem_of_getElem? (i := 21) rfl)) (hw _ (List.mem_of_getElem? (i := 23) rfl)) (hw _ (List.mem_of_getElem? (i := 22) rfl)) (w3.nf (hw _ (List.mem_of_getElem? (i := 23) rfl))) (by decide) (payLen hG w3.hZ hq_lenW (hw _ (List.mem_of_getElem? (i := 14) rfl)) S1 F4 (by decide) (by decide)) S1.exa rfl (by rw [hml]; rfl) [(.int (p0 &&& (127 : Int32))), (.ref b1)] (lenOf pd_4 rfl) rfl (by show 2 * 0 + _ ≤ _; exact Nat.le_of_eq rfl) (hb hby dcAT_9) (by decide) (by decide) (fun _ q => nomatch q) (fun rv => (mkF m 12 #[.val (.int p0), .val (.ref b1)] (rv.toList ++ [(.int (p0 &&& (127 : Int32))), (.ref b1)]))) (fun _ => rfl)
  obtain ⟨rfl, rfl⟩ := Q5
  have w6 := w5.pure (mkF m 13 #[.val (.int p0), .val (.ref b1)] [(.int ((p0 &&& (127 : Int32)) % (81 : Int32))), (.ref b1)]) (fun X eT hZ hown k => by
      show Steps _ _ _ (State.setTop _ (mkF m 12 #[.val (.int p0), .val (.ref b1)] [(.int (81 : Int32)), (.int (p0 &&& (127 : Int32))), (.ref b1)])) _
      refine iremM X hx rfl (hb hby dcAT_12) rfl (by decide) ?_
      show Steps _ _ _ (State.setTop _ (mkF m 13 #[.val (.int p0), .val (.ref b1)] [(.int ((p0 &&& (127 : Int32)) % (81 : Int32))), (.ref b1)])) _
      exact k)
  obtain ⟨v7, h7, Q7, K7, z7, w7⟩ := w6.callV hx (C := "java/lang/String") (y := (⟨"java/lang/String", "charAt", "(I)C"⟩ : MethodName)) (z := (⟨"java/lang/String", "charAt", "(I)C"⟩ : MethodName)) (W := 0) (hw _ (List.mem_of_getElem? (i := 33) rfl)) (hw _ (List.mem_of_getElem? (i := 34) rfl)) (hw _ (List.mem_of_getElem? (i := 36) rfl)) (hw _ (List.mem_of_getElem? (i := 35) rfl)) (w6.nf (hw _ (List.mem_of_getElem? (i := 36) rfl))) (by decide) (payCh hG w6.hZ hq_chN (hw _ (List.mem_of_getElem? (i := 14) rfl)) S1 F4 ((p0 &&& (127 : Int32)) % (81 : Int32)).toNatClampNeg (own_rem 81 rfl (by decide) (by decide)).1 (own_rem 81 rfl (by decide) (by decide)).2 (by decide) (by decide)) S1.exa rfl (by rw [hml]; rfl) [] (lenOf pd_11 rfl) rfl (by show 2 * 0 + _ ≤ _; exact Nat.le_of_eq rfl) (hb hby dcAT_13) (by decide) (by decide) (fun _ q => nomatch q) (fun rv => (mkF m 16 #[.val (.int p0), .val (.ref b1)] (rv.toList ++ []))) (fun _ => rfl)
  obtain ⟨rfl, rfl⟩ := Q7
  exact w7.endV (v := some (.int (nar .char (own_AT.getD ((p0 &&& (127 : Int32)) % (81 : Int32)).toNatClampNeg 0)))) (Q := (fun v vm h => ∃ (c : Int32) (a : Nat), v = some (.int c) ∧ own_ok c ∧ LitV "com/example/rowanport/rowanport/util/MailAddressesDomainPinLaw" 9 a vm ∧ Str Z h a own_AT h.size)) (wr := []) (h0 := h0) (fun h => by rw [Bd.returns] at h; cases h) Bd.notSynchronized (fun X hr => retN X hx (t := .char) Bd.returns (by simp) (hb hby dcAT_16) hr) (by decide) (by decide) (fun vmx hvx => ⟨(own_AT.getD ((p0 &&& (127 : Int32)) % (81 : Int32)).toNatClampNeg 0), b1, by rw [nar_rng (own_getD_ok own_AT_ok _).1], (own_getD_ok own_AT_ok _), LitV.stays LL hvx, S1.more (by omega)⟩) K2
theorem dwAT_0 : decode method_3_code 0 = .ok (.ldc 9, 2) := by decide +kernel
theorem dwAT_2 : decode method_3_code 2 = .ok (.astore_n 1, 1) := by decide +kernel
theorem dwAT_3 : decode method_3_code 3 = .ok (.aload_n 1, 1) := by decide +kernel
theorem dwAT_4 : decode method_3_code 4 = .ok (.iload_n 0, 1) := by decide +kernel
theorem dwAT_5 : decode method_3_code 5 = .ok (.bipush 127, 2) := by decide +kernel
theorem dwAT_7 : decode method_3_code 7 = .ok (.iand, 1) := by decide +kernel
theorem dwAT_8 : decode method_3_code 8 = .ok (.aload_n 1, 1) := by decide +kernel
theorem dwAT_9 : decode method_3_code 9 = .ok (.invokevirtual 11, 3) := by decide +kernel
theorem dwAT_12 : decode method_3_code 12 = .ok (.irem, 1) := by decide +kernel
theorem dwAT_13 : decode method_3_code 13 = .ok (.invokevirtual 17, 3) := by decide +kernel
theorem dwAT_16 : decode method_3_code 16 = .ok (.ireturn, 1) := by decide +kernel
theorem efwAT (m : MethodId) (x0 : Int32) : entryFrame m #[(.int x0)] 2 = mkF m 0 #[.val (.int x0), .unset] [] := by first | (simp [entryFrame, mkF, argsToLocals, Value.category, maxLocals]; done) | rfl
set_option maxRecDepth 65536 in
set_option maxHeartbeats 40000000 in
theorem rmwAT (l : Launch) (Z : State) (a0 : Array Value) (hw : ∀ d ∈ tables_1, d.before a0 Z = true) (hE : EW Z a0 consts_1) (p0 : Int32) (a b : Nat) (h0 : Heap) (n0 : Nat) (Z0 : n0 ≤ h0.size) (hG : SetsOk Z) (X0 : Old Z n0 h0) (Sa : Str Z h0 a own_AT b) :
    WMetV l Z consts_1 (⟨"com/example/rowanport/rowanport/util/MailAddressesDomainPinLaw", "atom", "(I)C"⟩ : MethodName) method_3_code 2 (some .char) [] ({ frames := 4, cells := 0, slots := 0, locals := 53 } : Room) [(.int p0)] h0 n0 (LitV "com/example/rowanport/rowanport/util/MailAddressesDomainPinLaw" 9 a) [] (fun v vm h => ∃ c : Int32, v = some (.int c) ∧ own_ok c ∧ h0 = h) := by
  refine MetFree.of_bodySF pn_15 hisR ?_
  intro p e s m args below meth c s₁ Bd hml0 hP hK
  obtain ⟨rfl, hZ, hh, hC, hPV⟩ := hP
  have hx := Bd.exec
  have hby := Bd.bytes
  have hml : c.maxLocals = 2 := hml0
  have hnm := (name_of_methodNamed Bd.named Bd.method).1
  have w0 := Wk.start (a0 := a0) (EL := consts_1) (n0 := n0) (nw := false) Bd hZ hh hE hC (efwAT m p0) ({ frames := 4, cells := 0, slots := 0, locals := 53 } : Room) rfl
  have K0 : Keep h0 h0 [] := Keep.refl _ _
  have lt_Sa := Sa.lt
  have hq_lenW : ∀ d ∈ StrChars.Road.wordsLen, d.before a0 Z = true := fun d hd => hw d ((by decide +kernel : ∀ d ∈ StrChars.Road.wordsLen, d ∈ tables_1) d hd)
  have hq_chN : ∀ d ∈ StrChars.Road.wordsChN, d.before a0 Z = true := fun d hd => hw d ((by decide +kernel : ∀ d ∈ StrChars.Road.wordsChN, d ∈ tables_1) d hd)
  have w1 := w0.ldcAg hx (hw _ (List.mem_of_getElem? (i := 12) rfl)) hPV rfl (hb hby dwAT_0) (mkF m 2 #[.val (.int p0), .unset] [(.ref a)]) rfl
  have w2 := w1.pure (mkF m 9 #[.val (.int p0), .val (.ref a)] [(.ref a), (.int (p0 &&& (127 : Int32))), (.ref a)]) (fun X eT hZ hown k => by
      show Steps _ _ _ (State.setTop _ (mkF m 2 #[.val (.int p0), .unset] [(.ref a)])) _
      refine S.astoreN X.here hx (hb hby dwAT_2) rfl #[.val (.int p0), .val (.ref a)] rfl ?_
      refine S.aloadN X.here hx (hb hby dwAT_3) rfl rfl ?_
      refine S.iloadN X.here hx (hb hby dwAT_4) rfl ?_
      refine S.bipush X.here hx (127 : Int32) (hb hby dwAT_5) rfl ?_
      refine S.iand X.here hx (hb hby dwAT_7) ?_
      refine S.aloadN X.here hx (hb hby dwAT_8) rfl rfl ?_
      exact k)
  obtain ⟨v3, h3, Q3, K3, z3, w3⟩ := w2.callV hx (C := "java/lang/String") (y := (⟨"java/lang/String", "length", "()I"⟩ : MethodName)) (z := (⟨"java/lang/String", "length", "()I"⟩ : MethodName)) (W := 2) (hw _ (List.mem_of_getElem? (i := 20) rfl)) (hw _ (List.mem_of_getElem? (i := 21) rfl)) (hw _ (List.mem_of_getElem? (i := 23) rfl)) (hw _ (List.mem_of_getElem? (i := 22) rfl)) (w2.nf (hw _ (List.mem_of_getElem? (i := 23) rfl))) (by decide) (payLen hG w2.hZ hq_lenW (hw _ (List.mem_of_getElem? (i := 14) rfl)) Sa X0 (by decide) (by decide)) Sa.exa rfl (by rw [hml]; rfl) [(.int (p0 &&& (127 : Int32))), (.ref a)] (lenOf pd_4 rfl) rfl (by show 2 * 0 + _ ≤ _; exact Nat.le_of_eq rfl) (hb hby dwAT_9) (by decide) (by decide) (fun _ q => nomatch q) (fun rv => (mkF m 12 #[.val (.int p0), .val (.ref a)] (rv.toList ++ [(.int (p0 &&& (127 : Int32))), (.ref a)]))) (fun _ => rfl)
  obtain ⟨rfl, rfl⟩ := Q3
  have w4 := w3.pure (mkF m 13 #[.val (.int p0), .val (.ref a)] [(.int ((p0 &&& (127 : Int32)) % (81 : Int32))), (.ref a)]) (fun X eT hZ hown k => by
      show Steps _ _ _ (State.setTop _ (mkF m 12 #[.val (.int p0), .val (.ref a)] [(.int (81 : Int32)), (.int (p0 &&& (127 : Int32))), (.ref a)])) _
      refine iremM X hx rfl (hb hby dwAT_12) rfl (by decide) ?_
      show Steps _ _ _ (State.setTop _ (mkF m 13 #[.val (.int p0), .val (.ref a)] [(.int ((p0 &&& (127 : Int32)) % (81 : Int32))), (.ref a)])) _
      exact k)
  obtain ⟨v5, h5, Q5, K5, z5, w5⟩ := w4.callV hx (C := "java/lang/String") (y := (⟨"java/lang/String", "charAt", "(I)C"⟩ : MethodName)) (z := (⟨"java/lang/String", "charAt", "(I)C"⟩ : MethodName)) (W := 0) (hw _ (List.mem_of_getElem? (i := 33) rfl)) (hw _ (List.mem_of_getElem? (i := 34) rfl)) (hw _ (List.mem_of_getElem? (i := 36) rfl)) (hw _ (List.mem_of_getElem? (i := 35) rfl)) (w4.nf (hw _ (List.mem_of_getElem? (i := 36) rfl))) (by decide) (payCh hG w4.hZ hq_chN (hw _ (List.mem_of_getElem? (i := 14) rfl)) Sa X0 ((p0 &&& (127 : Int32)) % (81 : Int32)).toNatClampNeg (own_rem 81 rfl (by decide) (by decide)).1 (own_rem 81 rfl (by decide) (by decide)).2 (by decide) (by decide)) Sa.exa rfl (by rw [hml]; rfl) [] (lenOf pd_11 rfl) rfl (by show 2 * 0 + _ ≤ _; exact Nat.le_of_eq rfl) (hb hby dwAT_13) (by decide) (by decide) (fun _ q => nomatch q) (fun rv => (mkF m 16 #[.val (.int p0), .val (.ref a)] (rv.toList ++ []))) (fun _ => rfl)
  obtain ⟨rfl, rfl⟩ := Q5
  exact w5.endV (v := some (.int (nar .char (own_AT.getD ((p0 &&& (127 : Int32)) % (81 : Int32)).toNatClampNeg 0)))) (Q := (fun v vm h => ∃ c : Int32, v = some (.int c) ∧ own_ok c ∧ h0 = h)) (wr := []) (h0 := h0) (fun h => by rw [Bd.returns] at h; cases h) Bd.notSynchronized (fun X hr => retN X hx (t := .char) Bd.returns (by simp) (hb hby dwAT_16) hr) (by decide) (by decide) (fun vmx hvx => ⟨(own_AT.getD ((p0 &&& (127 : Int32)) % (81 : Int32)).toNatClampNeg 0), by rw [nar_rng (own_getD_ok own_AT_ok _).1], (own_getD_ok own_AT_ok _), rfl⟩) K0
theorem dcAL_0 : decode method_4_code 0 = .ok (.ldc 21, 2) := by decide +kernel
theorem dcAL_2 : decode method_4_code 2 = .ok (.astore_n 1, 1) := by decide +kernel
theorem dcAL_3 : decode method_4_code 3 = .ok (.aload_n 1, 1) := by decide +kernel
theorem dcAL_4 : decode method_4_code 4 = .ok (.iload_n 0, 1) := by decide +kernel
theorem dcAL_5 : decode method_4_code 5 = .ok (.bipush 127, 2) := by decide +kernel
theorem dcAL_7 : decode method_4_code 7 = .ok (.iand, 1) := by decide +kernel
theorem dcAL_8 : decode method_4_code 8 = .ok (.aload_n 1, 1) := by decide +kernel
theorem dcAL_9 : decode method_4_code 9 = .ok (.invokevirtual 11, 3) := by decide +kernel
theorem dcAL_12 : decode method_4_code 12 = .ok (.irem, 1) := by decide +kernel
theorem dcAL_13 : decode method_4_code 13 = .ok (.invokevirtual 17, 3) := by decide +kernel
theorem dcAL_16 : decode method_4_code 16 = .ok (.ireturn, 1) := by decide +kernel
theorem efcAL (m : MethodId) (x0 : Int32) : entryFrame m #[(.int x0)] 2 = mkF m 0 #[.val (.int x0), .unset] [] := by first | (simp [entryFrame, mkF, argsToLocals, Value.category, maxLocals]; done) | rfl
theorem pn_16 : plainFor (⟨"com/example/rowanport/rowanport/util/MailAddressesDomainPinLaw", "alnum", "(I)C"⟩ : MethodName) = true := by first | decide +kernel | (apply plainFor_of_name; simp [plainName, overriddenIn]; done)
set_option maxRecDepth 65536 in
set_option maxHeartbeats 40000000 in
theorem rmcAL (l : Launch) (Z : State) (a0 : Array Value) (hw : ∀ d ∈ tables_1, d.before a0 Z = true) (hE : EW Z a0 consts_1) (p0 : Int32) (h0 : Heap) (n0 : Nat) (Z0 : n0 ≤ h0.size) (hG : SetsOk Z) (X0 : Old Z n0 h0) :
    WMetV l Z consts_1 (⟨"com/example/rowanport/rowanport/util/MailAddressesDomainPinLaw", "alnum", "(I)C"⟩ : MethodName) method_4_code 2 (some .char) [] ({ frames := 4, cells := 2, slots := 252, locals := 53 } : Room) [(.int p0)] h0 n0 (fun _ => True) [] (fun v vm h => ∃ (c : Int32) (a : Nat), v = some (.int c) ∧ own_ok c ∧ LitV "com/example/rowanport/rowanport/util/MailAddressesDomainPinLaw" 21 a vm ∧ Str Z h a own_AL h.size) := by
  refine MetFree.of_bodySF pn_16 hisR ?_
  intro p e s m args below meth c s₁ Bd hml0 hP hK
  obtain ⟨rfl, hZ, hh, hC, hPV⟩ := hP
  have hx := Bd.exec
  have hby := Bd.bytes
  have hml : c.maxLocals = 2 := hml0
  have hnm := (name_of_methodNamed Bd.named Bd.method).1
  have w0 := Wk.start (a0 := a0) (EL := consts_1) (n0 := n0) (nw := false) Bd hZ hh hE hC (efcAL m p0) ({ frames := 4, cells := 2, slots := 252, locals := 53 } : Room) rfl
  have K0 : Keep h0 h0 [] := Keep.refl _ _
  have hS : ∀ d ∈ Bundle.stringAtoms, d.before a0 Z = true := fun d hd => hw d ((by decide +kernel : ∀ d ∈ Bundle.stringAtoms, d ∈ tables_1) d hd)
  have hq_lenW : ∀ d ∈ StrChars.Road.wordsLen, d.before a0 Z = true := fun d hd => hw d ((by decide +kernel : ∀ d ∈ StrChars.Road.wordsLen, d ∈ tables_1) d hd)
  have hq_chN : ∀ d ∈ StrChars.Road.wordsChN, d.before a0 Z = true := fun d hd => hw d ((by decide +kernel : ∀ d ∈ StrChars.Road.wordsChN, d ∈ tables_1) d hd)
  obtain ⟨b1, vm1, h1, t1, k1, E1, A1, F1c, F1v, V1, l1, m1, C1, LL, w1⟩ := w0.ldcCV hx (text := "ABCDEFGHIJKLMNOPQRSTUVWXYZabcdefghijklmnopqrstuvwxyz0123456789") (hw _ (List.mem_of_getElem? (i := 61) rfl)) hS (List.mem_of_getElem? (i := 1) rfl) (z := (Int32.ofNat own_AL.length)) own_AL_t (by decide) (by decide) rfl (hb hby dcAL_0) 248 (by decide) (by decide) (by decide) (by decide) (fun xq => (mkF m 2 #[.val (.int p0), .unset] (.ref xq :: []))) (fun _ => rfl)
  have z1 := E1.1
  have K2 : Keep h0 h1 [] := K0.ext E1
  have S1 : Str Z h1 b1 own_AL h1.size := Str.of A1 F1v F1c V1 rfl rfl (fun c q => (own_AL_ok c q).1) (by decide) l1 m1
  have w3 := w1.pure (mkF m 9 #[.val (.int p0), .val (.ref b1)] [(.ref b1), (.int (p0 &&& (127 : Int32))), (.ref b1)]) (fun X eT hZ hown k => by
      show Steps _ _ _ (State.setTop _ (mkF m 2 #[.val (.int p0), .unset] [(.ref b1)])) _
      refine S.astoreN X.here hx (hb hby dcAL_2) rfl #[.val (.int p0), .val (.ref b1)] rfl ?_
      refine S.aloadN X.here hx (hb hby dcAL_3) rfl rfl ?_
      refine S.iloadN X.here hx (hb hby dcAL_4) rfl ?_
      refine S.bipush X.here hx (127 : Int32) (hb hby dcAL_5) rfl ?_
      refine S.iand X.here hx (hb hby dcAL_7) ?_
      refine S.aloadN X.here hx (hb hby dcAL_8) rfl rfl ?_
      exact k)
  have F4 := X0.ext E1
  obtain ⟨v5, h5, Q5, K5, z5, w5⟩ := w3.callV hx (C := "java/lang/String") (y := (⟨"java/lang/String", "length", "()I"⟩ : MethodName)) (z := (⟨"java/lang/String", "length", "()I"⟩ : MethodName)) (W := 2) (hw _ (List.mem_of_getElem? (i := 20) rfl)) (hw _ (List.mem_of_getElem? (i := 21) rfl)) (hw _ (List.mem_of_getElem? (i := 23) rfl)) (hw _ (List.mem_of_getElem? (i := 22) rfl)) (w3.nf (hw _ (List.mem_of_getElem? (i := 23) rfl))) (by decide) (payLen hG w3.hZ hq_lenW (hw _ (List.mem_of_getElem? (i := 14) rfl)) S1 F4 (by decide) (by decide)) S1.exa rfl (by rw [hml]; rfl) [(.int (p0 &&& (127 : Int32))), (.ref b1)] (lenOf pd_4 rfl) rfl (by show 2 * 0 + _ ≤ _; exact Nat.le_of_eq rfl) (hb hby dcAL_9) (by decide) (by decide) (fun _ q => nomatch q) (fun rv => (mkF m 12 #[.val (.int p0), .val (.ref b1)] (rv.toList ++ [(.int (p0 &&& (127 : Int32))), (.ref b1)]))) (fun _ => rfl)
  obtain ⟨rfl, rfl⟩ := Q5
  have w6 := w5.pure (mkF m 13 #[.val (.int p0), .val (.ref b1)] [(.int ((p0 &&& (127 : Int32)) % (62 : Int32))), (.ref b1)]) (fun X eT hZ hown k => by
      show Steps _ _ _ (State.setTop _ (mkF m 12 #[.val (.int p0), .val (.ref b1)] [(.int (62 : Int32)), (.int (p0 &&& (127 : Int32))), (.ref b1)])) _
      refine iremM X hx rfl (hb hby dcAL_12) rfl (by decide) ?_
      show Steps _ _ _ (State.setTop _ (mkF m 13 #[.val (.int p0), .val (.ref b1)] [(.int ((p0 &&& (127 : Int32)) % (62 : Int32))), (.ref b1)])) _
      exact k)
  obtain ⟨v7, h7, Q7, K7, z7, w7⟩ := w6.callV hx (C := "java/lang/String") (y := (⟨"java/lang/String", "charAt", "(I)C"⟩ : MethodName)) (z := (⟨"java/lang/String", "charAt", "(I)C"⟩ : MethodName)) (W := 0) (hw _ (List.mem_of_getElem? (i := 33) rfl)) (hw _ (List.mem_of_getElem? (i := 34) rfl)) (hw _ (List.mem_of_getElem? (i := 36) rfl)) (hw _ (List.mem_of_getElem? (i := 35) rfl)) (w6.nf (hw _ (List.mem_of_getElem? (i := 36) rfl))) (by decide) (payCh hG w6.hZ hq_chN (hw _ (List.mem_of_getElem? (i := 14) rfl)) S1 F4 ((p0 &&& (127 : Int32)) % (62 : Int32)).toNatClampNeg (own_rem 62 rfl (by decide) (by decide)).1 (own_rem 62 rfl (by decide) (by decide)).2 (by decide) (by decide)) S1.exa rfl (by rw [hml]; rfl) [] (lenOf pd_11 rfl) rfl (by show 2 * 0 + _ ≤ _; exact Nat.le_of_eq rfl) (hb hby dcAL_13) (by decide) (by decide) (fun _ q => nomatch q) (fun rv => (mkF m 16 #[.val (.int p0), .val (.ref b1)] (rv.toList ++ []))) (fun _ => rfl)
  obtain ⟨rfl, rfl⟩ := Q7
  exact w7.endV (v := some (.int (nar .char (own_AL.getD ((p0 &&& (127 : Int32)) % (62 : Int32)).toNatClampNeg 0)))) (Q := (fun v vm h => ∃ (c : Int32) (a : Nat), v = some (.int c) ∧ own_ok c ∧ LitV "com/example/rowanport/rowanport/util/MailAddressesDomainPinLaw" 21 a vm ∧ Str Z h a own_AL h.size)) (wr := []) (h0 := h0) (fun h => by rw [Bd.returns] at h; cases h) Bd.notSynchronized (fun X hr => retN X hx (t := .char) Bd.returns (by simp) (hb hby dcAL_16) hr) (by decide) (by decide) (fun vmx hvx => ⟨(own_AL.getD ((p0 &&& (127 : Int32)) % (62 : Int32)).toNatClampNeg 0), b1, by rw [nar_rng (own_getD_ok own_AL_ok _).1], (own_getD_ok own_AL_ok _), LitV.stays LL hvx, S1.more (by omega)⟩) K2
theorem dwAL_0 : decode method_4_code 0 = .ok (.ldc 21, 2) := by decide +kernel
theorem dwAL_2 : decode method_4_code 2 = .ok (.astore_n 1, 1) := by decide +kernel
theorem dwAL_3 : decode method_4_code 3 = .ok (.aload_n 1, 1) := by decide +kernel
theorem dwAL_4 : decode method_4_code 4 = .ok (.iload_n 0, 1) := by decide +kernel
theorem dwAL_5 : decode method_4_code 5 = .ok (.bipush 127, 2) := by decide +kernel
theorem dwAL_7 : decode method_4_code 7 = .ok (.iand, 1) := by decide +kernel
theorem dwAL_8 : decode method_4_code 8 = .ok (.aload_n 1, 1) := by decide +kernel
theorem dwAL_9 : decode method_4_code 9 = .ok (.invokevirtual 11, 3) := by decide +kernel
theorem dwAL_12 : decode method_4_code 12 = .ok (.irem, 1) := by decide +kernel
theorem dwAL_13 : decode method_4_code 13 = .ok (.invokevirtual 17, 3) := by decide +kernel
theorem dwAL_16 : decode method_4_code 16 = .ok (.ireturn, 1) := by decide +kernel
theorem efwAL (m : MethodId) (x0 : Int32) : entryFrame m #[(.int x0)] 2 = mkF m 0 #[.val (.int x0), .unset] [] := by first | (simp [entryFrame, mkF, argsToLocals, Value.category, maxLocals]; done) | rfl
set_option maxRecDepth 65536 in
set_option maxHeartbeats 40000000 in
theorem rmwAL (l : Launch) (Z : State) (a0 : Array Value) (hw : ∀ d ∈ tables_1, d.before a0 Z = true) (hE : EW Z a0 consts_1) (p0 : Int32) (a b : Nat) (h0 : Heap) (n0 : Nat) (Z0 : n0 ≤ h0.size) (hG : SetsOk Z) (X0 : Old Z n0 h0) (Sa : Str Z h0 a own_AL b) :
    WMetV l Z consts_1 (⟨"com/example/rowanport/rowanport/util/MailAddressesDomainPinLaw", "alnum", "(I)C"⟩ : MethodName) method_4_code 2 (some .char) [] ({ frames := 4, cells := 0, slots := 0, locals := 53 } : Room) [(.int p0)] h0 n0 (LitV "com/example/rowanport/rowanport/util/MailAddressesDomainPinLaw" 21 a) [] (fun v vm h => ∃ c : Int32, v = some (.int c) ∧ own_ok c ∧ h0 = h) := by
  refine MetFree.of_bodySF pn_16 hisR ?_
  intro p e s m args below meth c s₁ Bd hml0 hP hK
  obtain ⟨rfl, hZ, hh, hC, hPV⟩ := hP
  have hx := Bd.exec
  have hby := Bd.bytes
  have hml : c.maxLocals = 2 := hml0
  have hnm := (name_of_methodNamed Bd.named Bd.method).1
  have w0 := Wk.start (a0 := a0) (EL := consts_1) (n0 := n0) (nw := false) Bd hZ hh hE hC (efwAL m p0) ({ frames := 4, cells := 0, slots := 0, locals := 53 } : Room) rfl
  have K0 : Keep h0 h0 [] := Keep.refl _ _
  have lt_Sa := Sa.lt
  have hq_lenW : ∀ d ∈ StrChars.Road.wordsLen, d.before a0 Z = true := fun d hd => hw d ((by decide +kernel : ∀ d ∈ StrChars.Road.wordsLen, d ∈ tables_1) d hd)
  have hq_chN : ∀ d ∈ StrChars.Road.wordsChN, d.before a0 Z = true := fun d hd => hw d ((by decide +kernel : ∀ d ∈ StrChars.Road.wordsChN, d ∈ tables_1) d hd)
  have w1 := w0.ldcAg hx (hw _ (List.mem_of_getElem? (i := 61) rfl)) hPV rfl (hb hby dwAL_0) (mkF m 2 #[.val (.int p0), .unset] [(.ref a)]) rfl
  have w2 := w1.pure (mkF m 9 #[.val (.int p0), .val (.ref a)] [(.ref a), (.int (p0 &&& (127 : Int32))), (.ref a)]) (fun X eT hZ hown k => by
      show Steps _ _ _ (State.setTop _ (mkF m 2 #[.val (.int p0), .unset] [(.ref a)])) _
      refine S.astoreN X.here hx (hb hby dwAL_2) rfl #[.val (.int p0), .val (.ref a)] rfl ?_
      refine S.aloadN X.here hx (hb hby dwAL_3) rfl rfl ?_
      refine S.iloadN X.here hx (hb hby dwAL_4) rfl ?_
      refine S.bipush X.here hx (127 : Int32) (hb hby dwAL_5) rfl ?_
      refine S.iand X.here hx (hb hby dwAL_7) ?_
      refine S.aloadN X.here hx (hb hby dwAL_8) rfl rfl ?_
      exact k)
  obtain ⟨v3, h3, Q3, K3, z3, w3⟩ := w2.callV hx (C := "java/lang/String") (y := (⟨"java/lang/String", "length", "()I"⟩ : MethodName)) (z := (⟨"java/lang/String", "length", "()I"⟩ : MethodName)) (W := 2) (hw _ (List.mem_of_getElem? (i := 20) rfl)) (hw _ (List.mem_of_getElem? (i := 21) rfl)) (hw _ (List.mem_of_getElem? (i := 23) rfl)) (hw _ (List.mem_of_getElem? (i := 22) rfl)) (w2.nf (hw _ (List.mem_of_getElem? (i := 23) rfl))) (by decide) (payLen hG w2.hZ hq_lenW (hw _ (List.mem_of_getElem? (i := 14) rfl)) Sa X0 (by decide) (by decide)) Sa.exa rfl (by rw [hml]; rfl) [(.int (p0 &&& (127 : Int32))), (.ref a)] (lenOf pd_4 rfl) rfl (by show 2 * 0 + _ ≤ _; exact Nat.le_of_eq rfl) (hb hby dwAL_9) (by decide) (by decide) (fun _ q => nomatch q) (fun rv => (mkF m 12 #[.val (.int p0), .val (.ref a)] (rv.toList ++ [(.int (p0 &&& (127 : Int32))), (.ref a)]))) (fun _ => rfl)
  obtain ⟨rfl, rfl⟩ := Q3
  have w4 := w3.pure (mkF m 13 #[.val (.int p0), .val (.ref a)] [(.int ((p0 &&& (127 : Int32)) % (62 : Int32))), (.ref a)]) (fun X eT hZ hown k => by
      show Steps _ _ _ (State.setTop _ (mkF m 12 #[.val (.int p0), .val (.ref a)] [(.int (62 : Int32)), (.int (p0 &&& (127 : Int32))), (.ref a)])) _
      refine iremM X hx rfl (hb hby dwAL_12) rfl (by decide) ?_
      show Steps _ _ _ (State.setTop _ (mkF m 13 #[.val (.int p0), .val (.ref a)] [(.int ((p0 &&& (127 : Int32)) % (62 : Int32))), (.ref a)])) _
      exact k)
  obtain ⟨v5, h5, Q5, K5, z5, w5⟩ := w4.callV hx (C := "java/lang/String") (y := (⟨"java/lang/String", "charAt", "(I)C"⟩ : MethodName)) (z := (⟨"java/lang/String", "charAt", "(I)C"⟩ : MethodName)) (W := 0) (hw _ (List.mem_of_getElem? (i := 33) rfl)) (hw _ (List.mem_of_getElem? (i := 34) rfl)) (hw _ (List.mem_of_getElem? (i := 36) rfl)) (hw _ (List.mem_of_getElem? (i := 35) rfl)) (w4.nf (hw _ (List.mem_of_getElem? (i := 36) rfl))) (by decide) (payCh hG w4.hZ hq_chN (hw _ (List.mem_of_getElem? (i := 14) rfl)) Sa X0 ((p0 &&& (127 : Int32)) % (62 : Int32)).toNatClampNeg (own_rem 62 rfl (by decide) (by decide)).1 (own_rem 62 rfl (by decide) (by decide)).2 (by decide) (by decide)) Sa.exa rfl (by rw [hml]; rfl) [] (lenOf pd_11 rfl) rfl (by show 2 * 0 + _ ≤ _; exact Nat.le_of_eq rfl) (hb hby dwAL_13) (by decide) (by decide) (fun _ q => nomatch q) (fun rv => (mkF m 16 #[.val (.int p0), .val (.ref a)] (rv.toList ++ []))) (fun _ => rfl)
  obtain ⟨rfl, rfl⟩ := Q5
  exact w5.endV (v := some (.int (nar .char (own_AL.getD ((p0 &&& (127 : Int32)) % (62 : Int32)).toNatClampNeg 0)))) (Q := (fun v vm h => ∃ c : Int32, v = some (.int c) ∧ own_ok c ∧ h0 = h)) (wr := []) (h0 := h0) (fun h => by rw [Bd.returns] at h; cases h) Bd.notSynchronized (fun X hr => retN X hx (t := .char) Bd.returns (by simp) (hb hby dwAL_16) hr) (by decide) (by decide) (fun vmx hvx => ⟨(own_AL.getD ((p0 &&& (127 : Int32)) % (62 : Int32)).toNatClampNeg 0), by rw [nar_rng (own_getD_ok own_AL_ok _).1], (own_getD_ok own_AL_ok _), rfl⟩) K0
theorem pd_12 : parseMethodDescriptor "(JI)I" = some ⟨[.long, .int], some .int⟩ := by decide +kernel
theorem dkAT_0 : decode method_6_code 0 = .ok (.lload_n 0, 1) := by decide +kernel
theorem dkAT_1 : decode method_6_code 1 = .ok (.iload_n 2, 1) := by decide +kernel
theorem dkAT_2 : decode method_6_code 2 = .ok (.invokestatic 23, 3) := by decide +kernel
theorem dkAT_5 : decode method_6_code 5 = .ok (.istore 4, 2) := by decide +kernel
theorem dkAT_7 : decode method_6_code 7 = .ok (.iload_n 2, 1) := by decide +kernel
theorem dkAT_8 : decode method_6_code 8 = .ok (.ifCond .le 22, 3) := by decide +kernel
theorem dkAT_30 : decode method_6_code 30 = .ok (.iload 4, 2) := by decide +kernel
theorem dkAT_32 : decode method_6_code 32 = .ok (.invokestatic 29, 3) := by decide +kernel
theorem dkAT_35 : decode method_6_code 35 = .ok (.ireturn, 1) := by decide +kernel
theorem efkAT (m : MethodId) (x0 : Int64) (x1 : Int32) (x2 : Int32) : entryFrame m #[(.long x0), (.int x1), (.int x2)] 5 = mkF m 0 #[.val (.long x0), .second, .val (.int x1), .val (.int x2), .unset] [] := by first | (simp [entryFrame, mkF, argsToLocals, Value.category, maxLocals]; done) | rfl
theorem pn_17 : plainFor (⟨"com/example/rowanport/rowanport/util/MailAddressesDomainPinLaw", "localChar", "(JII)C"⟩ : MethodName) = true := by first | decide +kernel | (apply plainFor_of_name; simp [plainName, overriddenIn]; done)
set_option maxRecDepth 65536 in
set_option maxHeartbeats 40000000 in
theorem rmkAT (l : Launch) (Z : State) (a0 : Array Value) (hw : ∀ d ∈ tables_1, d.before a0 Z = true) (hE : EW Z a0 consts_1) (p0 : Int64) (p2 : Int32) (h0 : Heap) (n0 : Nat) (Z0 : n0 ≤ h0.size) (hG : SetsOk Z) (X0 : Old Z n0 h0) :
    WMetV l Z consts_1 (⟨"com/example/rowanport/rowanport/util/MailAddressesDomainPinLaw", "localChar", "(JII)C"⟩ : MethodName) method_6_code 5 (some .char) [] ({ frames := 5, cells := 2, slots := 328, locals := 66 } : Room) [(.long p0), (.int (0 : Int32)), (.int p2)] h0 n0 (fun _ => True) [] (fun v vm h => ∃ (c : Int32) (a : Nat), v = some (.int c) ∧ own_ok c ∧ LitV "com/example/rowanport/rowanport/util/MailAddressesDomainPinLaw" 9 a vm ∧ Str Z h a own_AT h.size) := by
  refine MetFree.of_bodySF pn_17 hisR ?_
  intro p e s m args below meth c s₁ Bd hml0 hP hK
  obtain ⟨rfl, hZ, hh, hC, hPV⟩ := hP
  have hx := Bd.exec
  have hby := Bd.bytes
  have hml : c.maxLocals = 5 := hml0
  have hnm := (name_of_methodNamed Bd.named Bd.method).1
  have w0 := Wk.start (a0 := a0) (EL := consts_1) (n0 := n0) (nw := false) Bd hZ hh hE hC (efkAT m p0 (0 : Int32) p2) ({ frames := 5, cells := 2, slots := 328, locals := 66 } : Room) rfl
  have K0 : Keep h0 h0 [] := Keep.refl _ _
  have w1 := w0.pure (mkF m 2 #[.val (.long p0), .second, .val (.int (0 : Int32)), .val (.int p2), .unset] [(.int (0 : Int32)), (.long p0)]) (fun X eT hZ hown k => by
      show Steps _ _ _ (State.setTop _ (mkF m 0 #[.val (.long p0), .second, .val (.int (0 : Int32)), .val (.int p2), .unset] [])) _
      refine S.lloadN X.here hx (hb hby dkAT_0) rfl ?_
      refine S.iloadN X.here hx (hb hby dkAT_1) rfl ?_
      exact k)
  obtain ⟨v2, h2, Q2, K2, z2, w2⟩ := w1.callS hx (y := (⟨"com/example/rowanport/rowanport/util/MailAddressesDomainPinLaw", "octet", "(JI)I"⟩ : MethodName)) (W := 0) (hw _ (List.mem_of_getElem? (i := 5) rfl)) (hw _ (List.mem_of_getElem? (i := 6) rfl)) (hw _ (List.mem_of_getElem? (i := 3) rfl)) (hw _ (List.mem_of_getElem? (i := 7) rfl)) (by decide) ((rmoc l Z a0 hw p0 (0 : Int32) h0 n0 (by omega)).pay w1.hZ (hw _ (List.mem_of_getElem? (i := 7) rfl)) (hw _ (List.mem_of_getElem? (i := 3) rfl)) (by decide) (by decide)) rfl (by rw [hml]; rfl) [] (lenOf pd_12 rfl) rfl (by show 2 * 0 + _ ≤ _; exact Nat.le_of_eq rfl) (hb hby dkAT_2) (by decide) (by decide) (fun _ q => nomatch q) (fun rv => (mkF m 5 #[.val (.long p0), .second, .val (.int (0 : Int32)), .val (.int p2), .unset] (rv.toList ++ []))) (fun _ => rfl)
  obtain ⟨rfl, rfl⟩ := Q2
  have w3 := w2.pure (mkF m 32 #[.val (.long p0), .second, .val (.int (0 : Int32)), .val (.int p2), .val (.int (own_oct p0 (0 : Int32)))] [(.int (own_oct p0 (0 : Int32)))]) (fun X eT hZ hown k => by
      show Steps _ _ _ (State.setTop _ (mkF m 5 #[.val (.long p0), .second, .val (.int (0 : Int32)), .val (.int p2), .unset] [(.int (own_oct p0 (0 : Int32)))])) _
      refine S.istore X.here hx (hb hby dkAT_5) #[.val (.long p0), .second, .val (.int (0 : Int32)), .val (.int p2), .val (.int (own_oct p0 (0 : Int32)))] rfl ?_
      refine S.iloadN X.here hx (hb hby dkAT_7) rfl ?_
      refine S.ifYes X.here hx 30 (hb hby dkAT_8) (by decide) (by decide) (by decide) ?_
      refine S.iload X.here hx (hb hby dkAT_30) rfl ?_
      exact k)
  obtain ⟨v4, vm4, h4, Q4, K4, z4, D4, C4, w4⟩ := w3.callSV hx (y := (⟨"com/example/rowanport/rowanport/util/MailAddressesDomainPinLaw", "atom", "(I)C"⟩ : MethodName)) (W := 0) (hw _ (List.mem_of_getElem? (i := 9) rfl)) (hw _ (List.mem_of_getElem? (i := 10) rfl)) (hw _ (List.mem_of_getElem? (i := 3) rfl)) (hw _ (List.mem_of_getElem? (i := 11) rfl)) (by decide) ((rmcAT l Z a0 hw hE (own_oct p0 (0 : Int32)) h0 n0 (by omega) hG X0).pay w3 (hw _ (List.mem_of_getElem? (i := 11) rfl)) (hw _ (List.mem_of_getElem? (i := 3) rfl)) (by decide) (by decide) (fun _ _ => trivial)) rfl (by rw [hml]; rfl) [] (lenOf pd_11 rfl) rfl (by show 2 * 0 + _ ≤ _; exact Nat.le_of_eq rfl) (hb hby dkAT_32) (by decide) (by decide)  (fun rv => (mkF m 35 #[.val (.long p0), .second, .val (.int (0 : Int32)), .val (.int p2), .val (.int (own_oct p0 (0 : Int32)))] (rv.toList ++ []))) (fun _ => rfl)
  obtain ⟨c4, a4, rfl, ok4, LL4, S4⟩ := Q4
  have K5 : Keep h0 h4 [] := K0.trans K4 (fun _ q => nomatch q)
  have lt_a4 := S4.lt
  exact w4.endV (v := some (.int (nar .char c4))) (Q := (fun v vm h => ∃ (c : Int32) (a : Nat), v = some (.int c) ∧ own_ok c ∧ LitV "com/example/rowanport/rowanport/util/MailAddressesDomainPinLaw" 9 a vm ∧ Str Z h a own_AT h.size)) (wr := []) (h0 := h0) (fun h => by rw [Bd.returns] at h; cases h) Bd.notSynchronized (fun X hr => retN X hx (t := .char) Bd.returns (by simp) (hb hby dkAT_35) hr) (by decide) (by decide) (fun vmx hvx => ⟨c4, a4, by rw [nar_rng ok4.1], ok4, LitV.stays LL4 hvx, S4.more (by omega)⟩) K5
theorem dvAT_0 : decode method_6_code 0 = .ok (.lload_n 0, 1) := by decide +kernel
theorem dvAT_1 : decode method_6_code 1 = .ok (.iload_n 2, 1) := by decide +kernel
theorem dvAT_2 : decode method_6_code 2 = .ok (.invokestatic 23, 3) := by decide +kernel
theorem dvAT_5 : decode method_6_code 5 = .ok (.istore 4, 2) := by decide +kernel
theorem dvAT_7 : decode method_6_code 7 = .ok (.iload_n 2, 1) := by decide +kernel
theorem dvAT_8 : decode method_6_code 8 = .ok (.ifCond .le 22, 3) := by decide +kernel
theorem dvAT_11 : decode method_6_code 11 = .ok (.iload_n 2, 1) := by decide +kernel
theorem dvAT_12 : decode method_6_code 12 = .ok (.iload_n 3, 1) := by decide +kernel
theorem dvAT_13 : decode method_6_code 13 = .ok (.iconst 1, 1) := by decide +kernel
theorem dvAT_14 : decode method_6_code 14 = .ok (.isub, 1) := by decide +kernel
theorem dvAT_15 : decode method_6_code 15 = .ok (.if_icmp .ge 15, 3) := by decide +kernel
theorem dvAT_18 : decode method_6_code 18 = .ok (.iload 4, 2) := by decide +kernel
theorem dvAT_20 : decode method_6_code 20 = .ok (.sipush 128, 3) := by decide +kernel
theorem dvAT_23 : decode method_6_code 23 = .ok (.iand, 1) := by decide +kernel
theorem dvAT_24 : decode method_6_code 24 = .ok (.ifCond .eq 6, 3) := by decide +kernel
theorem dvAT_27 : decode method_6_code 27 = .ok (.bipush 46, 2) := by decide +kernel
theorem dvAT_29 : decode method_6_code 29 = .ok (.ireturn, 1) := by decide +kernel
theorem dvAT_30 : decode method_6_code 30 = .ok (.iload 4, 2) := by decide +kernel
theorem dvAT_32 : decode method_6_code 32 = .ok (.invokestatic 29, 3) := by decide +kernel
theorem dvAT_35 : decode method_6_code 35 = .ok (.ireturn, 1) := by decide +kernel
theorem efvAT (m : MethodId) (x0 : Int64) (x1 : Int32) (x2 : Int32) : entryFrame m #[(.long x0), (.int x1), (.int x2)] 5 = mkF m 0 #[.val (.long x0), .second, .val (.int x1), .val (.int x2), .unset] [] := by first | (simp [entryFrame, mkF, argsToLocals, Value.category, maxLocals]; done) | rfl
set_option maxRecDepth 65536 in
set_option maxHeartbeats 40000000 in
theorem rmvAT (l : Launch) (Z : State) (a0 : Array Value) (hw : ∀ d ∈ tables_1, d.before a0 Z = true) (hE : EW Z a0 consts_1) (p0 : Int64) (p1 p2 : Int32) (a b : Nat) (h0 : Heap) (n0 : Nat) (Z0 : n0 ≤ h0.size) (hG : SetsOk Z) (X0 : Old Z n0 h0) (Sa : Str Z h0 a own_AT b) :
    WMetV l Z consts_1 (⟨"com/example/rowanport/rowanport/util/MailAddressesDomainPinLaw", "localChar", "(JII)C"⟩ : MethodName) method_6_code 5 (some .char) [] ({ frames := 5, cells := 0, slots := 0, locals := 66 } : Room) [(.long p0), (.int p1), (.int p2)] h0 n0 (LitV "com/example/rowanport/rowanport/util/MailAddressesDomainPinLaw" 9 a) [] (fun v vm h => ∃ c : Int32, v = some (.int c) ∧ own_ok c ∧ h0 = h) := by
  refine MetFree.of_bodySF pn_17 hisR ?_
  intro p e s m args below meth c s₁ Bd hml0 hP hK
  obtain ⟨rfl, hZ, hh, hC, hPV⟩ := hP
  have hx := Bd.exec
  have hby := Bd.bytes
  have hml : c.maxLocals = 5 := hml0
  have hnm := (name_of_methodNamed Bd.named Bd.method).1
  have w0 := Wk.start (a0 := a0) (EL := consts_1) (n0 := n0) (nw := false) Bd hZ hh hE hC (efvAT m p0 p1 p2) ({ frames := 5, cells := 0, slots := 0, locals := 66 } : Room) rfl
  have K0 : Keep h0 h0 [] := Keep.refl _ _
  have lt_Sa := Sa.lt
  have w1 := w0.pure (mkF m 2 #[.val (.long p0), .second, .val (.int p1), .val (.int p2), .unset] [(.int p1), (.long p0)]) (fun X eT hZ hown k => by
      show Steps _ _ _ (State.setTop _ (mkF m 0 #[.val (.long p0), .second, .val (.int p1), .val (.int p2), .unset] [])) _
      refine S.lloadN X.here hx (hb hby dvAT_0) rfl ?_
      refine S.iloadN X.here hx (hb hby dvAT_1) rfl ?_
      exact k)
  obtain ⟨v2, h2, Q2, K2, z2, w2⟩ := w1.callS hx (y := (⟨"com/example/rowanport/rowanport/util/MailAddressesDomainPinLaw", "octet", "(JI)I"⟩ : MethodName)) (W := 0) (hw _ (List.mem_of_getElem? (i := 5) rfl)) (hw _ (List.mem_of_getElem? (i := 6) rfl)) (hw _ (List.mem_of_getElem? (i := 3) rfl)) (hw _ (List.mem_of_getElem? (i := 7) rfl)) (by decide) ((rmoc l Z a0 hw p0 p1 h0 n0 (by omega)).pay w1.hZ (hw _ (List.mem_of_getElem? (i := 7) rfl)) (hw _ (List.mem_of_getElem? (i := 3) rfl)) (by decide) (by decide)) rfl (by rw [hml]; rfl) [] (lenOf pd_12 rfl) rfl (by show 2 * 0 + _ ≤ _; exact Nat.le_of_eq rfl) (hb hby dvAT_2) (by decide) (by decide) (fun _ q => nomatch q) (fun rv => (mkF m 5 #[.val (.long p0), .second, .val (.int p1), .val (.int p2), .unset] (rv.toList ++ []))) (fun _ => rfl)
  obtain ⟨rfl, rfl⟩ := Q2
  have w3 := w2.pure (mkF m 8 #[.val (.long p0), .second, .val (.int p1), .val (.int p2), .val (.int (own_oct p0 p1))] [(.int p1)]) (fun X eT hZ hown k => by
      show Steps _ _ _ (State.setTop _ (mkF m 5 #[.val (.long p0), .second, .val (.int p1), .val (.int p2), .unset] [(.int (own_oct p0 p1))])) _
      refine S.istore X.here hx (hb hby dvAT_5) #[.val (.long p0), .second, .val (.int p1), .val (.int p2), .val (.int (own_oct p0 p1))] rfl ?_
      refine S.iloadN X.here hx (hb hby dvAT_7) rfl ?_
      exact k)
  by_cases hc4 : (0 : Int32) < p1
  · have w5 := w3.pure (mkF m 15 #[.val (.long p0), .second, .val (.int p1), .val (.int p2), .val (.int (own_oct p0 p1))] [(.int (p2 - (1 : Int32))), (.int p1)]) (fun X eT hZ hown k => by
        show Steps _ _ _ (State.setTop _ (mkF m 8 #[.val (.long p0), .second, .val (.int p1), .val (.int p2), .val (.int (own_oct p0 p1))] [(.int p1)])) _
        refine S.ifNo X.here hx (hb hby dvAT_8) ((if0 _ _).trans (tlt hc4).2.2.2) ?_
        refine S.iloadN X.here hx (hb hby dvAT_11) rfl ?_
        refine S.iloadN X.here hx (hb hby dvAT_12) rfl ?_
        refine S.iconst X.here hx (1 : Int32) (hb hby dvAT_13) rfl ?_
        refine S.isub X.here hx (hb hby dvAT_14) ?_
        exact k)
    by_cases hc6 : p1 < (p2 - (1 : Int32))
    · have w7 := w5.pure (mkF m 24 #[.val (.long p0), .second, .val (.int p1), .val (.int p2), .val (.int (own_oct p0 p1))] [(.int ((own_oct p0 p1) &&& (128 : Int32)))]) (fun X eT hZ hown k => by
          show Steps _ _ _ (State.setTop _ (mkF m 15 #[.val (.long p0), .second, .val (.int p1), .val (.int p2), .val (.int (own_oct p0 p1))] [(.int (p2 - (1 : Int32))), (.int p1)])) _
          refine S.icmpNo X.here hx (hb hby dvAT_15) (tlt hc6).2.1 ?_
          refine S.iload X.here hx (hb hby dvAT_18) rfl ?_
          refine S.sipush X.here hx (128 : Int32) (hb hby dvAT_20) rfl ?_
          refine S.iand X.here hx (hb hby dvAT_23) ?_
          exact k)
      by_cases hc8 : ((own_oct p0 p1) &&& (128 : Int32)) = (0 : Int32)
      · have w9 := w7.pure (mkF m 32 #[.val (.long p0), .second, .val (.int p1), .val (.int p2), .val (.int (own_oct p0 p1))] [(.int (own_oct p0 p1))]) (fun X eT hZ hown k => by
            show Steps _ _ _ (State.setTop _ (mkF m 24 #[.val (.long p0), .second, .val (.int p1), .val (.int p2), .val (.int (own_oct p0 p1))] [(.int ((own_oct p0 p1) &&& (128 : Int32)))])) _
            refine S.ifYes X.here hx 30 (hb hby dvAT_24) ((if0 _ _).trans (teq hc8).1) (by decide) (by decide) ?_
            refine S.iload X.here hx (hb hby dvAT_30) rfl ?_
            exact k)
        obtain ⟨v10, vm10, h10, Q10, K10, z10, D10, C10, w10⟩ := w9.callSV hx (y := (⟨"com/example/rowanport/rowanport/util/MailAddressesDomainPinLaw", "atom", "(I)C"⟩ : MethodName)) (W := 0) (hw _ (List.mem_of_getElem? (i := 9) rfl)) (hw _ (List.mem_of_getElem? (i := 10) rfl)) (hw _ (List.mem_of_getElem? (i := 3) rfl)) (hw _ (List.mem_of_getElem? (i := 11) rfl)) (by decide) ((rmwAT l Z a0 hw hE (own_oct p0 p1) a _ h0 n0 (by omega) hG X0 Sa).pay w9 (hw _ (List.mem_of_getElem? (i := 11) rfl)) (hw _ (List.mem_of_getElem? (i := 3) rfl)) (by decide) (by decide) (fun _ hv => LitV.stays hPV hv)) rfl (by rw [hml]; rfl) [] (lenOf pd_11 rfl) rfl (by show 2 * 0 + _ ≤ _; exact Nat.le_of_eq rfl) (hb hby dvAT_32) (by decide) (by decide)  (fun rv => (mkF m 35 #[.val (.long p0), .second, .val (.int p1), .val (.int p2), .val (.int (own_oct p0 p1))] (rv.toList ++ []))) (fun _ => rfl)
        obtain ⟨c10, rfl, ok10, rfl⟩ := Q10
        exact w10.endV (v := some (.int (nar .char c10))) (Q := (fun v vm h => ∃ c : Int32, v = some (.int c) ∧ own_ok c ∧ h0 = h)) (wr := []) (h0 := h0) (fun h => by rw [Bd.returns] at h; cases h) Bd.notSynchronized (fun X hr => retN X hx (t := .char) Bd.returns (by simp) (hb hby dvAT_35) hr) (by decide) (by decide) (fun vmx hvx => ⟨c10, by rw [nar_rng ok10.1], ok10, rfl⟩) K0
      · have w11 := w7.pure (mkF m 29 #[.val (.long p0), .second, .val (.int p1), .val (.int p2), .val (.int (own_oct p0 p1))] [(.int (46 : Int32))]) (fun X eT hZ hown k => by
            show Steps _ _ _ (State.setTop _ (mkF m 24 #[.val (.long p0), .second, .val (.int p1), .val (.int p2), .val (.int (own_oct p0 p1))] [(.int ((own_oct p0 p1) &&& (128 : Int32)))])) _
            refine S.ifNo X.here hx (hb hby dvAT_24) ((if0 _ _).trans (feq hc8).1) ?_
            refine S.bipush X.here hx (46 : Int32) (hb hby dvAT_27) rfl ?_
            exact k)
        exact w11.endV (v := some (.int (46 : Int32))) (Q := (fun v vm h => ∃ c : Int32, v = some (.int c) ∧ own_ok c ∧ h0 = h)) (wr := []) (h0 := h0) (fun h => by rw [Bd.returns] at h; cases h) Bd.notSynchronized (fun X hr => retN X hx (t := .char) Bd.returns (by simp) (hb hby dvAT_29) hr) (by decide) (by decide) (fun vmx hvx => ⟨(46 : Int32), rfl, (show own_ok (46 : Int32) by unfold own_ok; decide), rfl⟩) K0
    · have w12 := w5.pure (mkF m 32 #[.val (.long p0), .second, .val (.int p1), .val (.int p2), .val (.int (own_oct p0 p1))] [(.int (own_oct p0 p1))]) (fun X eT hZ hown k => by
          show Steps _ _ _ (State.setTop _ (mkF m 15 #[.val (.long p0), .second, .val (.int p1), .val (.int p2), .val (.int (own_oct p0 p1))] [(.int (p2 - (1 : Int32))), (.int p1)])) _
          refine S.icmpYes X.here hx 30 (hb hby dvAT_15) (flt hc6).2.1 (by decide) (by decide) ?_
          refine S.iload X.here hx (hb hby dvAT_30) rfl ?_
          exact k)
      obtain ⟨v13, vm13, h13, Q13, K13, z13, D13, C13, w13⟩ := w12.callSV hx (y := (⟨"com/example/rowanport/rowanport/util/MailAddressesDomainPinLaw", "atom", "(I)C"⟩ : MethodName)) (W := 0) (hw _ (List.mem_of_getElem? (i := 9) rfl)) (hw _ (List.mem_of_getElem? (i := 10) rfl)) (hw _ (List.mem_of_getElem? (i := 3) rfl)) (hw _ (List.mem_of_getElem? (i := 11) rfl)) (by decide) ((rmwAT l Z a0 hw hE (own_oct p0 p1) a _ h0 n0 (by omega) hG X0 Sa).pay w12 (hw _ (List.mem_of_getElem? (i := 11) rfl)) (hw _ (List.mem_of_getElem? (i := 3) rfl)) (by decide) (by decide) (fun _ hv => LitV.stays hPV hv)) rfl (by rw [hml]; rfl) [] (lenOf pd_11 rfl) rfl (by show 2 * 0 + _ ≤ _; exact Nat.le_of_eq rfl) (hb hby dvAT_32) (by decide) (by decide)  (fun rv => (mkF m 35 #[.val (.long p0), .second, .val (.int p1), .val (.int p2), .val (.int (own_oct p0 p1))] (rv.toList ++ []))) (fun _ => rfl)
      obtain ⟨c13, rfl, ok13, rfl⟩ := Q13
      exact w13.endV (v := some (.int (nar .char c13))) (Q := (fun v vm h => ∃ c : Int32, v = some (.int c) ∧ own_ok c ∧ h0 = h)) (wr := []) (h0 := h0) (fun h => by rw [Bd.returns] at h; cases h) Bd.notSynchronized (fun X hr => retN X hx (t := .char) Bd.returns (by simp) (hb hby dvAT_35) hr) (by decide) (by decide) (fun vmx hvx => ⟨c13, by rw [nar_rng ok13.1], ok13, rfl⟩) K0
  · have w14 := w3.pure (mkF m 32 #[.val (.long p0), .second, .val (.int p1), .val (.int p2), .val (.int (own_oct p0 p1))] [(.int (own_oct p0 p1))]) (fun X eT hZ hown k => by
        show Steps _ _ _ (State.setTop _ (mkF m 8 #[.val (.long p0), .second, .val (.int p1), .val (.int p2), .val (.int (own_oct p0 p1))] [(.int p1)])) _
        refine S.ifYes X.here hx 30 (hb hby dvAT_8) ((if0 _ _).trans (flt hc4).2.2.2) (by decide) (by decide) ?_
        refine S.iload X.here hx (hb hby dvAT_30) rfl ?_
        exact k)
    obtain ⟨v15, vm15, h15, Q15, K15, z15, D15, C15, w15⟩ := w14.callSV hx (y := (⟨"com/example/rowanport/rowanport/util/MailAddressesDomainPinLaw", "atom", "(I)C"⟩ : MethodName)) (W := 0) (hw _ (List.mem_of_getElem? (i := 9) rfl)) (hw _ (List.mem_of_getElem? (i := 10) rfl)) (hw _ (List.mem_of_getElem? (i := 3) rfl)) (hw _ (List.mem_of_getElem? (i := 11) rfl)) (by decide) ((rmwAT l Z a0 hw hE (own_oct p0 p1) a _ h0 n0 (by omega) hG X0 Sa).pay w14 (hw _ (List.mem_of_getElem? (i := 11) rfl)) (hw _ (List.mem_of_getElem? (i := 3) rfl)) (by decide) (by decide) (fun _ hv => LitV.stays hPV hv)) rfl (by rw [hml]; rfl) [] (lenOf pd_11 rfl) rfl (by show 2 * 0 + _ ≤ _; exact Nat.le_of_eq rfl) (hb hby dvAT_32) (by decide) (by decide)  (fun rv => (mkF m 35 #[.val (.long p0), .second, .val (.int p1), .val (.int p2), .val (.int (own_oct p0 p1))] (rv.toList ++ []))) (fun _ => rfl)
    obtain ⟨c15, rfl, ok15, rfl⟩ := Q15
    exact w15.endV (v := some (.int (nar .char c15))) (Q := (fun v vm h => ∃ c : Int32, v = some (.int c) ∧ own_ok c ∧ h0 = h)) (wr := []) (h0 := h0) (fun h => by rw [Bd.returns] at h; cases h) Bd.notSynchronized (fun X hr => retN X hx (t := .char) Bd.returns (by simp) (hb hby dvAT_35) hr) (by decide) (by decide) (fun vmx hvx => ⟨c15, by rw [nar_rng ok15.1], ok15, rfl⟩) K0
theorem dkAL_0 : decode method_7_code 0 = .ok (.lload_n 0, 1) := by decide +kernel
theorem dkAL_1 : decode method_7_code 1 = .ok (.iload_n 2, 1) := by decide +kernel
theorem dkAL_2 : decode method_7_code 2 = .ok (.invokestatic 23, 3) := by decide +kernel
theorem dkAL_5 : decode method_7_code 5 = .ok (.istore 4, 2) := by decide +kernel
theorem dkAL_7 : decode method_7_code 7 = .ok (.iload_n 2, 1) := by decide +kernel
theorem dkAL_8 : decode method_7_code 8 = .ok (.ifCond .eq 10, 3) := by decide +kernel
theorem dkAL_18 : decode method_7_code 18 = .ok (.iload 4, 2) := by decide +kernel
theorem dkAL_20 : decode method_7_code 20 = .ok (.invokestatic 32, 3) := by decide +kernel
theorem dkAL_23 : decode method_7_code 23 = .ok (.ireturn, 1) := by decide +kernel
theorem efkAL (m : MethodId) (x0 : Int64) (x1 : Int32) (x2 : Int32) : entryFrame m #[(.long x0), (.int x1), (.int x2)] 6 = mkF m 0 #[.val (.long x0), .second, .val (.int x1), .val (.int x2), .unset, .unset] [] := by first | (simp [entryFrame, mkF, argsToLocals, Value.category, maxLocals]; done) | rfl
theorem pn_18 : plainFor (⟨"com/example/rowanport/rowanport/util/MailAddressesDomainPinLaw", "domainChar", "(JII)C"⟩ : MethodName) = true := by first | decide +kernel | (apply plainFor_of_name; simp [plainName, overriddenIn]; done)
set_option maxRecDepth 65536 in
set_option maxHeartbeats 40000000 in
theorem rmkAL (l : Launch) (Z : State) (a0 : Array Value) (hw : ∀ d ∈ tables_1, d.before a0 Z = true) (hE : EW Z a0 consts_1) (p0 : Int64) (p2 : Int32) (h0 : Heap) (n0 : Nat) (Z0 : n0 ≤ h0.size) (hG : SetsOk Z) (X0 : Old Z n0 h0) :
    WMetV l Z consts_1 (⟨"com/example/rowanport/rowanport/util/MailAddressesDomainPinLaw", "domainChar", "(JII)C"⟩ : MethodName) method_7_code 6 (some .char) [] ({ frames := 5, cells := 2, slots := 252, locals := 66 } : Room) [(.long p0), (.int (0 : Int32)), (.int p2)] h0 n0 (fun _ => True) [] (fun v vm h => ∃ (c : Int32) (a : Nat), v = some (.int c) ∧ own_ok c ∧ LitV "com/example/rowanport/rowanport/util/MailAddressesDomainPinLaw" 21 a vm ∧ Str Z h a own_AL h.size) := by
  refine MetFree.of_bodySF pn_18 hisR ?_
  intro p e s m args below meth c s₁ Bd hml0 hP hK
  obtain ⟨rfl, hZ, hh, hC, hPV⟩ := hP
  have hx := Bd.exec
  have hby := Bd.bytes
  have hml : c.maxLocals = 6 := hml0
  have hnm := (name_of_methodNamed Bd.named Bd.method).1
  have w0 := Wk.start (a0 := a0) (EL := consts_1) (n0 := n0) (nw := false) Bd hZ hh hE hC (efkAL m p0 (0 : Int32) p2) ({ frames := 5, cells := 2, slots := 252, locals := 66 } : Room) rfl
  have K0 : Keep h0 h0 [] := Keep.refl _ _
  have w1 := w0.pure (mkF m 2 #[.val (.long p0), .second, .val (.int (0 : Int32)), .val (.int p2), .unset, .unset] [(.int (0 : Int32)), (.long p0)]) (fun X eT hZ hown k => by
      show Steps _ _ _ (State.setTop _ (mkF m 0 #[.val (.long p0), .second, .val (.int (0 : Int32)), .val (.int p2), .unset, .unset] [])) _
      refine S.lloadN X.here hx (hb hby dkAL_0) rfl ?_
      refine S.iloadN X.here hx (hb hby dkAL_1) rfl ?_
      exact k)
  obtain ⟨v2, h2, Q2, K2, z2, w2⟩ := w1.callS hx (y := (⟨"com/example/rowanport/rowanport/util/MailAddressesDomainPinLaw", "octet", "(JI)I"⟩ : MethodName)) (W := 0) (hw _ (List.mem_of_getElem? (i := 5) rfl)) (hw _ (List.mem_of_getElem? (i := 6) rfl)) (hw _ (List.mem_of_getElem? (i := 3) rfl)) (hw _ (List.mem_of_getElem? (i := 7) rfl)) (by decide) ((rmoc l Z a0 hw p0 (0 : Int32) h0 n0 (by omega)).pay w1.hZ (hw _ (List.mem_of_getElem? (i := 7) rfl)) (hw _ (List.mem_of_getElem? (i := 3) rfl)) (by decide) (by decide)) rfl (by rw [hml]; rfl) [] (lenOf pd_12 rfl) rfl (by show 2 * 0 + _ ≤ _; exact Nat.le_of_eq rfl) (hb hby dkAL_2) (by decide) (by decide) (fun _ q => nomatch q) (fun rv => (mkF m 5 #[.val (.long p0), .second, .val (.int (0 : Int32)), .val (.int p2), .unset, .unset] (rv.toList ++ []))) (fun _ => rfl)
  obtain ⟨rfl, rfl⟩ := Q2
  have w3 := w2.pure (mkF m 20 #[.val (.long p0), .second, .val (.int (0 : Int32)), .val (.int p2), .val (.int (own_oct p0 (0 : Int32))), .unset] [(.int (own_oct p0 (0 : Int32)))]) (fun X eT hZ hown k => by
      show Steps _ _ _ (State.setTop _ (mkF m 5 #[.val (.long p0), .second, .val (.int (0 : Int32)), .val (.int p2), .unset, .unset] [(.int (own_oct p0 (0 : Int32)))])) _
      refine S.istore X.here hx (hb hby dkAL_5) #[.val (.long p0), .second, .val (.int (0 : Int32)), .val (.int p2), .val (.int (own_oct p0 (0 : Int32))), .unset] rfl ?_
      refine S.iloadN X.here hx (hb hby dkAL_7) rfl ?_
      refine S.ifYes X.here hx 18 (hb hby dkAL_8) (by decide) (by decide) (by decide) ?_
      refine S.iload X.here hx (hb hby dkAL_18) rfl ?_
      exact k)
  obtain ⟨v4, vm4, h4, Q4, K4, z4, D4, C4, w4⟩ := w3.callSV hx (y := (⟨"com/example/rowanport/rowanport/util/MailAddressesDomainPinLaw", "alnum", "(I)C"⟩ : MethodName)) (W := 0) (hw _ (List.mem_of_getElem? (i := 58) rfl)) (hw _ (List.mem_of_getElem? (i := 59) rfl)) (hw _ (List.mem_of_getElem? (i := 3) rfl)) (hw _ (List.mem_of_getElem? (i := 60) rfl)) (by decide) ((rmcAL l Z a0 hw hE (own_oct p0 (0 : Int32)) h0 n0 (by omega) hG X0).pay w3 (hw _ (List.mem_of_getElem? (i := 60) rfl)) (hw _ (List.mem_of_getElem? (i := 3) rfl)) (by decide) (by decide) (fun _ _ => trivial)) rfl (by rw [hml]; rfl) [] (lenOf pd_11 rfl) rfl (by show 2 * 0 + _ ≤ _; exact Nat.le_of_eq rfl) (hb hby dkAL_20) (by decide) (by decide)  (fun rv => (mkF m 23 #[.val (.long p0), .second, .val (.int (0 : Int32)), .val (.int p2), .val (.int (own_oct p0 (0 : Int32))), .unset] (rv.toList ++ []))) (fun _ => rfl)
  obtain ⟨c4, a4, rfl, ok4, LL4, S4⟩ := Q4
  have K5 : Keep h0 h4 [] := K0.trans K4 (fun _ q => nomatch q)
  have lt_a4 := S4.lt
  exact w4.endV (v := some (.int (nar .char c4))) (Q := (fun v vm h => ∃ (c : Int32) (a : Nat), v = some (.int c) ∧ own_ok c ∧ LitV "com/example/rowanport/rowanport/util/MailAddressesDomainPinLaw" 21 a vm ∧ Str Z h a own_AL h.size)) (wr := []) (h0 := h0) (fun h => by rw [Bd.returns] at h; cases h) Bd.notSynchronized (fun X hr => retN X hx (t := .char) Bd.returns (by simp) (hb hby dkAL_23) hr) (by decide) (by decide) (fun vmx hvx => ⟨c4, a4, by rw [nar_rng ok4.1], ok4, LitV.stays LL4 hvx, S4.more (by omega)⟩) K5
theorem dvAL_0 : decode method_7_code 0 = .ok (.lload_n 0, 1) := by decide +kernel
theorem dvAL_1 : decode method_7_code 1 = .ok (.iload_n 2, 1) := by decide +kernel
theorem dvAL_2 : decode method_7_code 2 = .ok (.invokestatic 23, 3) := by decide +kernel
theorem dvAL_5 : decode method_7_code 5 = .ok (.istore 4, 2) := by decide +kernel
theorem dvAL_7 : decode method_7_code 7 = .ok (.iload_n 2, 1) := by decide +kernel
theorem dvAL_8 : decode method_7_code 8 = .ok (.ifCond .eq 10, 3) := by decide +kernel
theorem dvAL_11 : decode method_7_code 11 = .ok (.iload_n 2, 1) := by decide +kernel
theorem dvAL_12 : decode method_7_code 12 = .ok (.iload_n 3, 1) := by decide +kernel
theorem dvAL_13 : decode method_7_code 13 = .ok (.iconst 1, 1) := by decide +kernel
theorem dvAL_14 : decode method_7_code 14 = .ok (.isub, 1) := by decide +kernel
theorem dvAL_15 : decode method_7_code 15 = .ok (.if_icmp .ne 9, 3) := by decide +kernel
theorem dvAL_18 : decode method_7_code 18 = .ok (.iload 4, 2) := by decide +kernel
theorem dvAL_20 : decode method_7_code 20 = .ok (.invokestatic 32, 3) := by decide +kernel
theorem dvAL_23 : decode method_7_code 23 = .ok (.ireturn, 1) := by decide +kernel
theorem dvAL_24 : decode method_7_code 24 = .ok (.iload 4, 2) := by decide +kernel
theorem dvAL_26 : decode method_7_code 26 = .ok (.bipush 6, 2) := by decide +kernel
theorem dvAL_28 : decode method_7_code 28 = .ok (.iushr, 1) := by decide +kernel
theorem dvAL_29 : decode method_7_code 29 = .ok (.istore 5, 2) := by decide +kernel
theorem dvAL_31 : decode method_7_code 31 = .ok (.iload 5, 2) := by decide +kernel
theorem dvAL_33 : decode method_7_code 33 = .ok (.ifCond .ne 6, 3) := by decide +kernel
theorem dvAL_36 : decode method_7_code 36 = .ok (.bipush 45, 2) := by decide +kernel
theorem dvAL_38 : decode method_7_code 38 = .ok (.ireturn, 1) := by decide +kernel
theorem dvAL_39 : decode method_7_code 39 = .ok (.iload 5, 2) := by decide +kernel
theorem dvAL_41 : decode method_7_code 41 = .ok (.iconst 1, 1) := by decide +kernel
theorem dvAL_42 : decode method_7_code 42 = .ok (.if_icmp .ne 6, 3) := by decide +kernel
theorem dvAL_45 : decode method_7_code 45 = .ok (.bipush 46, 2) := by decide +kernel
theorem dvAL_47 : decode method_7_code 47 = .ok (.ireturn, 1) := by decide +kernel
theorem dvAL_48 : decode method_7_code 48 = .ok (.iload 4, 2) := by decide +kernel
theorem dvAL_50 : decode method_7_code 50 = .ok (.invokestatic 32, 3) := by decide +kernel
theorem dvAL_53 : decode method_7_code 53 = .ok (.ireturn, 1) := by decide +kernel
theorem efvAL (m : MethodId) (x0 : Int64) (x1 : Int32) (x2 : Int32) : entryFrame m #[(.long x0), (.int x1), (.int x2)] 6 = mkF m 0 #[.val (.long x0), .second, .val (.int x1), .val (.int x2), .unset, .unset] [] := by first | (simp [entryFrame, mkF, argsToLocals, Value.category, maxLocals]; done) | rfl
set_option maxRecDepth 65536 in
set_option maxHeartbeats 40000000 in
theorem rmvAL (l : Launch) (Z : State) (a0 : Array Value) (hw : ∀ d ∈ tables_1, d.before a0 Z = true) (hE : EW Z a0 consts_1) (p0 : Int64) (p1 p2 : Int32) (a b : Nat) (h0 : Heap) (n0 : Nat) (Z0 : n0 ≤ h0.size) (hG : SetsOk Z) (X0 : Old Z n0 h0) (Sa : Str Z h0 a own_AL b) :
    WMetV l Z consts_1 (⟨"com/example/rowanport/rowanport/util/MailAddressesDomainPinLaw", "domainChar", "(JII)C"⟩ : MethodName) method_7_code 6 (some .char) [] ({ frames := 5, cells := 0, slots := 0, locals := 66 } : Room) [(.long p0), (.int p1), (.int p2)] h0 n0 (LitV "com/example/rowanport/rowanport/util/MailAddressesDomainPinLaw" 21 a) [] (fun v vm h => ∃ c : Int32, v = some (.int c) ∧ own_ok c ∧ h0 = h) := by
  refine MetFree.of_bodySF pn_18 hisR ?_
  intro p e s m args below meth c s₁ Bd hml0 hP hK
  obtain ⟨rfl, hZ, hh, hC, hPV⟩ := hP
  have hx := Bd.exec
  have hby := Bd.bytes
  have hml : c.maxLocals = 6 := hml0
  have hnm := (name_of_methodNamed Bd.named Bd.method).1
  have w0 := Wk.start (a0 := a0) (EL := consts_1) (n0 := n0) (nw := false) Bd hZ hh hE hC (efvAL m p0 p1 p2) ({ frames := 5, cells := 0, slots := 0, locals := 66 } : Room) rfl
  have K0 : Keep h0 h0 [] := Keep.refl _ _
  have lt_Sa := Sa.lt
  have w1 := w0.pure (mkF m 2 #[.val (.long p0), .second, .val (.int p1), .val (.int p2), .unset, .unset] [(.int p1), (.long p0)]) (fun X eT hZ hown k => by
      show Steps _ _ _ (State.setTop _ (mkF m 0 #[.val (.long p0), .second, .val (.int p1), .val (.int p2), .unset, .unset] [])) _
      refine S.lloadN X.here hx (hb hby dvAL_0) rfl ?_
      refine S.iloadN X.here hx (hb hby dvAL_1) rfl ?_
      exact k)
  obtain ⟨v2, h2, Q2, K2, z2, w2⟩ := w1.callS hx (y := (⟨"com/example/rowanport/rowanport/util/MailAddressesDomainPinLaw", "octet", "(JI)I"⟩ : MethodName)) (W := 0) (hw _ (List.mem_of_getElem? (i := 5) rfl)) (hw _ (List.mem_of_getElem? (i := 6) rfl)) (hw _ (List.mem_of_getElem? (i := 3) rfl)) (hw _ (List.mem_of_getElem? (i := 7) rfl)) (by decide) ((rmoc l Z a0 hw p0 p1 h0 n0 (by omega)).pay w1.hZ (hw _ (List.mem_of_getElem? (i := 7) rfl)) (hw _ (List.mem_of_getElem? (i := 3) rfl)) (by decide) (by decide)) rfl (by rw [hml]; rfl) [] (lenOf pd_12 rfl) rfl (by show 2 * 0 + _ ≤ _; exact Nat.le_of_eq rfl) (hb hby dvAL_2) (by decide) (by decide) (fun _ q => nomatch q) (fun rv => (mkF m 5 #[.val (.long p0), .second, .val (.int p1), .val (.int p2), .unset, .unset] (rv.toList ++ []))) (fun _ => rfl)
  obtain ⟨rfl, rfl⟩ := Q2
  have w3 := w2.pure (mkF m 8 #[.val (.long p0), .second, .val (.int p1), .val (.int p2), .val (.int (own_oct p0 p1)), .unset] [(.int p1)]) (fun X eT hZ hown k => by
      show Steps _ _ _ (State.setTop _ (mkF m 5 #[.val (.long p0), .second, .val (.int p1), .val (.int p2), .unset, .unset] [(.int (own_oct p0 p1))])) _
      refine S.istore X.here hx (hb hby dvAL_5) #[.val (.long p0), .second, .val (.int p1), .val (.int p2), .val (.int (own_oct p0 p1)), .unset] rfl ?_
      refine S.iloadN X.here hx (hb hby dvAL_7) rfl ?_
      exact k)
  by_cases hc4 : p1 = (0 : Int32)
  · have w5 := w3.pure (mkF m 20 #[.val (.long p0), .second, .val (.int p1), .val (.int p2), .val (.int (own_oct p0 p1)), .unset] [(.int (own_oct p0 p1))]) (fun X eT hZ hown k => by
        show Steps _ _ _ (State.setTop _ (mkF m 8 #[.val (.long p0), .second, .val (.int p1), .val (.int p2), .val (.int (own_oct p0 p1)), .unset] [(.int p1)])) _
        refine S.ifYes X.here hx 18 (hb hby dvAL_8) ((if0 _ _).trans (teq hc4).1) (by decide) (by decide) ?_
        refine S.iload X.here hx (hb hby dvAL_18) rfl ?_
        exact k)
    obtain ⟨v6, vm6, h6, Q6, K6, z6, D6, C6, w6⟩ := w5.callSV hx (y := (⟨"com/example/rowanport/rowanport/util/MailAddressesDomainPinLaw", "alnum", "(I)C"⟩ : MethodName)) (W := 0) (hw _ (List.mem_of_getElem? (i := 58) rfl)) (hw _ (List.mem_of_getElem? (i := 59) rfl)) (hw _ (List.mem_of_getElem? (i := 3) rfl)) (hw _ (List.mem_of_getElem? (i := 60) rfl)) (by decide) ((rmwAL l Z a0 hw hE (own_oct p0 p1) a _ h0 n0 (by omega) hG X0 Sa).pay w5 (hw _ (List.mem_of_getElem? (i := 60) rfl)) (hw _ (List.mem_of_getElem? (i := 3) rfl)) (by decide) (by decide) (fun _ hv => LitV.stays hPV hv)) rfl (by rw [hml]; rfl) [] (lenOf pd_11 rfl) rfl (by show 2 * 0 + _ ≤ _; exact Nat.le_of_eq rfl) (hb hby dvAL_20) (by decide) (by decide)  (fun rv => (mkF m 23 #[.val (.long p0), .second, .val (.int p1), .val (.int p2), .val (.int (own_oct p0 p1)), .unset] (rv.toList ++ []))) (fun _ => rfl)
    obtain ⟨c6, rfl, ok6, rfl⟩ := Q6
    exact w6.endV (v := some (.int (nar .char c6))) (Q := (fun v vm h => ∃ c : Int32, v = some (.int c) ∧ own_ok c ∧ h0 = h)) (wr := []) (h0 := h0) (fun h => by rw [Bd.returns] at h; cases h) Bd.notSynchronized (fun X hr => retN X hx (t := .char) Bd.returns (by simp) (hb hby dvAL_23) hr) (by decide) (by decide) (fun vmx hvx => ⟨c6, by rw [nar_rng ok6.1], ok6, rfl⟩) K0
  · have w7 := w3.pure (mkF m 15 #[.val (.long p0), .second, .val (.int p1), .val (.int p2), .val (.int (own_oct p0 p1)), .unset] [(.int (p2 - (1 : Int32))), (.int p1)]) (fun X eT hZ hown k => by
        show Steps _ _ _ (State.setTop _ (mkF m 8 #[.val (.long p0), .second, .val (.int p1), .val (.int p2), .val (.int (own_oct p0 p1)), .unset] [(.int p1)])) _
        refine S.ifNo X.here hx (hb hby dvAL_8) ((if0 _ _).trans (feq hc4).1) ?_
        refine S.iloadN X.here hx (hb hby dvAL_11) rfl ?_
        refine S.iloadN X.here hx (hb hby dvAL_12) rfl ?_
        refine S.iconst X.here hx (1 : Int32) (hb hby dvAL_13) rfl ?_
        refine S.isub X.here hx (hb hby dvAL_14) ?_
        exact k)
    by_cases hc8 : p1 = (p2 - (1 : Int32))
    · have w9 := w7.pure (mkF m 20 #[.val (.long p0), .second, .val (.int p1), .val (.int p2), .val (.int (own_oct p0 p1)), .unset] [(.int (own_oct p0 p1))]) (fun X eT hZ hown k => by
          show Steps _ _ _ (State.setTop _ (mkF m 15 #[.val (.long p0), .second, .val (.int p1), .val (.int p2), .val (.int (own_oct p0 p1)), .unset] [(.int (p2 - (1 : Int32))), (.int p1)])) _
          refine S.icmpNo X.here hx (hb hby dvAL_15) (teq hc8).2 ?_
          refine S.iload X.here hx (hb hby dvAL_18) rfl ?_
          exact k)
      obtain ⟨v10, vm10, h10, Q10, K10, z10, D10, C10, w10⟩ := w9.callSV hx (y := (⟨"com/example/rowanport/rowanport/util/MailAddressesDomainPinLaw", "alnum", "(I)C"⟩ : MethodName)) (W := 0) (hw _ (List.mem_of_getElem? (i := 58) rfl)) (hw _ (List.mem_of_getElem? (i := 59) rfl)) (hw _ (List.mem_of_getElem? (i := 3) rfl)) (hw _ (List.mem_of_getElem? (i := 60) rfl)) (by decide) ((rmwAL l Z a0 hw hE (own_oct p0 p1) a _ h0 n0 (by omega) hG X0 Sa).pay w9 (hw _ (List.mem_of_getElem? (i := 60) rfl)) (hw _ (List.mem_of_getElem? (i := 3) rfl)) (by decide) (by decide) (fun _ hv => LitV.stays hPV hv)) rfl (by rw [hml]; rfl) [] (lenOf pd_11 rfl) rfl (by show 2 * 0 + _ ≤ _; exact Nat.le_of_eq rfl) (hb hby dvAL_20) (by decide) (by decide)  (fun rv => (mkF m 23 #[.val (.long p0), .second, .val (.int p1), .val (.int p2), .val (.int (own_oct p0 p1)), .unset] (rv.toList ++ []))) (fun _ => rfl)
      obtain ⟨c10, rfl, ok10, rfl⟩ := Q10
      exact w10.endV (v := some (.int (nar .char c10))) (Q := (fun v vm h => ∃ c : Int32, v = some (.int c) ∧ own_ok c ∧ h0 = h)) (wr := []) (h0 := h0) (fun h => by rw [Bd.returns] at h; cases h) Bd.notSynchronized (fun X hr => retN X hx (t := .char) Bd.returns (by simp) (hb hby dvAL_23) hr) (by decide) (by decide) (fun vmx hvx => ⟨c10, by rw [nar_rng ok10.1], ok10, rfl⟩) K0
    · have w11 := w7.pure (mkF m 33 #[.val (.long p0), .second, .val (.int p1), .val (.int p2), .val (.int (own_oct p0 p1)), .val (.int (((own_oct p0 p1).toUInt32 >>> ((6 : Int32) &&& 31).toUInt32).toInt32))] [(.int (((own_oct p0 p1).toUInt32 >>> ((6 : Int32) &&& 31).toUInt32).toInt32))]) (fun X eT hZ hown k => by
          show Steps _ _ _ (State.setTop _ (mkF m 15 #[.val (.long p0), .second, .val (.int p1), .val (.int p2), .val (.int (own_oct p0 p1)), .unset] [(.int (p2 - (1 : Int32))), (.int p1)])) _
          refine S.icmpYes X.here hx 24 (hb hby dvAL_15) (feq hc8).2 (by decide) (by decide) ?_
          refine S.iload X.here hx (hb hby dvAL_24) rfl ?_
          refine S.bipush X.here hx (6 : Int32) (hb hby dvAL_26) rfl ?_
          refine S.iushr X.here hx (hb hby dvAL_28) ?_
          refine S.istore X.here hx (hb hby dvAL_29) #[.val (.long p0), .second, .val (.int p1), .val (.int p2), .val (.int (own_oct p0 p1)), .val (.int (((own_oct p0 p1).toUInt32 >>> ((6 : Int32) &&& 31).toUInt32).toInt32))] rfl ?_
          refine S.iload X.here hx (hb hby dvAL_31) rfl ?_
          exact k)
      by_cases hc12 : (((own_oct p0 p1).toUInt32 >>> ((6 : Int32) &&& 31).toUInt32).toInt32) = (0 : Int32)
      · have w13 := w11.pure (mkF m 38 #[.val (.long p0), .second, .val (.int p1), .val (.int p2), .val (.int (own_oct p0 p1)), .val (.int (((own_oct p0 p1).toUInt32 >>> ((6 : Int32) &&& 31).toUInt32).toInt32))] [(.int (45 : Int32))]) (fun X eT hZ hown k => by
            show Steps _ _ _ (State.setTop _ (mkF m 33 #[.val (.long p0), .second, .val (.int p1), .val (.int p2), .val (.int (own_oct p0 p1)), .val (.int (((own_oct p0 p1).toUInt32 >>> ((6 : Int32) &&& 31).toUInt32).toInt32))] [(.int (((own_oct p0 p1).toUInt32 >>> ((6 : Int32) &&& 31).toUInt32).toInt32))])) _
            refine S.ifNo X.here hx (hb hby dvAL_33) ((if0 _ _).trans (teq hc12).2) ?_
            refine S.bipush X.here hx (45 : Int32) (hb hby dvAL_36) rfl ?_
            exact k)
        exact w13.endV (v := some (.int (45 : Int32))) (Q := (fun v vm h => ∃ c : Int32, v = some (.int c) ∧ own_ok c ∧ h0 = h)) (wr := []) (h0 := h0) (fun h => by rw [Bd.returns] at h; cases h) Bd.notSynchronized (fun X hr => retN X hx (t := .char) Bd.returns (by simp) (hb hby dvAL_38) hr) (by decide) (by decide) (fun vmx hvx => ⟨(45 : Int32), rfl, (show own_ok (45 : Int32) by unfold own_ok; decide), rfl⟩) K0
      · have w14 := w11.pure (mkF m 42 #[.val (.long p0), .second, .val (.int p1), .val (.int p2), .val (.int (own_oct p0 p1)), .val (.int (((own_oct p0 p1).toUInt32 >>> ((6 : Int32) &&& 31).toUInt32).toInt32))] [(.int (1 : Int32)), (.int (((own_oct p0 p1).toUInt32 >>> ((6 : Int32) &&& 31).toUInt32).toInt32))]) (fun X eT hZ hown k => by
            show Steps _ _ _ (State.setTop _ (mkF m 33 #[.val (.long p0), .second, .val (.int p1), .val (.int p2), .val (.int (own_oct p0 p1)), .val (.int (((own_oct p0 p1).toUInt32 >>> ((6 : Int32) &&& 31).toUInt32).toInt32))] [(.int (((own_oct p0 p1).toUInt32 >>> ((6 : Int32) &&& 31).toUInt32).toInt32))])) _
            refine S.ifYes X.here hx 39 (hb hby dvAL_33) ((if0 _ _).trans (feq hc12).2) (by decide) (by decide) ?_
            refine S.iload X.here hx (hb hby dvAL_39) rfl ?_
            refine S.iconst X.here hx (1 : Int32) (hb hby dvAL_41) rfl ?_
            exact k)
        by_cases hc15 : (((own_oct p0 p1).toUInt32 >>> ((6 : Int32) &&& 31).toUInt32).toInt32) = (1 : Int32)
        · have w16 := w14.pure (mkF m 47 #[.val (.long p0), .second, .val (.int p1), .val (.int p2), .val (.int (own_oct p0 p1)), .val (.int (((own_oct p0 p1).toUInt32 >>> ((6 : Int32) &&& 31).toUInt32).toInt32))] [(.int (46 : Int32))]) (fun X eT hZ hown k => by
              show Steps _ _ _ (State.setTop _ (mkF m 42 #[.val (.long p0), .second, .val (.int p1), .val (.int p2), .val (.int (own_oct p0 p1)), .val (.int (((own_oct p0 p1).toUInt32 >>> ((6 : Int32) &&& 31).toUInt32).toInt32))] [(.int (1 : Int32)), (.int (((own_oct p0 p1).toUInt32 >>> ((6 : Int32) &&& 31).toUInt32).toInt32))])) _
              refine S.icmpNo X.here hx (hb hby dvAL_42) (teq hc15).2 ?_
              refine S.bipush X.here hx (46 : Int32) (hb hby dvAL_45) rfl ?_
              exact k)
          exact w16.endV (v := some (.int (46 : Int32))) (Q := (fun v vm h => ∃ c : Int32, v = some (.int c) ∧ own_ok c ∧ h0 = h)) (wr := []) (h0 := h0) (fun h => by rw [Bd.returns] at h; cases h) Bd.notSynchronized (fun X hr => retN X hx (t := .char) Bd.returns (by simp) (hb hby dvAL_47) hr) (by decide) (by decide) (fun vmx hvx => ⟨(46 : Int32), rfl, (show own_ok (46 : Int32) by unfold own_ok; decide), rfl⟩) K0
        · have w17 := w14.pure (mkF m 50 #[.val (.long p0), .second, .val (.int p1), .val (.int p2), .val (.int (own_oct p0 p1)), .val (.int (((own_oct p0 p1).toUInt32 >>> ((6 : Int32) &&& 31).toUInt32).toInt32))] [(.int (own_oct p0 p1))]) (fun X eT hZ hown k => by
              show Steps _ _ _ (State.setTop _ (mkF m 42 #[.val (.long p0), .second, .val (.int p1), .val (.int p2), .val (.int (own_oct p0 p1)), .val (.int (((own_oct p0 p1).toUInt32 >>> ((6 : Int32) &&& 31).toUInt32).toInt32))] [(.int (1 : Int32)), (.int (((own_oct p0 p1).toUInt32 >>> ((6 : Int32) &&& 31).toUInt32).toInt32))])) _
              refine S.icmpYes X.here hx 48 (hb hby dvAL_42) (feq hc15).2 (by decide) (by decide) ?_
              refine S.iload X.here hx (hb hby dvAL_48) rfl ?_
              exact k)
          obtain ⟨v18, vm18, h18, Q18, K18, z18, D18, C18, w18⟩ := w17.callSV hx (y := (⟨"com/example/rowanport/rowanport/util/MailAddressesDomainPinLaw", "alnum", "(I)C"⟩ : MethodName)) (W := 0) (hw _ (List.mem_of_getElem? (i := 58) rfl)) (hw _ (List.mem_of_getElem? (i := 59) rfl)) (hw _ (List.mem_of_getElem? (i := 3) rfl)) (hw _ (List.mem_of_getElem? (i := 60) rfl)) (by decide) ((rmwAL l Z a0 hw hE (own_oct p0 p1) a _ h0 n0 (by omega) hG X0 Sa).pay w17 (hw _ (List.mem_of_getElem? (i := 60) rfl)) (hw _ (List.mem_of_getElem? (i := 3) rfl)) (by decide) (by decide) (fun _ hv => LitV.stays hPV hv)) rfl (by rw [hml]; rfl) [] (lenOf pd_11 rfl) rfl (by show 2 * 0 + _ ≤ _; exact Nat.le_of_eq rfl) (hb hby dvAL_50) (by decide) (by decide)  (fun rv => (mkF m 53 #[.val (.long p0), .second, .val (.int p1), .val (.int p2), .val (.int (own_oct p0 p1)), .val (.int (((own_oct p0 p1).toUInt32 >>> ((6 : Int32) &&& 31).toUInt32).toInt32))] (rv.toList ++ []))) (fun _ => rfl)
          obtain ⟨c18, rfl, ok18, rfl⟩ := Q18
          exact w18.endV (v := some (.int (nar .char c18))) (Q := (fun v vm h => ∃ c : Int32, v = some (.int c) ∧ own_ok c ∧ h0 = h)) (wr := []) (h0 := h0) (fun h => by rw [Bd.returns] at h; cases h) Bd.notSynchronized (fun X hr => retN X hx (t := .char) Bd.returns (by simp) (hb hby dvAL_53) hr) (by decide) (by decide) (fun vmx hvx => ⟨c18, by rw [nar_rng ok18.1], ok18, rfl⟩) K0
def own_alnum (p0 : Int32) : Int32 := (if p0 < (65 : Int32) then (if p0 < (97 : Int32) then (if p0 < (48 : Int32) then (0 : Int32) else (if (57 : Int32) < p0 then (0 : Int32) else (1 : Int32))) else (if (122 : Int32) < p0 then (if p0 < (48 : Int32) then (0 : Int32) else (if (57 : Int32) < p0 then (0 : Int32) else (1 : Int32))) else (1 : Int32))) else (if (90 : Int32) < p0 then (if p0 < (97 : Int32) then (if p0 < (48 : Int32) then (0 : Int32) else (if (57 : Int32) < p0 then (0 : Int32) else (1 : Int32))) else (if (122 : Int32) < p0 then (if p0 < (48 : Int32) then (0 : Int32) else (if (57 : Int32) < p0 then (0 : Int32) else (1 : Int32))) else (1 : Int32))) else (1 : Int32)))
theorem dia_0 : decode method_5_code 0 = .ok (.iload_n 0, 1) := by decide +kernel
theorem dia_1 : decode method_5_code 1 = .ok (.bipush 65, 2) := by decide +kernel
theorem dia_3 : decode method_5_code 3 = .ok (.if_icmp .lt 9, 3) := by decide +kernel
theorem dia_6 : decode method_5_code 6 = .ok (.iload_n 0, 1) := by decide +kernel
theorem dia_7 : decode method_5_code 7 = .ok (.bipush 90, 2) := by decide +kernel
theorem dia_9 : decode method_5_code 9 = .ok (.if_icmp .le 27, 3) := by decide +kernel
theorem dia_12 : decode method_5_code 12 = .ok (.iload_n 0, 1) := by decide +kernel
theorem dia_13 : decode method_5_code 13 = .ok (.bipush 97, 2) := by decide +kernel
theorem dia_15 : decode method_5_code 15 = .ok (.if_icmp .lt 9, 3) := by decide +kernel
theorem dia_18 : decode method_5_code 18 = .ok (.iload_n 0, 1) := by decide +kernel
theorem dia_19 : decode method_5_code 19 = .ok (.bipush 122, 2) := by decide +kernel
theorem dia_21 : decode method_5_code 21 = .ok (.if_icmp .le 15, 3) := by decide +kernel
theorem dia_24 : decode method_5_code 24 = .ok (.iload_n 0, 1) := by decide +kernel
theorem dia_25 : decode method_5_code 25 = .ok (.bipush 48, 2) := by decide +kernel
theorem dia_27 : decode method_5_code 27 = .ok (.if_icmp .lt 13, 3) := by decide +kernel
theorem dia_30 : decode method_5_code 30 = .ok (.iload_n 0, 1) := by decide +kernel
theorem dia_31 : decode method_5_code 31 = .ok (.bipush 57, 2) := by decide +kernel
theorem dia_33 : decode method_5_code 33 = .ok (.if_icmp .gt 7, 3) := by decide +kernel
theorem dia_36 : decode method_5_code 36 = .ok (.iconst 1, 1) := by decide +kernel
theorem dia_37 : decode method_5_code 37 = .ok (.goto 4, 3) := by decide +kernel
theorem dia_40 : decode method_5_code 40 = .ok (.iconst 0, 1) := by decide +kernel
theorem dia_41 : decode method_5_code 41 = .ok (.ireturn, 1) := by decide +kernel
theorem efia (m : MethodId) (x0 : Int32) : entryFrame m #[(.int x0)] 1 = mkF m 0 #[.val (.int x0)] [] := by first | (simp [entryFrame, mkF, argsToLocals, Value.category, maxLocals]; done) | rfl
theorem pn_19 : plainFor (⟨"com/example/rowanport/rowanport/util/MailAddressesDomainPinLaw", "isAlnum", "(C)Z"⟩ : MethodName) = true := by first | decide +kernel | (apply plainFor_of_name; simp [plainName, overriddenIn]; done)
set_option maxRecDepth 65536 in
set_option maxHeartbeats 40000000 in
theorem rmia (l : Launch) (Z : State) (a0 : Array Value) (hw : ∀ d ∈ tables_1, d.before a0 Z = true) (p0 : Int32) (h0 : Heap) (n0 : Nat) (Z0 : n0 ≤ h0.size)  :
    NMet l Z (⟨"com/example/rowanport/rowanport/util/MailAddressesDomainPinLaw", "isAlnum", "(C)Z"⟩ : MethodName) method_5_code 1 (some .boolean) [] ({ frames := 0, cells := 0, slots := 0, locals := 0 } : Room) [(.int p0)] h0 n0 [] (fun v h => v = some (.int (own_alnum p0)) ∧ h0 = h) := by
  refine MetFree.of_bodySF pn_19 hisR ?_
  intro p e s m args below meth c s₁ Bd hml0 hP hK
  obtain ⟨rfl, hZ, hh⟩ := hP
  have hx := Bd.exec
  have hby := Bd.bytes
  have hml : c.maxLocals = 1 := hml0
  have hnm := (name_of_methodNamed Bd.named Bd.method).1
  have w0 := Wk.start (a0 := a0) (EL := []) (n0 := n0) (nw := true) Bd hZ hh EW.nil chv0 (efia m p0) ({ frames := 0, cells := 0, slots := 0, locals := 0 } : Room) rfl
  have K0 : Keep h0 h0 [] := Keep.refl _ _
  have w1 := w0.pure (mkF m 3 #[.val (.int p0)] [(.int (65 : Int32)), (.int p0)]) (fun X eT hZ hown k => by
      show Steps _ _ _ (State.setTop _ (mkF m 0 #[.val (.int p0)] [])) _
      refine S.iloadN X.here hx (hb hby dia_0) rfl ?_
      refine S.bipush X.here hx (65 : Int32) (hb hby dia_1) rfl ?_
      exact k)
  by_cases hc2 : p0 < (65 : Int32)
  · have w3 := w1.pure (mkF m 15 #[.val (.int p0)] [(.int (97 : Int32)), (.int p0)]) (fun X eT hZ hown k => by
        show Steps _ _ _ (State.setTop _ (mkF m 3 #[.val (.int p0)] [(.int (65 : Int32)), (.int p0)])) _
        refine S.icmpYes X.here hx 12 (hb hby dia_3) (tlt hc2).1 (by decide) (by decide) ?_
        refine S.iloadN X.here hx (hb hby dia_12) rfl ?_
        refine S.bipush X.here hx (97 : Int32) (hb hby dia_13) rfl ?_
        exact k)
    by_cases hc4 : p0 < (97 : Int32)
    · have w5 := w3.pure (mkF m 27 #[.val (.int p0)] [(.int (48 : Int32)), (.int p0)]) (fun X eT hZ hown k => by
          show Steps _ _ _ (State.setTop _ (mkF m 15 #[.val (.int p0)] [(.int (97 : Int32)), (.int p0)])) _
          refine S.icmpYes X.here hx 24 (hb hby dia_15) (tlt hc4).1 (by decide) (by decide) ?_
          refine S.iloadN X.here hx (hb hby dia_24) rfl ?_
          refine S.bipush X.here hx (48 : Int32) (hb hby dia_25) rfl ?_
          exact k)
      by_cases hc6 : p0 < (48 : Int32)
      · have w7 := w5.pure (mkF m 41 #[.val (.int p0)] [(.int (0 : Int32))]) (fun X eT hZ hown k => by
            show Steps _ _ _ (State.setTop _ (mkF m 27 #[.val (.int p0)] [(.int (48 : Int32)), (.int p0)])) _
            refine S.icmpYes X.here hx 40 (hb hby dia_27) (tlt hc6).1 (by decide) (by decide) ?_
            refine S.iconst X.here hx (0 : Int32) (hb hby dia_40) rfl ?_
            exact k)
        exact w7.endN (v := some (.int (0 : Int32))) (Q := (fun v h => v = some (.int (own_alnum p0)) ∧ h0 = h)) (wr := []) (h0 := h0) (fun h => by rw [Bd.returns] at h; cases h) Bd.notSynchronized (fun X hr => retN X hx (t := .boolean) Bd.returns (by simp) (hb hby dia_41) hr) (by decide) (by decide) ⟨by simp only [own_alnum, if_pos hc2, if_pos hc4, if_pos hc6], rfl⟩ K0
      · have w8 := w5.pure (mkF m 33 #[.val (.int p0)] [(.int (57 : Int32)), (.int p0)]) (fun X eT hZ hown k => by
            show Steps _ _ _ (State.setTop _ (mkF m 27 #[.val (.int p0)] [(.int (48 : Int32)), (.int p0)])) _
            refine S.icmpNo X.here hx (hb hby dia_27) (flt hc6).1 ?_
            refine S.iloadN X.here hx (hb hby dia_30) rfl ?_
            refine S.bipush X.here hx (57 : Int32) (hb hby dia_31) rfl ?_
            exact k)
        by_cases hc9 : (57 : Int32) < p0
        · have w10 := w8.pure (mkF m 41 #[.val (.int p0)] [(.int (0 : Int32))]) (fun X eT hZ hown k => by
              show Steps _ _ _ (State.setTop _ (mkF m 33 #[.val (.int p0)] [(.int (57 : Int32)), (.int p0)])) _
              refine S.icmpYes X.here hx 40 (hb hby dia_33) (tlt hc9).2.2.1 (by decide) (by decide) ?_
              refine S.iconst X.here hx (0 : Int32) (hb hby dia_40) rfl ?_
              exact k)
          exact w10.endN (v := some (.int (0 : Int32))) (Q := (fun v h => v = some (.int (own_alnum p0)) ∧ h0 = h)) (wr := []) (h0 := h0) (fun h => by rw [Bd.returns] at h; cases h) Bd.notSynchronized (fun X hr => retN X hx (t := .boolean) Bd.returns (by simp) (hb hby dia_41) hr) (by decide) (by decide) ⟨by simp only [own_alnum, if_pos hc2, if_pos hc4, if_neg hc6, if_pos hc9], rfl⟩ K0
        · have w11 := w8.pure (mkF m 41 #[.val (.int p0)] [(.int (1 : Int32))]) (fun X eT hZ hown k => by
              show Steps _ _ _ (State.setTop _ (mkF m 33 #[.val (.int p0)] [(.int (57 : Int32)), (.int p0)])) _
              refine S.icmpNo X.here hx (hb hby dia_33) (flt hc9).2.2.1 ?_
              refine S.iconst X.here hx (1 : Int32) (hb hby dia_36) rfl ?_
              refine S.goto X.here hx 41 (hb hby dia_37) (by decide) (by decide) ?_
              exact k)
          exact w11.endN (v := some (.int (1 : Int32))) (Q := (fun v h => v = some (.int (own_alnum p0)) ∧ h0 = h)) (wr := []) (h0 := h0) (fun h => by rw [Bd.returns] at h; cases h) Bd.notSynchronized (fun X hr => retN X hx (t := .boolean) Bd.returns (by simp) (hb hby dia_41) hr) (by decide) (by decide) ⟨by simp only [own_alnum, if_pos hc2, if_pos hc4, if_neg hc6, if_neg hc9], rfl⟩ K0
    · have w12 := w3.pure (mkF m 21 #[.val (.int p0)] [(.int (122 : Int32)), (.int p0)]) (fun X eT hZ hown k => by
          show Steps _ _ _ (State.setTop _ (mkF m 15 #[.val (.int p0)] [(.int (97 : Int32)), (.int p0)])) _
          refine S.icmpNo X.here hx (hb hby dia_15) (flt hc4).1 ?_
          refine S.iloadN X.here hx (hb hby dia_18) rfl ?_
          refine S.bipush X.here hx (122 : Int32) (hb hby dia_19) rfl ?_
          exact k)
      by_cases hc13 : (122 : Int32) < p0
      · have w14 := w12.pure (mkF m 27 #[.val (.int p0)] [(.int (48 : Int32)), (.int p0)]) (fun X eT hZ hown k => by
            show Steps _ _ _ (State.setTop _ (mkF m 21 #[.val (.int p0)] [(.int (122 : Int32)), (.int p0)])) _
            refine S.icmpNo X.here hx (hb hby dia_21) (tlt hc13).2.2.2 ?_
            refine S.iloadN X.here hx (hb hby dia_24) rfl ?_
            refine S.bipush X.here hx (48 : Int32) (hb hby dia_25) rfl ?_
            exact k)
        by_cases hc15 : p0 < (48 : Int32)
        · have w16 := w14.pure (mkF m 41 #[.val (.int p0)] [(.int (0 : Int32))]) (fun X eT hZ hown k => by
              show Steps _ _ _ (State.setTop _ (mkF m 27 #[.val (.int p0)] [(.int (48 : Int32)), (.int p0)])) _
              refine S.icmpYes X.here hx 40 (hb hby dia_27) (tlt hc15).1 (by decide) (by decide) ?_
              refine S.iconst X.here hx (0 : Int32) (hb hby dia_40) rfl ?_
              exact k)
          exact w16.endN (v := some (.int (0 : Int32))) (Q := (fun v h => v = some (.int (own_alnum p0)) ∧ h0 = h)) (wr := []) (h0 := h0) (fun h => by rw [Bd.returns] at h; cases h) Bd.notSynchronized (fun X hr => retN X hx (t := .boolean) Bd.returns (by simp) (hb hby dia_41) hr) (by decide) (by decide) ⟨by simp only [own_alnum, if_pos hc2, if_neg hc4, if_pos hc13, if_pos hc15], rfl⟩ K0
        · have w17 := w14.pure (mkF m 33 #[.val (.int p0)] [(.int (57 : Int32)), (.int p0)]) (fun X eT hZ hown k => by
              show Steps _ _ _ (State.setTop _ (mkF m 27 #[.val (.int p0)] [(.int (48 : Int32)), (.int p0)])) _
              refine S.icmpNo X.here hx (hb hby dia_27) (flt hc15).1 ?_
              refine S.iloadN X.here hx (hb hby dia_30) rfl ?_
              refine S.bipush X.here hx (57 : Int32) (hb hby dia_31) rfl ?_
              exact k)
          by_cases hc18 : (57 : Int32) < p0
          · have w19 := w17.pure (mkF m 41 #[.val (.int p0)] [(.int (0 : Int32))]) (fun X eT hZ hown k => by
                show Steps _ _ _ (State.setTop _ (mkF m 33 #[.val (.int p0)] [(.int (57 : Int32)), (.int p0)])) _
                refine S.icmpYes X.here hx 40 (hb hby dia_33) (tlt hc18).2.2.1 (by decide) (by decide) ?_
                refine S.iconst X.here hx (0 : Int32) (hb hby dia_40) rfl ?_
                exact k)
            exact w19.endN (v := some (.int (0 : Int32))) (Q := (fun v h => v = some (.int (own_alnum p0)) ∧ h0 = h)) (wr := []) (h0 := h0) (fun h => by rw [Bd.returns] at h; cases h) Bd.notSynchronized (fun X hr => retN X hx (t := .boolean) Bd.returns (by simp) (hb hby dia_41) hr) (by decide) (by decide) ⟨by simp only [own_alnum, if_pos hc2, if_neg hc4, if_pos hc13, if_neg hc15, if_pos hc18], rfl⟩ K0
          · have w20 := w17.pure (mkF m 41 #[.val (.int p0)] [(.int (1 : Int32))]) (fun X eT hZ hown k => by
                show Steps _ _ _ (State.setTop _ (mkF m 33 #[.val (.int p0)] [(.int (57 : Int32)), (.int p0)])) _
                refine S.icmpNo X.here hx (hb hby dia_33) (flt hc18).2.2.1 ?_
                refine S.iconst X.here hx (1 : Int32) (hb hby dia_36) rfl ?_
                refine S.goto X.here hx 41 (hb hby dia_37) (by decide) (by decide) ?_
                exact k)
            exact w20.endN (v := some (.int (1 : Int32))) (Q := (fun v h => v = some (.int (own_alnum p0)) ∧ h0 = h)) (wr := []) (h0 := h0) (fun h => by rw [Bd.returns] at h; cases h) Bd.notSynchronized (fun X hr => retN X hx (t := .boolean) Bd.returns (by simp) (hb hby dia_41) hr) (by decide) (by decide) ⟨by simp only [own_alnum, if_pos hc2, if_neg hc4, if_pos hc13, if_neg hc15, if_neg hc18], rfl⟩ K0
      · have w21 := w12.pure (mkF m 41 #[.val (.int p0)] [(.int (1 : Int32))]) (fun X eT hZ hown k => by
            show Steps _ _ _ (State.setTop _ (mkF m 21 #[.val (.int p0)] [(.int (122 : Int32)), (.int p0)])) _
            refine S.icmpYes X.here hx 36 (hb hby dia_21) (flt hc13).2.2.2 (by decide) (by decide) ?_
            refine S.iconst X.here hx (1 : Int32) (hb hby dia_36) rfl ?_
            refine S.goto X.here hx 41 (hb hby dia_37) (by decide) (by decide) ?_
            exact k)
        exact w21.endN (v := some (.int (1 : Int32))) (Q := (fun v h => v = some (.int (own_alnum p0)) ∧ h0 = h)) (wr := []) (h0 := h0) (fun h => by rw [Bd.returns] at h; cases h) Bd.notSynchronized (fun X hr => retN X hx (t := .boolean) Bd.returns (by simp) (hb hby dia_41) hr) (by decide) (by decide) ⟨by simp only [own_alnum, if_pos hc2, if_neg hc4, if_neg hc13], rfl⟩ K0
  · have w22 := w1.pure (mkF m 9 #[.val (.int p0)] [(.int (90 : Int32)), (.int p0)]) (fun X eT hZ hown k => by
        show Steps _ _ _ (State.setTop _ (mkF m 3 #[.val (.int p0)] [(.int (65 : Int32)), (.int p0)])) _
        refine S.icmpNo X.here hx (hb hby dia_3) (flt hc2).1 ?_
        refine S.iloadN X.here hx (hb hby dia_6) rfl ?_
        refine S.bipush X.here hx (90 : Int32) (hb hby dia_7) rfl ?_
        exact k)
    by_cases hc23 : (90 : Int32) < p0
    · have w24 := w22.pure (mkF m 15 #[.val (.int p0)] [(.int (97 : Int32)), (.int p0)]) (fun X eT hZ hown k => by
          show Steps _ _ _ (State.setTop _ (mkF m 9 #[.val (.int p0)] [(.int (90 : Int32)), (.int p0)])) _
          refine S.icmpNo X.here hx (hb hby dia_9) (tlt hc23).2.2.2 ?_
          refine S.iloadN X.here hx (hb hby dia_12) rfl ?_
          refine S.bipush X.here hx (97 : Int32) (hb hby dia_13) rfl ?_
          exact k)
      by_cases hc25 : p0 < (97 : Int32)
      · have w26 := w24.pure (mkF m 27 #[.val (.int p0)] [(.int (48 : Int32)), (.int p0)]) (fun X eT hZ hown k => by
            show Steps _ _ _ (State.setTop _ (mkF m 15 #[.val (.int p0)] [(.int (97 : Int32)), (.int p0)])) _
            refine S.icmpYes X.here hx 24 (hb hby dia_15) (tlt hc25).1 (by decide) (by decide) ?_
            refine S.iloadN X.here hx (hb hby dia_24) rfl ?_
            refine S.bipush X.here hx (48 : Int32) (hb hby dia_25) rfl ?_
            exact k)
        by_cases hc27 : p0 < (48 : Int32)
        · have w28 := w26.pure (mkF m 41 #[.val (.int p0)] [(.int (0 : Int32))]) (fun X eT hZ hown k => by
              show Steps _ _ _ (State.setTop _ (mkF m 27 #[.val (.int p0)] [(.int (48 : Int32)), (.int p0)])) _
              refine S.icmpYes X.here hx 40 (hb hby dia_27) (tlt hc27).1 (by decide) (by decide) ?_
              refine S.iconst X.here hx (0 : Int32) (hb hby dia_40) rfl ?_
              exact k)
          exact w28.endN (v := some (.int (0 : Int32))) (Q := (fun v h => v = some (.int (own_alnum p0)) ∧ h0 = h)) (wr := []) (h0 := h0) (fun h => by rw [Bd.returns] at h; cases h) Bd.notSynchronized (fun X hr => retN X hx (t := .boolean) Bd.returns (by simp) (hb hby dia_41) hr) (by decide) (by decide) ⟨by simp only [own_alnum, if_neg hc2, if_pos hc23, if_pos hc25, if_pos hc27], rfl⟩ K0
        · have w29 := w26.pure (mkF m 33 #[.val (.int p0)] [(.int (57 : Int32)), (.int p0)]) (fun X eT hZ hown k => by
              show Steps _ _ _ (State.setTop _ (mkF m 27 #[.val (.int p0)] [(.int (48 : Int32)), (.int p0)])) _
              refine S.icmpNo X.here hx (hb hby dia_27) (flt hc27).1 ?_
              refine S.iloadN X.here hx (hb hby dia_30) rfl ?_
              refine S.bipush X.here hx (57 : Int32) (hb hby dia_31) rfl ?_
              exact k)
          by_cases hc30 : (57 : Int32) < p0
          · have w31 := w29.pure (mkF m 41 #[.val (.int p0)] [(.int (0 : Int32))]) (fun X eT hZ hown k => by
                show Steps _ _ _ (State.setTop _ (mkF m 33 #[.val (.int p0)] [(.int (57 : Int32)), (.int p0)])) _
                refine S.icmpYes X.here hx 40 (hb hby dia_33) (tlt hc30).2.2.1 (by decide) (by decide) ?_
                refine S.iconst X.here hx (0 : Int32) (hb hby dia_40) rfl ?_
                exact k)
            exact w31.endN (v := some (.int (0 : Int32))) (Q := (fun v h => v = some (.int (own_alnum p0)) ∧ h0 = h)) (wr := []) (h0 := h0) (fun h => by rw [Bd.returns] at h; cases h) Bd.notSynchronized (fun X hr => retN X hx (t := .boolean) Bd.returns (by simp) (hb hby dia_41) hr) (by decide) (by decide) ⟨by simp only [own_alnum, if_neg hc2, if_pos hc23, if_pos hc25, if_neg hc27, if_pos hc30], rfl⟩ K0
          · have w32 := w29.pure (mkF m 41 #[.val (.int p0)] [(.int (1 : Int32))]) (fun X eT hZ hown k => by
                show Steps _ _ _ (State.setTop _ (mkF m 33 #[.val (.int p0)] [(.int (57 : Int32)), (.int p0)])) _
                refine S.icmpNo X.here hx (hb hby dia_33) (flt hc30).2.2.1 ?_
                refine S.iconst X.here hx (1 : Int32) (hb hby dia_36) rfl ?_
                refine S.goto X.here hx 41 (hb hby dia_37) (by decide) (by decide) ?_
                exact k)
            exact w32.endN (v := some (.int (1 : Int32))) (Q := (fun v h => v = some (.int (own_alnum p0)) ∧ h0 = h)) (wr := []) (h0 := h0) (fun h => by rw [Bd.returns] at h; cases h) Bd.notSynchronized (fun X hr => retN X hx (t := .boolean) Bd.returns (by simp) (hb hby dia_41) hr) (by decide) (by decide) ⟨by simp only [own_alnum, if_neg hc2, if_pos hc23, if_pos hc25, if_neg hc27, if_neg hc30], rfl⟩ K0
      · have w33 := w24.pure (mkF m 21 #[.val (.int p0)] [(.int (122 : Int32)), (.int p0)]) (fun X eT hZ hown k => by
            show Steps _ _ _ (State.setTop _ (mkF m 15 #[.val (.int p0)] [(.int (97 : Int32)), (.int p0)])) _
            refine S.icmpNo X.here hx (hb hby dia_15) (flt hc25).1 ?_
            refine S.iloadN X.here hx (hb hby dia_18) rfl ?_
            refine S.bipush X.here hx (122 : Int32) (hb hby dia_19) rfl ?_
            exact k)
        by_cases hc34 : (122 : Int32) < p0
        · have w35 := w33.pure (mkF m 27 #[.val (.int p0)] [(.int (48 : Int32)), (.int p0)]) (fun X eT hZ hown k => by
              show Steps _ _ _ (State.setTop _ (mkF m 21 #[.val (.int p0)] [(.int (122 : Int32)), (.int p0)])) _
              refine S.icmpNo X.here hx (hb hby dia_21) (tlt hc34).2.2.2 ?_
              refine S.iloadN X.here hx (hb hby dia_24) rfl ?_
              refine S.bipush X.here hx (48 : Int32) (hb hby dia_25) rfl ?_
              exact k)
          by_cases hc36 : p0 < (48 : Int32)
          · have w37 := w35.pure (mkF m 41 #[.val (.int p0)] [(.int (0 : Int32))]) (fun X eT hZ hown k => by
                show Steps _ _ _ (State.setTop _ (mkF m 27 #[.val (.int p0)] [(.int (48 : Int32)), (.int p0)])) _
                refine S.icmpYes X.here hx 40 (hb hby dia_27) (tlt hc36).1 (by decide) (by decide) ?_
                refine S.iconst X.here hx (0 : Int32) (hb hby dia_40) rfl ?_
                exact k)
            exact w37.endN (v := some (.int (0 : Int32))) (Q := (fun v h => v = some (.int (own_alnum p0)) ∧ h0 = h)) (wr := []) (h0 := h0) (fun h => by rw [Bd.returns] at h; cases h) Bd.notSynchronized (fun X hr => retN X hx (t := .boolean) Bd.returns (by simp) (hb hby dia_41) hr) (by decide) (by decide) ⟨by simp only [own_alnum, if_neg hc2, if_pos hc23, if_neg hc25, if_pos hc34, if_pos hc36], rfl⟩ K0
          · have w38 := w35.pure (mkF m 33 #[.val (.int p0)] [(.int (57 : Int32)), (.int p0)]) (fun X eT hZ hown k => by
                show Steps _ _ _ (State.setTop _ (mkF m 27 #[.val (.int p0)] [(.int (48 : Int32)), (.int p0)])) _
                refine S.icmpNo X.here hx (hb hby dia_27) (flt hc36).1 ?_
                refine S.iloadN X.here hx (hb hby dia_30) rfl ?_
                refine S.bipush X.here hx (57 : Int32) (hb hby dia_31) rfl ?_
                exact k)
            by_cases hc39 : (57 : Int32) < p0
            · have w40 := w38.pure (mkF m 41 #[.val (.int p0)] [(.int (0 : Int32))]) (fun X eT hZ hown k => by
                  show Steps _ _ _ (State.setTop _ (mkF m 33 #[.val (.int p0)] [(.int (57 : Int32)), (.int p0)])) _
                  refine S.icmpYes X.here hx 40 (hb hby dia_33) (tlt hc39).2.2.1 (by decide) (by decide) ?_
                  refine S.iconst X.here hx (0 : Int32) (hb hby dia_40) rfl ?_
                  exact k)
              exact w40.endN (v := some (.int (0 : Int32))) (Q := (fun v h => v = some (.int (own_alnum p0)) ∧ h0 = h)) (wr := []) (h0 := h0) (fun h => by rw [Bd.returns] at h; cases h) Bd.notSynchronized (fun X hr => retN X hx (t := .boolean) Bd.returns (by simp) (hb hby dia_41) hr) (by decide) (by decide) ⟨by simp only [own_alnum, if_neg hc2, if_pos hc23, if_neg hc25, if_pos hc34, if_neg hc36, if_pos hc39], rfl⟩ K0
            · have w41 := w38.pure (mkF m 41 #[.val (.int p0)] [(.int (1 : Int32))]) (fun X eT hZ hown k => by
                  show Steps _ _ _ (State.setTop _ (mkF m 33 #[.val (.int p0)] [(.int (57 : Int32)), (.int p0)])) _
                  refine S.icmpNo X.here hx (hb hby dia_33) (flt hc39).2.2.1 ?_
                  refine S.iconst X.here hx (1 : Int32) (hb hby dia_36) rfl ?_
                  refine S.goto X.here hx 41 (hb hby dia_37) (by decide) (by decide) ?_
                  exact k)
              exact w41.endN (v := some (.int (1 : Int32))) (Q := (fun v h => v = some (.int (own_alnum p0)) ∧ h0 = h)) (wr := []) (h0 := h0) (fun h => by rw [Bd.returns] at h; cases h) Bd.notSynchronized (fun X hr => retN X hx (t := .boolean) Bd.returns (by simp) (hb hby dia_41) hr) (by decide) (by decide) ⟨by simp only [own_alnum, if_neg hc2, if_pos hc23, if_neg hc25, if_pos hc34, if_neg hc36, if_neg hc39], rfl⟩ K0
        · have w42 := w33.pure (mkF m 41 #[.val (.int p0)] [(.int (1 : Int32))]) (fun X eT hZ hown k => by
              show Steps _ _ _ (State.setTop _ (mkF m 21 #[.val (.int p0)] [(.int (122 : Int32)), (.int p0)])) _
              refine S.icmpYes X.here hx 36 (hb hby dia_21) (flt hc34).2.2.2 (by decide) (by decide) ?_
              refine S.iconst X.here hx (1 : Int32) (hb hby dia_36) rfl ?_
              refine S.goto X.here hx 41 (hb hby dia_37) (by decide) (by decide) ?_
              exact k)
          exact w42.endN (v := some (.int (1 : Int32))) (Q := (fun v h => v = some (.int (own_alnum p0)) ∧ h0 = h)) (wr := []) (h0 := h0) (fun h => by rw [Bd.returns] at h; cases h) Bd.notSynchronized (fun X hr => retN X hx (t := .boolean) Bd.returns (by simp) (hb hby dia_41) hr) (by decide) (by decide) ⟨by simp only [own_alnum, if_neg hc2, if_pos hc23, if_neg hc25, if_neg hc34], rfl⟩ K0
    · have w43 := w22.pure (mkF m 41 #[.val (.int p0)] [(.int (1 : Int32))]) (fun X eT hZ hown k => by
          show Steps _ _ _ (State.setTop _ (mkF m 9 #[.val (.int p0)] [(.int (90 : Int32)), (.int p0)])) _
          refine S.icmpYes X.here hx 36 (hb hby dia_9) (flt hc23).2.2.2 (by decide) (by decide) ?_
          refine S.iconst X.here hx (1 : Int32) (hb hby dia_36) rfl ?_
          refine S.goto X.here hx 41 (hb hby dia_37) (by decide) (by decide) ?_
          exact k)
      exact w43.endN (v := some (.int (1 : Int32))) (Q := (fun v h => v = some (.int (own_alnum p0)) ∧ h0 = h)) (wr := []) (h0 := h0) (fun h => by rw [Bd.returns] at h; cases h) Bd.notSynchronized (fun X hr => retN X hx (t := .boolean) Bd.returns (by simp) (hb hby dia_41) hr) (by decide) (by decide) ⟨by simp only [own_alnum, if_neg hc2, if_neg hc23], rfl⟩ K0
theorem dx10_0 : decode method_8_code 0 = .ok (.iload_n 3, 1) := by decide +kernel
theorem dx10_1 : decode method_8_code 1 = .ok (.iload_n 2, 1) := by decide +kernel
theorem dx10_2 : decode method_8_code 2 = .ok (.if_icmp .ge 7, 3) := by decide +kernel
theorem dx10_5 : decode method_8_code 5 = .ok (.aload_n 0, 1) := by decide +kernel
theorem dx10_6 : decode method_8_code 6 = .ok (.iload_n 3, 1) := by decide +kernel
theorem dx10_7 : decode method_8_code 7 = .ok (.caload, 1) := by decide +kernel
theorem dx10_8 : decode method_8_code 8 = .ok (.ireturn, 1) := by decide +kernel
theorem efx10 (m : MethodId) (x0 : Nat) (x1 : Nat) (x2 : Int32) (x3 : Int32) : entryFrame m #[(.ref x0), (.ref x1), (.int x2), (.int x3)] 4 = mkF m 0 #[.val (.ref x0), .val (.ref x1), .val (.int x2), .val (.int x3)] [] := by first | (simp [entryFrame, mkF, argsToLocals, Value.category, maxLocals]; done) | rfl
theorem pn_20 : plainFor (⟨"com/example/rowanport/rowanport/util/MailAddressesDomainPinLaw", "at", "([C[CII)C"⟩ : MethodName) = true := by first | decide +kernel | (apply plainFor_of_name; simp [plainName, overriddenIn]; done)
set_option maxRecDepth 65536 in
set_option maxHeartbeats 40000000 in
theorem rmx10 (l : Launch) (Z : State) (a0 : Array Value) (hw : ∀ d ∈ tables_1, d.before a0 Z = true) (a b : Nat) (ka kb : ClassId) (d0 d1 d2 d3 e0 e1 e2 e3 : Int32) (h0 : Heap) (n0 : Nat) (Z0 : n0 ≤ h0.size) (VA : Arv Z h0 a ka .char (4 : Int32) [(.int d0), (.int d1), (.int d2), (.int d3)] (.int (0 : Int32))) (VB : Arv Z h0 b kb .char (4 : Int32) [(.int e0), (.int e1), (.int e2), (.int e3)] (.int (0 : Int32))) (kd0 : own_ok d0) (kd1 : own_ok d1) (kd2 : own_ok d2) (kd3 : own_ok d3) (ke0 : own_ok e0) (ke1 : own_ok e1) (ke2 : own_ok e2) (ke3 : own_ok e3) :
    NMet l Z (⟨"com/example/rowanport/rowanport/util/MailAddressesDomainPinLaw", "at", "([C[CII)C"⟩ : MethodName) method_8_code 4 (some .char) [] ({ frames := 0, cells := 0, slots := 0, locals := 0 } : Room) [(.ref a), (.ref b), (.int (1 : Int32)), (.int (0 : Int32))] h0 n0 [] (fun v h => v = some (.int d0) ∧ h0 = h) := by
  refine MetFree.of_bodySF pn_20 hisR ?_
  intro p e s m args below meth c s₁ Bd hml0 hP hK
  obtain ⟨rfl, hZ, hh⟩ := hP
  have hx := Bd.exec
  have hby := Bd.bytes
  have hml : c.maxLocals = 4 := hml0
  have hnm := (name_of_methodNamed Bd.named Bd.method).1
  have w0 := Wk.start (a0 := a0) (EL := []) (n0 := n0) (nw := true) Bd hZ hh EW.nil chv0 (efx10 m a b (1 : Int32) (0 : Int32)) ({ frames := 0, cells := 0, slots := 0, locals := 0 } : Room) rfl
  have K0 : Keep h0 h0 [] := Keep.refl _ _
  have lt_VA := arlt VA
  have lt_VB := arlt VB
  have w1 := w0.pure (mkF m 8 #[.val (.ref a), .val (.ref b), .val (.int (1 : Int32)), .val (.int (0 : Int32))] [(.int d0)]) (fun X eT hZ hown k => by
      show Steps _ _ _ (State.setTop _ (mkF m 0 #[.val (.ref a), .val (.ref b), .val (.int (1 : Int32)), .val (.int (0 : Int32))] [])) _
      refine S.iloadN X.here hx (hb hby dx10_0) rfl ?_
      refine S.iloadN X.here hx (hb hby dx10_1) rfl ?_
      refine S.icmpNo X.here hx (hb hby dx10_2) (by decide) ?_
      refine S.aloadN X.here hx (hb hby dx10_5) rfl rfl ?_
      refine S.iloadN X.here hx (hb hby dx10_6) rfl ?_
      refine caV X hx eT hZ VA (v := (.int d0)) ⟨by decide, by decide⟩ rfl rfl rfl (hb hby dx10_7) ?_
      show Steps _ _ _ (State.setTop _ (mkF m 8 #[.val (.ref a), .val (.ref b), .val (.int (1 : Int32)), .val (.int (0 : Int32))] [(.int d0)])) _
      exact k)
  exact w1.endN (v := some (.int (nar .char d0))) (Q := (fun v h => v = some (.int d0) ∧ h0 = h)) (wr := []) (h0 := h0) (fun h => by rw [Bd.returns] at h; cases h) Bd.notSynchronized (fun X hr => retN X hx (t := .char) Bd.returns (by simp) (hb hby dx10_8) hr) (by decide) (by decide) ⟨by rw [nar_rng kd0.1], rfl⟩ K0
theorem dx11_0 : decode method_8_code 0 = .ok (.iload_n 3, 1) := by decide +kernel
theorem dx11_1 : decode method_8_code 1 = .ok (.iload_n 2, 1) := by decide +kernel
theorem dx11_2 : decode method_8_code 2 = .ok (.if_icmp .ge 7, 3) := by decide +kernel
theorem dx11_9 : decode method_8_code 9 = .ok (.iload_n 3, 1) := by decide +kernel
theorem dx11_10 : decode method_8_code 10 = .ok (.iload_n 2, 1) := by decide +kernel
theorem dx11_11 : decode method_8_code 11 = .ok (.if_icmp .ne 6, 3) := by decide +kernel
theorem dx11_14 : decode method_8_code 14 = .ok (.bipush 64, 2) := by decide +kernel
theorem dx11_16 : decode method_8_code 16 = .ok (.ireturn, 1) := by decide +kernel
theorem efx11 (m : MethodId) (x0 : Nat) (x1 : Nat) (x2 : Int32) (x3 : Int32) : entryFrame m #[(.ref x0), (.ref x1), (.int x2), (.int x3)] 4 = mkF m 0 #[.val (.ref x0), .val (.ref x1), .val (.int x2), .val (.int x3)] [] := by first | (simp [entryFrame, mkF, argsToLocals, Value.category, maxLocals]; done) | rfl
set_option maxRecDepth 65536 in
set_option maxHeartbeats 40000000 in
theorem rmx11 (l : Launch) (Z : State) (a0 : Array Value) (hw : ∀ d ∈ tables_1, d.before a0 Z = true) (a b : Nat) (ka kb : ClassId) (d0 d1 d2 d3 e0 e1 e2 e3 : Int32) (h0 : Heap) (n0 : Nat) (Z0 : n0 ≤ h0.size) (VA : Arv Z h0 a ka .char (4 : Int32) [(.int d0), (.int d1), (.int d2), (.int d3)] (.int (0 : Int32))) (VB : Arv Z h0 b kb .char (4 : Int32) [(.int e0), (.int e1), (.int e2), (.int e3)] (.int (0 : Int32))) (kd0 : own_ok d0) (kd1 : own_ok d1) (kd2 : own_ok d2) (kd3 : own_ok d3) (ke0 : own_ok e0) (ke1 : own_ok e1) (ke2 : own_ok e2) (ke3 : own_ok e3) :
    NMet l Z (⟨"com/example/rowanport/rowanport/util/MailAddressesDomainPinLaw", "at", "([C[CII)C"⟩ : MethodName) method_8_code 4 (some .char) [] ({ frames := 0, cells := 0, slots := 0, locals := 0 } : Room) [(.ref a), (.ref b), (.int (1 : Int32)), (.int (1 : Int32))] h0 n0 [] (fun v h => v = some (.int (64 : Int32)) ∧ h0 = h) := by
  refine MetFree.of_bodySF pn_20 hisR ?_
  intro p e s m args below meth c s₁ Bd hml0 hP hK
  obtain ⟨rfl, hZ, hh⟩ := hP
  have hx := Bd.exec
  have hby := Bd.bytes
  have hml : c.maxLocals = 4 := hml0
  have hnm := (name_of_methodNamed Bd.named Bd.method).1
  have w0 := Wk.start (a0 := a0) (EL := []) (n0 := n0) (nw := true) Bd hZ hh EW.nil chv0 (efx11 m a b (1 : Int32) (1 : Int32)) ({ frames := 0, cells := 0, slots := 0, locals := 0 } : Room) rfl
  have K0 : Keep h0 h0 [] := Keep.refl _ _
  have lt_VA := arlt VA
  have lt_VB := arlt VB
  have w1 := w0.pure (mkF m 16 #[.val (.ref a), .val (.ref b), .val (.int (1 : Int32)), .val (.int (1 : Int32))] [(.int (64 : Int32))]) (fun X eT hZ hown k => by
      show Steps _ _ _ (State.setTop _ (mkF m 0 #[.val (.ref a), .val (.ref b), .val (.int (1 : Int32)), .val (.int (1 : Int32))] [])) _
      refine S.iloadN X.here hx (hb hby dx11_0) rfl ?_
      refine S.iloadN X.here hx (hb hby dx11_1) rfl ?_
      refine S.icmpYes X.here hx 9 (hb hby dx11_2) (by decide) (by decide) (by decide) ?_
      refine S.iloadN X.here hx (hb hby dx11_9) rfl ?_
      refine S.iloadN X.here hx (hb hby dx11_10) rfl ?_
      refine S.icmpNo X.here hx (hb hby dx11_11) (by decide) ?_
      refine S.bipush X.here hx (64 : Int32) (hb hby dx11_14) rfl ?_
      exact k)
  exact w1.endN (v := some (.int (64 : Int32))) (Q := (fun v h => v = some (.int (64 : Int32)) ∧ h0 = h)) (wr := []) (h0 := h0) (fun h => by rw [Bd.returns] at h; cases h) Bd.notSynchronized (fun X hr => retN X hx (t := .char) Bd.returns (by simp) (hb hby dx11_16) hr) (by decide) (by decide) ⟨rfl, rfl⟩ K0
theorem dx12_0 : decode method_8_code 0 = .ok (.iload_n 3, 1) := by decide +kernel
theorem dx12_1 : decode method_8_code 1 = .ok (.iload_n 2, 1) := by decide +kernel
theorem dx12_2 : decode method_8_code 2 = .ok (.if_icmp .ge 7, 3) := by decide +kernel
theorem dx12_9 : decode method_8_code 9 = .ok (.iload_n 3, 1) := by decide +kernel
theorem dx12_10 : decode method_8_code 10 = .ok (.iload_n 2, 1) := by decide +kernel
theorem dx12_11 : decode method_8_code 11 = .ok (.if_icmp .ne 6, 3) := by decide +kernel
theorem dx12_17 : decode method_8_code 17 = .ok (.aload_n 1, 1) := by decide +kernel
theorem dx12_18 : decode method_8_code 18 = .ok (.iload_n 3, 1) := by decide +kernel
theorem dx12_19 : decode method_8_code 19 = .ok (.iload_n 2, 1) := by decide +kernel
theorem dx12_20 : decode method_8_code 20 = .ok (.isub, 1) := by decide +kernel
theorem dx12_21 : decode method_8_code 21 = .ok (.iconst 1, 1) := by decide +kernel
theorem dx12_22 : decode method_8_code 22 = .ok (.isub, 1) := by decide +kernel
theorem dx12_23 : decode method_8_code 23 = .ok (.caload, 1) := by decide +kernel
theorem dx12_24 : decode method_8_code 24 = .ok (.ireturn, 1) := by decide +kernel
theorem efx12 (m : MethodId) (x0 : Nat) (x1 : Nat) (x2 : Int32) (x3 : Int32) : entryFrame m #[(.ref x0), (.ref x1), (.int x2), (.int x3)] 4 = mkF m 0 #[.val (.ref x0), .val (.ref x1), .val (.int x2), .val (.int x3)] [] := by first | (simp [entryFrame, mkF, argsToLocals, Value.category, maxLocals]; done) | rfl
set_option maxRecDepth 65536 in
set_option maxHeartbeats 40000000 in
theorem rmx12 (l : Launch) (Z : State) (a0 : Array Value) (hw : ∀ d ∈ tables_1, d.before a0 Z = true) (a b : Nat) (ka kb : ClassId) (d0 d1 d2 d3 e0 e1 e2 e3 : Int32) (h0 : Heap) (n0 : Nat) (Z0 : n0 ≤ h0.size) (VA : Arv Z h0 a ka .char (4 : Int32) [(.int d0), (.int d1), (.int d2), (.int d3)] (.int (0 : Int32))) (VB : Arv Z h0 b kb .char (4 : Int32) [(.int e0), (.int e1), (.int e2), (.int e3)] (.int (0 : Int32))) (kd0 : own_ok d0) (kd1 : own_ok d1) (kd2 : own_ok d2) (kd3 : own_ok d3) (ke0 : own_ok e0) (ke1 : own_ok e1) (ke2 : own_ok e2) (ke3 : own_ok e3) :
    NMet l Z (⟨"com/example/rowanport/rowanport/util/MailAddressesDomainPinLaw", "at", "([C[CII)C"⟩ : MethodName) method_8_code 4 (some .char) [] ({ frames := 0, cells := 0, slots := 0, locals := 0 } : Room) [(.ref a), (.ref b), (.int (1 : Int32)), (.int (2 : Int32))] h0 n0 [] (fun v h => v = some (.int e0) ∧ h0 = h) := by
  refine MetFree.of_bodySF pn_20 hisR ?_
  intro p e s m args below meth c s₁ Bd hml0 hP hK
  obtain ⟨rfl, hZ, hh⟩ := hP
  have hx := Bd.exec
  have hby := Bd.bytes
  have hml : c.maxLocals = 4 := hml0
  have hnm := (name_of_methodNamed Bd.named Bd.method).1
  have w0 := Wk.start (a0 := a0) (EL := []) (n0 := n0) (nw := true) Bd hZ hh EW.nil chv0 (efx12 m a b (1 : Int32) (2 : Int32)) ({ frames := 0, cells := 0, slots := 0, locals := 0 } : Room) rfl
  have K0 : Keep h0 h0 [] := Keep.refl _ _
  have lt_VA := arlt VA
  have lt_VB := arlt VB
  have w1 := w0.pure (mkF m 24 #[.val (.ref a), .val (.ref b), .val (.int (1 : Int32)), .val (.int (2 : Int32))] [(.int e0)]) (fun X eT hZ hown k => by
      show Steps _ _ _ (State.setTop _ (mkF m 0 #[.val (.ref a), .val (.ref b), .val (.int (1 : Int32)), .val (.int (2 : Int32))] [])) _
      refine S.iloadN X.here hx (hb hby dx12_0) rfl ?_
      refine S.iloadN X.here hx (hb hby dx12_1) rfl ?_
      refine S.icmpYes X.here hx 9 (hb hby dx12_2) (by decide) (by decide) (by decide) ?_
      refine S.iloadN X.here hx (hb hby dx12_9) rfl ?_
      refine S.iloadN X.here hx (hb hby dx12_10) rfl ?_
      refine S.icmpYes X.here hx 17 (hb hby dx12_11) (by decide) (by decide) (by decide) ?_
      refine S.aloadN X.here hx (hb hby dx12_17) rfl rfl ?_
      refine S.iloadN X.here hx (hb hby dx12_18) rfl ?_
      refine S.iloadN X.here hx (hb hby dx12_19) rfl ?_
      refine S.isubV X.here hx (1 : Int32) (hb hby dx12_20) rfl ?_
      refine S.iconst X.here hx (1 : Int32) (hb hby dx12_21) rfl ?_
      refine S.isubV X.here hx (0 : Int32) (hb hby dx12_22) rfl ?_
      refine caV X hx eT hZ VB (v := (.int e0)) ⟨by decide, by decide⟩ rfl rfl rfl (hb hby dx12_23) ?_
      show Steps _ _ _ (State.setTop _ (mkF m 24 #[.val (.ref a), .val (.ref b), .val (.int (1 : Int32)), .val (.int (2 : Int32))] [(.int e0)])) _
      exact k)
  exact w1.endN (v := some (.int (nar .char e0))) (Q := (fun v h => v = some (.int e0) ∧ h0 = h)) (wr := []) (h0 := h0) (fun h => by rw [Bd.returns] at h; cases h) Bd.notSynchronized (fun X hr => retN X hx (t := .char) Bd.returns (by simp) (hb hby dx12_24) hr) (by decide) (by decide) ⟨by rw [nar_rng ke0.1], rfl⟩ K0
theorem dx13_0 : decode method_8_code 0 = .ok (.iload_n 3, 1) := by decide +kernel
theorem dx13_1 : decode method_8_code 1 = .ok (.iload_n 2, 1) := by decide +kernel
theorem dx13_2 : decode method_8_code 2 = .ok (.if_icmp .ge 7, 3) := by decide +kernel
theorem dx13_9 : decode method_8_code 9 = .ok (.iload_n 3, 1) := by decide +kernel
theorem dx13_10 : decode method_8_code 10 = .ok (.iload_n 2, 1) := by decide +kernel
theorem dx13_11 : decode method_8_code 11 = .ok (.if_icmp .ne 6, 3) := by decide +kernel
theorem dx13_17 : decode method_8_code 17 = .ok (.aload_n 1, 1) := by decide +kernel
theorem dx13_18 : decode method_8_code 18 = .ok (.iload_n 3, 1) := by decide +kernel
theorem dx13_19 : decode method_8_code 19 = .ok (.iload_n 2, 1) := by decide +kernel
theorem dx13_20 : decode method_8_code 20 = .ok (.isub, 1) := by decide +kernel
theorem dx13_21 : decode method_8_code 21 = .ok (.iconst 1, 1) := by decide +kernel
theorem dx13_22 : decode method_8_code 22 = .ok (.isub, 1) := by decide +kernel
theorem dx13_23 : decode method_8_code 23 = .ok (.caload, 1) := by decide +kernel
theorem dx13_24 : decode method_8_code 24 = .ok (.ireturn, 1) := by decide +kernel
theorem efx13 (m : MethodId) (x0 : Nat) (x1 : Nat) (x2 : Int32) (x3 : Int32) : entryFrame m #[(.ref x0), (.ref x1), (.int x2), (.int x3)] 4 = mkF m 0 #[.val (.ref x0), .val (.ref x1), .val (.int x2), .val (.int x3)] [] := by first | (simp [entryFrame, mkF, argsToLocals, Value.category, maxLocals]; done) | rfl
set_option maxRecDepth 65536 in
set_option maxHeartbeats 40000000 in
theorem rmx13 (l : Launch) (Z : State) (a0 : Array Value) (hw : ∀ d ∈ tables_1, d.before a0 Z = true) (a b : Nat) (ka kb : ClassId) (d0 d1 d2 d3 e0 e1 e2 e3 : Int32) (h0 : Heap) (n0 : Nat) (Z0 : n0 ≤ h0.size) (VA : Arv Z h0 a ka .char (4 : Int32) [(.int d0), (.int d1), (.int d2), (.int d3)] (.int (0 : Int32))) (VB : Arv Z h0 b kb .char (4 : Int32) [(.int e0), (.int e1), (.int e2), (.int e3)] (.int (0 : Int32))) (kd0 : own_ok d0) (kd1 : own_ok d1) (kd2 : own_ok d2) (kd3 : own_ok d3) (ke0 : own_ok e0) (ke1 : own_ok e1) (ke2 : own_ok e2) (ke3 : own_ok e3) :
    NMet l Z (⟨"com/example/rowanport/rowanport/util/MailAddressesDomainPinLaw", "at", "([C[CII)C"⟩ : MethodName) method_8_code 4 (some .char) [] ({ frames := 0, cells := 0, slots := 0, locals := 0 } : Room) [(.ref a), (.ref b), (.int (1 : Int32)), (.int (3 : Int32))] h0 n0 [] (fun v h => v = some (.int e1) ∧ h0 = h) := by
  refine MetFree.of_bodySF pn_20 hisR ?_
  intro p e s m args below meth c s₁ Bd hml0 hP hK
  obtain ⟨rfl, hZ, hh⟩ := hP
  have hx := Bd.exec
  have hby := Bd.bytes
  have hml : c.maxLocals = 4 := hml0
  have hnm := (name_of_methodNamed Bd.named Bd.method).1
  have w0 := Wk.start (a0 := a0) (EL := []) (n0 := n0) (nw := true) Bd hZ hh EW.nil chv0 (efx13 m a b (1 : Int32) (3 : Int32)) ({ frames := 0, cells := 0, slots := 0, locals := 0 } : Room) rfl
  have K0 : Keep h0 h0 [] := Keep.refl _ _
  have lt_VA := arlt VA
  have lt_VB := arlt VB
  have w1 := w0.pure (mkF m 24 #[.val (.ref a), .val (.ref b), .val (.int (1 : Int32)), .val (.int (3 : Int32))] [(.int e1)]) (fun X eT hZ hown k => by
      show Steps _ _ _ (State.setTop _ (mkF m 0 #[.val (.ref a), .val (.ref b), .val (.int (1 : Int32)), .val (.int (3 : Int32))] [])) _
      refine S.iloadN X.here hx (hb hby dx13_0) rfl ?_
      refine S.iloadN X.here hx (hb hby dx13_1) rfl ?_
      refine S.icmpYes X.here hx 9 (hb hby dx13_2) (by decide) (by decide) (by decide) ?_
      refine S.iloadN X.here hx (hb hby dx13_9) rfl ?_
      refine S.iloadN X.here hx (hb hby dx13_10) rfl ?_
      refine S.icmpYes X.here hx 17 (hb hby dx13_11) (by decide) (by decide) (by decide) ?_
      refine S.aloadN X.here hx (hb hby dx13_17) rfl rfl ?_
      refine S.iloadN X.here hx (hb hby dx13_18) rfl ?_
      refine S.iloadN X.here hx (hb hby dx13_19) rfl ?_
      refine S.isubV X.here hx (2 : Int32) (hb hby dx13_20) rfl ?_
      refine S.iconst X.here hx (1 : Int32) (hb hby dx13_21) rfl ?_
      refine S.isubV X.here hx (1 : Int32) (hb hby dx13_22) rfl ?_
      refine caV X hx eT hZ VB (v := (.int e1)) ⟨by decide, by decide⟩ rfl rfl rfl (hb hby dx13_23) ?_
      show Steps _ _ _ (State.setTop _ (mkF m 24 #[.val (.ref a), .val (.ref b), .val (.int (1 : Int32)), .val (.int (3 : Int32))] [(.int e1)])) _
      exact k)
  exact w1.endN (v := some (.int (nar .char e1))) (Q := (fun v h => v = some (.int e1) ∧ h0 = h)) (wr := []) (h0 := h0) (fun h => by rw [Bd.returns] at h; cases h) Bd.notSynchronized (fun X hr => retN X hx (t := .char) Bd.returns (by simp) (hb hby dx13_24) hr) (by decide) (by decide) ⟨by rw [nar_rng ke1.1], rfl⟩ K0
theorem dx14_0 : decode method_8_code 0 = .ok (.iload_n 3, 1) := by decide +kernel
theorem dx14_1 : decode method_8_code 1 = .ok (.iload_n 2, 1) := by decide +kernel
theorem dx14_2 : decode method_8_code 2 = .ok (.if_icmp .ge 7, 3) := by decide +kernel
theorem dx14_9 : decode method_8_code 9 = .ok (.iload_n 3, 1) := by decide +kernel
theorem dx14_10 : decode method_8_code 10 = .ok (.iload_n 2, 1) := by decide +kernel
theorem dx14_11 : decode method_8_code 11 = .ok (.if_icmp .ne 6, 3) := by decide +kernel
theorem dx14_17 : decode method_8_code 17 = .ok (.aload_n 1, 1) := by decide +kernel
theorem dx14_18 : decode method_8_code 18 = .ok (.iload_n 3, 1) := by decide +kernel
theorem dx14_19 : decode method_8_code 19 = .ok (.iload_n 2, 1) := by decide +kernel
theorem dx14_20 : decode method_8_code 20 = .ok (.isub, 1) := by decide +kernel
theorem dx14_21 : decode method_8_code 21 = .ok (.iconst 1, 1) := by decide +kernel
theorem dx14_22 : decode method_8_code 22 = .ok (.isub, 1) := by decide +kernel
theorem dx14_23 : decode method_8_code 23 = .ok (.caload, 1) := by decide +kernel
theorem dx14_24 : decode method_8_code 24 = .ok (.ireturn, 1) := by decide +kernel
theorem efx14 (m : MethodId) (x0 : Nat) (x1 : Nat) (x2 : Int32) (x3 : Int32) : entryFrame m #[(.ref x0), (.ref x1), (.int x2), (.int x3)] 4 = mkF m 0 #[.val (.ref x0), .val (.ref x1), .val (.int x2), .val (.int x3)] [] := by first | (simp [entryFrame, mkF, argsToLocals, Value.category, maxLocals]; done) | rfl
set_option maxRecDepth 65536 in
set_option maxHeartbeats 40000000 in
theorem rmx14 (l : Launch) (Z : State) (a0 : Array Value) (hw : ∀ d ∈ tables_1, d.before a0 Z = true) (a b : Nat) (ka kb : ClassId) (d0 d1 d2 d3 e0 e1 e2 e3 : Int32) (h0 : Heap) (n0 : Nat) (Z0 : n0 ≤ h0.size) (VA : Arv Z h0 a ka .char (4 : Int32) [(.int d0), (.int d1), (.int d2), (.int d3)] (.int (0 : Int32))) (VB : Arv Z h0 b kb .char (4 : Int32) [(.int e0), (.int e1), (.int e2), (.int e3)] (.int (0 : Int32))) (kd0 : own_ok d0) (kd1 : own_ok d1) (kd2 : own_ok d2) (kd3 : own_ok d3) (ke0 : own_ok e0) (ke1 : own_ok e1) (ke2 : own_ok e2) (ke3 : own_ok e3) :
    NMet l Z (⟨"com/example/rowanport/rowanport/util/MailAddressesDomainPinLaw", "at", "([C[CII)C"⟩ : MethodName) method_8_code 4 (some .char) [] ({ frames := 0, cells := 0, slots := 0, locals := 0 } : Room) [(.ref a), (.ref b), (.int (1 : Int32)), (.int (4 : Int32))] h0 n0 [] (fun v h => v = some (.int e2) ∧ h0 = h) := by
  refine MetFree.of_bodySF pn_20 hisR ?_
  intro p e s m args below meth c s₁ Bd hml0 hP hK
  obtain ⟨rfl, hZ, hh⟩ := hP
  have hx := Bd.exec
  have hby := Bd.bytes
  have hml : c.maxLocals = 4 := hml0
  have hnm := (name_of_methodNamed Bd.named Bd.method).1
  have w0 := Wk.start (a0 := a0) (EL := []) (n0 := n0) (nw := true) Bd hZ hh EW.nil chv0 (efx14 m a b (1 : Int32) (4 : Int32)) ({ frames := 0, cells := 0, slots := 0, locals := 0 } : Room) rfl
  have K0 : Keep h0 h0 [] := Keep.refl _ _
  have lt_VA := arlt VA
  have lt_VB := arlt VB
  have w1 := w0.pure (mkF m 24 #[.val (.ref a), .val (.ref b), .val (.int (1 : Int32)), .val (.int (4 : Int32))] [(.int e2)]) (fun X eT hZ hown k => by
      show Steps _ _ _ (State.setTop _ (mkF m 0 #[.val (.ref a), .val (.ref b), .val (.int (1 : Int32)), .val (.int (4 : Int32))] [])) _
      refine S.iloadN X.here hx (hb hby dx14_0) rfl ?_
      refine S.iloadN X.here hx (hb hby dx14_1) rfl ?_
      refine S.icmpYes X.here hx 9 (hb hby dx14_2) (by decide) (by decide) (by decide) ?_
      refine S.iloadN X.here hx (hb hby dx14_9) rfl ?_
      refine S.iloadN X.here hx (hb hby dx14_10) rfl ?_
      refine S.icmpYes X.here hx 17 (hb hby dx14_11) (by decide) (by decide) (by decide) ?_
      refine S.aloadN X.here hx (hb hby dx14_17) rfl rfl ?_
      refine S.iloadN X.here hx (hb hby dx14_18) rfl ?_
      refine S.iloadN X.here hx (hb hby dx14_19) rfl ?_
      refine S.isubV X.here hx (3 : Int32) (hb hby dx14_20) rfl ?_
      refine S.iconst X.here hx (1 : Int32) (hb hby dx14_21) rfl ?_
      refine S.isubV X.here hx (2 : Int32) (hb hby dx14_22) rfl ?_
      refine caV X hx eT hZ VB (v := (.int e2)) ⟨by decide, by decide⟩ rfl rfl rfl (hb hby dx14_23) ?_
      show Steps _ _ _ (State.setTop _ (mkF m 24 #[.val (.ref a), .val (.ref b), .val (.int (1 : Int32)), .val (.int (4 : Int32))] [(.int e2)])) _
      exact k)
  exact w1.endN (v := some (.int (nar .char e2))) (Q := (fun v h => v = some (.int e2) ∧ h0 = h)) (wr := []) (h0 := h0) (fun h => by rw [Bd.returns] at h; cases h) Bd.notSynchronized (fun X hr => retN X hx (t := .char) Bd.returns (by simp) (hb hby dx14_24) hr) (by decide) (by decide) ⟨by rw [nar_rng ke2.1], rfl⟩ K0
theorem dx15_0 : decode method_8_code 0 = .ok (.iload_n 3, 1) := by decide +kernel
theorem dx15_1 : decode method_8_code 1 = .ok (.iload_n 2, 1) := by decide +kernel
theorem dx15_2 : decode method_8_code 2 = .ok (.if_icmp .ge 7, 3) := by decide +kernel
theorem dx15_9 : decode method_8_code 9 = .ok (.iload_n 3, 1) := by decide +kernel
theorem dx15_10 : decode method_8_code 10 = .ok (.iload_n 2, 1) := by decide +kernel
theorem dx15_11 : decode method_8_code 11 = .ok (.if_icmp .ne 6, 3) := by decide +kernel
theorem dx15_17 : decode method_8_code 17 = .ok (.aload_n 1, 1) := by decide +kernel
theorem dx15_18 : decode method_8_code 18 = .ok (.iload_n 3, 1) := by decide +kernel
theorem dx15_19 : decode method_8_code 19 = .ok (.iload_n 2, 1) := by decide +kernel
theorem dx15_20 : decode method_8_code 20 = .ok (.isub, 1) := by decide +kernel
theorem dx15_21 : decode method_8_code 21 = .ok (.iconst 1, 1) := by decide +kernel
theorem dx15_22 : decode method_8_code 22 = .ok (.isub, 1) := by decide +kernel
theorem dx15_23 : decode method_8_code 23 = .ok (.caload, 1) := by decide +kernel
theorem dx15_24 : decode method_8_code 24 = .ok (.ireturn, 1) := by decide +kernel
theorem efx15 (m : MethodId) (x0 : Nat) (x1 : Nat) (x2 : Int32) (x3 : Int32) : entryFrame m #[(.ref x0), (.ref x1), (.int x2), (.int x3)] 4 = mkF m 0 #[.val (.ref x0), .val (.ref x1), .val (.int x2), .val (.int x3)] [] := by first | (simp [entryFrame, mkF, argsToLocals, Value.category, maxLocals]; done) | rfl
set_option maxRecDepth 65536 in
set_option maxHeartbeats 40000000 in
theorem rmx15 (l : Launch) (Z : State) (a0 : Array Value) (hw : ∀ d ∈ tables_1, d.before a0 Z = true) (a b : Nat) (ka kb : ClassId) (d0 d1 d2 d3 e0 e1 e2 e3 : Int32) (h0 : Heap) (n0 : Nat) (Z0 : n0 ≤ h0.size) (VA : Arv Z h0 a ka .char (4 : Int32) [(.int d0), (.int d1), (.int d2), (.int d3)] (.int (0 : Int32))) (VB : Arv Z h0 b kb .char (4 : Int32) [(.int e0), (.int e1), (.int e2), (.int e3)] (.int (0 : Int32))) (kd0 : own_ok d0) (kd1 : own_ok d1) (kd2 : own_ok d2) (kd3 : own_ok d3) (ke0 : own_ok e0) (ke1 : own_ok e1) (ke2 : own_ok e2) (ke3 : own_ok e3) :
    NMet l Z (⟨"com/example/rowanport/rowanport/util/MailAddressesDomainPinLaw", "at", "([C[CII)C"⟩ : MethodName) method_8_code 4 (some .char) [] ({ frames := 0, cells := 0, slots := 0, locals := 0 } : Room) [(.ref a), (.ref b), (.int (1 : Int32)), (.int (5 : Int32))] h0 n0 [] (fun v h => v = some (.int e3) ∧ h0 = h) := by
  refine MetFree.of_bodySF pn_20 hisR ?_
  intro p e s m args below meth c s₁ Bd hml0 hP hK
  obtain ⟨rfl, hZ, hh⟩ := hP
  have hx := Bd.exec
  have hby := Bd.bytes
  have hml : c.maxLocals = 4 := hml0
  have hnm := (name_of_methodNamed Bd.named Bd.method).1
  have w0 := Wk.start (a0 := a0) (EL := []) (n0 := n0) (nw := true) Bd hZ hh EW.nil chv0 (efx15 m a b (1 : Int32) (5 : Int32)) ({ frames := 0, cells := 0, slots := 0, locals := 0 } : Room) rfl
  have K0 : Keep h0 h0 [] := Keep.refl _ _
  have lt_VA := arlt VA
  have lt_VB := arlt VB
  have w1 := w0.pure (mkF m 24 #[.val (.ref a), .val (.ref b), .val (.int (1 : Int32)), .val (.int (5 : Int32))] [(.int e3)]) (fun X eT hZ hown k => by
      show Steps _ _ _ (State.setTop _ (mkF m 0 #[.val (.ref a), .val (.ref b), .val (.int (1 : Int32)), .val (.int (5 : Int32))] [])) _
      refine S.iloadN X.here hx (hb hby dx15_0) rfl ?_
      refine S.iloadN X.here hx (hb hby dx15_1) rfl ?_
      refine S.icmpYes X.here hx 9 (hb hby dx15_2) (by decide) (by decide) (by decide) ?_
      refine S.iloadN X.here hx (hb hby dx15_9) rfl ?_
      refine S.iloadN X.here hx (hb hby dx15_10) rfl ?_
      refine S.icmpYes X.here hx 17 (hb hby dx15_11) (by decide) (by decide) (by decide) ?_
      refine S.aloadN X.here hx (hb hby dx15_17) rfl rfl ?_
      refine S.iloadN X.here hx (hb hby dx15_18) rfl ?_
      refine S.iloadN X.here hx (hb hby dx15_19) rfl ?_
      refine S.isubV X.here hx (4 : Int32) (hb hby dx15_20) rfl ?_
      refine S.iconst X.here hx (1 : Int32) (hb hby dx15_21) rfl ?_
      refine S.isubV X.here hx (3 : Int32) (hb hby dx15_22) rfl ?_
      refine caV X hx eT hZ VB (v := (.int e3)) ⟨by decide, by decide⟩ rfl rfl rfl (hb hby dx15_23) ?_
      show Steps _ _ _ (State.setTop _ (mkF m 24 #[.val (.ref a), .val (.ref b), .val (.int (1 : Int32)), .val (.int (5 : Int32))] [(.int e3)])) _
      exact k)
  exact w1.endN (v := some (.int (nar .char e3))) (Q := (fun v h => v = some (.int e3) ∧ h0 = h)) (wr := []) (h0 := h0) (fun h => by rw [Bd.returns] at h; cases h) Bd.notSynchronized (fun X hr => retN X hx (t := .char) Bd.returns (by simp) (hb hby dx15_24) hr) (by decide) (by decide) ⟨by rw [nar_rng ke3.1], rfl⟩ K0
theorem dx20_0 : decode method_8_code 0 = .ok (.iload_n 3, 1) := by decide +kernel
theorem dx20_1 : decode method_8_code 1 = .ok (.iload_n 2, 1) := by decide +kernel
theorem dx20_2 : decode method_8_code 2 = .ok (.if_icmp .ge 7, 3) := by decide +kernel
theorem dx20_5 : decode method_8_code 5 = .ok (.aload_n 0, 1) := by decide +kernel
theorem dx20_6 : decode method_8_code 6 = .ok (.iload_n 3, 1) := by decide +kernel
theorem dx20_7 : decode method_8_code 7 = .ok (.caload, 1) := by decide +kernel
theorem dx20_8 : decode method_8_code 8 = .ok (.ireturn, 1) := by decide +kernel
theorem efx20 (m : MethodId) (x0 : Nat) (x1 : Nat) (x2 : Int32) (x3 : Int32) : entryFrame m #[(.ref x0), (.ref x1), (.int x2), (.int x3)] 4 = mkF m 0 #[.val (.ref x0), .val (.ref x1), .val (.int x2), .val (.int x3)] [] := by first | (simp [entryFrame, mkF, argsToLocals, Value.category, maxLocals]; done) | rfl
set_option maxRecDepth 65536 in
set_option maxHeartbeats 40000000 in
theorem rmx20 (l : Launch) (Z : State) (a0 : Array Value) (hw : ∀ d ∈ tables_1, d.before a0 Z = true) (a b : Nat) (ka kb : ClassId) (d0 d1 d2 d3 e0 e1 e2 e3 : Int32) (h0 : Heap) (n0 : Nat) (Z0 : n0 ≤ h0.size) (VA : Arv Z h0 a ka .char (4 : Int32) [(.int d0), (.int d1), (.int d2), (.int d3)] (.int (0 : Int32))) (VB : Arv Z h0 b kb .char (4 : Int32) [(.int e0), (.int e1), (.int e2), (.int e3)] (.int (0 : Int32))) (kd0 : own_ok d0) (kd1 : own_ok d1) (kd2 : own_ok d2) (kd3 : own_ok d3) (ke0 : own_ok e0) (ke1 : own_ok e1) (ke2 : own_ok e2) (ke3 : own_ok e3) :
    NMet l Z (⟨"com/example/rowanport/rowanport/util/MailAddressesDomainPinLaw", "at", "([C[CII)C"⟩ : MethodName) method_8_code 4 (some .char) [] ({ frames := 0, cells := 0, slots := 0, locals := 0 } : Room) [(.ref a), (.ref b), (.int (2 : Int32)), (.int (0 : Int32))] h0 n0 [] (fun v h => v = some (.int d0) ∧ h0 = h) := by
  refine MetFree.of_bodySF pn_20 hisR ?_
  intro p e s m args below meth c s₁ Bd hml0 hP hK
  obtain ⟨rfl, hZ, hh⟩ := hP
  have hx := Bd.exec
  have hby := Bd.bytes
  have hml : c.maxLocals = 4 := hml0
  have hnm := (name_of_methodNamed Bd.named Bd.method).1
  have w0 := Wk.start (a0 := a0) (EL := []) (n0 := n0) (nw := true) Bd hZ hh EW.nil chv0 (efx20 m a b (2 : Int32) (0 : Int32)) ({ frames := 0, cells := 0, slots := 0, locals := 0 } : Room) rfl
  have K0 : Keep h0 h0 [] := Keep.refl _ _
  have lt_VA := arlt VA
  have lt_VB := arlt VB
  have w1 := w0.pure (mkF m 8 #[.val (.ref a), .val (.ref b), .val (.int (2 : Int32)), .val (.int (0 : Int32))] [(.int d0)]) (fun X eT hZ hown k => by
      show Steps _ _ _ (State.setTop _ (mkF m 0 #[.val (.ref a), .val (.ref b), .val (.int (2 : Int32)), .val (.int (0 : Int32))] [])) _
      refine S.iloadN X.here hx (hb hby dx20_0) rfl ?_
      refine S.iloadN X.here hx (hb hby dx20_1) rfl ?_
      refine S.icmpNo X.here hx (hb hby dx20_2) (by decide) ?_
      refine S.aloadN X.here hx (hb hby dx20_5) rfl rfl ?_
      refine S.iloadN X.here hx (hb hby dx20_6) rfl ?_
      refine caV X hx eT hZ VA (v := (.int d0)) ⟨by decide, by decide⟩ rfl rfl rfl (hb hby dx20_7) ?_
      show Steps _ _ _ (State.setTop _ (mkF m 8 #[.val (.ref a), .val (.ref b), .val (.int (2 : Int32)), .val (.int (0 : Int32))] [(.int d0)])) _
      exact k)
  exact w1.endN (v := some (.int (nar .char d0))) (Q := (fun v h => v = some (.int d0) ∧ h0 = h)) (wr := []) (h0 := h0) (fun h => by rw [Bd.returns] at h; cases h) Bd.notSynchronized (fun X hr => retN X hx (t := .char) Bd.returns (by simp) (hb hby dx20_8) hr) (by decide) (by decide) ⟨by rw [nar_rng kd0.1], rfl⟩ K0
theorem dx21_0 : decode method_8_code 0 = .ok (.iload_n 3, 1) := by decide +kernel
theorem dx21_1 : decode method_8_code 1 = .ok (.iload_n 2, 1) := by decide +kernel
theorem dx21_2 : decode method_8_code 2 = .ok (.if_icmp .ge 7, 3) := by decide +kernel
theorem dx21_5 : decode method_8_code 5 = .ok (.aload_n 0, 1) := by decide +kernel
theorem dx21_6 : decode method_8_code 6 = .ok (.iload_n 3, 1) := by decide +kernel
theorem dx21_7 : decode method_8_code 7 = .ok (.caload, 1) := by decide +kernel
theorem dx21_8 : decode method_8_code 8 = .ok (.ireturn, 1) := by decide +kernel
theorem efx21 (m : MethodId) (x0 : Nat) (x1 : Nat) (x2 : Int32) (x3 : Int32) : entryFrame m #[(.ref x0), (.ref x1), (.int x2), (.int x3)] 4 = mkF m 0 #[.val (.ref x0), .val (.ref x1), .val (.int x2), .val (.int x3)] [] := by first | (simp [entryFrame, mkF, argsToLocals, Value.category, maxLocals]; done) | rfl
set_option maxRecDepth 65536 in
set_option maxHeartbeats 40000000 in
theorem rmx21 (l : Launch) (Z : State) (a0 : Array Value) (hw : ∀ d ∈ tables_1, d.before a0 Z = true) (a b : Nat) (ka kb : ClassId) (d0 d1 d2 d3 e0 e1 e2 e3 : Int32) (h0 : Heap) (n0 : Nat) (Z0 : n0 ≤ h0.size) (VA : Arv Z h0 a ka .char (4 : Int32) [(.int d0), (.int d1), (.int d2), (.int d3)] (.int (0 : Int32))) (VB : Arv Z h0 b kb .char (4 : Int32) [(.int e0), (.int e1), (.int e2), (.int e3)] (.int (0 : Int32))) (kd0 : own_ok d0) (kd1 : own_ok d1) (kd2 : own_ok d2) (kd3 : own_ok d3) (ke0 : own_ok e0) (ke1 : own_ok e1) (ke2 : own_ok e2) (ke3 : own_ok e3) :
    NMet l Z (⟨"com/example/rowanport/rowanport/util/MailAddressesDomainPinLaw", "at", "([C[CII)C"⟩ : MethodName) method_8_code 4 (some .char) [] ({ frames := 0, cells := 0, slots := 0, locals := 0 } : Room) [(.ref a), (.ref b), (.int (2 : Int32)), (.int (1 : Int32))] h0 n0 [] (fun v h => v = some (.int d1) ∧ h0 = h) := by
  refine MetFree.of_bodySF pn_20 hisR ?_
  intro p e s m args below meth c s₁ Bd hml0 hP hK
  obtain ⟨rfl, hZ, hh⟩ := hP
  have hx := Bd.exec
  have hby := Bd.bytes
  have hml : c.maxLocals = 4 := hml0
  have hnm := (name_of_methodNamed Bd.named Bd.method).1
  have w0 := Wk.start (a0 := a0) (EL := []) (n0 := n0) (nw := true) Bd hZ hh EW.nil chv0 (efx21 m a b (2 : Int32) (1 : Int32)) ({ frames := 0, cells := 0, slots := 0, locals := 0 } : Room) rfl
  have K0 : Keep h0 h0 [] := Keep.refl _ _
  have lt_VA := arlt VA
  have lt_VB := arlt VB
  have w1 := w0.pure (mkF m 8 #[.val (.ref a), .val (.ref b), .val (.int (2 : Int32)), .val (.int (1 : Int32))] [(.int d1)]) (fun X eT hZ hown k => by
      show Steps _ _ _ (State.setTop _ (mkF m 0 #[.val (.ref a), .val (.ref b), .val (.int (2 : Int32)), .val (.int (1 : Int32))] [])) _
      refine S.iloadN X.here hx (hb hby dx21_0) rfl ?_
      refine S.iloadN X.here hx (hb hby dx21_1) rfl ?_
      refine S.icmpNo X.here hx (hb hby dx21_2) (by decide) ?_
      refine S.aloadN X.here hx (hb hby dx21_5) rfl rfl ?_
      refine S.iloadN X.here hx (hb hby dx21_6) rfl ?_
      refine caV X hx eT hZ VA (v := (.int d1)) ⟨by decide, by decide⟩ rfl rfl rfl (hb hby dx21_7) ?_
      show Steps _ _ _ (State.setTop _ (mkF m 8 #[.val (.ref a), .val (.ref b), .val (.int (2 : Int32)), .val (.int (1 : Int32))] [(.int d1)])) _
      exact k)
  exact w1.endN (v := some (.int (nar .char d1))) (Q := (fun v h => v = some (.int d1) ∧ h0 = h)) (wr := []) (h0 := h0) (fun h => by rw [Bd.returns] at h; cases h) Bd.notSynchronized (fun X hr => retN X hx (t := .char) Bd.returns (by simp) (hb hby dx21_8) hr) (by decide) (by decide) ⟨by rw [nar_rng kd1.1], rfl⟩ K0
theorem dx22_0 : decode method_8_code 0 = .ok (.iload_n 3, 1) := by decide +kernel
theorem dx22_1 : decode method_8_code 1 = .ok (.iload_n 2, 1) := by decide +kernel
theorem dx22_2 : decode method_8_code 2 = .ok (.if_icmp .ge 7, 3) := by decide +kernel
theorem dx22_9 : decode method_8_code 9 = .ok (.iload_n 3, 1) := by decide +kernel
theorem dx22_10 : decode method_8_code 10 = .ok (.iload_n 2, 1) := by decide +kernel
theorem dx22_11 : decode method_8_code 11 = .ok (.if_icmp .ne 6, 3) := by decide +kernel
theorem dx22_14 : decode method_8_code 14 = .ok (.bipush 64, 2) := by decide +kernel
theorem dx22_16 : decode method_8_code 16 = .ok (.ireturn, 1) := by decide +kernel
theorem efx22 (m : MethodId) (x0 : Nat) (x1 : Nat) (x2 : Int32) (x3 : Int32) : entryFrame m #[(.ref x0), (.ref x1), (.int x2), (.int x3)] 4 = mkF m 0 #[.val (.ref x0), .val (.ref x1), .val (.int x2), .val (.int x3)] [] := by first | (simp [entryFrame, mkF, argsToLocals, Value.category, maxLocals]; done) | rfl
set_option maxRecDepth 65536 in
set_option maxHeartbeats 40000000 in
theorem rmx22 (l : Launch) (Z : State) (a0 : Array Value) (hw : ∀ d ∈ tables_1, d.before a0 Z = true) (a b : Nat) (ka kb : ClassId) (d0 d1 d2 d3 e0 e1 e2 e3 : Int32) (h0 : Heap) (n0 : Nat) (Z0 : n0 ≤ h0.size) (VA : Arv Z h0 a ka .char (4 : Int32) [(.int d0), (.int d1), (.int d2), (.int d3)] (.int (0 : Int32))) (VB : Arv Z h0 b kb .char (4 : Int32) [(.int e0), (.int e1), (.int e2), (.int e3)] (.int (0 : Int32))) (kd0 : own_ok d0) (kd1 : own_ok d1) (kd2 : own_ok d2) (kd3 : own_ok d3) (ke0 : own_ok e0) (ke1 : own_ok e1) (ke2 : own_ok e2) (ke3 : own_ok e3) :
    NMet l Z (⟨"com/example/rowanport/rowanport/util/MailAddressesDomainPinLaw", "at", "([C[CII)C"⟩ : MethodName) method_8_code 4 (some .char) [] ({ frames := 0, cells := 0, slots := 0, locals := 0 } : Room) [(.ref a), (.ref b), (.int (2 : Int32)), (.int (2 : Int32))] h0 n0 [] (fun v h => v = some (.int (64 : Int32)) ∧ h0 = h) := by
  refine MetFree.of_bodySF pn_20 hisR ?_
  intro p e s m args below meth c s₁ Bd hml0 hP hK
  obtain ⟨rfl, hZ, hh⟩ := hP
  have hx := Bd.exec
  have hby := Bd.bytes
  have hml : c.maxLocals = 4 := hml0
  have hnm := (name_of_methodNamed Bd.named Bd.method).1
  have w0 := Wk.start (a0 := a0) (EL := []) (n0 := n0) (nw := true) Bd hZ hh EW.nil chv0 (efx22 m a b (2 : Int32) (2 : Int32)) ({ frames := 0, cells := 0, slots := 0, locals := 0 } : Room) rfl
  have K0 : Keep h0 h0 [] := Keep.refl _ _
  have lt_VA := arlt VA
  have lt_VB := arlt VB
  have w1 := w0.pure (mkF m 16 #[.val (.ref a), .val (.ref b), .val (.int (2 : Int32)), .val (.int (2 : Int32))] [(.int (64 : Int32))]) (fun X eT hZ hown k => by
      show Steps _ _ _ (State.setTop _ (mkF m 0 #[.val (.ref a), .val (.ref b), .val (.int (2 : Int32)), .val (.int (2 : Int32))] [])) _
      refine S.iloadN X.here hx (hb hby dx22_0) rfl ?_
      refine S.iloadN X.here hx (hb hby dx22_1) rfl ?_
      refine S.icmpYes X.here hx 9 (hb hby dx22_2) (by decide) (by decide) (by decide) ?_
      refine S.iloadN X.here hx (hb hby dx22_9) rfl ?_
      refine S.iloadN X.here hx (hb hby dx22_10) rfl ?_
      refine S.icmpNo X.here hx (hb hby dx22_11) (by decide) ?_
      refine S.bipush X.here hx (64 : Int32) (hb hby dx22_14) rfl ?_
      exact k)
  exact w1.endN (v := some (.int (64 : Int32))) (Q := (fun v h => v = some (.int (64 : Int32)) ∧ h0 = h)) (wr := []) (h0 := h0) (fun h => by rw [Bd.returns] at h; cases h) Bd.notSynchronized (fun X hr => retN X hx (t := .char) Bd.returns (by simp) (hb hby dx22_16) hr) (by decide) (by decide) ⟨rfl, rfl⟩ K0
theorem dx23_0 : decode method_8_code 0 = .ok (.iload_n 3, 1) := by decide +kernel
theorem dx23_1 : decode method_8_code 1 = .ok (.iload_n 2, 1) := by decide +kernel
theorem dx23_2 : decode method_8_code 2 = .ok (.if_icmp .ge 7, 3) := by decide +kernel
theorem dx23_9 : decode method_8_code 9 = .ok (.iload_n 3, 1) := by decide +kernel
theorem dx23_10 : decode method_8_code 10 = .ok (.iload_n 2, 1) := by decide +kernel
theorem dx23_11 : decode method_8_code 11 = .ok (.if_icmp .ne 6, 3) := by decide +kernel
theorem dx23_17 : decode method_8_code 17 = .ok (.aload_n 1, 1) := by decide +kernel
theorem dx23_18 : decode method_8_code 18 = .ok (.iload_n 3, 1) := by decide +kernel
theorem dx23_19 : decode method_8_code 19 = .ok (.iload_n 2, 1) := by decide +kernel
theorem dx23_20 : decode method_8_code 20 = .ok (.isub, 1) := by decide +kernel
theorem dx23_21 : decode method_8_code 21 = .ok (.iconst 1, 1) := by decide +kernel
theorem dx23_22 : decode method_8_code 22 = .ok (.isub, 1) := by decide +kernel
theorem dx23_23 : decode method_8_code 23 = .ok (.caload, 1) := by decide +kernel
theorem dx23_24 : decode method_8_code 24 = .ok (.ireturn, 1) := by decide +kernel
theorem efx23 (m : MethodId) (x0 : Nat) (x1 : Nat) (x2 : Int32) (x3 : Int32) : entryFrame m #[(.ref x0), (.ref x1), (.int x2), (.int x3)] 4 = mkF m 0 #[.val (.ref x0), .val (.ref x1), .val (.int x2), .val (.int x3)] [] := by first | (simp [entryFrame, mkF, argsToLocals, Value.category, maxLocals]; done) | rfl
set_option maxRecDepth 65536 in
set_option maxHeartbeats 40000000 in
theorem rmx23 (l : Launch) (Z : State) (a0 : Array Value) (hw : ∀ d ∈ tables_1, d.before a0 Z = true) (a b : Nat) (ka kb : ClassId) (d0 d1 d2 d3 e0 e1 e2 e3 : Int32) (h0 : Heap) (n0 : Nat) (Z0 : n0 ≤ h0.size) (VA : Arv Z h0 a ka .char (4 : Int32) [(.int d0), (.int d1), (.int d2), (.int d3)] (.int (0 : Int32))) (VB : Arv Z h0 b kb .char (4 : Int32) [(.int e0), (.int e1), (.int e2), (.int e3)] (.int (0 : Int32))) (kd0 : own_ok d0) (kd1 : own_ok d1) (kd2 : own_ok d2) (kd3 : own_ok d3) (ke0 : own_ok e0) (ke1 : own_ok e1) (ke2 : own_ok e2) (ke3 : own_ok e3) :
    NMet l Z (⟨"com/example/rowanport/rowanport/util/MailAddressesDomainPinLaw", "at", "([C[CII)C"⟩ : MethodName) method_8_code 4 (some .char) [] ({ frames := 0, cells := 0, slots := 0, locals := 0 } : Room) [(.ref a), (.ref b), (.int (2 : Int32)), (.int (3 : Int32))] h0 n0 [] (fun v h => v = some (.int e0) ∧ h0 = h) := by
  refine MetFree.of_bodySF pn_20 hisR ?_
  intro p e s m args below meth c s₁ Bd hml0 hP hK
  obtain ⟨rfl, hZ, hh⟩ := hP
  have hx := Bd.exec
  have hby := Bd.bytes
  have hml : c.maxLocals = 4 := hml0
  have hnm := (name_of_methodNamed Bd.named Bd.method).1
  have w0 := Wk.start (a0 := a0) (EL := []) (n0 := n0) (nw := true) Bd hZ hh EW.nil chv0 (efx23 m a b (2 : Int32) (3 : Int32)) ({ frames := 0, cells := 0, slots := 0, locals := 0 } : Room) rfl
  have K0 : Keep h0 h0 [] := Keep.refl _ _
  have lt_VA := arlt VA
  have lt_VB := arlt VB
  have w1 := w0.pure (mkF m 24 #[.val (.ref a), .val (.ref b), .val (.int (2 : Int32)), .val (.int (3 : Int32))] [(.int e0)]) (fun X eT hZ hown k => by
      show Steps _ _ _ (State.setTop _ (mkF m 0 #[.val (.ref a), .val (.ref b), .val (.int (2 : Int32)), .val (.int (3 : Int32))] [])) _
      refine S.iloadN X.here hx (hb hby dx23_0) rfl ?_
      refine S.iloadN X.here hx (hb hby dx23_1) rfl ?_
      refine S.icmpYes X.here hx 9 (hb hby dx23_2) (by decide) (by decide) (by decide) ?_
      refine S.iloadN X.here hx (hb hby dx23_9) rfl ?_
      refine S.iloadN X.here hx (hb hby dx23_10) rfl ?_
      refine S.icmpYes X.here hx 17 (hb hby dx23_11) (by decide) (by decide) (by decide) ?_
      refine S.aloadN X.here hx (hb hby dx23_17) rfl rfl ?_
      refine S.iloadN X.here hx (hb hby dx23_18) rfl ?_
      refine S.iloadN X.here hx (hb hby dx23_19) rfl ?_
      refine S.isubV X.here hx (1 : Int32) (hb hby dx23_20) rfl ?_
      refine S.iconst X.here hx (1 : Int32) (hb hby dx23_21) rfl ?_
      refine S.isubV X.here hx (0 : Int32) (hb hby dx23_22) rfl ?_
      refine caV X hx eT hZ VB (v := (.int e0)) ⟨by decide, by decide⟩ rfl rfl rfl (hb hby dx23_23) ?_
      show Steps _ _ _ (State.setTop _ (mkF m 24 #[.val (.ref a), .val (.ref b), .val (.int (2 : Int32)), .val (.int (3 : Int32))] [(.int e0)])) _
      exact k)
  exact w1.endN (v := some (.int (nar .char e0))) (Q := (fun v h => v = some (.int e0) ∧ h0 = h)) (wr := []) (h0 := h0) (fun h => by rw [Bd.returns] at h; cases h) Bd.notSynchronized (fun X hr => retN X hx (t := .char) Bd.returns (by simp) (hb hby dx23_24) hr) (by decide) (by decide) ⟨by rw [nar_rng ke0.1], rfl⟩ K0
theorem dx24_0 : decode method_8_code 0 = .ok (.iload_n 3, 1) := by decide +kernel
theorem dx24_1 : decode method_8_code 1 = .ok (.iload_n 2, 1) := by decide +kernel
theorem dx24_2 : decode method_8_code 2 = .ok (.if_icmp .ge 7, 3) := by decide +kernel
theorem dx24_9 : decode method_8_code 9 = .ok (.iload_n 3, 1) := by decide +kernel
theorem dx24_10 : decode method_8_code 10 = .ok (.iload_n 2, 1) := by decide +kernel
theorem dx24_11 : decode method_8_code 11 = .ok (.if_icmp .ne 6, 3) := by decide +kernel
theorem dx24_17 : decode method_8_code 17 = .ok (.aload_n 1, 1) := by decide +kernel
theorem dx24_18 : decode method_8_code 18 = .ok (.iload_n 3, 1) := by decide +kernel
theorem dx24_19 : decode method_8_code 19 = .ok (.iload_n 2, 1) := by decide +kernel
theorem dx24_20 : decode method_8_code 20 = .ok (.isub, 1) := by decide +kernel
theorem dx24_21 : decode method_8_code 21 = .ok (.iconst 1, 1) := by decide +kernel
theorem dx24_22 : decode method_8_code 22 = .ok (.isub, 1) := by decide +kernel
theorem dx24_23 : decode method_8_code 23 = .ok (.caload, 1) := by decide +kernel
theorem dx24_24 : decode method_8_code 24 = .ok (.ireturn, 1) := by decide +kernel
theorem efx24 (m : MethodId) (x0 : Nat) (x1 : Nat) (x2 : Int32) (x3 : Int32) : entryFrame m #[(.ref x0), (.ref x1), (.int x2), (.int x3)] 4 = mkF m 0 #[.val (.ref x0), .val (.ref x1), .val (.int x2), .val (.int x3)] [] := by first | (simp [entryFrame, mkF, argsToLocals, Value.category, maxLocals]; done) | rfl
set_option maxRecDepth 65536 in
set_option maxHeartbeats 40000000 in
theorem rmx24 (l : Launch) (Z : State) (a0 : Array Value) (hw : ∀ d ∈ tables_1, d.before a0 Z = true) (a b : Nat) (ka kb : ClassId) (d0 d1 d2 d3 e0 e1 e2 e3 : Int32) (h0 : Heap) (n0 : Nat) (Z0 : n0 ≤ h0.size) (VA : Arv Z h0 a ka .char (4 : Int32) [(.int d0), (.int d1), (.int d2), (.int d3)] (.int (0 : Int32))) (VB : Arv Z h0 b kb .char (4 : Int32) [(.int e0), (.int e1), (.int e2), (.int e3)] (.int (0 : Int32))) (kd0 : own_ok d0) (kd1 : own_ok d1) (kd2 : own_ok d2) (kd3 : own_ok d3) (ke0 : own_ok e0) (ke1 : own_ok e1) (ke2 : own_ok e2) (ke3 : own_ok e3) :
    NMet l Z (⟨"com/example/rowanport/rowanport/util/MailAddressesDomainPinLaw", "at", "([C[CII)C"⟩ : MethodName) method_8_code 4 (some .char) [] ({ frames := 0, cells := 0, slots := 0, locals := 0 } : Room) [(.ref a), (.ref b), (.int (2 : Int32)), (.int (4 : Int32))] h0 n0 [] (fun v h => v = some (.int e1) ∧ h0 = h) := by
  refine MetFree.of_bodySF pn_20 hisR ?_
  intro p e s m args below meth c s₁ Bd hml0 hP hK
  obtain ⟨rfl, hZ, hh⟩ := hP
  have hx := Bd.exec
  have hby := Bd.bytes
  have hml : c.maxLocals = 4 := hml0
  have hnm := (name_of_methodNamed Bd.named Bd.method).1
  have w0 := Wk.start (a0 := a0) (EL := []) (n0 := n0) (nw := true) Bd hZ hh EW.nil chv0 (efx24 m a b (2 : Int32) (4 : Int32)) ({ frames := 0, cells := 0, slots := 0, locals := 0 } : Room) rfl
  have K0 : Keep h0 h0 [] := Keep.refl _ _
  have lt_VA := arlt VA
  have lt_VB := arlt VB
  have w1 := w0.pure (mkF m 24 #[.val (.ref a), .val (.ref b), .val (.int (2 : Int32)), .val (.int (4 : Int32))] [(.int e1)]) (fun X eT hZ hown k => by
      show Steps _ _ _ (State.setTop _ (mkF m 0 #[.val (.ref a), .val (.ref b), .val (.int (2 : Int32)), .val (.int (4 : Int32))] [])) _
      refine S.iloadN X.here hx (hb hby dx24_0) rfl ?_
      refine S.iloadN X.here hx (hb hby dx24_1) rfl ?_
      refine S.icmpYes X.here hx 9 (hb hby dx24_2) (by decide) (by decide) (by decide) ?_
      refine S.iloadN X.here hx (hb hby dx24_9) rfl ?_
      refine S.iloadN X.here hx (hb hby dx24_10) rfl ?_
      refine S.icmpYes X.here hx 17 (hb hby dx24_11) (by decide) (by decide) (by decide) ?_
      refine S.aloadN X.here hx (hb hby dx24_17) rfl rfl ?_
      refine S.iloadN X.here hx (hb hby dx24_18) rfl ?_
      refine S.iloadN X.here hx (hb hby dx24_19) rfl ?_
      refine S.isubV X.here hx (2 : Int32) (hb hby dx24_20) rfl ?_
      refine S.iconst X.here hx (1 : Int32) (hb hby dx24_21) rfl ?_
      refine S.isubV X.here hx (1 : Int32) (hb hby dx24_22) rfl ?_
      refine caV X hx eT hZ VB (v := (.int e1)) ⟨by decide, by decide⟩ rfl rfl rfl (hb hby dx24_23) ?_
      show Steps _ _ _ (State.setTop _ (mkF m 24 #[.val (.ref a), .val (.ref b), .val (.int (2 : Int32)), .val (.int (4 : Int32))] [(.int e1)])) _
      exact k)
  exact w1.endN (v := some (.int (nar .char e1))) (Q := (fun v h => v = some (.int e1) ∧ h0 = h)) (wr := []) (h0 := h0) (fun h => by rw [Bd.returns] at h; cases h) Bd.notSynchronized (fun X hr => retN X hx (t := .char) Bd.returns (by simp) (hb hby dx24_24) hr) (by decide) (by decide) ⟨by rw [nar_rng ke1.1], rfl⟩ K0
theorem dx25_0 : decode method_8_code 0 = .ok (.iload_n 3, 1) := by decide +kernel
theorem dx25_1 : decode method_8_code 1 = .ok (.iload_n 2, 1) := by decide +kernel
theorem dx25_2 : decode method_8_code 2 = .ok (.if_icmp .ge 7, 3) := by decide +kernel
theorem dx25_9 : decode method_8_code 9 = .ok (.iload_n 3, 1) := by decide +kernel
theorem dx25_10 : decode method_8_code 10 = .ok (.iload_n 2, 1) := by decide +kernel
theorem dx25_11 : decode method_8_code 11 = .ok (.if_icmp .ne 6, 3) := by decide +kernel
theorem dx25_17 : decode method_8_code 17 = .ok (.aload_n 1, 1) := by decide +kernel
theorem dx25_18 : decode method_8_code 18 = .ok (.iload_n 3, 1) := by decide +kernel
theorem dx25_19 : decode method_8_code 19 = .ok (.iload_n 2, 1) := by decide +kernel
theorem dx25_20 : decode method_8_code 20 = .ok (.isub, 1) := by decide +kernel
theorem dx25_21 : decode method_8_code 21 = .ok (.iconst 1, 1) := by decide +kernel
theorem dx25_22 : decode method_8_code 22 = .ok (.isub, 1) := by decide +kernel
theorem dx25_23 : decode method_8_code 23 = .ok (.caload, 1) := by decide +kernel
theorem dx25_24 : decode method_8_code 24 = .ok (.ireturn, 1) := by decide +kernel
theorem efx25 (m : MethodId) (x0 : Nat) (x1 : Nat) (x2 : Int32) (x3 : Int32) : entryFrame m #[(.ref x0), (.ref x1), (.int x2), (.int x3)] 4 = mkF m 0 #[.val (.ref x0), .val (.ref x1), .val (.int x2), .val (.int x3)] [] := by first | (simp [entryFrame, mkF, argsToLocals, Value.category, maxLocals]; done) | rfl
set_option maxRecDepth 65536 in
set_option maxHeartbeats 40000000 in
theorem rmx25 (l : Launch) (Z : State) (a0 : Array Value) (hw : ∀ d ∈ tables_1, d.before a0 Z = true) (a b : Nat) (ka kb : ClassId) (d0 d1 d2 d3 e0 e1 e2 e3 : Int32) (h0 : Heap) (n0 : Nat) (Z0 : n0 ≤ h0.size) (VA : Arv Z h0 a ka .char (4 : Int32) [(.int d0), (.int d1), (.int d2), (.int d3)] (.int (0 : Int32))) (VB : Arv Z h0 b kb .char (4 : Int32) [(.int e0), (.int e1), (.int e2), (.int e3)] (.int (0 : Int32))) (kd0 : own_ok d0) (kd1 : own_ok d1) (kd2 : own_ok d2) (kd3 : own_ok d3) (ke0 : own_ok e0) (ke1 : own_ok e1) (ke2 : own_ok e2) (ke3 : own_ok e3) :
    NMet l Z (⟨"com/example/rowanport/rowanport/util/MailAddressesDomainPinLaw", "at", "([C[CII)C"⟩ : MethodName) method_8_code 4 (some .char) [] ({ frames := 0, cells := 0, slots := 0, locals := 0 } : Room) [(.ref a), (.ref b), (.int (2 : Int32)), (.int (5 : Int32))] h0 n0 [] (fun v h => v = some (.int e2) ∧ h0 = h) := by
  refine MetFree.of_bodySF pn_20 hisR ?_
  intro p e s m args below meth c s₁ Bd hml0 hP hK
  obtain ⟨rfl, hZ, hh⟩ := hP
  have hx := Bd.exec
  have hby := Bd.bytes
  have hml : c.maxLocals = 4 := hml0
  have hnm := (name_of_methodNamed Bd.named Bd.method).1
  have w0 := Wk.start (a0 := a0) (EL := []) (n0 := n0) (nw := true) Bd hZ hh EW.nil chv0 (efx25 m a b (2 : Int32) (5 : Int32)) ({ frames := 0, cells := 0, slots := 0, locals := 0 } : Room) rfl
  have K0 : Keep h0 h0 [] := Keep.refl _ _
  have lt_VA := arlt VA
  have lt_VB := arlt VB
  have w1 := w0.pure (mkF m 24 #[.val (.ref a), .val (.ref b), .val (.int (2 : Int32)), .val (.int (5 : Int32))] [(.int e2)]) (fun X eT hZ hown k => by
      show Steps _ _ _ (State.setTop _ (mkF m 0 #[.val (.ref a), .val (.ref b), .val (.int (2 : Int32)), .val (.int (5 : Int32))] [])) _
      refine S.iloadN X.here hx (hb hby dx25_0) rfl ?_
      refine S.iloadN X.here hx (hb hby dx25_1) rfl ?_
      refine S.icmpYes X.here hx 9 (hb hby dx25_2) (by decide) (by decide) (by decide) ?_
      refine S.iloadN X.here hx (hb hby dx25_9) rfl ?_
      refine S.iloadN X.here hx (hb hby dx25_10) rfl ?_
      refine S.icmpYes X.here hx 17 (hb hby dx25_11) (by decide) (by decide) (by decide) ?_
      refine S.aloadN X.here hx (hb hby dx25_17) rfl rfl ?_
      refine S.iloadN X.here hx (hb hby dx25_18) rfl ?_
      refine S.iloadN X.here hx (hb hby dx25_19) rfl ?_
      refine S.isubV X.here hx (3 : Int32) (hb hby dx25_20) rfl ?_
      refine S.iconst X.here hx (1 : Int32) (hb hby dx25_21) rfl ?_
      refine S.isubV X.here hx (2 : Int32) (hb hby dx25_22) rfl ?_
      refine caV X hx eT hZ VB (v := (.int e2)) ⟨by decide, by decide⟩ rfl rfl rfl (hb hby dx25_23) ?_
      show Steps _ _ _ (State.setTop _ (mkF m 24 #[.val (.ref a), .val (.ref b), .val (.int (2 : Int32)), .val (.int (5 : Int32))] [(.int e2)])) _
      exact k)
  exact w1.endN (v := some (.int (nar .char e2))) (Q := (fun v h => v = some (.int e2) ∧ h0 = h)) (wr := []) (h0 := h0) (fun h => by rw [Bd.returns] at h; cases h) Bd.notSynchronized (fun X hr => retN X hx (t := .char) Bd.returns (by simp) (hb hby dx25_24) hr) (by decide) (by decide) ⟨by rw [nar_rng ke2.1], rfl⟩ K0
theorem dx30_0 : decode method_8_code 0 = .ok (.iload_n 3, 1) := by decide +kernel
theorem dx30_1 : decode method_8_code 1 = .ok (.iload_n 2, 1) := by decide +kernel
theorem dx30_2 : decode method_8_code 2 = .ok (.if_icmp .ge 7, 3) := by decide +kernel
theorem dx30_5 : decode method_8_code 5 = .ok (.aload_n 0, 1) := by decide +kernel
theorem dx30_6 : decode method_8_code 6 = .ok (.iload_n 3, 1) := by decide +kernel
theorem dx30_7 : decode method_8_code 7 = .ok (.caload, 1) := by decide +kernel
theorem dx30_8 : decode method_8_code 8 = .ok (.ireturn, 1) := by decide +kernel
theorem efx30 (m : MethodId) (x0 : Nat) (x1 : Nat) (x2 : Int32) (x3 : Int32) : entryFrame m #[(.ref x0), (.ref x1), (.int x2), (.int x3)] 4 = mkF m 0 #[.val (.ref x0), .val (.ref x1), .val (.int x2), .val (.int x3)] [] := by first | (simp [entryFrame, mkF, argsToLocals, Value.category, maxLocals]; done) | rfl
set_option maxRecDepth 65536 in
set_option maxHeartbeats 40000000 in
theorem rmx30 (l : Launch) (Z : State) (a0 : Array Value) (hw : ∀ d ∈ tables_1, d.before a0 Z = true) (a b : Nat) (ka kb : ClassId) (d0 d1 d2 d3 e0 e1 e2 e3 : Int32) (h0 : Heap) (n0 : Nat) (Z0 : n0 ≤ h0.size) (VA : Arv Z h0 a ka .char (4 : Int32) [(.int d0), (.int d1), (.int d2), (.int d3)] (.int (0 : Int32))) (VB : Arv Z h0 b kb .char (4 : Int32) [(.int e0), (.int e1), (.int e2), (.int e3)] (.int (0 : Int32))) (kd0 : own_ok d0) (kd1 : own_ok d1) (kd2 : own_ok d2) (kd3 : own_ok d3) (ke0 : own_ok e0) (ke1 : own_ok e1) (ke2 : own_ok e2) (ke3 : own_ok e3) :
    NMet l Z (⟨"com/example/rowanport/rowanport/util/MailAddressesDomainPinLaw", "at", "([C[CII)C"⟩ : MethodName) method_8_code 4 (some .char) [] ({ frames := 0, cells := 0, slots := 0, locals := 0 } : Room) [(.ref a), (.ref b), (.int (3 : Int32)), (.int (0 : Int32))] h0 n0 [] (fun v h => v = some (.int d0) ∧ h0 = h) := by
  refine MetFree.of_bodySF pn_20 hisR ?_
  intro p e s m args below meth c s₁ Bd hml0 hP hK
  obtain ⟨rfl, hZ, hh⟩ := hP
  have hx := Bd.exec
  have hby := Bd.bytes
  have hml : c.maxLocals = 4 := hml0
  have hnm := (name_of_methodNamed Bd.named Bd.method).1
  have w0 := Wk.start (a0 := a0) (EL := []) (n0 := n0) (nw := true) Bd hZ hh EW.nil chv0 (efx30 m a b (3 : Int32) (0 : Int32)) ({ frames := 0, cells := 0, slots := 0, locals := 0 } : Room) rfl
  have K0 : Keep h0 h0 [] := Keep.refl _ _
  have lt_VA := arlt VA
  have lt_VB := arlt VB
  have w1 := w0.pure (mkF m 8 #[.val (.ref a), .val (.ref b), .val (.int (3 : Int32)), .val (.int (0 : Int32))] [(.int d0)]) (fun X eT hZ hown k => by
      show Steps _ _ _ (State.setTop _ (mkF m 0 #[.val (.ref a), .val (.ref b), .val (.int (3 : Int32)), .val (.int (0 : Int32))] [])) _
      refine S.iloadN X.here hx (hb hby dx30_0) rfl ?_
      refine S.iloadN X.here hx (hb hby dx30_1) rfl ?_
      refine S.icmpNo X.here hx (hb hby dx30_2) (by decide) ?_
      refine S.aloadN X.here hx (hb hby dx30_5) rfl rfl ?_
      refine S.iloadN X.here hx (hb hby dx30_6) rfl ?_
      refine caV X hx eT hZ VA (v := (.int d0)) ⟨by decide, by decide⟩ rfl rfl rfl (hb hby dx30_7) ?_
      show Steps _ _ _ (State.setTop _ (mkF m 8 #[.val (.ref a), .val (.ref b), .val (.int (3 : Int32)), .val (.int (0 : Int32))] [(.int d0)])) _
      exact k)
  exact w1.endN (v := some (.int (nar .char d0))) (Q := (fun v h => v = some (.int d0) ∧ h0 = h)) (wr := []) (h0 := h0) (fun h => by rw [Bd.returns] at h; cases h) Bd.notSynchronized (fun X hr => retN X hx (t := .char) Bd.returns (by simp) (hb hby dx30_8) hr) (by decide) (by decide) ⟨by rw [nar_rng kd0.1], rfl⟩ K0
theorem dx31_0 : decode method_8_code 0 = .ok (.iload_n 3, 1) := by decide +kernel
theorem dx31_1 : decode method_8_code 1 = .ok (.iload_n 2, 1) := by decide +kernel
theorem dx31_2 : decode method_8_code 2 = .ok (.if_icmp .ge 7, 3) := by decide +kernel
theorem dx31_5 : decode method_8_code 5 = .ok (.aload_n 0, 1) := by decide +kernel
theorem dx31_6 : decode method_8_code 6 = .ok (.iload_n 3, 1) := by decide +kernel
theorem dx31_7 : decode method_8_code 7 = .ok (.caload, 1) := by decide +kernel
theorem dx31_8 : decode method_8_code 8 = .ok (.ireturn, 1) := by decide +kernel
theorem efx31 (m : MethodId) (x0 : Nat) (x1 : Nat) (x2 : Int32) (x3 : Int32) : entryFrame m #[(.ref x0), (.ref x1), (.int x2), (.int x3)] 4 = mkF m 0 #[.val (.ref x0), .val (.ref x1), .val (.int x2), .val (.int x3)] [] := by first | (simp [entryFrame, mkF, argsToLocals, Value.category, maxLocals]; done) | rfl
set_option maxRecDepth 65536 in
set_option maxHeartbeats 40000000 in
theorem rmx31 (l : Launch) (Z : State) (a0 : Array Value) (hw : ∀ d ∈ tables_1, d.before a0 Z = true) (a b : Nat) (ka kb : ClassId) (d0 d1 d2 d3 e0 e1 e2 e3 : Int32) (h0 : Heap) (n0 : Nat) (Z0 : n0 ≤ h0.size) (VA : Arv Z h0 a ka .char (4 : Int32) [(.int d0), (.int d1), (.int d2), (.int d3)] (.int (0 : Int32))) (VB : Arv Z h0 b kb .char (4 : Int32) [(.int e0), (.int e1), (.int e2), (.int e3)] (.int (0 : Int32))) (kd0 : own_ok d0) (kd1 : own_ok d1) (kd2 : own_ok d2) (kd3 : own_ok d3) (ke0 : own_ok e0) (ke1 : own_ok e1) (ke2 : own_ok e2) (ke3 : own_ok e3) :
    NMet l Z (⟨"com/example/rowanport/rowanport/util/MailAddressesDomainPinLaw", "at", "([C[CII)C"⟩ : MethodName) method_8_code 4 (some .char) [] ({ frames := 0, cells := 0, slots := 0, locals := 0 } : Room) [(.ref a), (.ref b), (.int (3 : Int32)), (.int (1 : Int32))] h0 n0 [] (fun v h => v = some (.int d1) ∧ h0 = h) := by
  refine MetFree.of_bodySF pn_20 hisR ?_
  intro p e s m args below meth c s₁ Bd hml0 hP hK
  obtain ⟨rfl, hZ, hh⟩ := hP
  have hx := Bd.exec
  have hby := Bd.bytes
  have hml : c.maxLocals = 4 := hml0
  have hnm := (name_of_methodNamed Bd.named Bd.method).1
  have w0 := Wk.start (a0 := a0) (EL := []) (n0 := n0) (nw := true) Bd hZ hh EW.nil chv0 (efx31 m a b (3 : Int32) (1 : Int32)) ({ frames := 0, cells := 0, slots := 0, locals := 0 } : Room) rfl
  have K0 : Keep h0 h0 [] := Keep.refl _ _
  have lt_VA := arlt VA
  have lt_VB := arlt VB
  have w1 := w0.pure (mkF m 8 #[.val (.ref a), .val (.ref b), .val (.int (3 : Int32)), .val (.int (1 : Int32))] [(.int d1)]) (fun X eT hZ hown k => by
      show Steps _ _ _ (State.setTop _ (mkF m 0 #[.val (.ref a), .val (.ref b), .val (.int (3 : Int32)), .val (.int (1 : Int32))] [])) _
      refine S.iloadN X.here hx (hb hby dx31_0) rfl ?_
      refine S.iloadN X.here hx (hb hby dx31_1) rfl ?_
      refine S.icmpNo X.here hx (hb hby dx31_2) (by decide) ?_
      refine S.aloadN X.here hx (hb hby dx31_5) rfl rfl ?_
      refine S.iloadN X.here hx (hb hby dx31_6) rfl ?_
      refine caV X hx eT hZ VA (v := (.int d1)) ⟨by decide, by decide⟩ rfl rfl rfl (hb hby dx31_7) ?_
      show Steps _ _ _ (State.setTop _ (mkF m 8 #[.val (.ref a), .val (.ref b), .val (.int (3 : Int32)), .val (.int (1 : Int32))] [(.int d1)])) _
      exact k)
  exact w1.endN (v := some (.int (nar .char d1))) (Q := (fun v h => v = some (.int d1) ∧ h0 = h)) (wr := []) (h0 := h0) (fun h => by rw [Bd.returns] at h; cases h) Bd.notSynchronized (fun X hr => retN X hx (t := .char) Bd.returns (by simp) (hb hby dx31_8) hr) (by decide) (by decide) ⟨by rw [nar_rng kd1.1], rfl⟩ K0
theorem dx32_0 : decode method_8_code 0 = .ok (.iload_n 3, 1) := by decide +kernel
theorem dx32_1 : decode method_8_code 1 = .ok (.iload_n 2, 1) := by decide +kernel
theorem dx32_2 : decode method_8_code 2 = .ok (.if_icmp .ge 7, 3) := by decide +kernel
theorem dx32_5 : decode method_8_code 5 = .ok (.aload_n 0, 1) := by decide +kernel
theorem dx32_6 : decode method_8_code 6 = .ok (.iload_n 3, 1) := by decide +kernel
theorem dx32_7 : decode method_8_code 7 = .ok (.caload, 1) := by decide +kernel
theorem dx32_8 : decode method_8_code 8 = .ok (.ireturn, 1) := by decide +kernel
theorem efx32 (m : MethodId) (x0 : Nat) (x1 : Nat) (x2 : Int32) (x3 : Int32) : entryFrame m #[(.ref x0), (.ref x1), (.int x2), (.int x3)] 4 = mkF m 0 #[.val (.ref x0), .val (.ref x1), .val (.int x2), .val (.int x3)] [] := by first | (simp [entryFrame, mkF, argsToLocals, Value.category, maxLocals]; done) | rfl
set_option maxRecDepth 65536 in
set_option maxHeartbeats 40000000 in
theorem rmx32 (l : Launch) (Z : State) (a0 : Array Value) (hw : ∀ d ∈ tables_1, d.before a0 Z = true) (a b : Nat) (ka kb : ClassId) (d0 d1 d2 d3 e0 e1 e2 e3 : Int32) (h0 : Heap) (n0 : Nat) (Z0 : n0 ≤ h0.size) (VA : Arv Z h0 a ka .char (4 : Int32) [(.int d0), (.int d1), (.int d2), (.int d3)] (.int (0 : Int32))) (VB : Arv Z h0 b kb .char (4 : Int32) [(.int e0), (.int e1), (.int e2), (.int e3)] (.int (0 : Int32))) (kd0 : own_ok d0) (kd1 : own_ok d1) (kd2 : own_ok d2) (kd3 : own_ok d3) (ke0 : own_ok e0) (ke1 : own_ok e1) (ke2 : own_ok e2) (ke3 : own_ok e3) :
    NMet l Z (⟨"com/example/rowanport/rowanport/util/MailAddressesDomainPinLaw", "at", "([C[CII)C"⟩ : MethodName) method_8_code 4 (some .char) [] ({ frames := 0, cells := 0, slots := 0, locals := 0 } : Room) [(.ref a), (.ref b), (.int (3 : Int32)), (.int (2 : Int32))] h0 n0 [] (fun v h => v = some (.int d2) ∧ h0 = h) := by
  refine MetFree.of_bodySF pn_20 hisR ?_
  intro p e s m args below meth c s₁ Bd hml0 hP hK
  obtain ⟨rfl, hZ, hh⟩ := hP
  have hx := Bd.exec
  have hby := Bd.bytes
  have hml : c.maxLocals = 4 := hml0
  have hnm := (name_of_methodNamed Bd.named Bd.method).1
  have w0 := Wk.start (a0 := a0) (EL := []) (n0 := n0) (nw := true) Bd hZ hh EW.nil chv0 (efx32 m a b (3 : Int32) (2 : Int32)) ({ frames := 0, cells := 0, slots := 0, locals := 0 } : Room) rfl
  have K0 : Keep h0 h0 [] := Keep.refl _ _
  have lt_VA := arlt VA
  have lt_VB := arlt VB
  have w1 := w0.pure (mkF m 8 #[.val (.ref a), .val (.ref b), .val (.int (3 : Int32)), .val (.int (2 : Int32))] [(.int d2)]) (fun X eT hZ hown k => by
      show Steps _ _ _ (State.setTop _ (mkF m 0 #[.val (.ref a), .val (.ref b), .val (.int (3 : Int32)), .val (.int (2 : Int32))] [])) _
      refine S.iloadN X.here hx (hb hby dx32_0) rfl ?_
      refine S.iloadN X.here hx (hb hby dx32_1) rfl ?_
      refine S.icmpNo X.here hx (hb hby dx32_2) (by decide) ?_
      refine S.aloadN X.here hx (hb hby dx32_5) rfl rfl ?_
      refine S.iloadN X.here hx (hb hby dx32_6) rfl ?_
      refine caV X hx eT hZ VA (v := (.int d2)) ⟨by decide, by decide⟩ rfl rfl rfl (hb hby dx32_7) ?_
      show Steps _ _ _ (State.setTop _ (mkF m 8 #[.val (.ref a), .val (.ref b), .val (.int (3 : Int32)), .val (.int (2 : Int32))] [(.int d2)])) _
      exact k)
  exact w1.endN (v := some (.int (nar .char d2))) (Q := (fun v h => v = some (.int d2) ∧ h0 = h)) (wr := []) (h0 := h0) (fun h => by rw [Bd.returns] at h; cases h) Bd.notSynchronized (fun X hr => retN X hx (t := .char) Bd.returns (by simp) (hb hby dx32_8) hr) (by decide) (by decide) ⟨by rw [nar_rng kd2.1], rfl⟩ K0
theorem dx33_0 : decode method_8_code 0 = .ok (.iload_n 3, 1) := by decide +kernel
theorem dx33_1 : decode method_8_code 1 = .ok (.iload_n 2, 1) := by decide +kernel
theorem dx33_2 : decode method_8_code 2 = .ok (.if_icmp .ge 7, 3) := by decide +kernel
theorem dx33_9 : decode method_8_code 9 = .ok (.iload_n 3, 1) := by decide +kernel
theorem dx33_10 : decode method_8_code 10 = .ok (.iload_n 2, 1) := by decide +kernel
theorem dx33_11 : decode method_8_code 11 = .ok (.if_icmp .ne 6, 3) := by decide +kernel
theorem dx33_14 : decode method_8_code 14 = .ok (.bipush 64, 2) := by decide +kernel
theorem dx33_16 : decode method_8_code 16 = .ok (.ireturn, 1) := by decide +kernel
theorem efx33 (m : MethodId) (x0 : Nat) (x1 : Nat) (x2 : Int32) (x3 : Int32) : entryFrame m #[(.ref x0), (.ref x1), (.int x2), (.int x3)] 4 = mkF m 0 #[.val (.ref x0), .val (.ref x1), .val (.int x2), .val (.int x3)] [] := by first | (simp [entryFrame, mkF, argsToLocals, Value.category, maxLocals]; done) | rfl
set_option maxRecDepth 65536 in
set_option maxHeartbeats 40000000 in
theorem rmx33 (l : Launch) (Z : State) (a0 : Array Value) (hw : ∀ d ∈ tables_1, d.before a0 Z = true) (a b : Nat) (ka kb : ClassId) (d0 d1 d2 d3 e0 e1 e2 e3 : Int32) (h0 : Heap) (n0 : Nat) (Z0 : n0 ≤ h0.size) (VA : Arv Z h0 a ka .char (4 : Int32) [(.int d0), (.int d1), (.int d2), (.int d3)] (.int (0 : Int32))) (VB : Arv Z h0 b kb .char (4 : Int32) [(.int e0), (.int e1), (.int e2), (.int e3)] (.int (0 : Int32))) (kd0 : own_ok d0) (kd1 : own_ok d1) (kd2 : own_ok d2) (kd3 : own_ok d3) (ke0 : own_ok e0) (ke1 : own_ok e1) (ke2 : own_ok e2) (ke3 : own_ok e3) :
    NMet l Z (⟨"com/example/rowanport/rowanport/util/MailAddressesDomainPinLaw", "at", "([C[CII)C"⟩ : MethodName) method_8_code 4 (some .char) [] ({ frames := 0, cells := 0, slots := 0, locals := 0 } : Room) [(.ref a), (.ref b), (.int (3 : Int32)), (.int (3 : Int32))] h0 n0 [] (fun v h => v = some (.int (64 : Int32)) ∧ h0 = h) := by
  refine MetFree.of_bodySF pn_20 hisR ?_
  intro p e s m args below meth c s₁ Bd hml0 hP hK
  obtain ⟨rfl, hZ, hh⟩ := hP
  have hx := Bd.exec
  have hby := Bd.bytes
  have hml : c.maxLocals = 4 := hml0
  have hnm := (name_of_methodNamed Bd.named Bd.method).1
  have w0 := Wk.start (a0 := a0) (EL := []) (n0 := n0) (nw := true) Bd hZ hh EW.nil chv0 (efx33 m a b (3 : Int32) (3 : Int32)) ({ frames := 0, cells := 0, slots := 0, locals := 0 } : Room) rfl
  have K0 : Keep h0 h0 [] := Keep.refl _ _
  have lt_VA := arlt VA
  have lt_VB := arlt VB
  have w1 := w0.pure (mkF m 16 #[.val (.ref a), .val (.ref b), .val (.int (3 : Int32)), .val (.int (3 : Int32))] [(.int (64 : Int32))]) (fun X eT hZ hown k => by
      show Steps _ _ _ (State.setTop _ (mkF m 0 #[.val (.ref a), .val (.ref b), .val (.int (3 : Int32)), .val (.int (3 : Int32))] [])) _
      refine S.iloadN X.here hx (hb hby dx33_0) rfl ?_
      refine S.iloadN X.here hx (hb hby dx33_1) rfl ?_
      refine S.icmpYes X.here hx 9 (hb hby dx33_2) (by decide) (by decide) (by decide) ?_
      refine S.iloadN X.here hx (hb hby dx33_9) rfl ?_
      refine S.iloadN X.here hx (hb hby dx33_10) rfl ?_
      refine S.icmpNo X.here hx (hb hby dx33_11) (by decide) ?_
      refine S.bipush X.here hx (64 : Int32) (hb hby dx33_14) rfl ?_
      exact k)
  exact w1.endN (v := some (.int (64 : Int32))) (Q := (fun v h => v = some (.int (64 : Int32)) ∧ h0 = h)) (wr := []) (h0 := h0) (fun h => by rw [Bd.returns] at h; cases h) Bd.notSynchronized (fun X hr => retN X hx (t := .char) Bd.returns (by simp) (hb hby dx33_16) hr) (by decide) (by decide) ⟨rfl, rfl⟩ K0
theorem dx34_0 : decode method_8_code 0 = .ok (.iload_n 3, 1) := by decide +kernel
theorem dx34_1 : decode method_8_code 1 = .ok (.iload_n 2, 1) := by decide +kernel
theorem dx34_2 : decode method_8_code 2 = .ok (.if_icmp .ge 7, 3) := by decide +kernel
theorem dx34_9 : decode method_8_code 9 = .ok (.iload_n 3, 1) := by decide +kernel
theorem dx34_10 : decode method_8_code 10 = .ok (.iload_n 2, 1) := by decide +kernel
theorem dx34_11 : decode method_8_code 11 = .ok (.if_icmp .ne 6, 3) := by decide +kernel
theorem dx34_17 : decode method_8_code 17 = .ok (.aload_n 1, 1) := by decide +kernel
theorem dx34_18 : decode method_8_code 18 = .ok (.iload_n 3, 1) := by decide +kernel
theorem dx34_19 : decode method_8_code 19 = .ok (.iload_n 2, 1) := by decide +kernel
theorem dx34_20 : decode method_8_code 20 = .ok (.isub, 1) := by decide +kernel
theorem dx34_21 : decode method_8_code 21 = .ok (.iconst 1, 1) := by decide +kernel
theorem dx34_22 : decode method_8_code 22 = .ok (.isub, 1) := by decide +kernel
theorem dx34_23 : decode method_8_code 23 = .ok (.caload, 1) := by decide +kernel
theorem dx34_24 : decode method_8_code 24 = .ok (.ireturn, 1) := by decide +kernel
theorem efx34 (m : MethodId) (x0 : Nat) (x1 : Nat) (x2 : Int32) (x3 : Int32) : entryFrame m #[(.ref x0), (.ref x1), (.int x2), (.int x3)] 4 = mkF m 0 #[.val (.ref x0), .val (.ref x1), .val (.int x2), .val (.int x3)] [] := by first | (simp [entryFrame, mkF, argsToLocals, Value.category, maxLocals]; done) | rfl
set_option maxRecDepth 65536 in
set_option maxHeartbeats 40000000 in
theorem rmx34 (l : Launch) (Z : State) (a0 : Array Value) (hw : ∀ d ∈ tables_1, d.before a0 Z = true) (a b : Nat) (ka kb : ClassId) (d0 d1 d2 d3 e0 e1 e2 e3 : Int32) (h0 : Heap) (n0 : Nat) (Z0 : n0 ≤ h0.size) (VA : Arv Z h0 a ka .char (4 : Int32) [(.int d0), (.int d1), (.int d2), (.int d3)] (.int (0 : Int32))) (VB : Arv Z h0 b kb .char (4 : Int32) [(.int e0), (.int e1), (.int e2), (.int e3)] (.int (0 : Int32))) (kd0 : own_ok d0) (kd1 : own_ok d1) (kd2 : own_ok d2) (kd3 : own_ok d3) (ke0 : own_ok e0) (ke1 : own_ok e1) (ke2 : own_ok e2) (ke3 : own_ok e3) :
    NMet l Z (⟨"com/example/rowanport/rowanport/util/MailAddressesDomainPinLaw", "at", "([C[CII)C"⟩ : MethodName) method_8_code 4 (some .char) [] ({ frames := 0, cells := 0, slots := 0, locals := 0 } : Room) [(.ref a), (.ref b), (.int (3 : Int32)), (.int (4 : Int32))] h0 n0 [] (fun v h => v = some (.int e0) ∧ h0 = h) := by
  refine MetFree.of_bodySF pn_20 hisR ?_
  intro p e s m args below meth c s₁ Bd hml0 hP hK
  obtain ⟨rfl, hZ, hh⟩ := hP
  have hx := Bd.exec
  have hby := Bd.bytes
  have hml : c.maxLocals = 4 := hml0
  have hnm := (name_of_methodNamed Bd.named Bd.method).1
  have w0 := Wk.start (a0 := a0) (EL := []) (n0 := n0) (nw := true) Bd hZ hh EW.nil chv0 (efx34 m a b (3 : Int32) (4 : Int32)) ({ frames := 0, cells := 0, slots := 0, locals := 0 } : Room) rfl
  have K0 : Keep h0 h0 [] := Keep.refl _ _
  have lt_VA := arlt VA
  have lt_VB := arlt VB
  have w1 := w0.pure (mkF m 24 #[.val (.ref a), .val (.ref b), .val (.int (3 : Int32)), .val (.int (4 : Int32))] [(.int e0)]) (fun X eT hZ hown k => by
      show Steps _ _ _ (State.setTop _ (mkF m 0 #[.val (.ref a), .val (.ref b), .val (.int (3 : Int32)), .val (.int (4 : Int32))] [])) _
      refine S.iloadN X.here hx (hb hby dx34_0) rfl ?_
      refine S.iloadN X.here hx (hb hby dx34_1) rfl ?_
      refine S.icmpYes X.here hx 9 (hb hby dx34_2) (by decide) (by decide) (by decide) ?_
      refine S.iloadN X.here hx (hb hby dx34_9) rfl ?_
      refine S.iloadN X.here hx (hb hby dx34_10) rfl ?_
      refine S.icmpYes X.here hx 17 (hb hby dx34_11) (by decide) (by decide) (by decide) ?_
      refine S.aloadN X.here hx (hb hby dx34_17) rfl rfl ?_
      refine S.iloadN X.here hx (hb hby dx34_18) rfl ?_
      refine S.iloadN X.here hx (hb hby dx34_19) rfl ?_
      refine S.isubV X.here hx (1 : Int32) (hb hby dx34_20) rfl ?_
      refine S.iconst X.here hx (1 : Int32) (hb hby dx34_21) rfl ?_
      refine S.isubV X.here hx (0 : Int32) (hb hby dx34_22) rfl ?_
      refine caV X hx eT hZ VB (v := (.int e0)) ⟨by decide, by decide⟩ rfl rfl rfl (hb hby dx34_23) ?_
      show Steps _ _ _ (State.setTop _ (mkF m 24 #[.val (.ref a), .val (.ref b), .val (.int (3 : Int32)), .val (.int (4 : Int32))] [(.int e0)])) _
      exact k)
  exact w1.endN (v := some (.int (nar .char e0))) (Q := (fun v h => v = some (.int e0) ∧ h0 = h)) (wr := []) (h0 := h0) (fun h => by rw [Bd.returns] at h; cases h) Bd.notSynchronized (fun X hr => retN X hx (t := .char) Bd.returns (by simp) (hb hby dx34_24) hr) (by decide) (by decide) ⟨by rw [nar_rng ke0.1], rfl⟩ K0
theorem dx35_0 : decode method_8_code 0 = .ok (.iload_n 3, 1) := by decide +kernel
theorem dx35_1 : decode method_8_code 1 = .ok (.iload_n 2, 1) := by decide +kernel
theorem dx35_2 : decode method_8_code 2 = .ok (.if_icmp .ge 7, 3) := by decide +kernel
theorem dx35_9 : decode method_8_code 9 = .ok (.iload_n 3, 1) := by decide +kernel
theorem dx35_10 : decode method_8_code 10 = .ok (.iload_n 2, 1) := by decide +kernel
theorem dx35_11 : decode method_8_code 11 = .ok (.if_icmp .ne 6, 3) := by decide +kernel
theorem dx35_17 : decode method_8_code 17 = .ok (.aload_n 1, 1) := by decide +kernel
theorem dx35_18 : decode method_8_code 18 = .ok (.iload_n 3, 1) := by decide +kernel
theorem dx35_19 : decode method_8_code 19 = .ok (.iload_n 2, 1) := by decide +kernel
theorem dx35_20 : decode method_8_code 20 = .ok (.isub, 1) := by decide +kernel
theorem dx35_21 : decode method_8_code 21 = .ok (.iconst 1, 1) := by decide +kernel
theorem dx35_22 : decode method_8_code 22 = .ok (.isub, 1) := by decide +kernel
theorem dx35_23 : decode method_8_code 23 = .ok (.caload, 1) := by decide +kernel
theorem dx35_24 : decode method_8_code 24 = .ok (.ireturn, 1) := by decide +kernel
theorem efx35 (m : MethodId) (x0 : Nat) (x1 : Nat) (x2 : Int32) (x3 : Int32) : entryFrame m #[(.ref x0), (.ref x1), (.int x2), (.int x3)] 4 = mkF m 0 #[.val (.ref x0), .val (.ref x1), .val (.int x2), .val (.int x3)] [] := by first | (simp [entryFrame, mkF, argsToLocals, Value.category, maxLocals]; done) | rfl
set_option maxRecDepth 65536 in
set_option maxHeartbeats 40000000 in
theorem rmx35 (l : Launch) (Z : State) (a0 : Array Value) (hw : ∀ d ∈ tables_1, d.before a0 Z = true) (a b : Nat) (ka kb : ClassId) (d0 d1 d2 d3 e0 e1 e2 e3 : Int32) (h0 : Heap) (n0 : Nat) (Z0 : n0 ≤ h0.size) (VA : Arv Z h0 a ka .char (4 : Int32) [(.int d0), (.int d1), (.int d2), (.int d3)] (.int (0 : Int32))) (VB : Arv Z h0 b kb .char (4 : Int32) [(.int e0), (.int e1), (.int e2), (.int e3)] (.int (0 : Int32))) (kd0 : own_ok d0) (kd1 : own_ok d1) (kd2 : own_ok d2) (kd3 : own_ok d3) (ke0 : own_ok e0) (ke1 : own_ok e1) (ke2 : own_ok e2) (ke3 : own_ok e3) :
    NMet l Z (⟨"com/example/rowanport/rowanport/util/MailAddressesDomainPinLaw", "at", "([C[CII)C"⟩ : MethodName) method_8_code 4 (some .char) [] ({ frames := 0, cells := 0, slots := 0, locals := 0 } : Room) [(.ref a), (.ref b), (.int (3 : Int32)), (.int (5 : Int32))] h0 n0 [] (fun v h => v = some (.int e1) ∧ h0 = h) := by
  refine MetFree.of_bodySF pn_20 hisR ?_
  intro p e s m args below meth c s₁ Bd hml0 hP hK
  obtain ⟨rfl, hZ, hh⟩ := hP
  have hx := Bd.exec
  have hby := Bd.bytes
  have hml : c.maxLocals = 4 := hml0
  have hnm := (name_of_methodNamed Bd.named Bd.method).1
  have w0 := Wk.start (a0 := a0) (EL := []) (n0 := n0) (nw := true) Bd hZ hh EW.nil chv0 (efx35 m a b (3 : Int32) (5 : Int32)) ({ frames := 0, cells := 0, slots := 0, locals := 0 } : Room) rfl
  have K0 : Keep h0 h0 [] := Keep.refl _ _
  have lt_VA := arlt VA
  have lt_VB := arlt VB
  have w1 := w0.pure (mkF m 24 #[.val (.ref a), .val (.ref b), .val (.int (3 : Int32)), .val (.int (5 : Int32))] [(.int e1)]) (fun X eT hZ hown k => by
      show Steps _ _ _ (State.setTop _ (mkF m 0 #[.val (.ref a), .val (.ref b), .val (.int (3 : Int32)), .val (.int (5 : Int32))] [])) _
      refine S.iloadN X.here hx (hb hby dx35_0) rfl ?_
      refine S.iloadN X.here hx (hb hby dx35_1) rfl ?_
      refine S.icmpYes X.here hx 9 (hb hby dx35_2) (by decide) (by decide) (by decide) ?_
      refine S.iloadN X.here hx (hb hby dx35_9) rfl ?_
      refine S.iloadN X.here hx (hb hby dx35_10) rfl ?_
      refine S.icmpYes X.here hx 17 (hb hby dx35_11) (by decide) (by decide) (by decide) ?_
      refine S.aloadN X.here hx (hb hby dx35_17) rfl rfl ?_
      refine S.iloadN X.here hx (hb hby dx35_18) rfl ?_
      refine S.iloadN X.here hx (hb hby dx35_19) rfl ?_
      refine S.isubV X.here hx (2 : Int32) (hb hby dx35_20) rfl ?_
      refine S.iconst X.here hx (1 : Int32) (hb hby dx35_21) rfl ?_
      refine S.isubV X.here hx (1 : Int32) (hb hby dx35_22) rfl ?_
      refine caV X hx eT hZ VB (v := (.int e1)) ⟨by decide, by decide⟩ rfl rfl rfl (hb hby dx35_23) ?_
      show Steps _ _ _ (State.setTop _ (mkF m 24 #[.val (.ref a), .val (.ref b), .val (.int (3 : Int32)), .val (.int (5 : Int32))] [(.int e1)])) _
      exact k)
  exact w1.endN (v := some (.int (nar .char e1))) (Q := (fun v h => v = some (.int e1) ∧ h0 = h)) (wr := []) (h0 := h0) (fun h => by rw [Bd.returns] at h; cases h) Bd.notSynchronized (fun X hr => retN X hx (t := .char) Bd.returns (by simp) (hb hby dx35_24) hr) (by decide) (by decide) ⟨by rw [nar_rng ke1.1], rfl⟩ K0
theorem dx40_0 : decode method_8_code 0 = .ok (.iload_n 3, 1) := by decide +kernel
theorem dx40_1 : decode method_8_code 1 = .ok (.iload_n 2, 1) := by decide +kernel
theorem dx40_2 : decode method_8_code 2 = .ok (.if_icmp .ge 7, 3) := by decide +kernel
theorem dx40_5 : decode method_8_code 5 = .ok (.aload_n 0, 1) := by decide +kernel
theorem dx40_6 : decode method_8_code 6 = .ok (.iload_n 3, 1) := by decide +kernel
theorem dx40_7 : decode method_8_code 7 = .ok (.caload, 1) := by decide +kernel
theorem dx40_8 : decode method_8_code 8 = .ok (.ireturn, 1) := by decide +kernel
theorem efx40 (m : MethodId) (x0 : Nat) (x1 : Nat) (x2 : Int32) (x3 : Int32) : entryFrame m #[(.ref x0), (.ref x1), (.int x2), (.int x3)] 4 = mkF m 0 #[.val (.ref x0), .val (.ref x1), .val (.int x2), .val (.int x3)] [] := by first | (simp [entryFrame, mkF, argsToLocals, Value.category, maxLocals]; done) | rfl
set_option maxRecDepth 65536 in
set_option maxHeartbeats 40000000 in
theorem rmx40 (l : Launch) (Z : State) (a0 : Array Value) (hw : ∀ d ∈ tables_1, d.before a0 Z = true) (a b : Nat) (ka kb : ClassId) (d0 d1 d2 d3 e0 e1 e2 e3 : Int32) (h0 : Heap) (n0 : Nat) (Z0 : n0 ≤ h0.size) (VA : Arv Z h0 a ka .char (4 : Int32) [(.int d0), (.int d1), (.int d2), (.int d3)] (.int (0 : Int32))) (VB : Arv Z h0 b kb .char (4 : Int32) [(.int e0), (.int e1), (.int e2), (.int e3)] (.int (0 : Int32))) (kd0 : own_ok d0) (kd1 : own_ok d1) (kd2 : own_ok d2) (kd3 : own_ok d3) (ke0 : own_ok e0) (ke1 : own_ok e1) (ke2 : own_ok e2) (ke3 : own_ok e3) :
    NMet l Z (⟨"com/example/rowanport/rowanport/util/MailAddressesDomainPinLaw", "at", "([C[CII)C"⟩ : MethodName) method_8_code 4 (some .char) [] ({ frames := 0, cells := 0, slots := 0, locals := 0 } : Room) [(.ref a), (.ref b), (.int (4 : Int32)), (.int (0 : Int32))] h0 n0 [] (fun v h => v = some (.int d0) ∧ h0 = h) := by
  refine MetFree.of_bodySF pn_20 hisR ?_
  intro p e s m args below meth c s₁ Bd hml0 hP hK
  obtain ⟨rfl, hZ, hh⟩ := hP
  have hx := Bd.exec
  have hby := Bd.bytes
  have hml : c.maxLocals = 4 := hml0
  have hnm := (name_of_methodNamed Bd.named Bd.method).1
  have w0 := Wk.start (a0 := a0) (EL := []) (n0 := n0) (nw := true) Bd hZ hh EW.nil chv0 (efx40 m a b (4 : Int32) (0 : Int32)) ({ frames := 0, cells := 0, slots := 0, locals := 0 } : Room) rfl
  have K0 : Keep h0 h0 [] := Keep.refl _ _
  have lt_VA := arlt VA
  have lt_VB := arlt VB
  have w1 := w0.pure (mkF m 8 #[.val (.ref a), .val (.ref b), .val (.int (4 : Int32)), .val (.int (0 : Int32))] [(.int d0)]) (fun X eT hZ hown k => by
      show Steps _ _ _ (State.setTop _ (mkF m 0 #[.val (.ref a), .val (.ref b), .val (.int (4 : Int32)), .val (.int (0 : Int32))] [])) _
      refine S.iloadN X.here hx (hb hby dx40_0) rfl ?_
      refine S.iloadN X.here hx (hb hby dx40_1) rfl ?_
      refine S.icmpNo X.here hx (hb hby dx40_2) (by decide) ?_
      refine S.aloadN X.here hx (hb hby dx40_5) rfl rfl ?_
      refine S.iloadN X.here hx (hb hby dx40_6) rfl ?_
      refine caV X hx eT hZ VA (v := (.int d0)) ⟨by decide, by decide⟩ rfl rfl rfl (hb hby dx40_7) ?_
      show Steps _ _ _ (State.setTop _ (mkF m 8 #[.val (.ref a), .val (.ref b), .val (.int (4 : Int32)), .val (.int (0 : Int32))] [(.int d0)])) _
      exact k)
  exact w1.endN (v := some (.int (nar .char d0))) (Q := (fun v h => v = some (.int d0) ∧ h0 = h)) (wr := []) (h0 := h0) (fun h => by rw [Bd.returns] at h; cases h) Bd.notSynchronized (fun X hr => retN X hx (t := .char) Bd.returns (by simp) (hb hby dx40_8) hr) (by decide) (by decide) ⟨by rw [nar_rng kd0.1], rfl⟩ K0
theorem dx41_0 : decode method_8_code 0 = .ok (.iload_n 3, 1) := by decide +kernel
theorem dx41_1 : decode method_8_code 1 = .ok (.iload_n 2, 1) := by decide +kernel
theorem dx41_2 : decode method_8_code 2 = .ok (.if_icmp .ge 7, 3) := by decide +kernel
theorem dx41_5 : decode method_8_code 5 = .ok (.aload_n 0, 1) := by decide +kernel
theorem dx41_6 : decode method_8_code 6 = .ok (.iload_n 3, 1) := by decide +kernel
theorem dx41_7 : decode method_8_code 7 = .ok (.caload, 1) := by decide +kernel
theorem dx41_8 : decode method_8_code 8 = .ok (.ireturn, 1) := by decide +kernel
theorem efx41 (m : MethodId) (x0 : Nat) (x1 : Nat) (x2 : Int32) (x3 : Int32) : entryFrame m #[(.ref x0), (.ref x1), (.int x2), (.int x3)] 4 = mkF m 0 #[.val (.ref x0), .val (.ref x1), .val (.int x2), .val (.int x3)] [] := by first | (simp [entryFrame, mkF, argsToLocals, Value.category, maxLocals]; done) | rfl
set_option maxRecDepth 65536 in
set_option maxHeartbeats 40000000 in
theorem rmx41 (l : Launch) (Z : State) (a0 : Array Value) (hw : ∀ d ∈ tables_1, d.before a0 Z = true) (a b : Nat) (ka kb : ClassId) (d0 d1 d2 d3 e0 e1 e2 e3 : Int32) (h0 : Heap) (n0 : Nat) (Z0 : n0 ≤ h0.size) (VA : Arv Z h0 a ka .char (4 : Int32) [(.int d0), (.int d1), (.int d2), (.int d3)] (.int (0 : Int32))) (VB : Arv Z h0 b kb .char (4 : Int32) [(.int e0), (.int e1), (.int e2), (.int e3)] (.int (0 : Int32))) (kd0 : own_ok d0) (kd1 : own_ok d1) (kd2 : own_ok d2) (kd3 : own_ok d3) (ke0 : own_ok e0) (ke1 : own_ok e1) (ke2 : own_ok e2) (ke3 : own_ok e3) :
    NMet l Z (⟨"com/example/rowanport/rowanport/util/MailAddressesDomainPinLaw", "at", "([C[CII)C"⟩ : MethodName) method_8_code 4 (some .char) [] ({ frames := 0, cells := 0, slots := 0, locals := 0 } : Room) [(.ref a), (.ref b), (.int (4 : Int32)), (.int (1 : Int32))] h0 n0 [] (fun v h => v = some (.int d1) ∧ h0 = h) := by
  refine MetFree.of_bodySF pn_20 hisR ?_
  intro p e s m args below meth c s₁ Bd hml0 hP hK
  obtain ⟨rfl, hZ, hh⟩ := hP
  have hx := Bd.exec
  have hby := Bd.bytes
  have hml : c.maxLocals = 4 := hml0
  have hnm := (name_of_methodNamed Bd.named Bd.method).1
  have w0 := Wk.start (a0 := a0) (EL := []) (n0 := n0) (nw := true) Bd hZ hh EW.nil chv0 (efx41 m a b (4 : Int32) (1 : Int32)) ({ frames := 0, cells := 0, slots := 0, locals := 0 } : Room) rfl
  have K0 : Keep h0 h0 [] := Keep.refl _ _
  have lt_VA := arlt VA
  have lt_VB := arlt VB
  have w1 := w0.pure (mkF m 8 #[.val (.ref a), .val (.ref b), .val (.int (4 : Int32)), .val (.int (1 : Int32))] [(.int d1)]) (fun X eT hZ hown k => by
      show Steps _ _ _ (State.setTop _ (mkF m 0 #[.val (.ref a), .val (.ref b), .val (.int (4 : Int32)), .val (.int (1 : Int32))] [])) _
      refine S.iloadN X.here hx (hb hby dx41_0) rfl ?_
      refine S.iloadN X.here hx (hb hby dx41_1) rfl ?_
      refine S.icmpNo X.here hx (hb hby dx41_2) (by decide) ?_
      refine S.aloadN X.here hx (hb hby dx41_5) rfl rfl ?_
      refine S.iloadN X.here hx (hb hby dx41_6) rfl ?_
      refine caV X hx eT hZ VA (v := (.int d1)) ⟨by decide, by decide⟩ rfl rfl rfl (hb hby dx41_7) ?_
      show Steps _ _ _ (State.setTop _ (mkF m 8 #[.val (.ref a), .val (.ref b), .val (.int (4 : Int32)), .val (.int (1 : Int32))] [(.int d1)])) _
      exact k)
  exact w1.endN (v := some (.int (nar .char d1))) (Q := (fun v h => v = some (.int d1) ∧ h0 = h)) (wr := []) (h0 := h0) (fun h => by rw [Bd.returns] at h; cases h) Bd.notSynchronized (fun X hr => retN X hx (t := .char) Bd.returns (by simp) (hb hby dx41_8) hr) (by decide) (by decide) ⟨by rw [nar_rng kd1.1], rfl⟩ K0
theorem dx42_0 : decode method_8_code 0 = .ok (.iload_n 3, 1) := by decide +kernel
theorem dx42_1 : decode method_8_code 1 = .ok (.iload_n 2, 1) := by decide +kernel
theorem dx42_2 : decode method_8_code 2 = .ok (.if_icmp .ge 7, 3) := by decide +kernel
theorem dx42_5 : decode method_8_code 5 = .ok (.aload_n 0, 1) := by decide +kernel
theorem dx42_6 : decode method_8_code 6 = .ok (.iload_n 3, 1) := by decide +kernel
theorem dx42_7 : decode method_8_code 7 = .ok (.caload, 1) := by decide +kernel
theorem dx42_8 : decode method_8_code 8 = .ok (.ireturn, 1) := by decide +kernel
theorem efx42 (m : MethodId) (x0 : Nat) (x1 : Nat) (x2 : Int32) (x3 : Int32) : entryFrame m #[(.ref x0), (.ref x1), (.int x2), (.int x3)] 4 = mkF m 0 #[.val (.ref x0), .val (.ref x1), .val (.int x2), .val (.int x3)] [] := by first | (simp [entryFrame, mkF, argsToLocals, Value.category, maxLocals]; done) | rfl
set_option maxRecDepth 65536 in
set_option maxHeartbeats 40000000 in
theorem rmx42 (l : Launch) (Z : State) (a0 : Array Value) (hw : ∀ d ∈ tables_1, d.before a0 Z = true) (a b : Nat) (ka kb : ClassId) (d0 d1 d2 d3 e0 e1 e2 e3 : Int32) (h0 : Heap) (n0 : Nat) (Z0 : n0 ≤ h0.size) (VA : Arv Z h0 a ka .char (4 : Int32) [(.int d0), (.int d1), (.int d2), (.int d3)] (.int (0 : Int32))) (VB : Arv Z h0 b kb .char (4 : Int32) [(.int e0), (.int e1), (.int e2), (.int e3)] (.int (0 : Int32))) (kd0 : own_ok d0) (kd1 : own_ok d1) (kd2 : own_ok d2) (kd3 : own_ok d3) (ke0 : own_ok e0) (ke1 : own_ok e1) (ke2 : own_ok e2) (ke3 : own_ok e3) :
    NMet l Z (⟨"com/example/rowanport/rowanport/util/MailAddressesDomainPinLaw", "at", "([C[CII)C"⟩ : MethodName) method_8_code 4 (some .char) [] ({ frames := 0, cells := 0, slots := 0, locals := 0 } : Room) [(.ref a), (.ref b), (.int (4 : Int32)), (.int (2 : Int32))] h0 n0 [] (fun v h => v = some (.int d2) ∧ h0 = h) := by
  refine MetFree.of_bodySF pn_20 hisR ?_
  intro p e s m args below meth c s₁ Bd hml0 hP hK
  obtain ⟨rfl, hZ, hh⟩ := hP
  have hx := Bd.exec
  have hby := Bd.bytes
  have hml : c.maxLocals = 4 := hml0
  have hnm := (name_of_methodNamed Bd.named Bd.method).1
  have w0 := Wk.start (a0 := a0) (EL := []) (n0 := n0) (nw := true) Bd hZ hh EW.nil chv0 (efx42 m a b (4 : Int32) (2 : Int32)) ({ frames := 0, cells := 0, slots := 0, locals := 0 } : Room) rfl
  have K0 : Keep h0 h0 [] := Keep.refl _ _
  have lt_VA := arlt VA
  have lt_VB := arlt VB
  have w1 := w0.pure (mkF m 8 #[.val (.ref a), .val (.ref b), .val (.int (4 : Int32)), .val (.int (2 : Int32))] [(.int d2)]) (fun X eT hZ hown k => by
      show Steps _ _ _ (State.setTop _ (mkF m 0 #[.val (.ref a), .val (.ref b), .val (.int (4 : Int32)), .val (.int (2 : Int32))] [])) _
      refine S.iloadN X.here hx (hb hby dx42_0) rfl ?_
      refine S.iloadN X.here hx (hb hby dx42_1) rfl ?_
      refine S.icmpNo X.here hx (hb hby dx42_2) (by decide) ?_
      refine S.aloadN X.here hx (hb hby dx42_5) rfl rfl ?_
      refine S.iloadN X.here hx (hb hby dx42_6) rfl ?_
      refine caV X hx eT hZ VA (v := (.int d2)) ⟨by decide, by decide⟩ rfl rfl rfl (hb hby dx42_7) ?_
      show Steps _ _ _ (State.setTop _ (mkF m 8 #[.val (.ref a), .val (.ref b), .val (.int (4 : Int32)), .val (.int (2 : Int32))] [(.int d2)])) _
      exact k)
  exact w1.endN (v := some (.int (nar .char d2))) (Q := (fun v h => v = some (.int d2) ∧ h0 = h)) (wr := []) (h0 := h0) (fun h => by rw [Bd.returns] at h; cases h) Bd.notSynchronized (fun X hr => retN X hx (t := .char) Bd.returns (by simp) (hb hby dx42_8) hr) (by decide) (by decide) ⟨by rw [nar_rng kd2.1], rfl⟩ K0
theorem dx43_0 : decode method_8_code 0 = .ok (.iload_n 3, 1) := by decide +kernel
theorem dx43_1 : decode method_8_code 1 = .ok (.iload_n 2, 1) := by decide +kernel
theorem dx43_2 : decode method_8_code 2 = .ok (.if_icmp .ge 7, 3) := by decide +kernel
theorem dx43_5 : decode method_8_code 5 = .ok (.aload_n 0, 1) := by decide +kernel
theorem dx43_6 : decode method_8_code 6 = .ok (.iload_n 3, 1) := by decide +kernel
theorem dx43_7 : decode method_8_code 7 = .ok (.caload, 1) := by decide +kernel
theorem dx43_8 : decode method_8_code 8 = .ok (.ireturn, 1) := by decide +kernel
theorem efx43 (m : MethodId) (x0 : Nat) (x1 : Nat) (x2 : Int32) (x3 : Int32) : entryFrame m #[(.ref x0), (.ref x1), (.int x2), (.int x3)] 4 = mkF m 0 #[.val (.ref x0), .val (.ref x1), .val (.int x2), .val (.int x3)] [] := by first | (simp [entryFrame, mkF, argsToLocals, Value.category, maxLocals]; done) | rfl
set_option maxRecDepth 65536 in
set_option maxHeartbeats 40000000 in
theorem rmx43 (l : Launch) (Z : State) (a0 : Array Value) (hw : ∀ d ∈ tables_1, d.before a0 Z = true) (a b : Nat) (ka kb : ClassId) (d0 d1 d2 d3 e0 e1 e2 e3 : Int32) (h0 : Heap) (n0 : Nat) (Z0 : n0 ≤ h0.size) (VA : Arv Z h0 a ka .char (4 : Int32) [(.int d0), (.int d1), (.int d2), (.int d3)] (.int (0 : Int32))) (VB : Arv Z h0 b kb .char (4 : Int32) [(.int e0), (.int e1), (.int e2), (.int e3)] (.int (0 : Int32))) (kd0 : own_ok d0) (kd1 : own_ok d1) (kd2 : own_ok d2) (kd3 : own_ok d3) (ke0 : own_ok e0) (ke1 : own_ok e1) (ke2 : own_ok e2) (ke3 : own_ok e3) :
    NMet l Z (⟨"com/example/rowanport/rowanport/util/MailAddressesDomainPinLaw", "at", "([C[CII)C"⟩ : MethodName) method_8_code 4 (some .char) [] ({ frames := 0, cells := 0, slots := 0, locals := 0 } : Room) [(.ref a), (.ref b), (.int (4 : Int32)), (.int (3 : Int32))] h0 n0 [] (fun v h => v = some (.int d3) ∧ h0 = h) := by
  refine MetFree.of_bodySF pn_20 hisR ?_
  intro p e s m args below meth c s₁ Bd hml0 hP hK
  obtain ⟨rfl, hZ, hh⟩ := hP
  have hx := Bd.exec
  have hby := Bd.bytes
  have hml : c.maxLocals = 4 := hml0
  have hnm := (name_of_methodNamed Bd.named Bd.method).1
  have w0 := Wk.start (a0 := a0) (EL := []) (n0 := n0) (nw := true) Bd hZ hh EW.nil chv0 (efx43 m a b (4 : Int32) (3 : Int32)) ({ frames := 0, cells := 0, slots := 0, locals := 0 } : Room) rfl
  have K0 : Keep h0 h0 [] := Keep.refl _ _
  have lt_VA := arlt VA
  have lt_VB := arlt VB
  have w1 := w0.pure (mkF m 8 #[.val (.ref a), .val (.ref b), .val (.int (4 : Int32)), .val (.int (3 : Int32))] [(.int d3)]) (fun X eT hZ hown k => by
      show Steps _ _ _ (State.setTop _ (mkF m 0 #[.val (.ref a), .val (.ref b), .val (.int (4 : Int32)), .val (.int (3 : Int32))] [])) _
      refine S.iloadN X.here hx (hb hby dx43_0) rfl ?_
      refine S.iloadN X.here hx (hb hby dx43_1) rfl ?_
      refine S.icmpNo X.here hx (hb hby dx43_2) (by decide) ?_
      refine S.aloadN X.here hx (hb hby dx43_5) rfl rfl ?_
      refine S.iloadN X.here hx (hb hby dx43_6) rfl ?_
      refine caV X hx eT hZ VA (v := (.int d3)) ⟨by decide, by decide⟩ rfl rfl rfl (hb hby dx43_7) ?_
      show Steps _ _ _ (State.setTop _ (mkF m 8 #[.val (.ref a), .val (.ref b), .val (.int (4 : Int32)), .val (.int (3 : Int32))] [(.int d3)])) _
      exact k)
  exact w1.endN (v := some (.int (nar .char d3))) (Q := (fun v h => v = some (.int d3) ∧ h0 = h)) (wr := []) (h0 := h0) (fun h => by rw [Bd.returns] at h; cases h) Bd.notSynchronized (fun X hr => retN X hx (t := .char) Bd.returns (by simp) (hb hby dx43_8) hr) (by decide) (by decide) ⟨by rw [nar_rng kd3.1], rfl⟩ K0
theorem dx44_0 : decode method_8_code 0 = .ok (.iload_n 3, 1) := by decide +kernel
theorem dx44_1 : decode method_8_code 1 = .ok (.iload_n 2, 1) := by decide +kernel
theorem dx44_2 : decode method_8_code 2 = .ok (.if_icmp .ge 7, 3) := by decide +kernel
theorem dx44_9 : decode method_8_code 9 = .ok (.iload_n 3, 1) := by decide +kernel
theorem dx44_10 : decode method_8_code 10 = .ok (.iload_n 2, 1) := by decide +kernel
theorem dx44_11 : decode method_8_code 11 = .ok (.if_icmp .ne 6, 3) := by decide +kernel
theorem dx44_14 : decode method_8_code 14 = .ok (.bipush 64, 2) := by decide +kernel
theorem dx44_16 : decode method_8_code 16 = .ok (.ireturn, 1) := by decide +kernel
theorem efx44 (m : MethodId) (x0 : Nat) (x1 : Nat) (x2 : Int32) (x3 : Int32) : entryFrame m #[(.ref x0), (.ref x1), (.int x2), (.int x3)] 4 = mkF m 0 #[.val (.ref x0), .val (.ref x1), .val (.int x2), .val (.int x3)] [] := by first | (simp [entryFrame, mkF, argsToLocals, Value.category, maxLocals]; done) | rfl
set_option maxRecDepth 65536 in
set_option maxHeartbeats 40000000 in
theorem rmx44 (l : Launch) (Z : State) (a0 : Array Value) (hw : ∀ d ∈ tables_1, d.before a0 Z = true) (a b : Nat) (ka kb : ClassId) (d0 d1 d2 d3 e0 e1 e2 e3 : Int32) (h0 : Heap) (n0 : Nat) (Z0 : n0 ≤ h0.size) (VA : Arv Z h0 a ka .char (4 : Int32) [(.int d0), (.int d1), (.int d2), (.int d3)] (.int (0 : Int32))) (VB : Arv Z h0 b kb .char (4 : Int32) [(.int e0), (.int e1), (.int e2), (.int e3)] (.int (0 : Int32))) (kd0 : own_ok d0) (kd1 : own_ok d1) (kd2 : own_ok d2) (kd3 : own_ok d3) (ke0 : own_ok e0) (ke1 : own_ok e1) (ke2 : own_ok e2) (ke3 : own_ok e3) :
    NMet l Z (⟨"com/example/rowanport/rowanport/util/MailAddressesDomainPinLaw", "at", "([C[CII)C"⟩ : MethodName) method_8_code 4 (some .char) [] ({ frames := 0, cells := 0, slots := 0, locals := 0 } : Room) [(.ref a), (.ref b), (.int (4 : Int32)), (.int (4 : Int32))] h0 n0 [] (fun v h => v = some (.int (64 : Int32)) ∧ h0 = h) := by
  refine MetFree.of_bodySF pn_20 hisR ?_
  intro p e s m args below meth c s₁ Bd hml0 hP hK
  obtain ⟨rfl, hZ, hh⟩ := hP
  have hx := Bd.exec
  have hby := Bd.bytes
  have hml : c.maxLocals = 4 := hml0
  have hnm := (name_of_methodNamed Bd.named Bd.method).1
  have w0 := Wk.start (a0 := a0) (EL := []) (n0 := n0) (nw := true) Bd hZ hh EW.nil chv0 (efx44 m a b (4 : Int32) (4 : Int32)) ({ frames := 0, cells := 0, slots := 0, locals := 0 } : Room) rfl
  have K0 : Keep h0 h0 [] := Keep.refl _ _
  have lt_VA := arlt VA
  have lt_VB := arlt VB
  have w1 := w0.pure (mkF m 16 #[.val (.ref a), .val (.ref b), .val (.int (4 : Int32)), .val (.int (4 : Int32))] [(.int (64 : Int32))]) (fun X eT hZ hown k => by
      show Steps _ _ _ (State.setTop _ (mkF m 0 #[.val (.ref a), .val (.ref b), .val (.int (4 : Int32)), .val (.int (4 : Int32))] [])) _
      refine S.iloadN X.here hx (hb hby dx44_0) rfl ?_
      refine S.iloadN X.here hx (hb hby dx44_1) rfl ?_
      refine S.icmpYes X.here hx 9 (hb hby dx44_2) (by decide) (by decide) (by decide) ?_
      refine S.iloadN X.here hx (hb hby dx44_9) rfl ?_
      refine S.iloadN X.here hx (hb hby dx44_10) rfl ?_
      refine S.icmpNo X.here hx (hb hby dx44_11) (by decide) ?_
      refine S.bipush X.here hx (64 : Int32) (hb hby dx44_14) rfl ?_
      exact k)
  exact w1.endN (v := some (.int (64 : Int32))) (Q := (fun v h => v = some (.int (64 : Int32)) ∧ h0 = h)) (wr := []) (h0 := h0) (fun h => by rw [Bd.returns] at h; cases h) Bd.notSynchronized (fun X hr => retN X hx (t := .char) Bd.returns (by simp) (hb hby dx44_16) hr) (by decide) (by decide) ⟨rfl, rfl⟩ K0
theorem dx45_0 : decode method_8_code 0 = .ok (.iload_n 3, 1) := by decide +kernel
theorem dx45_1 : decode method_8_code 1 = .ok (.iload_n 2, 1) := by decide +kernel
theorem dx45_2 : decode method_8_code 2 = .ok (.if_icmp .ge 7, 3) := by decide +kernel
theorem dx45_9 : decode method_8_code 9 = .ok (.iload_n 3, 1) := by decide +kernel
theorem dx45_10 : decode method_8_code 10 = .ok (.iload_n 2, 1) := by decide +kernel
theorem dx45_11 : decode method_8_code 11 = .ok (.if_icmp .ne 6, 3) := by decide +kernel
theorem dx45_17 : decode method_8_code 17 = .ok (.aload_n 1, 1) := by decide +kernel
theorem dx45_18 : decode method_8_code 18 = .ok (.iload_n 3, 1) := by decide +kernel
theorem dx45_19 : decode method_8_code 19 = .ok (.iload_n 2, 1) := by decide +kernel
theorem dx45_20 : decode method_8_code 20 = .ok (.isub, 1) := by decide +kernel
theorem dx45_21 : decode method_8_code 21 = .ok (.iconst 1, 1) := by decide +kernel
theorem dx45_22 : decode method_8_code 22 = .ok (.isub, 1) := by decide +kernel
theorem dx45_23 : decode method_8_code 23 = .ok (.caload, 1) := by decide +kernel
theorem dx45_24 : decode method_8_code 24 = .ok (.ireturn, 1) := by decide +kernel
theorem efx45 (m : MethodId) (x0 : Nat) (x1 : Nat) (x2 : Int32) (x3 : Int32) : entryFrame m #[(.ref x0), (.ref x1), (.int x2), (.int x3)] 4 = mkF m 0 #[.val (.ref x0), .val (.ref x1), .val (.int x2), .val (.int x3)] [] := by first | (simp [entryFrame, mkF, argsToLocals, Value.category, maxLocals]; done) | rfl
set_option maxRecDepth 65536 in
set_option maxHeartbeats 40000000 in
theorem rmx45 (l : Launch) (Z : State) (a0 : Array Value) (hw : ∀ d ∈ tables_1, d.before a0 Z = true) (a b : Nat) (ka kb : ClassId) (d0 d1 d2 d3 e0 e1 e2 e3 : Int32) (h0 : Heap) (n0 : Nat) (Z0 : n0 ≤ h0.size) (VA : Arv Z h0 a ka .char (4 : Int32) [(.int d0), (.int d1), (.int d2), (.int d3)] (.int (0 : Int32))) (VB : Arv Z h0 b kb .char (4 : Int32) [(.int e0), (.int e1), (.int e2), (.int e3)] (.int (0 : Int32))) (kd0 : own_ok d0) (kd1 : own_ok d1) (kd2 : own_ok d2) (kd3 : own_ok d3) (ke0 : own_ok e0) (ke1 : own_ok e1) (ke2 : own_ok e2) (ke3 : own_ok e3) :
    NMet l Z (⟨"com/example/rowanport/rowanport/util/MailAddressesDomainPinLaw", "at", "([C[CII)C"⟩ : MethodName) method_8_code 4 (some .char) [] ({ frames := 0, cells := 0, slots := 0, locals := 0 } : Room) [(.ref a), (.ref b), (.int (4 : Int32)), (.int (5 : Int32))] h0 n0 [] (fun v h => v = some (.int e0) ∧ h0 = h) := by
  refine MetFree.of_bodySF pn_20 hisR ?_
  intro p e s m args below meth c s₁ Bd hml0 hP hK
  obtain ⟨rfl, hZ, hh⟩ := hP
  have hx := Bd.exec
  have hby := Bd.bytes
  have hml : c.maxLocals = 4 := hml0
  have hnm := (name_of_methodNamed Bd.named Bd.method).1
  have w0 := Wk.start (a0 := a0) (EL := []) (n0 := n0) (nw := true) Bd hZ hh EW.nil chv0 (efx45 m a b (4 : Int32) (5 : Int32)) ({ frames := 0, cells := 0, slots := 0, locals := 0 } : Room) rfl
  have K0 : Keep h0 h0 [] := Keep.refl _ _
  have lt_VA := arlt VA
  have lt_VB := arlt VB
  have w1 := w0.pure (mkF m 24 #[.val (.ref a), .val (.ref b), .val (.int (4 : Int32)), .val (.int (5 : Int32))] [(.int e0)]) (fun X eT hZ hown k => by
      show Steps _ _ _ (State.setTop _ (mkF m 0 #[.val (.ref a), .val (.ref b), .val (.int (4 : Int32)), .val (.int (5 : Int32))] [])) _
      refine S.iloadN X.here hx (hb hby dx45_0) rfl ?_
      refine S.iloadN X.here hx (hb hby dx45_1) rfl ?_
      refine S.icmpYes X.here hx 9 (hb hby dx45_2) (by decide) (by decide) (by decide) ?_
      refine S.iloadN X.here hx (hb hby dx45_9) rfl ?_
      refine S.iloadN X.here hx (hb hby dx45_10) rfl ?_
      refine S.icmpYes X.here hx 17 (hb hby dx45_11) (by decide) (by decide) (by decide) ?_
      refine S.aloadN X.here hx (hb hby dx45_17) rfl rfl ?_
      refine S.iloadN X.here hx (hb hby dx45_18) rfl ?_
      refine S.iloadN X.here hx (hb hby dx45_19) rfl ?_
      refine S.isubV X.here hx (1 : Int32) (hb hby dx45_20) rfl ?_
      refine S.iconst X.here hx (1 : Int32) (hb hby dx45_21) rfl ?_
      refine S.isubV X.here hx (0 : Int32) (hb hby dx45_22) rfl ?_
      refine caV X hx eT hZ VB (v := (.int e0)) ⟨by decide, by decide⟩ rfl rfl rfl (hb hby dx45_23) ?_
      show Steps _ _ _ (State.setTop _ (mkF m 24 #[.val (.ref a), .val (.ref b), .val (.int (4 : Int32)), .val (.int (5 : Int32))] [(.int e0)])) _
      exact k)
  exact w1.endN (v := some (.int (nar .char e0))) (Q := (fun v h => v = some (.int e0) ∧ h0 = h)) (wr := []) (h0 := h0) (fun h => by rw [Bd.returns] at h; cases h) Bd.notSynchronized (fun X hr => retN X hx (t := .char) Bd.returns (by simp) (hb hby dx45_24) hr) (by decide) (by decide) ⟨by rw [nar_rng ke0.1], rfl⟩ K0
theorem pd_13 : parseMethodDescriptor "(II)Ljava/lang/String;" = some ⟨[.int, .int], some (.object "java/lang/String")⟩ := by decide +kernel
theorem dq1_0 : decode jdk_42_method_91_code 0 = .ok (.aload_n 0, 1) := by decide +kernel
theorem dq1_1 : decode jdk_42_method_91_code 1 = .ok (.iload_n 1, 1) := by decide +kernel
theorem dq1_2 : decode jdk_42_method_91_code 2 = .ok (.aload_n 0, 1) := by decide +kernel
theorem dq1_3 : decode jdk_42_method_91_code 3 = .ok (.invokevirtual 505, 3) := by decide +kernel
theorem dq1_6 : decode jdk_42_method_91_code 6 = .ok (.invokevirtual 681, 3) := by decide +kernel
theorem dq1_9 : decode jdk_42_method_91_code 9 = .ok (.areturn, 1) := by decide +kernel
theorem efq1 (m : MethodId) (x0 : Nat) (x1 : Int32) : entryFrame m #[(.ref x0), (.int x1)] 2 = mkF m 0 #[.val (.ref x0), .val (.int x1)] [] := by first | (simp [entryFrame, mkF, argsToLocals, Value.category, maxLocals]; done) | rfl
theorem pn_21 : plainFor (⟨"java/lang/String", "substring", "(I)Ljava/lang/String;"⟩ : MethodName) = true := by first | decide +kernel | (apply plainFor_of_name; simp [plainName, overriddenIn]; done)
set_option maxRecDepth 65536 in
set_option maxHeartbeats 40000000 in
theorem rmq1 (l : Launch) (Z : State) (a0 : Array Value) (hw : ∀ d ∈ tables_1, d.before a0 Z = true) (x : Nat) (cs : List Int32) (bd : Nat) (b n : Nat) (h0 : Heap) (n0 : Nat) (Z0 : n0 ≤ h0.size) (hG : SetsOk Z) (X0 : Old Z n0 h0) (Sx : Str Z h0 x cs bd) (hL : cs.length = b + n) (hcap : n ≤ 8) (hb0 : b ≠ 0) (hn0 : n ≠ 0) :
    NMet l Z (⟨"java/lang/String", "substring", "(I)Ljava/lang/String;"⟩ : MethodName) jdk_42_method_91_code 2 (some (.object "java/lang/String")) [] ({ frames := 5, cells := 2, slots := 12, locals := 89 } : Room) [(.ref x), (.int (Int32.ofNat b))] h0 n0 [] (fun v h => ∃ y, v = some (.ref y) ∧ n0 ≤ y ∧ Str Z h y (own_sl cs b n) h.size) := by
  refine MetFree.of_bodySF pn_21 hisR ?_
  intro p e s m args below meth c s₁ Bd hml0 hP hK
  obtain ⟨rfl, hZ, hh⟩ := hP
  have hx := Bd.exec
  have hby := Bd.bytes
  have hml : c.maxLocals = 2 := hml0
  have hnm := (name_of_methodNamed Bd.named Bd.method).1
  have w0 := Wk.start (a0 := a0) (EL := []) (n0 := n0) (nw := true) Bd hZ hh EW.nil chv0 (efq1 m x (Int32.ofNat b)) ({ frames := 5, cells := 2, slots := 12, locals := 89 } : Room) rfl
  have K0 : Keep h0 h0 [] := Keep.refl _ _
  have lt_Sx := Sx.lt
  have hq_lenW : ∀ d ∈ StrChars.Road.wordsLen, d.before a0 Z = true := fun d hd => hw d ((by decide +kernel : ∀ d ∈ StrChars.Road.wordsLen, d ∈ tables_1) d hd)
  have w1 := w0.pure (mkF m 3 #[.val (.ref x), .val (.int (Int32.ofNat b))] [(.ref x), (.int (Int32.ofNat b)), (.ref x)]) (fun X eT hZ hown k => by
      show Steps _ _ _ (State.setTop _ (mkF m 0 #[.val (.ref x), .val (.int (Int32.ofNat b))] [])) _
      refine S.aloadN X.here hx (hb hby dq1_0) rfl rfl ?_
      refine S.iloadN X.here hx (hb hby dq1_1) rfl ?_
      refine S.aloadN X.here hx (hb hby dq1_2) rfl rfl ?_
      exact k)
  obtain ⟨v2, h2, Q2, K2, z2, w2⟩ := w1.callV hx (C := "java/lang/String") (y := (⟨"java/lang/String", "length", "()I"⟩ : MethodName)) (z := (⟨"java/lang/String", "length", "()I"⟩ : MethodName)) (W := 2) (hw _ (List.mem_of_getElem? (i := 98) rfl)) (hw _ (List.mem_of_getElem? (i := 21) rfl)) (hw _ (List.mem_of_getElem? (i := 23) rfl)) (hw _ (List.mem_of_getElem? (i := 22) rfl)) (w1.nf (hw _ (List.mem_of_getElem? (i := 23) rfl))) (by decide) (payLen hG w1.hZ hq_lenW (hw _ (List.mem_of_getElem? (i := 14) rfl)) Sx X0 (by decide) (by decide)) Sx.exa rfl (by rw [hml]; rfl) [(.int (Int32.ofNat b)), (.ref x)] (lenOf pd_4 rfl) rfl (by show 2 * 0 + _ ≤ _; exact Nat.le_of_eq rfl) (hb hby dq1_3) (by decide) (by decide) (fun _ q => nomatch q) (fun rv => (mkF m 6 #[.val (.ref x), .val (.int (Int32.ofNat b))] (rv.toList ++ [(.int (Int32.ofNat b)), (.ref x)]))) (fun _ => rfl)
  obtain ⟨rfl, rfl⟩ := Q2
  have w3 := w2
  rw [hL] at w3
  obtain ⟨v4, h4, Q4, K4, z4, w4⟩ := w3.callV hx (C := "java/lang/String") (y := (⟨"java/lang/String", "substring", "(II)Ljava/lang/String;"⟩ : MethodName)) (z := (⟨"java/lang/String", "substring", "(II)Ljava/lang/String;"⟩ : MethodName)) (W := 0) (hw _ (List.mem_of_getElem? (i := 119) rfl)) (hw _ (List.mem_of_getElem? (i := 120) rfl)) (hw _ (List.mem_of_getElem? (i := 122) rfl)) (hw _ (List.mem_of_getElem? (i := 121) rfl)) (w3.nf (hw _ (List.mem_of_getElem? (i := 122) rfl))) (by decide) ((rms6 l Z a0 hw x cs _ b n h0 n0 (by omega) hG X0 Sx (by omega) hcap (fun q => hb0 q.1) hn0).pay w3.hZ (hw _ (List.mem_of_getElem? (i := 123) rfl)) (hw _ (List.mem_of_getElem? (i := 13) rfl)) (by decide) (by decide)) Sx.exa rfl (by rw [hml]; rfl) [] (lenOf pd_13 rfl) rfl (by show 2 * 0 + _ ≤ _; exact Nat.le_of_eq rfl) (hb hby dq1_6) (by decide) (by decide) (fun _ q => nomatch q) (fun rv => (mkF m 9 #[.val (.ref x), .val (.int (Int32.ofNat b))] (rv.toList ++ []))) (fun _ => rfl)
  obtain ⟨y4, rfl, gy4, S4⟩ := Q4
  have K5 : Keep h0 h4 [] := K0.trans K4 (fun _ q => nomatch q)
  have lt_y4 := S4.lt
  exact w4.endN (v := some (.ref y4)) (Q := (fun v h => ∃ y, v = some (.ref y) ∧ n0 ≤ y ∧ Str Z h y (own_sl cs b n) h.size)) (wr := []) (h0 := h0) (fun h => by rw [Bd.returns] at h; cases h) Bd.notSynchronized (fun X hr => X.areturnOut hx rfl Bd.returns rfl (hb hby dq1_9) hr) (by decide) (by decide) ⟨y4, rfl, by omega, S4.more (by omega)⟩ K5
theorem own_succ (N : Nat) : Int32.ofNat N + (1 : Int32) = Int32.ofNat (N + 1) := i_add N 1
theorem pd_14 : parseMethodDescriptor "(I)I" = some ⟨[.int], some .int⟩ := by decide +kernel
theorem pd_15 : parseMethodDescriptor "(I)Ljava/lang/String;" = some ⟨[.int], some (.object "java/lang/String")⟩ := by decide +kernel
theorem ddm_0 : decode prog_60_method_3_code 0 = .ok (.aload_n 0, 1) := by decide +kernel
theorem ddm_1 : decode prog_60_method_3_code 1 = .ok (.aload_n 0, 1) := by decide +kernel
theorem ddm_2 : decode prog_60_method_3_code 2 = .ok (.bipush 64, 2) := by decide +kernel
theorem ddm_4 : decode prog_60_method_3_code 4 = .ok (.invokevirtual 31, 3) := by decide +kernel
theorem ddm_7 : decode prog_60_method_3_code 7 = .ok (.iconst 1, 1) := by decide +kernel
theorem ddm_8 : decode prog_60_method_3_code 8 = .ok (.iadd, 1) := by decide +kernel
theorem ddm_9 : decode prog_60_method_3_code 9 = .ok (.invokevirtual 35, 3) := by decide +kernel
theorem ddm_12 : decode prog_60_method_3_code 12 = .ok (.areturn, 1) := by decide +kernel
theorem efdm (m : MethodId) (x0 : Nat) : entryFrame m #[(.ref x0)] 1 = mkF m 0 #[.val (.ref x0)] [] := by first | (simp [entryFrame, mkF, argsToLocals, Value.category, maxLocals]; done) | rfl
theorem pn_22 : plainFor (⟨"com/example/rowanport/rowanport/util/MailAddresses", "domain", "(Ljava/lang/String;)Ljava/lang/String;"⟩ : MethodName) = true := by first | decide +kernel | (apply plainFor_of_name; simp [plainName, overriddenIn]; done)
set_option maxRecDepth 65536 in
set_option maxHeartbeats 40000000 in
theorem rmdm (l : Launch) (Z : State) (a0 : Array Value) (hw : ∀ d ∈ tables_1, d.before a0 Z = true) (x : Nat) (cs : List Int32) (bd : Nat) (N n : Nat) (h0 : Heap) (n0 : Nat) (Z0 : n0 ≤ h0.size) (hG : SetsOk Z) (X0 : Old Z n0 h0) (Sx : Str Z h0 x cs bd) (eN : (own_lix cs (64 : Int32) cs.length) = Int32.ofNat N) (hL : cs.length = (N + 1) + n) (hcap : n ≤ 8) (hn0 : n ≠ 0) :
    NMet l Z (⟨"com/example/rowanport/rowanport/util/MailAddresses", "domain", "(Ljava/lang/String;)Ljava/lang/String;"⟩ : MethodName) prog_60_method_3_code 1 (some (.object "java/lang/String")) [] ({ frames := 6, cells := 2, slots := 12, locals := 102 } : Room) [(.ref x)] h0 n0 [] (fun v h => ∃ y, v = some (.ref y) ∧ n0 ≤ y ∧ Str Z h y (own_sl cs (N + 1) n) h.size) := by
  refine MetFree.of_bodySF pn_22 hisR ?_
  intro p e s m args below meth c s₁ Bd hml0 hP hK
  obtain ⟨rfl, hZ, hh⟩ := hP
  have hx := Bd.exec
  have hby := Bd.bytes
  have hml : c.maxLocals = 1 := hml0
  have hnm := (name_of_methodNamed Bd.named Bd.method).1
  have w0 := Wk.start (a0 := a0) (EL := []) (n0 := n0) (nw := true) Bd hZ hh EW.nil chv0 (efdm m x) ({ frames := 6, cells := 2, slots := 12, locals := 102 } : Room) rfl
  have K0 : Keep h0 h0 [] := Keep.refl _ _
  have lt_Sx := Sx.lt
  have w1 := w0.pure (mkF m 4 #[.val (.ref x)] [(.int (64 : Int32)), (.ref x), (.ref x)]) (fun X eT hZ hown k => by
      show Steps _ _ _ (State.setTop _ (mkF m 0 #[.val (.ref x)] [])) _
      refine S.aloadN X.here hx (hb hby ddm_0) rfl rfl ?_
      refine S.aloadN X.here hx (hb hby ddm_1) rfl rfl ?_
      refine S.bipush X.here hx (64 : Int32) (hb hby ddm_2) rfl ?_
      exact k)
  obtain ⟨v2, h2, Q2, K2, z2, w2⟩ := w1.callV hx (C := "java/lang/String") (y := (⟨"java/lang/String", "lastIndexOf", "(I)I"⟩ : MethodName)) (z := (⟨"java/lang/String", "lastIndexOf", "(I)I"⟩ : MethodName)) (W := 1) (hw _ (List.mem_of_getElem? (i := 93) rfl)) (hw _ (List.mem_of_getElem? (i := 94) rfl)) (hw _ (List.mem_of_getElem? (i := 96) rfl)) (hw _ (List.mem_of_getElem? (i := 95) rfl)) (w1.nf (hw _ (List.mem_of_getElem? (i := 96) rfl))) (by decide) ((rml3 l Z a0 hw x cs _ h0 n0 (by omega) hG X0 Sx).pay w1.hZ (hw _ (List.mem_of_getElem? (i := 97) rfl)) (hw _ (List.mem_of_getElem? (i := 13) rfl)) (by decide) (by decide)) Sx.exa rfl (by rw [hml]; rfl) [(.ref x)] (lenOf pd_14 rfl) rfl (by show 2 * 0 + _ ≤ _; exact Nat.le_of_eq rfl) (hb hby ddm_4) (by decide) (by decide) (fun _ q => nomatch q) (fun rv => (mkF m 7 #[.val (.ref x)] (rv.toList ++ [(.ref x)]))) (fun _ => rfl)
  obtain ⟨rfl, rfl⟩ := Q2
  have w3 := w2.pure (mkF m 9 #[.val (.ref x)] [(.int ((own_lix cs (64 : Int32) cs.length) + (1 : Int32))), (.ref x)]) (fun X eT hZ hown k => by
      show Steps _ _ _ (State.setTop _ (mkF m 7 #[.val (.ref x)] [(.int (own_lix cs (64 : Int32) cs.length)), (.ref x)])) _
      refine S.iconst X.here hx (1 : Int32) (hb hby ddm_7) rfl ?_
      refine S.iadd X.here hx (hb hby ddm_8) ?_
      exact k)
  have w4 := w3
  rw [eN, own_succ] at w4
  obtain ⟨v5, h5, Q5, K5, z5, w5⟩ := w4.callV hx (C := "java/lang/String") (y := (⟨"java/lang/String", "substring", "(I)Ljava/lang/String;"⟩ : MethodName)) (z := (⟨"java/lang/String", "substring", "(I)Ljava/lang/String;"⟩ : MethodName)) (W := 0) (hw _ (List.mem_of_getElem? (i := 114) rfl)) (hw _ (List.mem_of_getElem? (i := 115) rfl)) (hw _ (List.mem_of_getElem? (i := 117) rfl)) (hw _ (List.mem_of_getElem? (i := 116) rfl)) (w4.nf (hw _ (List.mem_of_getElem? (i := 117) rfl))) (by decide) ((rmq1 l Z a0 hw x cs _ (N + 1) n h0 n0 (by omega) hG X0 Sx hL hcap (by omega) hn0).pay w4.hZ (hw _ (List.mem_of_getElem? (i := 118) rfl)) (hw _ (List.mem_of_getElem? (i := 13) rfl)) (by decide) (by decide)) Sx.exa rfl (by rw [hml]; rfl) [] (lenOf pd_15 rfl) rfl (by show 2 * 0 + _ ≤ _; exact Nat.le_of_eq rfl) (hb hby ddm_9) (by decide) (by decide) (fun _ q => nomatch q) (fun rv => (mkF m 12 #[.val (.ref x)] (rv.toList ++ []))) (fun _ => rfl)
  obtain ⟨y5, rfl, gy5, S5⟩ := Q5
  have K6 : Keep h0 h5 [] := K0.trans K5 (fun _ q => nomatch q)
  have lt_y5 := S5.lt
  exact w5.endN (v := some (.ref y5)) (Q := (fun v h => ∃ y, v = some (.ref y) ∧ n0 ≤ y ∧ Str Z h y (own_sl cs (N + 1) n) h.size)) (wr := []) (h0 := h0) (fun h => by rw [Bd.returns] at h; cases h) Bd.notSynchronized (fun X hr => X.areturnOut hx rfl Bd.returns rfl (hb hby ddm_12) hr) (by decide) (by decide) ⟨y5, rfl, by omega, S5.more (by omega)⟩ K6
theorem own_dom1 (x0 : Int32) {e0 e1 e2 e3 : Int32} (he0 : ¬ e0 = 64) (he1 : ¬ e1 = 64) (he2 : ¬ e2 = 64) (he3 : ¬ e3 = 64) : own_lix [x0, (64 : Int32), e0, e1, e2, e3] (64 : Int32) [x0, (64 : Int32), e0, e1, e2, e3].length = Int32.ofNat 1 := by
  simp [own_lix, he0, he1, he2, he3] <;> decide
theorem own_dom2 (x0 x1 : Int32) {e0 e1 e2 : Int32} (he0 : ¬ e0 = 64) (he1 : ¬ e1 = 64) (he2 : ¬ e2 = 64) : own_lix [x0, x1, (64 : Int32), e0, e1, e2] (64 : Int32) [x0, x1, (64 : Int32), e0, e1, e2].length = Int32.ofNat 2 := by
  simp [own_lix, he0, he1, he2] <;> decide
theorem own_dom3 (x0 x1 x2 : Int32) {e0 e1 : Int32} (he0 : ¬ e0 = 64) (he1 : ¬ e1 = 64) : own_lix [x0, x1, x2, (64 : Int32), e0, e1] (64 : Int32) [x0, x1, x2, (64 : Int32), e0, e1].length = Int32.ofNat 3 := by
  simp [own_lix, he0, he1] <;> decide
theorem own_dom4 (x0 x1 x2 x3 : Int32) {e0 : Int32} (he0 : ¬ e0 = 64) : own_lix [x0, x1, x2, x3, (64 : Int32), e0] (64 : Int32) [x0, x1, x2, x3, (64 : Int32), e0].length = Int32.ofNat 4 := by
  simp [own_lix, he0] <;> decide
theorem pd_16 : parseMethodDescriptor "([C[CII)C" = some ⟨[(.array .char), (.array .char), .int, .int], some .char⟩ := by decide +kernel
theorem pd_17 : parseMethodDescriptor "([C)V" = some ⟨[(.array .char)], none⟩ := by decide +kernel
theorem pd_18 : parseMethodDescriptor "(Ljava/lang/String;)Ljava/lang/String;" = some ⟨[(.object "java/lang/String")], some (.object "java/lang/String")⟩ := by decide +kernel
set_option maxRecDepth 65536 in
set_option maxHeartbeats 40000000 in
theorem ptT (l : Launch) (Z : State) (a0 : Array Value) (hw : ∀ d ∈ tables_1, d.before a0 Z = true) (hE : EW Z a0 consts_1) {p : Program} {e : Env} {s s₁ st : State} {m : MethodId} {args : Array Value} {below : List Frame} {meth : Method} {c : Code} {Sp : Spec} (Bd : BodyLoose p l x Sp code maxLocals ret e s m args below meth c s₁) (hml : c.maxLocals = 11) (p0 : Int32) (p1 p2 : Int64) (a b : Nat) (ka kb : ClassId) (d0 d1 d2 d3 e0 e1 e2 e3 : Int32) (h0 : Heap) (n0 : Nat) (Z0 : n0 ≤ h0.size) {h1 : Heap} {vm1 : Vm}
    (w0 : Wk p l e room_1 s m args below meth c Z a0 consts_1 n0 x.cls false st vm1 h1 (mkF m 179 #[.val (.int p0), .val (.long p1), .second, .val (.long p2), .second, .val (.int ((1 : Int32) + (p0 &&& (3 : Int32)))), .val (.int ((5 : Int32) - ((1 : Int32) + (p0 &&& (3 : Int32))))), .val (.ref a), .val (.ref b), .unset, .unset] []) 12 700) (K0 : Keep h0 h1 []) (Z1 : h0.size ≤ h1.size) (hG : SetsOk Z) (X1 : Old Z n0 h1) (ga : n0 ≤ a) (gb : n0 ≤ b) (VA : Arv Z h1 a ka .char (4 : Int32) [(.int d0), (.int d1), (.int d2), (.int d3)] (.int (0 : Int32))) (VB : Arv Z h1 b kb .char (4 : Int32) [(.int e0), (.int e1), (.int e2), (.int e3)] (.int (0 : Int32))) (kd0 : own_ok d0) (kd1 : own_ok d1) (kd2 : own_ok d2) (kd3 : own_ok d3) (ke0 : own_ok e0) (ke1 : own_ok e1) (ke2 : own_ok e2) (ke3 : own_ok e3) :
    EndsW p e below st s Z consts_1 n0 h0 [] (fun v h => v = some (.int 1)) room_1.cells room_1.slots := by
  have hx := Bd.exec
  have hby := Bd.bytes
  have hnm := (name_of_methodNamed Bd.named Bd.method).1
  have lt_VA := arlt VA
  have lt_VB := arlt VB
  have hq_backV : ∀ d ∈ StrChars.Road.words, d.before a0 Z = true := fun d hd => hw d ((by decide +kernel : ∀ d ∈ StrChars.Road.words, d ∈ tables_1) d hd)
  have hq_lenW : ∀ d ∈ StrChars.Road.wordsLen, d.before a0 Z = true := fun d hd => hw d ((by decide +kernel : ∀ d ∈ StrChars.Road.wordsLen, d ∈ tables_1) d hd)
  have hq_chN : ∀ d ∈ StrChars.Road.wordsChN, d.before a0 Z = true := fun d hd => hw d ((by decide +kernel : ∀ d ∈ StrChars.Road.wordsChN, d ∈ tables_1) d hd)
  rcases own_and3 p0 with hs1 | hs1 | hs1 | hs1
  · have w1_0 := w0
    rw [hs1] at w1_0
    have w2 := w1_0.pure (mkF m 181 #[.val (.int p0), .val (.long p1), .second, .val (.long p2), .second, .val (.int (1 : Int32)), .val (.int (4 : Int32)), .val (.ref a), .val (.ref b), .unset, .unset] [(.int (6 : Int32))]) (fun X eT hZ hown k => by
        show Steps _ _ _ (State.setTop _ (mkF m 179 #[.val (.int p0), .val (.long p1), .second, .val (.long p2), .second, .val (.int (1 : Int32)), .val (.int (4 : Int32)), .val (.ref a), .val (.ref b), .unset, .unset] [])) _
        refine S.bipush X.here hx (6 : Int32) (hb hby at_179) rfl ?_
        exact k)
    obtain ⟨b3, h3, k3, g3, E3, l3, A3, y3, w3⟩ := w2.newP hx (hw _ (List.mem_of_getElem? (i := 0) rfl)) rfl (hb hby at_181) rfl (by decide) 6 (by decide) (by decide) (by decide) (by decide) (fun xq => (mkF m 183 #[.val (.int p0), .val (.long p1), .second, .val (.long p2), .second, .val (.int (1 : Int32)), .val (.int (4 : Int32)), .val (.ref a), .val (.ref b), .unset, .unset] (.ref xq :: []))) (fun _ => rfl)
    have z3 := E3.1
    have K4 : Keep h0 h3 [] := K0.ext E3
    have V3 : Arv Z h3 b3 k3 .char (6 : Int32) [(.int (0 : Int32)), (.int (0 : Int32)), (.int (0 : Int32)), (.int (0 : Int32)), (.int (0 : Int32)), (.int (0 : Int32))] (.int (0 : Int32)) := A3.pad (pad_rep [] (.int (0 : Int32)) 6)
    have w5 := w3.pure (mkF m 195 #[.val (.int p0), .val (.long p1), .second, .val (.long p2), .second, .val (.int (1 : Int32)), .val (.int (4 : Int32)), .val (.ref a), .val (.ref b), .val (.ref b3), .unset] [(.int (0 : Int32)), (.int (1 : Int32)), (.ref b), (.ref a), (.int (0 : Int32)), (.ref b3)]) (fun X eT hZ hown k => by
        show Steps _ _ _ (State.setTop _ (mkF m 183 #[.val (.int p0), .val (.long p1), .second, .val (.long p2), .second, .val (.int (1 : Int32)), .val (.int (4 : Int32)), .val (.ref a), .val (.ref b), .unset, .unset] [(.ref b3)])) _
        refine S.astore X.here hx (hb hby at_183) rfl #[.val (.int p0), .val (.long p1), .second, .val (.long p2), .second, .val (.int (1 : Int32)), .val (.int (4 : Int32)), .val (.ref a), .val (.ref b), .val (.ref b3), .unset] rfl ?_
        refine S.aload X.here hx (hb hby at_185) rfl rfl ?_
        refine S.iconst X.here hx (0 : Int32) (hb hby at_187) rfl ?_
        refine S.aload X.here hx (hb hby at_188) rfl rfl ?_
        refine S.aload X.here hx (hb hby at_190) rfl rfl ?_
        refine S.iload X.here hx (hb hby at_192) rfl ?_
        refine S.iconst X.here hx (0 : Int32) (hb hby at_194) rfl ?_
        exact k)
    have F6 := VA.ext E3
    have F7 := VB.ext E3
    obtain ⟨v8, h8, Q8, K8, z8, w8⟩ := w5.callS hx (y := (⟨"com/example/rowanport/rowanport/util/MailAddressesDomainPinLaw", "at", "([C[CII)C"⟩ : MethodName)) (W := 2) (hw _ (List.mem_of_getElem? (i := 65) rfl)) (hw _ (List.mem_of_getElem? (i := 66) rfl)) (hw _ (List.mem_of_getElem? (i := 3) rfl)) (hw _ (List.mem_of_getElem? (i := 67) rfl)) (by decide) ((rmx10 l Z a0 hw a b ka kb d0 d1 d2 d3 e0 e1 e2 e3 h3 n0 (by omega) F6 F7 kd0 kd1 kd2 kd3 ke0 ke1 ke2 ke3).pay w5.hZ (hw _ (List.mem_of_getElem? (i := 67) rfl)) (hw _ (List.mem_of_getElem? (i := 3) rfl)) (by decide) (by decide)) rfl (by rw [hml]; rfl) [(.int (0 : Int32)), (.ref b3)] (lenOf pd_16 rfl) rfl (by show 2 * 0 + _ ≤ _; exact Nat.le_of_eq rfl) (hb hby at_195) (by decide) (by decide) (fun _ q => nomatch q) (fun rv => (mkF m 198 #[.val (.int p0), .val (.long p1), .second, .val (.long p2), .second, .val (.int (1 : Int32)), .val (.int (4 : Int32)), .val (.ref a), .val (.ref b), .val (.ref b3), .unset] (rv.toList ++ [(.int (0 : Int32)), (.ref b3)]))) (fun _ => rfl)
    obtain ⟨rfl, rfl⟩ := Q8
    obtain ⟨h9, W9, z9, V9, w9⟩ := w8.stC hx V3 0 rfl (Nat.le_of_ble_eq_true rfl) ⟨by decide, by decide⟩ rfl rfl (hb hby at_198) (by omega) (mkF m 199 #[.val (.int p0), .val (.long p1), .second, .val (.long p2), .second, .val (.int (1 : Int32)), .val (.int (4 : Int32)), .val (.ref a), .val (.ref b), .val (.ref b3), .unset] []) rfl
    rw [nar_rng kd0.1] at V9
    have U9 : Arv Z h9 b3 k3 .char (6 : Int32) [(.int d0), (.int (0 : Int32)), (.int (0 : Int32)), (.int (0 : Int32)), (.int (0 : Int32)), (.int (0 : Int32))] (.int (0 : Int32)) := V9
    have K10 : Keep h0 h9 [] := K4.wr W9 (Or.inr (by omega))
    have w11 := w9.pure (mkF m 209 #[.val (.int p0), .val (.long p1), .second, .val (.long p2), .second, .val (.int (1 : Int32)), .val (.int (4 : Int32)), .val (.ref a), .val (.ref b), .val (.ref b3), .unset] [(.int (1 : Int32)), (.int (1 : Int32)), (.ref b), (.ref a), (.int (1 : Int32)), (.ref b3)]) (fun X eT hZ hown k => by
        show Steps _ _ _ (State.setTop _ (mkF m 199 #[.val (.int p0), .val (.long p1), .second, .val (.long p2), .second, .val (.int (1 : Int32)), .val (.int (4 : Int32)), .val (.ref a), .val (.ref b), .val (.ref b3), .unset] [])) _
        refine S.aload X.here hx (hb hby at_199) rfl rfl ?_
        refine S.iconst X.here hx (1 : Int32) (hb hby at_201) rfl ?_
        refine S.aload X.here hx (hb hby at_202) rfl rfl ?_
        refine S.aload X.here hx (hb hby at_204) rfl rfl ?_
        refine S.iload X.here hx (hb hby at_206) rfl ?_
        refine S.iconst X.here hx (1 : Int32) (hb hby at_208) rfl ?_
        exact k)
    have F12 := F6.other W9 (nne (by omega))
    have F13 := F7.other W9 (nne (by omega))
    obtain ⟨v14, h14, Q14, K14, z14, w14⟩ := w11.callS hx (y := (⟨"com/example/rowanport/rowanport/util/MailAddressesDomainPinLaw", "at", "([C[CII)C"⟩ : MethodName)) (W := 2) (hw _ (List.mem_of_getElem? (i := 65) rfl)) (hw _ (List.mem_of_getElem? (i := 66) rfl)) (hw _ (List.mem_of_getElem? (i := 3) rfl)) (hw _ (List.mem_of_getElem? (i := 67) rfl)) (by decide) ((rmx11 l Z a0 hw a b ka kb d0 d1 d2 d3 e0 e1 e2 e3 h9 n0 (by omega) F12 F13 kd0 kd1 kd2 kd3 ke0 ke1 ke2 ke3).pay w11.hZ (hw _ (List.mem_of_getElem? (i := 67) rfl)) (hw _ (List.mem_of_getElem? (i := 3) rfl)) (by decide) (by decide)) rfl (by rw [hml]; rfl) [(.int (1 : Int32)), (.ref b3)] (lenOf pd_16 rfl) rfl (by show 2 * 0 + _ ≤ _; exact Nat.le_of_eq rfl) (hb hby at_209) (by decide) (by decide) (fun _ q => nomatch q) (fun rv => (mkF m 212 #[.val (.int p0), .val (.long p1), .second, .val (.long p2), .second, .val (.int (1 : Int32)), .val (.int (4 : Int32)), .val (.ref a), .val (.ref b), .val (.ref b3), .unset] (rv.toList ++ [(.int (1 : Int32)), (.ref b3)]))) (fun _ => rfl)
    obtain ⟨rfl, rfl⟩ := Q14
    obtain ⟨h15, W15, z15, V15, w15⟩ := w14.stC hx U9 1 rfl (Nat.le_of_ble_eq_true rfl) ⟨by decide, by decide⟩ rfl rfl (hb hby at_212) (by omega) (mkF m 213 #[.val (.int p0), .val (.long p1), .second, .val (.long p2), .second, .val (.int (1 : Int32)), .val (.int (4 : Int32)), .val (.ref a), .val (.ref b), .val (.ref b3), .unset] []) rfl
    rw [show nar .char (64 : Int32) = (64 : Int32) from rfl] at V15
    have U15 : Arv Z h15 b3 k3 .char (6 : Int32) [(.int d0), (.int (64 : Int32)), (.int (0 : Int32)), (.int (0 : Int32)), (.int (0 : Int32)), (.int (0 : Int32))] (.int (0 : Int32)) := V15
    have K16 : Keep h0 h15 [] := K10.wr W15 (Or.inr (by omega))
    have w17 := w15.pure (mkF m 223 #[.val (.int p0), .val (.long p1), .second, .val (.long p2), .second, .val (.int (1 : Int32)), .val (.int (4 : Int32)), .val (.ref a), .val (.ref b), .val (.ref b3), .unset] [(.int (2 : Int32)), (.int (1 : Int32)), (.ref b), (.ref a), (.int (2 : Int32)), (.ref b3)]) (fun X eT hZ hown k => by
        show Steps _ _ _ (State.setTop _ (mkF m 213 #[.val (.int p0), .val (.long p1), .second, .val (.long p2), .second, .val (.int (1 : Int32)), .val (.int (4 : Int32)), .val (.ref a), .val (.ref b), .val (.ref b3), .unset] [])) _
        refine S.aload X.here hx (hb hby at_213) rfl rfl ?_
        refine S.iconst X.here hx (2 : Int32) (hb hby at_215) rfl ?_
        refine S.aload X.here hx (hb hby at_216) rfl rfl ?_
        refine S.aload X.here hx (hb hby at_218) rfl rfl ?_
        refine S.iload X.here hx (hb hby at_220) rfl ?_
        refine S.iconst X.here hx (2 : Int32) (hb hby at_222) rfl ?_
        exact k)
    have F18 := F12.other W15 (nne (by omega))
    have F19 := F13.other W15 (nne (by omega))
    obtain ⟨v20, h20, Q20, K20, z20, w20⟩ := w17.callS hx (y := (⟨"com/example/rowanport/rowanport/util/MailAddressesDomainPinLaw", "at", "([C[CII)C"⟩ : MethodName)) (W := 2) (hw _ (List.mem_of_getElem? (i := 65) rfl)) (hw _ (List.mem_of_getElem? (i := 66) rfl)) (hw _ (List.mem_of_getElem? (i := 3) rfl)) (hw _ (List.mem_of_getElem? (i := 67) rfl)) (by decide) ((rmx12 l Z a0 hw a b ka kb d0 d1 d2 d3 e0 e1 e2 e3 h15 n0 (by omega) F18 F19 kd0 kd1 kd2 kd3 ke0 ke1 ke2 ke3).pay w17.hZ (hw _ (List.mem_of_getElem? (i := 67) rfl)) (hw _ (List.mem_of_getElem? (i := 3) rfl)) (by decide) (by decide)) rfl (by rw [hml]; rfl) [(.int (2 : Int32)), (.ref b3)] (lenOf pd_16 rfl) rfl (by show 2 * 0 + _ ≤ _; exact Nat.le_of_eq rfl) (hb hby at_223) (by decide) (by decide) (fun _ q => nomatch q) (fun rv => (mkF m 226 #[.val (.int p0), .val (.long p1), .second, .val (.long p2), .second, .val (.int (1 : Int32)), .val (.int (4 : Int32)), .val (.ref a), .val (.ref b), .val (.ref b3), .unset] (rv.toList ++ [(.int (2 : Int32)), (.ref b3)]))) (fun _ => rfl)
    obtain ⟨rfl, rfl⟩ := Q20
    obtain ⟨h21, W21, z21, V21, w21⟩ := w20.stC hx U15 2 rfl (Nat.le_of_ble_eq_true rfl) ⟨by decide, by decide⟩ rfl rfl (hb hby at_226) (by omega) (mkF m 227 #[.val (.int p0), .val (.long p1), .second, .val (.long p2), .second, .val (.int (1 : Int32)), .val (.int (4 : Int32)), .val (.ref a), .val (.ref b), .val (.ref b3), .unset] []) rfl
    rw [nar_rng ke0.1] at V21
    have U21 : Arv Z h21 b3 k3 .char (6 : Int32) [(.int d0), (.int (64 : Int32)), (.int e0), (.int (0 : Int32)), (.int (0 : Int32)), (.int (0 : Int32))] (.int (0 : Int32)) := V21
    have K22 : Keep h0 h21 [] := K16.wr W21 (Or.inr (by omega))
    have w23 := w21.pure (mkF m 237 #[.val (.int p0), .val (.long p1), .second, .val (.long p2), .second, .val (.int (1 : Int32)), .val (.int (4 : Int32)), .val (.ref a), .val (.ref b), .val (.ref b3), .unset] [(.int (3 : Int32)), (.int (1 : Int32)), (.ref b), (.ref a), (.int (3 : Int32)), (.ref b3)]) (fun X eT hZ hown k => by
        show Steps _ _ _ (State.setTop _ (mkF m 227 #[.val (.int p0), .val (.long p1), .second, .val (.long p2), .second, .val (.int (1 : Int32)), .val (.int (4 : Int32)), .val (.ref a), .val (.ref b), .val (.ref b3), .unset] [])) _
        refine S.aload X.here hx (hb hby at_227) rfl rfl ?_
        refine S.iconst X.here hx (3 : Int32) (hb hby at_229) rfl ?_
        refine S.aload X.here hx (hb hby at_230) rfl rfl ?_
        refine S.aload X.here hx (hb hby at_232) rfl rfl ?_
        refine S.iload X.here hx (hb hby at_234) rfl ?_
        refine S.iconst X.here hx (3 : Int32) (hb hby at_236) rfl ?_
        exact k)
    have F24 := F18.other W21 (nne (by omega))
    have F25 := F19.other W21 (nne (by omega))
    obtain ⟨v26, h26, Q26, K26, z26, w26⟩ := w23.callS hx (y := (⟨"com/example/rowanport/rowanport/util/MailAddressesDomainPinLaw", "at", "([C[CII)C"⟩ : MethodName)) (W := 2) (hw _ (List.mem_of_getElem? (i := 65) rfl)) (hw _ (List.mem_of_getElem? (i := 66) rfl)) (hw _ (List.mem_of_getElem? (i := 3) rfl)) (hw _ (List.mem_of_getElem? (i := 67) rfl)) (by decide) ((rmx13 l Z a0 hw a b ka kb d0 d1 d2 d3 e0 e1 e2 e3 h21 n0 (by omega) F24 F25 kd0 kd1 kd2 kd3 ke0 ke1 ke2 ke3).pay w23.hZ (hw _ (List.mem_of_getElem? (i := 67) rfl)) (hw _ (List.mem_of_getElem? (i := 3) rfl)) (by decide) (by decide)) rfl (by rw [hml]; rfl) [(.int (3 : Int32)), (.ref b3)] (lenOf pd_16 rfl) rfl (by show 2 * 0 + _ ≤ _; exact Nat.le_of_eq rfl) (hb hby at_237) (by decide) (by decide) (fun _ q => nomatch q) (fun rv => (mkF m 240 #[.val (.int p0), .val (.long p1), .second, .val (.long p2), .second, .val (.int (1 : Int32)), .val (.int (4 : Int32)), .val (.ref a), .val (.ref b), .val (.ref b3), .unset] (rv.toList ++ [(.int (3 : Int32)), (.ref b3)]))) (fun _ => rfl)
    obtain ⟨rfl, rfl⟩ := Q26
    obtain ⟨h27, W27, z27, V27, w27⟩ := w26.stC hx U21 3 rfl (Nat.le_of_ble_eq_true rfl) ⟨by decide, by decide⟩ rfl rfl (hb hby at_240) (by omega) (mkF m 241 #[.val (.int p0), .val (.long p1), .second, .val (.long p2), .second, .val (.int (1 : Int32)), .val (.int (4 : Int32)), .val (.ref a), .val (.ref b), .val (.ref b3), .unset] []) rfl
    rw [nar_rng ke1.1] at V27
    have U27 : Arv Z h27 b3 k3 .char (6 : Int32) [(.int d0), (.int (64 : Int32)), (.int e0), (.int e1), (.int (0 : Int32)), (.int (0 : Int32))] (.int (0 : Int32)) := V27
    have K28 : Keep h0 h27 [] := K22.wr W27 (Or.inr (by omega))
    have w29 := w27.pure (mkF m 251 #[.val (.int p0), .val (.long p1), .second, .val (.long p2), .second, .val (.int (1 : Int32)), .val (.int (4 : Int32)), .val (.ref a), .val (.ref b), .val (.ref b3), .unset] [(.int (4 : Int32)), (.int (1 : Int32)), (.ref b), (.ref a), (.int (4 : Int32)), (.ref b3)]) (fun X eT hZ hown k => by
        show Steps _ _ _ (State.setTop _ (mkF m 241 #[.val (.int p0), .val (.long p1), .second, .val (.long p2), .second, .val (.int (1 : Int32)), .val (.int (4 : Int32)), .val (.ref a), .val (.ref b), .val (.ref b3), .unset] [])) _
        refine S.aload X.here hx (hb hby at_241) rfl rfl ?_
        refine S.iconst X.here hx (4 : Int32) (hb hby at_243) rfl ?_
        refine S.aload X.here hx (hb hby at_244) rfl rfl ?_
        refine S.aload X.here hx (hb hby at_246) rfl rfl ?_
        refine S.iload X.here hx (hb hby at_248) rfl ?_
        refine S.iconst X.here hx (4 : Int32) (hb hby at_250) rfl ?_
        exact k)
    have F30 := F24.other W27 (nne (by omega))
    have F31 := F25.other W27 (nne (by omega))
    obtain ⟨v32, h32, Q32, K32, z32, w32⟩ := w29.callS hx (y := (⟨"com/example/rowanport/rowanport/util/MailAddressesDomainPinLaw", "at", "([C[CII)C"⟩ : MethodName)) (W := 2) (hw _ (List.mem_of_getElem? (i := 65) rfl)) (hw _ (List.mem_of_getElem? (i := 66) rfl)) (hw _ (List.mem_of_getElem? (i := 3) rfl)) (hw _ (List.mem_of_getElem? (i := 67) rfl)) (by decide) ((rmx14 l Z a0 hw a b ka kb d0 d1 d2 d3 e0 e1 e2 e3 h27 n0 (by omega) F30 F31 kd0 kd1 kd2 kd3 ke0 ke1 ke2 ke3).pay w29.hZ (hw _ (List.mem_of_getElem? (i := 67) rfl)) (hw _ (List.mem_of_getElem? (i := 3) rfl)) (by decide) (by decide)) rfl (by rw [hml]; rfl) [(.int (4 : Int32)), (.ref b3)] (lenOf pd_16 rfl) rfl (by show 2 * 0 + _ ≤ _; exact Nat.le_of_eq rfl) (hb hby at_251) (by decide) (by decide) (fun _ q => nomatch q) (fun rv => (mkF m 254 #[.val (.int p0), .val (.long p1), .second, .val (.long p2), .second, .val (.int (1 : Int32)), .val (.int (4 : Int32)), .val (.ref a), .val (.ref b), .val (.ref b3), .unset] (rv.toList ++ [(.int (4 : Int32)), (.ref b3)]))) (fun _ => rfl)
    obtain ⟨rfl, rfl⟩ := Q32
    obtain ⟨h33, W33, z33, V33, w33⟩ := w32.stC hx U27 4 rfl (Nat.le_of_ble_eq_true rfl) ⟨by decide, by decide⟩ rfl rfl (hb hby at_254) (by omega) (mkF m 255 #[.val (.int p0), .val (.long p1), .second, .val (.long p2), .second, .val (.int (1 : Int32)), .val (.int (4 : Int32)), .val (.ref a), .val (.ref b), .val (.ref b3), .unset] []) rfl
    rw [nar_rng ke2.1] at V33
    have U33 : Arv Z h33 b3 k3 .char (6 : Int32) [(.int d0), (.int (64 : Int32)), (.int e0), (.int e1), (.int e2), (.int (0 : Int32))] (.int (0 : Int32)) := V33
    have K34 : Keep h0 h33 [] := K28.wr W33 (Or.inr (by omega))
    have w35 := w33.pure (mkF m 265 #[.val (.int p0), .val (.long p1), .second, .val (.long p2), .second, .val (.int (1 : Int32)), .val (.int (4 : Int32)), .val (.ref a), .val (.ref b), .val (.ref b3), .unset] [(.int (5 : Int32)), (.int (1 : Int32)), (.ref b), (.ref a), (.int (5 : Int32)), (.ref b3)]) (fun X eT hZ hown k => by
        show Steps _ _ _ (State.setTop _ (mkF m 255 #[.val (.int p0), .val (.long p1), .second, .val (.long p2), .second, .val (.int (1 : Int32)), .val (.int (4 : Int32)), .val (.ref a), .val (.ref b), .val (.ref b3), .unset] [])) _
        refine S.aload X.here hx (hb hby at_255) rfl rfl ?_
        refine S.iconst X.here hx (5 : Int32) (hb hby at_257) rfl ?_
        refine S.aload X.here hx (hb hby at_258) rfl rfl ?_
        refine S.aload X.here hx (hb hby at_260) rfl rfl ?_
        refine S.iload X.here hx (hb hby at_262) rfl ?_
        refine S.iconst X.here hx (5 : Int32) (hb hby at_264) rfl ?_
        exact k)
    have F36 := F30.other W33 (nne (by omega))
    have F37 := F31.other W33 (nne (by omega))
    obtain ⟨v38, h38, Q38, K38, z38, w38⟩ := w35.callS hx (y := (⟨"com/example/rowanport/rowanport/util/MailAddressesDomainPinLaw", "at", "([C[CII)C"⟩ : MethodName)) (W := 2) (hw _ (List.mem_of_getElem? (i := 65) rfl)) (hw _ (List.mem_of_getElem? (i := 66) rfl)) (hw _ (List.mem_of_getElem? (i := 3) rfl)) (hw _ (List.mem_of_getElem? (i := 67) rfl)) (by decide) ((rmx15 l Z a0 hw a b ka kb d0 d1 d2 d3 e0 e1 e2 e3 h33 n0 (by omega) F36 F37 kd0 kd1 kd2 kd3 ke0 ke1 ke2 ke3).pay w35.hZ (hw _ (List.mem_of_getElem? (i := 67) rfl)) (hw _ (List.mem_of_getElem? (i := 3) rfl)) (by decide) (by decide)) rfl (by rw [hml]; rfl) [(.int (5 : Int32)), (.ref b3)] (lenOf pd_16 rfl) rfl (by show 2 * 0 + _ ≤ _; exact Nat.le_of_eq rfl) (hb hby at_265) (by decide) (by decide) (fun _ q => nomatch q) (fun rv => (mkF m 268 #[.val (.int p0), .val (.long p1), .second, .val (.long p2), .second, .val (.int (1 : Int32)), .val (.int (4 : Int32)), .val (.ref a), .val (.ref b), .val (.ref b3), .unset] (rv.toList ++ [(.int (5 : Int32)), (.ref b3)]))) (fun _ => rfl)
    obtain ⟨rfl, rfl⟩ := Q38
    obtain ⟨h39, W39, z39, V39, w39⟩ := w38.stC hx U33 5 rfl (Nat.le_of_ble_eq_true rfl) ⟨by decide, by decide⟩ rfl rfl (hb hby at_268) (by omega) (mkF m 269 #[.val (.int p0), .val (.long p1), .second, .val (.long p2), .second, .val (.int (1 : Int32)), .val (.int (4 : Int32)), .val (.ref a), .val (.ref b), .val (.ref b3), .unset] []) rfl
    rw [nar_rng ke3.1] at V39
    have U39 : Arv Z h39 b3 k3 .char (6 : Int32) [(.int d0), (.int (64 : Int32)), (.int e0), (.int e1), (.int e2), (.int e3)] (.int (0 : Int32)) := V39
    have K40 : Keep h0 h39 [] := K34.wr W39 (Or.inr (by omega))
    obtain ⟨b41, h41, g41, E41, l41, A41, D41, y41, w41⟩ := w39.newO hx (hw _ (List.mem_of_getElem? (i := 68) rfl)) (hw _ (List.mem_of_getElem? (i := 14) rfl)) (hw _ (List.mem_of_getElem? (i := 13) rfl)) rfl (hb hby at_269) (by decide) (by decide) (fun xq => (mkF m 272 #[.val (.int p0), .val (.long p1), .second, .val (.long p2), .second, .val (.int (1 : Int32)), .val (.int (4 : Int32)), .val (.ref a), .val (.ref b), .val (.ref b3), .unset] (.ref xq :: []))) (fun _ => rfl)
    have z41 := E41.1
    have K42 : Keep h0 h41 [] := K40.ext E41
    have D41_16 : Fld Z h41 b41 "java/lang/String" "value" "[B" .null := D41 (Or.inr (hw _ (List.mem_of_getElem? (i := 16) rfl))) (ty := (.array .byte)) (by decide)
    have D41_17 : Fld Z h41 b41 "java/lang/String" "coder" "B" (.int (0 : Int32)) := D41 (Or.inr (hw _ (List.mem_of_getElem? (i := 17) rfl))) (ty := .byte) (by decide)
    have w43 := w41.pure (mkF m 275 #[.val (.int p0), .val (.long p1), .second, .val (.long p2), .second, .val (.int (1 : Int32)), .val (.int (4 : Int32)), .val (.ref a), .val (.ref b), .val (.ref b3), .unset] [(.ref b3), (.ref b41), (.ref b41)]) (fun X eT hZ hown k => by
        show Steps _ _ _ (State.setTop _ (mkF m 272 #[.val (.int p0), .val (.long p1), .second, .val (.long p2), .second, .val (.int (1 : Int32)), .val (.int (4 : Int32)), .val (.ref a), .val (.ref b), .val (.ref b3), .unset] [(.ref b41)])) _
        refine S.dup X.here hx (hb hby at_272) rfl ?_
        refine S.aload X.here hx (hb hby at_273) rfl rfl ?_
        exact k)
    have F44 := U39.ext E41
    have F45 := X1.ext E3
    have F46 := F45.wr W9 (by omega)
    have F47 := F46.wr W15 (by omega)
    have F48 := F47.wr W21 (by omega)
    have F49 := F48.wr W27 (by omega)
    have F50 := F49.wr W33 (by omega)
    have F51 := F50.wr W39 (by omega)
    have F52 := F51.ext E41
    have r53 : ∀ c ∈ ([d0, (64 : Int32), e0, e1, e2, e3] : List Int32), ¬ c < 0 ∧ ¬ (255 : Int32) < c := (List.forall_mem_cons.mpr ⟨kd0.1, (List.forall_mem_cons.mpr ⟨(by decide), (List.forall_mem_cons.mpr ⟨ke0.1, (List.forall_mem_cons.mpr ⟨ke1.1, (List.forall_mem_cons.mpr ⟨ke2.1, (List.forall_mem_cons.mpr ⟨ke3.1, (fun _ q => nomatch q)⟩)⟩)⟩)⟩)⟩)⟩)
    obtain ⟨v54, h54, Q54, K54, z54, w54⟩ := w43.callI hx (y := (⟨"java/lang/String", "<init>", "([C)V"⟩ : MethodName)) (W := 1) rfl (hw _ (List.mem_of_getElem? (i := 69) rfl)) (hw _ (List.mem_of_getElem? (i := 70) rfl)) (hw _ (List.mem_of_getElem? (i := 71) rfl)) (by decide) (payNew hG w43.hZ hq_backV (hw _ (List.mem_of_getElem? (i := 14) rfl)) [d0, (64 : Int32), e0, e1, e2, e3] 6 (by omega) A41 D41_16 D41_17 F44 F52 rfl rfl (by decide) (by decide) r53 (by decide) (by decide)) rfl (by rw [hml]; rfl) [(.ref b41)] (lenOf pd_17 rfl) rfl (by show 2 * 0 + _ ≤ _; exact Nat.le_of_eq rfl) (hb hby at_275) (by decide) (by decide) (sfS y41 sf0) (fun rv => (mkF m 278 #[.val (.int p0), .val (.long p1), .second, .val (.long p2), .second, .val (.int (1 : Int32)), .val (.int (4 : Int32)), .val (.ref a), .val (.ref b), .val (.ref b3), .unset] (rv.toList ++ [(.ref b41)]))) (fun _ => rfl)
    obtain ⟨rfl, G54⟩ := Q54
    have K55 : Keep h0 h54 [] := K42.trans K54 (allS (Or.inr (by omega)) (fun _ q => nomatch q))
    have lt_b41 := G54.lt
    have F56 := F52.keep K54 (allS (by omega) all0)
    obtain ⟨v57, h57, Q57, K57, z57, w57⟩ := w54.callS hx (y := (⟨"com/example/rowanport/rowanport/util/MailAddresses", "domain", "(Ljava/lang/String;)Ljava/lang/String;"⟩ : MethodName)) (W := 0) (hw _ (List.mem_of_getElem? (i := 89) rfl)) (hw _ (List.mem_of_getElem? (i := 90) rfl)) (hw _ (List.mem_of_getElem? (i := 91) rfl)) (hw _ (List.mem_of_getElem? (i := 92) rfl)) (by decide) ((rmdm l Z a0 hw b41 [d0, (64 : Int32), e0, e1, e2, e3] _ 1 4 h54 n0 (by omega) hG F56 G54 (own_dom1 _ ke0.2 ke1.2 ke2.2 ke3.2) rfl (by decide) (by decide)).pay w54.hZ (hw _ (List.mem_of_getElem? (i := 92) rfl)) (hw _ (List.mem_of_getElem? (i := 91) rfl)) (by decide) (by decide)) rfl (by rw [hml]; rfl) [] (lenOf pd_18 rfl) rfl (by show 2 * 0 + _ ≤ _; exact Nat.le_of_eq rfl) (hb hby at_278) (by decide) (by decide) (fun _ q => nomatch q) (fun rv => (mkF m 281 #[.val (.int p0), .val (.long p1), .second, .val (.long p2), .second, .val (.int (1 : Int32)), .val (.int (4 : Int32)), .val (.ref a), .val (.ref b), .val (.ref b3), .unset] (rv.toList ++ []))) (fun _ => rfl)
    obtain ⟨y57, rfl, gy57, T57⟩ := Q57
    have K58 : Keep h0 h57 [] := K55.trans K57 (fun _ q => nomatch q)
    have S57 : Str Z h57 y57 [e0, e1, e2, e3] h57.size := T57
    have lt_y57 := S57.lt
    have w59 := w57.pure (mkF m 285 #[.val (.int p0), .val (.long p1), .second, .val (.long p2), .second, .val (.int (1 : Int32)), .val (.int (4 : Int32)), .val (.ref a), .val (.ref b), .val (.ref b3), .val (.ref y57)] [(.ref y57)]) (fun X eT hZ hown k => by
        show Steps _ _ _ (State.setTop _ (mkF m 281 #[.val (.int p0), .val (.long p1), .second, .val (.long p2), .second, .val (.int (1 : Int32)), .val (.int (4 : Int32)), .val (.ref a), .val (.ref b), .val (.ref b3), .unset] [(.ref y57)])) _
        refine S.astore X.here hx (hb hby at_281) rfl #[.val (.int p0), .val (.long p1), .second, .val (.long p2), .second, .val (.int (1 : Int32)), .val (.int (4 : Int32)), .val (.ref a), .val (.ref b), .val (.ref b3), .val (.ref y57)] rfl ?_
        refine S.aload X.here hx (hb hby at_283) rfl rfl ?_
        exact k)
    have F60 := F56.keep K57 all0
    obtain ⟨v61, h61, Q61, K61, z61, w61⟩ := w59.callV hx (C := "java/lang/String") (y := (⟨"java/lang/String", "length", "()I"⟩ : MethodName)) (z := (⟨"java/lang/String", "length", "()I"⟩ : MethodName)) (W := 0) (hw _ (List.mem_of_getElem? (i := 20) rfl)) (hw _ (List.mem_of_getElem? (i := 21) rfl)) (hw _ (List.mem_of_getElem? (i := 23) rfl)) (hw _ (List.mem_of_getElem? (i := 22) rfl)) (w59.nf (hw _ (List.mem_of_getElem? (i := 23) rfl))) (by decide) (payLen hG w59.hZ hq_lenW (hw _ (List.mem_of_getElem? (i := 14) rfl)) S57 F60 (by decide) (by decide)) S57.exa rfl (by rw [hml]; rfl) [] (lenOf pd_4 rfl) rfl (by show 2 * 0 + _ ≤ _; exact Nat.le_of_eq rfl) (hb hby at_285) (by decide) (by decide) (fun _ q => nomatch q) (fun rv => (mkF m 288 #[.val (.int p0), .val (.long p1), .second, .val (.long p2), .second, .val (.int (1 : Int32)), .val (.int (4 : Int32)), .val (.ref a), .val (.ref b), .val (.ref b3), .val (.ref y57)] (rv.toList ++ []))) (fun _ => rfl)
    obtain ⟨rfl, rfl⟩ := Q61
    have w62 := w61.pure (mkF m 296 #[.val (.int p0), .val (.long p1), .second, .val (.long p2), .second, .val (.int (1 : Int32)), .val (.int (4 : Int32)), .val (.ref a), .val (.ref b), .val (.ref b3), .val (.ref y57)] [(.int (0 : Int32)), (.ref y57)]) (fun X eT hZ hown k => by
        show Steps _ _ _ (State.setTop _ (mkF m 288 #[.val (.int p0), .val (.long p1), .second, .val (.long p2), .second, .val (.int (1 : Int32)), .val (.int (4 : Int32)), .val (.ref a), .val (.ref b), .val (.ref b3), .val (.ref y57)] [(.int (4 : Int32))])) _
        refine S.iload X.here hx (hb hby at_288) rfl ?_
        refine S.icmpNo X.here hx (hb hby at_290) (by decide) ?_
        refine S.aload X.here hx (hb hby at_293) rfl rfl ?_
        refine S.iconst X.here hx (0 : Int32) (hb hby at_295) rfl ?_
        exact k)
    obtain ⟨v63, h63, Q63, K63, z63, w63⟩ := w62.callV hx (C := "java/lang/String") (y := (⟨"java/lang/String", "charAt", "(I)C"⟩ : MethodName)) (z := (⟨"java/lang/String", "charAt", "(I)C"⟩ : MethodName)) (W := 0) (hw _ (List.mem_of_getElem? (i := 33) rfl)) (hw _ (List.mem_of_getElem? (i := 34) rfl)) (hw _ (List.mem_of_getElem? (i := 36) rfl)) (hw _ (List.mem_of_getElem? (i := 35) rfl)) (w62.nf (hw _ (List.mem_of_getElem? (i := 36) rfl))) (by decide) (payCh hG w62.hZ hq_chN (hw _ (List.mem_of_getElem? (i := 14) rfl)) S57 F60 0 (Nat.le_of_ble_eq_true rfl) rfl (by decide) (by decide)) S57.exa rfl (by rw [hml]; rfl) [] (lenOf pd_11 rfl) rfl (by show 2 * 0 + _ ≤ _; exact Nat.le_of_eq rfl) (hb hby at_296) (by decide) (by decide) (fun _ q => nomatch q) (fun rv => (mkF m 299 #[.val (.int p0), .val (.long p1), .second, .val (.long p2), .second, .val (.int (1 : Int32)), .val (.int (4 : Int32)), .val (.ref a), .val (.ref b), .val (.ref b3), .val (.ref y57)] (rv.toList ++ []))) (fun _ => rfl)
    obtain ⟨rfl, rfl⟩ := Q63
    have F64 := F37.other W39 (nne (by omega))
    have F65 := F64.ext E41
    have F66 := F65.keep K54 (ninS (nne (by omega)) nin0)
    have F67 := F66.keep K57 nin0
    have w68 := w63.pure (mkF m 315 #[.val (.int p0), .val (.long p1), .second, .val (.long p2), .second, .val (.int (1 : Int32)), .val (.int (4 : Int32)), .val (.ref a), .val (.ref b), .val (.ref b3), .val (.ref y57)] [(.int (1 : Int32)), (.ref y57)]) (fun X eT hZ hown k => by
        show Steps _ _ _ (State.setTop _ (mkF m 299 #[.val (.int p0), .val (.long p1), .second, .val (.long p2), .second, .val (.int (1 : Int32)), .val (.int (4 : Int32)), .val (.ref a), .val (.ref b), .val (.ref b3), .val (.ref y57)] [(.int e0)])) _
        refine S.aload X.here hx (hb hby at_299) rfl rfl ?_
        refine S.iconst X.here hx (0 : Int32) (hb hby at_301) rfl ?_
        refine caV X hx eT hZ F67 (v := (.int e0)) ⟨by decide, by decide⟩ rfl rfl rfl (hb hby at_302) ?_
        show Steps _ _ _ (State.setTop _ (mkF m 303 #[.val (.int p0), .val (.long p1), .second, .val (.long p2), .second, .val (.int (1 : Int32)), .val (.int (4 : Int32)), .val (.ref a), .val (.ref b), .val (.ref b3), .val (.ref y57)] [(.int e0), (.int e0)])) _
        refine S.icmpNo X.here hx (hb hby at_303) (teq (rfl : e0 = e0)).2 ?_
        refine S.iload X.here hx (hb hby at_306) rfl ?_
        refine S.iconst X.here hx (2 : Int32) (hb hby at_308) rfl ?_
        refine S.icmpNo X.here hx (hb hby at_309) (by decide) ?_
        refine S.aload X.here hx (hb hby at_312) rfl rfl ?_
        refine S.iconst X.here hx (1 : Int32) (hb hby at_314) rfl ?_
        exact k)
    obtain ⟨v69, h69, Q69, K69, z69, w69⟩ := w68.callV hx (C := "java/lang/String") (y := (⟨"java/lang/String", "charAt", "(I)C"⟩ : MethodName)) (z := (⟨"java/lang/String", "charAt", "(I)C"⟩ : MethodName)) (W := 0) (hw _ (List.mem_of_getElem? (i := 33) rfl)) (hw _ (List.mem_of_getElem? (i := 34) rfl)) (hw _ (List.mem_of_getElem? (i := 36) rfl)) (hw _ (List.mem_of_getElem? (i := 35) rfl)) (w68.nf (hw _ (List.mem_of_getElem? (i := 36) rfl))) (by decide) (payCh hG w68.hZ hq_chN (hw _ (List.mem_of_getElem? (i := 14) rfl)) S57 F60 1 (Nat.le_of_ble_eq_true rfl) rfl (by decide) (by decide)) S57.exa rfl (by rw [hml]; rfl) [] (lenOf pd_11 rfl) rfl (by show 2 * 0 + _ ≤ _; exact Nat.le_of_eq rfl) (hb hby at_315) (by decide) (by decide) (fun _ q => nomatch q) (fun rv => (mkF m 318 #[.val (.int p0), .val (.long p1), .second, .val (.long p2), .second, .val (.int (1 : Int32)), .val (.int (4 : Int32)), .val (.ref a), .val (.ref b), .val (.ref b3), .val (.ref y57)] (rv.toList ++ []))) (fun _ => rfl)
    obtain ⟨rfl, rfl⟩ := Q69
    have w70 := w69.pure (mkF m 334 #[.val (.int p0), .val (.long p1), .second, .val (.long p2), .second, .val (.int (1 : Int32)), .val (.int (4 : Int32)), .val (.ref a), .val (.ref b), .val (.ref b3), .val (.ref y57)] [(.int (2 : Int32)), (.ref y57)]) (fun X eT hZ hown k => by
        show Steps _ _ _ (State.setTop _ (mkF m 318 #[.val (.int p0), .val (.long p1), .second, .val (.long p2), .second, .val (.int (1 : Int32)), .val (.int (4 : Int32)), .val (.ref a), .val (.ref b), .val (.ref b3), .val (.ref y57)] [(.int e1)])) _
        refine S.aload X.here hx (hb hby at_318) rfl rfl ?_
        refine S.iconst X.here hx (1 : Int32) (hb hby at_320) rfl ?_
        refine caV X hx eT hZ F67 (v := (.int e1)) ⟨by decide, by decide⟩ rfl rfl rfl (hb hby at_321) ?_
        show Steps _ _ _ (State.setTop _ (mkF m 322 #[.val (.int p0), .val (.long p1), .second, .val (.long p2), .second, .val (.int (1 : Int32)), .val (.int (4 : Int32)), .val (.ref a), .val (.ref b), .val (.ref b3), .val (.ref y57)] [(.int e1), (.int e1)])) _
        refine S.icmpNo X.here hx (hb hby at_322) (teq (rfl : e1 = e1)).2 ?_
        refine S.iload X.here hx (hb hby at_325) rfl ?_
        refine S.iconst X.here hx (3 : Int32) (hb hby at_327) rfl ?_
        refine S.icmpNo X.here hx (hb hby at_328) (by decide) ?_
        refine S.aload X.here hx (hb hby at_331) rfl rfl ?_
        refine S.iconst X.here hx (2 : Int32) (hb hby at_333) rfl ?_
        exact k)
    obtain ⟨v71, h71, Q71, K71, z71, w71⟩ := w70.callV hx (C := "java/lang/String") (y := (⟨"java/lang/String", "charAt", "(I)C"⟩ : MethodName)) (z := (⟨"java/lang/String", "charAt", "(I)C"⟩ : MethodName)) (W := 0) (hw _ (List.mem_of_getElem? (i := 33) rfl)) (hw _ (List.mem_of_getElem? (i := 34) rfl)) (hw _ (List.mem_of_getElem? (i := 36) rfl)) (hw _ (List.mem_of_getElem? (i := 35) rfl)) (w70.nf (hw _ (List.mem_of_getElem? (i := 36) rfl))) (by decide) (payCh hG w70.hZ hq_chN (hw _ (List.mem_of_getElem? (i := 14) rfl)) S57 F60 2 (Nat.le_of_ble_eq_true rfl) rfl (by decide) (by decide)) S57.exa rfl (by rw [hml]; rfl) [] (lenOf pd_11 rfl) rfl (by show 2 * 0 + _ ≤ _; exact Nat.le_of_eq rfl) (hb hby at_334) (by decide) (by decide) (fun _ q => nomatch q) (fun rv => (mkF m 337 #[.val (.int p0), .val (.long p1), .second, .val (.long p2), .second, .val (.int (1 : Int32)), .val (.int (4 : Int32)), .val (.ref a), .val (.ref b), .val (.ref b3), .val (.ref y57)] (rv.toList ++ []))) (fun _ => rfl)
    obtain ⟨rfl, rfl⟩ := Q71
    have w72 := w71.pure (mkF m 353 #[.val (.int p0), .val (.long p1), .second, .val (.long p2), .second, .val (.int (1 : Int32)), .val (.int (4 : Int32)), .val (.ref a), .val (.ref b), .val (.ref b3), .val (.ref y57)] [(.int (3 : Int32)), (.ref y57)]) (fun X eT hZ hown k => by
        show Steps _ _ _ (State.setTop _ (mkF m 337 #[.val (.int p0), .val (.long p1), .second, .val (.long p2), .second, .val (.int (1 : Int32)), .val (.int (4 : Int32)), .val (.ref a), .val (.ref b), .val (.ref b3), .val (.ref y57)] [(.int e2)])) _
        refine S.aload X.here hx (hb hby at_337) rfl rfl ?_
        refine S.iconst X.here hx (2 : Int32) (hb hby at_339) rfl ?_
        refine caV X hx eT hZ F67 (v := (.int e2)) ⟨by decide, by decide⟩ rfl rfl rfl (hb hby at_340) ?_
        show Steps _ _ _ (State.setTop _ (mkF m 341 #[.val (.int p0), .val (.long p1), .second, .val (.long p2), .second, .val (.int (1 : Int32)), .val (.int (4 : Int32)), .val (.ref a), .val (.ref b), .val (.ref b3), .val (.ref y57)] [(.int e2), (.int e2)])) _
        refine S.icmpNo X.here hx (hb hby at_341) (teq (rfl : e2 = e2)).2 ?_
        refine S.iload X.here hx (hb hby at_344) rfl ?_
        refine S.iconst X.here hx (4 : Int32) (hb hby at_346) rfl ?_
        refine S.icmpNo X.here hx (hb hby at_347) (by decide) ?_
        refine S.aload X.here hx (hb hby at_350) rfl rfl ?_
        refine S.iconst X.here hx (3 : Int32) (hb hby at_352) rfl ?_
        exact k)
    obtain ⟨v73, h73, Q73, K73, z73, w73⟩ := w72.callV hx (C := "java/lang/String") (y := (⟨"java/lang/String", "charAt", "(I)C"⟩ : MethodName)) (z := (⟨"java/lang/String", "charAt", "(I)C"⟩ : MethodName)) (W := 0) (hw _ (List.mem_of_getElem? (i := 33) rfl)) (hw _ (List.mem_of_getElem? (i := 34) rfl)) (hw _ (List.mem_of_getElem? (i := 36) rfl)) (hw _ (List.mem_of_getElem? (i := 35) rfl)) (w72.nf (hw _ (List.mem_of_getElem? (i := 36) rfl))) (by decide) (payCh hG w72.hZ hq_chN (hw _ (List.mem_of_getElem? (i := 14) rfl)) S57 F60 3 (Nat.le_of_ble_eq_true rfl) rfl (by decide) (by decide)) S57.exa rfl (by rw [hml]; rfl) [] (lenOf pd_11 rfl) rfl (by show 2 * 0 + _ ≤ _; exact Nat.le_of_eq rfl) (hb hby at_353) (by decide) (by decide) (fun _ q => nomatch q) (fun rv => (mkF m 356 #[.val (.int p0), .val (.long p1), .second, .val (.long p2), .second, .val (.int (1 : Int32)), .val (.int (4 : Int32)), .val (.ref a), .val (.ref b), .val (.ref b3), .val (.ref y57)] (rv.toList ++ []))) (fun _ => rfl)
    obtain ⟨rfl, rfl⟩ := Q73
    have w74 := w73.pure (mkF m 368 #[.val (.int p0), .val (.long p1), .second, .val (.long p2), .second, .val (.int (1 : Int32)), .val (.int (4 : Int32)), .val (.ref a), .val (.ref b), .val (.ref b3), .val (.ref y57)] [(.int (1 : Int32))]) (fun X eT hZ hown k => by
        show Steps _ _ _ (State.setTop _ (mkF m 356 #[.val (.int p0), .val (.long p1), .second, .val (.long p2), .second, .val (.int (1 : Int32)), .val (.int (4 : Int32)), .val (.ref a), .val (.ref b), .val (.ref b3), .val (.ref y57)] [(.int e3)])) _
        refine S.aload X.here hx (hb hby at_356) rfl rfl ?_
        refine S.iconst X.here hx (3 : Int32) (hb hby at_358) rfl ?_
        refine caV X hx eT hZ F67 (v := (.int e3)) ⟨by decide, by decide⟩ rfl rfl rfl (hb hby at_359) ?_
        show Steps _ _ _ (State.setTop _ (mkF m 360 #[.val (.int p0), .val (.long p1), .second, .val (.long p2), .second, .val (.int (1 : Int32)), .val (.int (4 : Int32)), .val (.ref a), .val (.ref b), .val (.ref b3), .val (.ref y57)] [(.int e3), (.int e3)])) _
        refine S.icmpNo X.here hx (hb hby at_360) (teq (rfl : e3 = e3)).2 ?_
        refine S.iconst X.here hx (1 : Int32) (hb hby at_363) rfl ?_
        refine S.goto X.here hx 368 (hb hby at_364) (by decide) (by decide) ?_
        exact k)
    exact w74.endW (v := some (.int (1 : Int32))) (Q := (fun v h => v = some (.int 1))) (wr := []) (h0 := h0) (fun h => by rw [Bd.returns] at h; cases h) Bd.notSynchronized (fun X hr => retN X hx (t := .boolean) Bd.returns (by simp) (hb hby at_368) hr) (by decide) (by decide) rfl K58
  · have w1_1 := w0
    rw [hs1] at w1_1
    have w75 := w1_1.pure (mkF m 181 #[.val (.int p0), .val (.long p1), .second, .val (.long p2), .second, .val (.int (2 : Int32)), .val (.int (3 : Int32)), .val (.ref a), .val (.ref b), .unset, .unset] [(.int (6 : Int32))]) (fun X eT hZ hown k => by
        show Steps _ _ _ (State.setTop _ (mkF m 179 #[.val (.int p0), .val (.long p1), .second, .val (.long p2), .second, .val (.int (2 : Int32)), .val (.int (3 : Int32)), .val (.ref a), .val (.ref b), .unset, .unset] [])) _
        refine S.bipush X.here hx (6 : Int32) (hb hby at_179) rfl ?_
        exact k)
    obtain ⟨b76, h76, k76, g76, E76, l76, A76, y76, w76⟩ := w75.newP hx (hw _ (List.mem_of_getElem? (i := 0) rfl)) rfl (hb hby at_181) rfl (by decide) 6 (by decide) (by decide) (by decide) (by decide) (fun xq => (mkF m 183 #[.val (.int p0), .val (.long p1), .second, .val (.long p2), .second, .val (.int (2 : Int32)), .val (.int (3 : Int32)), .val (.ref a), .val (.ref b), .unset, .unset] (.ref xq :: []))) (fun _ => rfl)
    have z76 := E76.1
    have K77 : Keep h0 h76 [] := K0.ext E76
    have V76 : Arv Z h76 b76 k76 .char (6 : Int32) [(.int (0 : Int32)), (.int (0 : Int32)), (.int (0 : Int32)), (.int (0 : Int32)), (.int (0 : Int32)), (.int (0 : Int32))] (.int (0 : Int32)) := A76.pad (pad_rep [] (.int (0 : Int32)) 6)
    have w78 := w76.pure (mkF m 195 #[.val (.int p0), .val (.long p1), .second, .val (.long p2), .second, .val (.int (2 : Int32)), .val (.int (3 : Int32)), .val (.ref a), .val (.ref b), .val (.ref b76), .unset] [(.int (0 : Int32)), (.int (2 : Int32)), (.ref b), (.ref a), (.int (0 : Int32)), (.ref b76)]) (fun X eT hZ hown k => by
        show Steps _ _ _ (State.setTop _ (mkF m 183 #[.val (.int p0), .val (.long p1), .second, .val (.long p2), .second, .val (.int (2 : Int32)), .val (.int (3 : Int32)), .val (.ref a), .val (.ref b), .unset, .unset] [(.ref b76)])) _
        refine S.astore X.here hx (hb hby at_183) rfl #[.val (.int p0), .val (.long p1), .second, .val (.long p2), .second, .val (.int (2 : Int32)), .val (.int (3 : Int32)), .val (.ref a), .val (.ref b), .val (.ref b76), .unset] rfl ?_
        refine S.aload X.here hx (hb hby at_185) rfl rfl ?_
        refine S.iconst X.here hx (0 : Int32) (hb hby at_187) rfl ?_
        refine S.aload X.here hx (hb hby at_188) rfl rfl ?_
        refine S.aload X.here hx (hb hby at_190) rfl rfl ?_
        refine S.iload X.here hx (hb hby at_192) rfl ?_
        refine S.iconst X.here hx (0 : Int32) (hb hby at_194) rfl ?_
        exact k)
    have F79 := VA.ext E76
    have F80 := VB.ext E76
    obtain ⟨v81, h81, Q81, K81, z81, w81⟩ := w78.callS hx (y := (⟨"com/example/rowanport/rowanport/util/MailAddressesDomainPinLaw", "at", "([C[CII)C"⟩ : MethodName)) (W := 2) (hw _ (List.mem_of_getElem? (i := 65) rfl)) (hw _ (List.mem_of_getElem? (i := 66) rfl)) (hw _ (List.mem_of_getElem? (i := 3) rfl)) (hw _ (List.mem_of_getElem? (i := 67) rfl)) (by decide) ((rmx20 l Z a0 hw a b ka kb d0 d1 d2 d3 e0 e1 e2 e3 h76 n0 (by omega) F79 F80 kd0 kd1 kd2 kd3 ke0 ke1 ke2 ke3).pay w78.hZ (hw _ (List.mem_of_getElem? (i := 67) rfl)) (hw _ (List.mem_of_getElem? (i := 3) rfl)) (by decide) (by decide)) rfl (by rw [hml]; rfl) [(.int (0 : Int32)), (.ref b76)] (lenOf pd_16 rfl) rfl (by show 2 * 0 + _ ≤ _; exact Nat.le_of_eq rfl) (hb hby at_195) (by decide) (by decide) (fun _ q => nomatch q) (fun rv => (mkF m 198 #[.val (.int p0), .val (.long p1), .second, .val (.long p2), .second, .val (.int (2 : Int32)), .val (.int (3 : Int32)), .val (.ref a), .val (.ref b), .val (.ref b76), .unset] (rv.toList ++ [(.int (0 : Int32)), (.ref b76)]))) (fun _ => rfl)
    obtain ⟨rfl, rfl⟩ := Q81
    obtain ⟨h82, W82, z82, V82, w82⟩ := w81.stC hx V76 0 rfl (Nat.le_of_ble_eq_true rfl) ⟨by decide, by decide⟩ rfl rfl (hb hby at_198) (by omega) (mkF m 199 #[.val (.int p0), .val (.long p1), .second, .val (.long p2), .second, .val (.int (2 : Int32)), .val (.int (3 : Int32)), .val (.ref a), .val (.ref b), .val (.ref b76), .unset] []) rfl
    rw [nar_rng kd0.1] at V82
    have U82 : Arv Z h82 b76 k76 .char (6 : Int32) [(.int d0), (.int (0 : Int32)), (.int (0 : Int32)), (.int (0 : Int32)), (.int (0 : Int32)), (.int (0 : Int32))] (.int (0 : Int32)) := V82
    have K83 : Keep h0 h82 [] := K77.wr W82 (Or.inr (by omega))
    have w84 := w82.pure (mkF m 209 #[.val (.int p0), .val (.long p1), .second, .val (.long p2), .second, .val (.int (2 : Int32)), .val (.int (3 : Int32)), .val (.ref a), .val (.ref b), .val (.ref b76), .unset] [(.int (1 : Int32)), (.int (2 : Int32)), (.ref b), (.ref a), (.int (1 : Int32)), (.ref b76)]) (fun X eT hZ hown k => by
        show Steps _ _ _ (State.setTop _ (mkF m 199 #[.val (.int p0), .val (.long p1), .second, .val (.long p2), .second, .val (.int (2 : Int32)), .val (.int (3 : Int32)), .val (.ref a), .val (.ref b), .val (.ref b76), .unset] [])) _
        refine S.aload X.here hx (hb hby at_199) rfl rfl ?_
        refine S.iconst X.here hx (1 : Int32) (hb hby at_201) rfl ?_
        refine S.aload X.here hx (hb hby at_202) rfl rfl ?_
        refine S.aload X.here hx (hb hby at_204) rfl rfl ?_
        refine S.iload X.here hx (hb hby at_206) rfl ?_
        refine S.iconst X.here hx (1 : Int32) (hb hby at_208) rfl ?_
        exact k)
    have F85 := F79.other W82 (nne (by omega))
    have F86 := F80.other W82 (nne (by omega))
    obtain ⟨v87, h87, Q87, K87, z87, w87⟩ := w84.callS hx (y := (⟨"com/example/rowanport/rowanport/util/MailAddressesDomainPinLaw", "at", "([C[CII)C"⟩ : MethodName)) (W := 2) (hw _ (List.mem_of_getElem? (i := 65) rfl)) (hw _ (List.mem_of_getElem? (i := 66) rfl)) (hw _ (List.mem_of_getElem? (i := 3) rfl)) (hw _ (List.mem_of_getElem? (i := 67) rfl)) (by decide) ((rmx21 l Z a0 hw a b ka kb d0 d1 d2 d3 e0 e1 e2 e3 h82 n0 (by omega) F85 F86 kd0 kd1 kd2 kd3 ke0 ke1 ke2 ke3).pay w84.hZ (hw _ (List.mem_of_getElem? (i := 67) rfl)) (hw _ (List.mem_of_getElem? (i := 3) rfl)) (by decide) (by decide)) rfl (by rw [hml]; rfl) [(.int (1 : Int32)), (.ref b76)] (lenOf pd_16 rfl) rfl (by show 2 * 0 + _ ≤ _; exact Nat.le_of_eq rfl) (hb hby at_209) (by decide) (by decide) (fun _ q => nomatch q) (fun rv => (mkF m 212 #[.val (.int p0), .val (.long p1), .second, .val (.long p2), .second, .val (.int (2 : Int32)), .val (.int (3 : Int32)), .val (.ref a), .val (.ref b), .val (.ref b76), .unset] (rv.toList ++ [(.int (1 : Int32)), (.ref b76)]))) (fun _ => rfl)
    obtain ⟨rfl, rfl⟩ := Q87
    obtain ⟨h88, W88, z88, V88, w88⟩ := w87.stC hx U82 1 rfl (Nat.le_of_ble_eq_true rfl) ⟨by decide, by decide⟩ rfl rfl (hb hby at_212) (by omega) (mkF m 213 #[.val (.int p0), .val (.long p1), .second, .val (.long p2), .second, .val (.int (2 : Int32)), .val (.int (3 : Int32)), .val (.ref a), .val (.ref b), .val (.ref b76), .unset] []) rfl
    rw [nar_rng kd1.1] at V88
    have U88 : Arv Z h88 b76 k76 .char (6 : Int32) [(.int d0), (.int d1), (.int (0 : Int32)), (.int (0 : Int32)), (.int (0 : Int32)), (.int (0 : Int32))] (.int (0 : Int32)) := V88
    have K89 : Keep h0 h88 [] := K83.wr W88 (Or.inr (by omega))
    have w90 := w88.pure (mkF m 223 #[.val (.int p0), .val (.long p1), .second, .val (.long p2), .second, .val (.int (2 : Int32)), .val (.int (3 : Int32)), .val (.ref a), .val (.ref b), .val (.ref b76), .unset] [(.int (2 : Int32)), (.int (2 : Int32)), (.ref b), (.ref a), (.int (2 : Int32)), (.ref b76)]) (fun X eT hZ hown k => by
        show Steps _ _ _ (State.setTop _ (mkF m 213 #[.val (.int p0), .val (.long p1), .second, .val (.long p2), .second, .val (.int (2 : Int32)), .val (.int (3 : Int32)), .val (.ref a), .val (.ref b), .val (.ref b76), .unset] [])) _
        refine S.aload X.here hx (hb hby at_213) rfl rfl ?_
        refine S.iconst X.here hx (2 : Int32) (hb hby at_215) rfl ?_
        refine S.aload X.here hx (hb hby at_216) rfl rfl ?_
        refine S.aload X.here hx (hb hby at_218) rfl rfl ?_
        refine S.iload X.here hx (hb hby at_220) rfl ?_
        refine S.iconst X.here hx (2 : Int32) (hb hby at_222) rfl ?_
        exact k)
    have F91 := F85.other W88 (nne (by omega))
    have F92 := F86.other W88 (nne (by omega))
    obtain ⟨v93, h93, Q93, K93, z93, w93⟩ := w90.callS hx (y := (⟨"com/example/rowanport/rowanport/util/MailAddressesDomainPinLaw", "at", "([C[CII)C"⟩ : MethodName)) (W := 2) (hw _ (List.mem_of_getElem? (i := 65) rfl)) (hw _ (List.mem_of_getElem? (i := 66) rfl)) (hw _ (List.mem_of_getElem? (i := 3) rfl)) (hw _ (List.mem_of_getElem? (i := 67) rfl)) (by decide) ((rmx22 l Z a0 hw a b ka kb d0 d1 d2 d3 e0 e1 e2 e3 h88 n0 (by omega) F91 F92 kd0 kd1 kd2 kd3 ke0 ke1 ke2 ke3).pay w90.hZ (hw _ (List.mem_of_getElem? (i := 67) rfl)) (hw _ (List.mem_of_getElem? (i := 3) rfl)) (by decide) (by decide)) rfl (by rw [hml]; rfl) [(.int (2 : Int32)), (.ref b76)] (lenOf pd_16 rfl) rfl (by show 2 * 0 + _ ≤ _; exact Nat.le_of_eq rfl) (hb hby at_223) (by decide) (by decide) (fun _ q => nomatch q) (fun rv => (mkF m 226 #[.val (.int p0), .val (.long p1), .second, .val (.long p2), .second, .val (.int (2 : Int32)), .val (.int (3 : Int32)), .val (.ref a), .val (.ref b), .val (.ref b76), .unset] (rv.toList ++ [(.int (2 : Int32)), (.ref b76)]))) (fun _ => rfl)
    obtain ⟨rfl, rfl⟩ := Q93
    obtain ⟨h94, W94, z94, V94, w94⟩ := w93.stC hx U88 2 rfl (Nat.le_of_ble_eq_true rfl) ⟨by decide, by decide⟩ rfl rfl (hb hby at_226) (by omega) (mkF m 227 #[.val (.int p0), .val (.long p1), .second, .val (.long p2), .second, .val (.int (2 : Int32)), .val (.int (3 : Int32)), .val (.ref a), .val (.ref b), .val (.ref b76), .unset] []) rfl
    rw [show nar .char (64 : Int32) = (64 : Int32) from rfl] at V94
    have U94 : Arv Z h94 b76 k76 .char (6 : Int32) [(.int d0), (.int d1), (.int (64 : Int32)), (.int (0 : Int32)), (.int (0 : Int32)), (.int (0 : Int32))] (.int (0 : Int32)) := V94
    have K95 : Keep h0 h94 [] := K89.wr W94 (Or.inr (by omega))
    have w96 := w94.pure (mkF m 237 #[.val (.int p0), .val (.long p1), .second, .val (.long p2), .second, .val (.int (2 : Int32)), .val (.int (3 : Int32)), .val (.ref a), .val (.ref b), .val (.ref b76), .unset] [(.int (3 : Int32)), (.int (2 : Int32)), (.ref b), (.ref a), (.int (3 : Int32)), (.ref b76)]) (fun X eT hZ hown k => by
        show Steps _ _ _ (State.setTop _ (mkF m 227 #[.val (.int p0), .val (.long p1), .second, .val (.long p2), .second, .val (.int (2 : Int32)), .val (.int (3 : Int32)), .val (.ref a), .val (.ref b), .val (.ref b76), .unset] [])) _
        refine S.aload X.here hx (hb hby at_227) rfl rfl ?_
        refine S.iconst X.here hx (3 : Int32) (hb hby at_229) rfl ?_
        refine S.aload X.here hx (hb hby at_230) rfl rfl ?_
        refine S.aload X.here hx (hb hby at_232) rfl rfl ?_
        refine S.iload X.here hx (hb hby at_234) rfl ?_
        refine S.iconst X.here hx (3 : Int32) (hb hby at_236) rfl ?_
        exact k)
    have F97 := F91.other W94 (nne (by omega))
    have F98 := F92.other W94 (nne (by omega))
    obtain ⟨v99, h99, Q99, K99, z99, w99⟩ := w96.callS hx (y := (⟨"com/example/rowanport/rowanport/util/MailAddressesDomainPinLaw", "at", "([C[CII)C"⟩ : MethodName)) (W := 2) (hw _ (List.mem_of_getElem? (i := 65) rfl)) (hw _ (List.mem_of_getElem? (i := 66) rfl)) (hw _ (List.mem_of_getElem? (i := 3) rfl)) (hw _ (List.mem_of_getElem? (i := 67) rfl)) (by decide) ((rmx23 l Z a0 hw a b ka kb d0 d1 d2 d3 e0 e1 e2 e3 h94 n0 (by omega) F97 F98 kd0 kd1 kd2 kd3 ke0 ke1 ke2 ke3).pay w96.hZ (hw _ (List.mem_of_getElem? (i := 67) rfl)) (hw _ (List.mem_of_getElem? (i := 3) rfl)) (by decide) (by decide)) rfl (by rw [hml]; rfl) [(.int (3 : Int32)), (.ref b76)] (lenOf pd_16 rfl) rfl (by show 2 * 0 + _ ≤ _; exact Nat.le_of_eq rfl) (hb hby at_237) (by decide) (by decide) (fun _ q => nomatch q) (fun rv => (mkF m 240 #[.val (.int p0), .val (.long p1), .second, .val (.long p2), .second, .val (.int (2 : Int32)), .val (.int (3 : Int32)), .val (.ref a), .val (.ref b), .val (.ref b76), .unset] (rv.toList ++ [(.int (3 : Int32)), (.ref b76)]))) (fun _ => rfl)
    obtain ⟨rfl, rfl⟩ := Q99
    obtain ⟨h100, W100, z100, V100, w100⟩ := w99.stC hx U94 3 rfl (Nat.le_of_ble_eq_true rfl) ⟨by decide, by decide⟩ rfl rfl (hb hby at_240) (by omega) (mkF m 241 #[.val (.int p0), .val (.long p1), .second, .val (.long p2), .second, .val (.int (2 : Int32)), .val (.int (3 : Int32)), .val (.ref a), .val (.ref b), .val (.ref b76), .unset] []) rfl
    rw [nar_rng ke0.1] at V100
    have U100 : Arv Z h100 b76 k76 .char (6 : Int32) [(.int d0), (.int d1), (.int (64 : Int32)), (.int e0), (.int (0 : Int32)), (.int (0 : Int32))] (.int (0 : Int32)) := V100
    have K101 : Keep h0 h100 [] := K95.wr W100 (Or.inr (by omega))
    have w102 := w100.pure (mkF m 251 #[.val (.int p0), .val (.long p1), .second, .val (.long p2), .second, .val (.int (2 : Int32)), .val (.int (3 : Int32)), .val (.ref a), .val (.ref b), .val (.ref b76), .unset] [(.int (4 : Int32)), (.int (2 : Int32)), (.ref b), (.ref a), (.int (4 : Int32)), (.ref b76)]) (fun X eT hZ hown k => by
        show Steps _ _ _ (State.setTop _ (mkF m 241 #[.val (.int p0), .val (.long p1), .second, .val (.long p2), .second, .val (.int (2 : Int32)), .val (.int (3 : Int32)), .val (.ref a), .val (.ref b), .val (.ref b76), .unset] [])) _
        refine S.aload X.here hx (hb hby at_241) rfl rfl ?_
        refine S.iconst X.here hx (4 : Int32) (hb hby at_243) rfl ?_
        refine S.aload X.here hx (hb hby at_244) rfl rfl ?_
        refine S.aload X.here hx (hb hby at_246) rfl rfl ?_
        refine S.iload X.here hx (hb hby at_248) rfl ?_
        refine S.iconst X.here hx (4 : Int32) (hb hby at_250) rfl ?_
        exact k)
    have F103 := F97.other W100 (nne (by omega))
    have F104 := F98.other W100 (nne (by omega))
    obtain ⟨v105, h105, Q105, K105, z105, w105⟩ := w102.callS hx (y := (⟨"com/example/rowanport/rowanport/util/MailAddressesDomainPinLaw", "at", "([C[CII)C"⟩ : MethodName)) (W := 2) (hw _ (List.mem_of_getElem? (i := 65) rfl)) (hw _ (List.mem_of_getElem? (i := 66) rfl)) (hw _ (List.mem_of_getElem? (i := 3) rfl)) (hw _ (List.mem_of_getElem? (i := 67) rfl)) (by decide) ((rmx24 l Z a0 hw a b ka kb d0 d1 d2 d3 e0 e1 e2 e3 h100 n0 (by omega) F103 F104 kd0 kd1 kd2 kd3 ke0 ke1 ke2 ke3).pay w102.hZ (hw _ (List.mem_of_getElem? (i := 67) rfl)) (hw _ (List.mem_of_getElem? (i := 3) rfl)) (by decide) (by decide)) rfl (by rw [hml]; rfl) [(.int (4 : Int32)), (.ref b76)] (lenOf pd_16 rfl) rfl (by show 2 * 0 + _ ≤ _; exact Nat.le_of_eq rfl) (hb hby at_251) (by decide) (by decide) (fun _ q => nomatch q) (fun rv => (mkF m 254 #[.val (.int p0), .val (.long p1), .second, .val (.long p2), .second, .val (.int (2 : Int32)), .val (.int (3 : Int32)), .val (.ref a), .val (.ref b), .val (.ref b76), .unset] (rv.toList ++ [(.int (4 : Int32)), (.ref b76)]))) (fun _ => rfl)
    obtain ⟨rfl, rfl⟩ := Q105
    obtain ⟨h106, W106, z106, V106, w106⟩ := w105.stC hx U100 4 rfl (Nat.le_of_ble_eq_true rfl) ⟨by decide, by decide⟩ rfl rfl (hb hby at_254) (by omega) (mkF m 255 #[.val (.int p0), .val (.long p1), .second, .val (.long p2), .second, .val (.int (2 : Int32)), .val (.int (3 : Int32)), .val (.ref a), .val (.ref b), .val (.ref b76), .unset] []) rfl
    rw [nar_rng ke1.1] at V106
    have U106 : Arv Z h106 b76 k76 .char (6 : Int32) [(.int d0), (.int d1), (.int (64 : Int32)), (.int e0), (.int e1), (.int (0 : Int32))] (.int (0 : Int32)) := V106
    have K107 : Keep h0 h106 [] := K101.wr W106 (Or.inr (by omega))
    have w108 := w106.pure (mkF m 265 #[.val (.int p0), .val (.long p1), .second, .val (.long p2), .second, .val (.int (2 : Int32)), .val (.int (3 : Int32)), .val (.ref a), .val (.ref b), .val (.ref b76), .unset] [(.int (5 : Int32)), (.int (2 : Int32)), (.ref b), (.ref a), (.int (5 : Int32)), (.ref b76)]) (fun X eT hZ hown k => by
        show Steps _ _ _ (State.setTop _ (mkF m 255 #[.val (.int p0), .val (.long p1), .second, .val (.long p2), .second, .val (.int (2 : Int32)), .val (.int (3 : Int32)), .val (.ref a), .val (.ref b), .val (.ref b76), .unset] [])) _
        refine S.aload X.here hx (hb hby at_255) rfl rfl ?_
        refine S.iconst X.here hx (5 : Int32) (hb hby at_257) rfl ?_
        refine S.aload X.here hx (hb hby at_258) rfl rfl ?_
        refine S.aload X.here hx (hb hby at_260) rfl rfl ?_
        refine S.iload X.here hx (hb hby at_262) rfl ?_
        refine S.iconst X.here hx (5 : Int32) (hb hby at_264) rfl ?_
        exact k)
    have F109 := F103.other W106 (nne (by omega))
    have F110 := F104.other W106 (nne (by omega))
    obtain ⟨v111, h111, Q111, K111, z111, w111⟩ := w108.callS hx (y := (⟨"com/example/rowanport/rowanport/util/MailAddressesDomainPinLaw", "at", "([C[CII)C"⟩ : MethodName)) (W := 2) (hw _ (List.mem_of_getElem? (i := 65) rfl)) (hw _ (List.mem_of_getElem? (i := 66) rfl)) (hw _ (List.mem_of_getElem? (i := 3) rfl)) (hw _ (List.mem_of_getElem? (i := 67) rfl)) (by decide) ((rmx25 l Z a0 hw a b ka kb d0 d1 d2 d3 e0 e1 e2 e3 h106 n0 (by omega) F109 F110 kd0 kd1 kd2 kd3 ke0 ke1 ke2 ke3).pay w108.hZ (hw _ (List.mem_of_getElem? (i := 67) rfl)) (hw _ (List.mem_of_getElem? (i := 3) rfl)) (by decide) (by decide)) rfl (by rw [hml]; rfl) [(.int (5 : Int32)), (.ref b76)] (lenOf pd_16 rfl) rfl (by show 2 * 0 + _ ≤ _; exact Nat.le_of_eq rfl) (hb hby at_265) (by decide) (by decide) (fun _ q => nomatch q) (fun rv => (mkF m 268 #[.val (.int p0), .val (.long p1), .second, .val (.long p2), .second, .val (.int (2 : Int32)), .val (.int (3 : Int32)), .val (.ref a), .val (.ref b), .val (.ref b76), .unset] (rv.toList ++ [(.int (5 : Int32)), (.ref b76)]))) (fun _ => rfl)
    obtain ⟨rfl, rfl⟩ := Q111
    obtain ⟨h112, W112, z112, V112, w112⟩ := w111.stC hx U106 5 rfl (Nat.le_of_ble_eq_true rfl) ⟨by decide, by decide⟩ rfl rfl (hb hby at_268) (by omega) (mkF m 269 #[.val (.int p0), .val (.long p1), .second, .val (.long p2), .second, .val (.int (2 : Int32)), .val (.int (3 : Int32)), .val (.ref a), .val (.ref b), .val (.ref b76), .unset] []) rfl
    rw [nar_rng ke2.1] at V112
    have U112 : Arv Z h112 b76 k76 .char (6 : Int32) [(.int d0), (.int d1), (.int (64 : Int32)), (.int e0), (.int e1), (.int e2)] (.int (0 : Int32)) := V112
    have K113 : Keep h0 h112 [] := K107.wr W112 (Or.inr (by omega))
    obtain ⟨b114, h114, g114, E114, l114, A114, D114, y114, w114⟩ := w112.newO hx (hw _ (List.mem_of_getElem? (i := 68) rfl)) (hw _ (List.mem_of_getElem? (i := 14) rfl)) (hw _ (List.mem_of_getElem? (i := 13) rfl)) rfl (hb hby at_269) (by decide) (by decide) (fun xq => (mkF m 272 #[.val (.int p0), .val (.long p1), .second, .val (.long p2), .second, .val (.int (2 : Int32)), .val (.int (3 : Int32)), .val (.ref a), .val (.ref b), .val (.ref b76), .unset] (.ref xq :: []))) (fun _ => rfl)
    have z114 := E114.1
    have K115 : Keep h0 h114 [] := K113.ext E114
    have D114_16 : Fld Z h114 b114 "java/lang/String" "value" "[B" .null := D114 (Or.inr (hw _ (List.mem_of_getElem? (i := 16) rfl))) (ty := (.array .byte)) (by decide)
    have D114_17 : Fld Z h114 b114 "java/lang/String" "coder" "B" (.int (0 : Int32)) := D114 (Or.inr (hw _ (List.mem_of_getElem? (i := 17) rfl))) (ty := .byte) (by decide)
    have w116 := w114.pure (mkF m 275 #[.val (.int p0), .val (.long p1), .second, .val (.long p2), .second, .val (.int (2 : Int32)), .val (.int (3 : Int32)), .val (.ref a), .val (.ref b), .val (.ref b76), .unset] [(.ref b76), (.ref b114), (.ref b114)]) (fun X eT hZ hown k => by
        show Steps _ _ _ (State.setTop _ (mkF m 272 #[.val (.int p0), .val (.long p1), .second, .val (.long p2), .second, .val (.int (2 : Int32)), .val (.int (3 : Int32)), .val (.ref a), .val (.ref b), .val (.ref b76), .unset] [(.ref b114)])) _
        refine S.dup X.here hx (hb hby at_272) rfl ?_
        refine S.aload X.here hx (hb hby at_273) rfl rfl ?_
        exact k)
    have F117 := U112.ext E114
    have F118 := X1.ext E76
    have F119 := F118.wr W82 (by omega)
    have F120 := F119.wr W88 (by omega)
    have F121 := F120.wr W94 (by omega)
    have F122 := F121.wr W100 (by omega)
    have F123 := F122.wr W106 (by omega)
    have F124 := F123.wr W112 (by omega)
    have F125 := F124.ext E114
    have r126 : ∀ c ∈ ([d0, d1, (64 : Int32), e0, e1, e2] : List Int32), ¬ c < 0 ∧ ¬ (255 : Int32) < c := (List.forall_mem_cons.mpr ⟨kd0.1, (List.forall_mem_cons.mpr ⟨kd1.1, (List.forall_mem_cons.mpr ⟨(by decide), (List.forall_mem_cons.mpr ⟨ke0.1, (List.forall_mem_cons.mpr ⟨ke1.1, (List.forall_mem_cons.mpr ⟨ke2.1, (fun _ q => nomatch q)⟩)⟩)⟩)⟩)⟩)⟩)
    obtain ⟨v127, h127, Q127, K127, z127, w127⟩ := w116.callI hx (y := (⟨"java/lang/String", "<init>", "([C)V"⟩ : MethodName)) (W := 1) rfl (hw _ (List.mem_of_getElem? (i := 69) rfl)) (hw _ (List.mem_of_getElem? (i := 70) rfl)) (hw _ (List.mem_of_getElem? (i := 71) rfl)) (by decide) (payNew hG w116.hZ hq_backV (hw _ (List.mem_of_getElem? (i := 14) rfl)) [d0, d1, (64 : Int32), e0, e1, e2] 6 (by omega) A114 D114_16 D114_17 F117 F125 rfl rfl (by decide) (by decide) r126 (by decide) (by decide)) rfl (by rw [hml]; rfl) [(.ref b114)] (lenOf pd_17 rfl) rfl (by show 2 * 0 + _ ≤ _; exact Nat.le_of_eq rfl) (hb hby at_275) (by decide) (by decide) (sfS y114 sf0) (fun rv => (mkF m 278 #[.val (.int p0), .val (.long p1), .second, .val (.long p2), .second, .val (.int (2 : Int32)), .val (.int (3 : Int32)), .val (.ref a), .val (.ref b), .val (.ref b76), .unset] (rv.toList ++ [(.ref b114)]))) (fun _ => rfl)
    obtain ⟨rfl, G127⟩ := Q127
    have K128 : Keep h0 h127 [] := K115.trans K127 (allS (Or.inr (by omega)) (fun _ q => nomatch q))
    have lt_b114 := G127.lt
    have F129 := F125.keep K127 (allS (by omega) all0)
    obtain ⟨v130, h130, Q130, K130, z130, w130⟩ := w127.callS hx (y := (⟨"com/example/rowanport/rowanport/util/MailAddresses", "domain", "(Ljava/lang/String;)Ljava/lang/String;"⟩ : MethodName)) (W := 0) (hw _ (List.mem_of_getElem? (i := 89) rfl)) (hw _ (List.mem_of_getElem? (i := 90) rfl)) (hw _ (List.mem_of_getElem? (i := 91) rfl)) (hw _ (List.mem_of_getElem? (i := 92) rfl)) (by decide) ((rmdm l Z a0 hw b114 [d0, d1, (64 : Int32), e0, e1, e2] _ 2 3 h127 n0 (by omega) hG F129 G127 (own_dom2 _ _ ke0.2 ke1.2 ke2.2) rfl (by decide) (by decide)).pay w127.hZ (hw _ (List.mem_of_getElem? (i := 92) rfl)) (hw _ (List.mem_of_getElem? (i := 91) rfl)) (by decide) (by decide)) rfl (by rw [hml]; rfl) [] (lenOf pd_18 rfl) rfl (by show 2 * 0 + _ ≤ _; exact Nat.le_of_eq rfl) (hb hby at_278) (by decide) (by decide) (fun _ q => nomatch q) (fun rv => (mkF m 281 #[.val (.int p0), .val (.long p1), .second, .val (.long p2), .second, .val (.int (2 : Int32)), .val (.int (3 : Int32)), .val (.ref a), .val (.ref b), .val (.ref b76), .unset] (rv.toList ++ []))) (fun _ => rfl)
    obtain ⟨y130, rfl, gy130, T130⟩ := Q130
    have K131 : Keep h0 h130 [] := K128.trans K130 (fun _ q => nomatch q)
    have S130 : Str Z h130 y130 [e0, e1, e2] h130.size := T130
    have lt_y130 := S130.lt
    have w132 := w130.pure (mkF m 285 #[.val (.int p0), .val (.long p1), .second, .val (.long p2), .second, .val (.int (2 : Int32)), .val (.int (3 : Int32)), .val (.ref a), .val (.ref b), .val (.ref b76), .val (.ref y130)] [(.ref y130)]) (fun X eT hZ hown k => by
        show Steps _ _ _ (State.setTop _ (mkF m 281 #[.val (.int p0), .val (.long p1), .second, .val (.long p2), .second, .val (.int (2 : Int32)), .val (.int (3 : Int32)), .val (.ref a), .val (.ref b), .val (.ref b76), .unset] [(.ref y130)])) _
        refine S.astore X.here hx (hb hby at_281) rfl #[.val (.int p0), .val (.long p1), .second, .val (.long p2), .second, .val (.int (2 : Int32)), .val (.int (3 : Int32)), .val (.ref a), .val (.ref b), .val (.ref b76), .val (.ref y130)] rfl ?_
        refine S.aload X.here hx (hb hby at_283) rfl rfl ?_
        exact k)
    have F133 := F129.keep K130 all0
    obtain ⟨v134, h134, Q134, K134, z134, w134⟩ := w132.callV hx (C := "java/lang/String") (y := (⟨"java/lang/String", "length", "()I"⟩ : MethodName)) (z := (⟨"java/lang/String", "length", "()I"⟩ : MethodName)) (W := 0) (hw _ (List.mem_of_getElem? (i := 20) rfl)) (hw _ (List.mem_of_getElem? (i := 21) rfl)) (hw _ (List.mem_of_getElem? (i := 23) rfl)) (hw _ (List.mem_of_getElem? (i := 22) rfl)) (w132.nf (hw _ (List.mem_of_getElem? (i := 23) rfl))) (by decide) (payLen hG w132.hZ hq_lenW (hw _ (List.mem_of_getElem? (i := 14) rfl)) S130 F133 (by decide) (by decide)) S130.exa rfl (by rw [hml]; rfl) [] (lenOf pd_4 rfl) rfl (by show 2 * 0 + _ ≤ _; exact Nat.le_of_eq rfl) (hb hby at_285) (by decide) (by decide) (fun _ q => nomatch q) (fun rv => (mkF m 288 #[.val (.int p0), .val (.long p1), .second, .val (.long p2), .second, .val (.int (2 : Int32)), .val (.int (3 : Int32)), .val (.ref a), .val (.ref b), .val (.ref b76), .val (.ref y130)] (rv.toList ++ []))) (fun _ => rfl)
    obtain ⟨rfl, rfl⟩ := Q134
    have w135 := w134.pure (mkF m 296 #[.val (.int p0), .val (.long p1), .second, .val (.long p2), .second, .val (.int (2 : Int32)), .val (.int (3 : Int32)), .val (.ref a), .val (.ref b), .val (.ref b76), .val (.ref y130)] [(.int (0 : Int32)), (.ref y130)]) (fun X eT hZ hown k => by
        show Steps _ _ _ (State.setTop _ (mkF m 288 #[.val (.int p0), .val (.long p1), .second, .val (.long p2), .second, .val (.int (2 : Int32)), .val (.int (3 : Int32)), .val (.ref a), .val (.ref b), .val (.ref b76), .val (.ref y130)] [(.int (3 : Int32))])) _
        refine S.iload X.here hx (hb hby at_288) rfl ?_
        refine S.icmpNo X.here hx (hb hby at_290) (by decide) ?_
        refine S.aload X.here hx (hb hby at_293) rfl rfl ?_
        refine S.iconst X.here hx (0 : Int32) (hb hby at_295) rfl ?_
        exact k)
    obtain ⟨v136, h136, Q136, K136, z136, w136⟩ := w135.callV hx (C := "java/lang/String") (y := (⟨"java/lang/String", "charAt", "(I)C"⟩ : MethodName)) (z := (⟨"java/lang/String", "charAt", "(I)C"⟩ : MethodName)) (W := 0) (hw _ (List.mem_of_getElem? (i := 33) rfl)) (hw _ (List.mem_of_getElem? (i := 34) rfl)) (hw _ (List.mem_of_getElem? (i := 36) rfl)) (hw _ (List.mem_of_getElem? (i := 35) rfl)) (w135.nf (hw _ (List.mem_of_getElem? (i := 36) rfl))) (by decide) (payCh hG w135.hZ hq_chN (hw _ (List.mem_of_getElem? (i := 14) rfl)) S130 F133 0 (Nat.le_of_ble_eq_true rfl) rfl (by decide) (by decide)) S130.exa rfl (by rw [hml]; rfl) [] (lenOf pd_11 rfl) rfl (by show 2 * 0 + _ ≤ _; exact Nat.le_of_eq rfl) (hb hby at_296) (by decide) (by decide) (fun _ q => nomatch q) (fun rv => (mkF m 299 #[.val (.int p0), .val (.long p1), .second, .val (.long p2), .second, .val (.int (2 : Int32)), .val (.int (3 : Int32)), .val (.ref a), .val (.ref b), .val (.ref b76), .val (.ref y130)] (rv.toList ++ []))) (fun _ => rfl)
    obtain ⟨rfl, rfl⟩ := Q136
    have F137 := F110.other W112 (nne (by omega))
    have F138 := F137.ext E114
    have F139 := F138.keep K127 (ninS (nne (by omega)) nin0)
    have F140 := F139.keep K130 nin0
    have w141 := w136.pure (mkF m 315 #[.val (.int p0), .val (.long p1), .second, .val (.long p2), .second, .val (.int (2 : Int32)), .val (.int (3 : Int32)), .val (.ref a), .val (.ref b), .val (.ref b76), .val (.ref y130)] [(.int (1 : Int32)), (.ref y130)]) (fun X eT hZ hown k => by
        show Steps _ _ _ (State.setTop _ (mkF m 299 #[.val (.int p0), .val (.long p1), .second, .val (.long p2), .second, .val (.int (2 : Int32)), .val (.int (3 : Int32)), .val (.ref a), .val (.ref b), .val (.ref b76), .val (.ref y130)] [(.int e0)])) _
        refine S.aload X.here hx (hb hby at_299) rfl rfl ?_
        refine S.iconst X.here hx (0 : Int32) (hb hby at_301) rfl ?_
        refine caV X hx eT hZ F140 (v := (.int e0)) ⟨by decide, by decide⟩ rfl rfl rfl (hb hby at_302) ?_
        show Steps _ _ _ (State.setTop _ (mkF m 303 #[.val (.int p0), .val (.long p1), .second, .val (.long p2), .second, .val (.int (2 : Int32)), .val (.int (3 : Int32)), .val (.ref a), .val (.ref b), .val (.ref b76), .val (.ref y130)] [(.int e0), (.int e0)])) _
        refine S.icmpNo X.here hx (hb hby at_303) (teq (rfl : e0 = e0)).2 ?_
        refine S.iload X.here hx (hb hby at_306) rfl ?_
        refine S.iconst X.here hx (2 : Int32) (hb hby at_308) rfl ?_
        refine S.icmpNo X.here hx (hb hby at_309) (by decide) ?_
        refine S.aload X.here hx (hb hby at_312) rfl rfl ?_
        refine S.iconst X.here hx (1 : Int32) (hb hby at_314) rfl ?_
        exact k)
    obtain ⟨v142, h142, Q142, K142, z142, w142⟩ := w141.callV hx (C := "java/lang/String") (y := (⟨"java/lang/String", "charAt", "(I)C"⟩ : MethodName)) (z := (⟨"java/lang/String", "charAt", "(I)C"⟩ : MethodName)) (W := 0) (hw _ (List.mem_of_getElem? (i := 33) rfl)) (hw _ (List.mem_of_getElem? (i := 34) rfl)) (hw _ (List.mem_of_getElem? (i := 36) rfl)) (hw _ (List.mem_of_getElem? (i := 35) rfl)) (w141.nf (hw _ (List.mem_of_getElem? (i := 36) rfl))) (by decide) (payCh hG w141.hZ hq_chN (hw _ (List.mem_of_getElem? (i := 14) rfl)) S130 F133 1 (Nat.le_of_ble_eq_true rfl) rfl (by decide) (by decide)) S130.exa rfl (by rw [hml]; rfl) [] (lenOf pd_11 rfl) rfl (by show 2 * 0 + _ ≤ _; exact Nat.le_of_eq rfl) (hb hby at_315) (by decide) (by decide) (fun _ q => nomatch q) (fun rv => (mkF m 318 #[.val (.int p0), .val (.long p1), .second, .val (.long p2), .second, .val (.int (2 : Int32)), .val (.int (3 : Int32)), .val (.ref a), .val (.ref b), .val (.ref b76), .val (.ref y130)] (rv.toList ++ []))) (fun _ => rfl)
    obtain ⟨rfl, rfl⟩ := Q142
    have w143 := w142.pure (mkF m 334 #[.val (.int p0), .val (.long p1), .second, .val (.long p2), .second, .val (.int (2 : Int32)), .val (.int (3 : Int32)), .val (.ref a), .val (.ref b), .val (.ref b76), .val (.ref y130)] [(.int (2 : Int32)), (.ref y130)]) (fun X eT hZ hown k => by
        show Steps _ _ _ (State.setTop _ (mkF m 318 #[.val (.int p0), .val (.long p1), .second, .val (.long p2), .second, .val (.int (2 : Int32)), .val (.int (3 : Int32)), .val (.ref a), .val (.ref b), .val (.ref b76), .val (.ref y130)] [(.int e1)])) _
        refine S.aload X.here hx (hb hby at_318) rfl rfl ?_
        refine S.iconst X.here hx (1 : Int32) (hb hby at_320) rfl ?_
        refine caV X hx eT hZ F140 (v := (.int e1)) ⟨by decide, by decide⟩ rfl rfl rfl (hb hby at_321) ?_
        show Steps _ _ _ (State.setTop _ (mkF m 322 #[.val (.int p0), .val (.long p1), .second, .val (.long p2), .second, .val (.int (2 : Int32)), .val (.int (3 : Int32)), .val (.ref a), .val (.ref b), .val (.ref b76), .val (.ref y130)] [(.int e1), (.int e1)])) _
        refine S.icmpNo X.here hx (hb hby at_322) (teq (rfl : e1 = e1)).2 ?_
        refine S.iload X.here hx (hb hby at_325) rfl ?_
        refine S.iconst X.here hx (3 : Int32) (hb hby at_327) rfl ?_
        refine S.icmpNo X.here hx (hb hby at_328) (by decide) ?_
        refine S.aload X.here hx (hb hby at_331) rfl rfl ?_
        refine S.iconst X.here hx (2 : Int32) (hb hby at_333) rfl ?_
        exact k)
    obtain ⟨v144, h144, Q144, K144, z144, w144⟩ := w143.callV hx (C := "java/lang/String") (y := (⟨"java/lang/String", "charAt", "(I)C"⟩ : MethodName)) (z := (⟨"java/lang/String", "charAt", "(I)C"⟩ : MethodName)) (W := 0) (hw _ (List.mem_of_getElem? (i := 33) rfl)) (hw _ (List.mem_of_getElem? (i := 34) rfl)) (hw _ (List.mem_of_getElem? (i := 36) rfl)) (hw _ (List.mem_of_getElem? (i := 35) rfl)) (w143.nf (hw _ (List.mem_of_getElem? (i := 36) rfl))) (by decide) (payCh hG w143.hZ hq_chN (hw _ (List.mem_of_getElem? (i := 14) rfl)) S130 F133 2 (Nat.le_of_ble_eq_true rfl) rfl (by decide) (by decide)) S130.exa rfl (by rw [hml]; rfl) [] (lenOf pd_11 rfl) rfl (by show 2 * 0 + _ ≤ _; exact Nat.le_of_eq rfl) (hb hby at_334) (by decide) (by decide) (fun _ q => nomatch q) (fun rv => (mkF m 337 #[.val (.int p0), .val (.long p1), .second, .val (.long p2), .second, .val (.int (2 : Int32)), .val (.int (3 : Int32)), .val (.ref a), .val (.ref b), .val (.ref b76), .val (.ref y130)] (rv.toList ++ []))) (fun _ => rfl)
    obtain ⟨rfl, rfl⟩ := Q144
    have w145 := w144.pure (mkF m 368 #[.val (.int p0), .val (.long p1), .second, .val (.long p2), .second, .val (.int (2 : Int32)), .val (.int (3 : Int32)), .val (.ref a), .val (.ref b), .val (.ref b76), .val (.ref y130)] [(.int (1 : Int32))]) (fun X eT hZ hown k => by
        show Steps _ _ _ (State.setTop _ (mkF m 337 #[.val (.int p0), .val (.long p1), .second, .val (.long p2), .second, .val (.int (2 : Int32)), .val (.int (3 : Int32)), .val (.ref a), .val (.ref b), .val (.ref b76), .val (.ref y130)] [(.int e2)])) _
        refine S.aload X.here hx (hb hby at_337) rfl rfl ?_
        refine S.iconst X.here hx (2 : Int32) (hb hby at_339) rfl ?_
        refine caV X hx eT hZ F140 (v := (.int e2)) ⟨by decide, by decide⟩ rfl rfl rfl (hb hby at_340) ?_
        show Steps _ _ _ (State.setTop _ (mkF m 341 #[.val (.int p0), .val (.long p1), .second, .val (.long p2), .second, .val (.int (2 : Int32)), .val (.int (3 : Int32)), .val (.ref a), .val (.ref b), .val (.ref b76), .val (.ref y130)] [(.int e2), (.int e2)])) _
        refine S.icmpNo X.here hx (hb hby at_341) (teq (rfl : e2 = e2)).2 ?_
        refine S.iload X.here hx (hb hby at_344) rfl ?_
        refine S.iconst X.here hx (4 : Int32) (hb hby at_346) rfl ?_
        refine S.icmpYes X.here hx 363 (hb hby at_347) (by decide) (by decide) (by decide) ?_
        refine S.iconst X.here hx (1 : Int32) (hb hby at_363) rfl ?_
        refine S.goto X.here hx 368 (hb hby at_364) (by decide) (by decide) ?_
        exact k)
    exact w145.endW (v := some (.int (1 : Int32))) (Q := (fun v h => v = some (.int 1))) (wr := []) (h0 := h0) (fun h => by rw [Bd.returns] at h; cases h) Bd.notSynchronized (fun X hr => retN X hx (t := .boolean) Bd.returns (by simp) (hb hby at_368) hr) (by decide) (by decide) rfl K131
  · have w1_2 := w0
    rw [hs1] at w1_2
    have w146 := w1_2.pure (mkF m 181 #[.val (.int p0), .val (.long p1), .second, .val (.long p2), .second, .val (.int (3 : Int32)), .val (.int (2 : Int32)), .val (.ref a), .val (.ref b), .unset, .unset] [(.int (6 : Int32))]) (fun X eT hZ hown k => by
        show Steps _ _ _ (State.setTop _ (mkF m 179 #[.val (.int p0), .val (.long p1), .second, .val (.long p2), .second, .val (.int (3 : Int32)), .val (.int (2 : Int32)), .val (.ref a), .val (.ref b), .unset, .unset] [])) _
        refine S.bipush X.here hx (6 : Int32) (hb hby at_179) rfl ?_
        exact k)
    obtain ⟨b147, h147, k147, g147, E147, l147, A147, y147, w147⟩ := w146.newP hx (hw _ (List.mem_of_getElem? (i := 0) rfl)) rfl (hb hby at_181) rfl (by decide) 6 (by decide) (by decide) (by decide) (by decide) (fun xq => (mkF m 183 #[.val (.int p0), .val (.long p1), .second, .val (.long p2), .second, .val (.int (3 : Int32)), .val (.int (2 : Int32)), .val (.ref a), .val (.ref b), .unset, .unset] (.ref xq :: []))) (fun _ => rfl)
    have z147 := E147.1
    have K148 : Keep h0 h147 [] := K0.ext E147
    have V147 : Arv Z h147 b147 k147 .char (6 : Int32) [(.int (0 : Int32)), (.int (0 : Int32)), (.int (0 : Int32)), (.int (0 : Int32)), (.int (0 : Int32)), (.int (0 : Int32))] (.int (0 : Int32)) := A147.pad (pad_rep [] (.int (0 : Int32)) 6)
    have w149 := w147.pure (mkF m 195 #[.val (.int p0), .val (.long p1), .second, .val (.long p2), .second, .val (.int (3 : Int32)), .val (.int (2 : Int32)), .val (.ref a), .val (.ref b), .val (.ref b147), .unset] [(.int (0 : Int32)), (.int (3 : Int32)), (.ref b), (.ref a), (.int (0 : Int32)), (.ref b147)]) (fun X eT hZ hown k => by
        show Steps _ _ _ (State.setTop _ (mkF m 183 #[.val (.int p0), .val (.long p1), .second, .val (.long p2), .second, .val (.int (3 : Int32)), .val (.int (2 : Int32)), .val (.ref a), .val (.ref b), .unset, .unset] [(.ref b147)])) _
        refine S.astore X.here hx (hb hby at_183) rfl #[.val (.int p0), .val (.long p1), .second, .val (.long p2), .second, .val (.int (3 : Int32)), .val (.int (2 : Int32)), .val (.ref a), .val (.ref b), .val (.ref b147), .unset] rfl ?_
        refine S.aload X.here hx (hb hby at_185) rfl rfl ?_
        refine S.iconst X.here hx (0 : Int32) (hb hby at_187) rfl ?_
        refine S.aload X.here hx (hb hby at_188) rfl rfl ?_
        refine S.aload X.here hx (hb hby at_190) rfl rfl ?_
        refine S.iload X.here hx (hb hby at_192) rfl ?_
        refine S.iconst X.here hx (0 : Int32) (hb hby at_194) rfl ?_
        exact k)
    have F150 := VA.ext E147
    have F151 := VB.ext E147
    obtain ⟨v152, h152, Q152, K152, z152, w152⟩ := w149.callS hx (y := (⟨"com/example/rowanport/rowanport/util/MailAddressesDomainPinLaw", "at", "([C[CII)C"⟩ : MethodName)) (W := 2) (hw _ (List.mem_of_getElem? (i := 65) rfl)) (hw _ (List.mem_of_getElem? (i := 66) rfl)) (hw _ (List.mem_of_getElem? (i := 3) rfl)) (hw _ (List.mem_of_getElem? (i := 67) rfl)) (by decide) ((rmx30 l Z a0 hw a b ka kb d0 d1 d2 d3 e0 e1 e2 e3 h147 n0 (by omega) F150 F151 kd0 kd1 kd2 kd3 ke0 ke1 ke2 ke3).pay w149.hZ (hw _ (List.mem_of_getElem? (i := 67) rfl)) (hw _ (List.mem_of_getElem? (i := 3) rfl)) (by decide) (by decide)) rfl (by rw [hml]; rfl) [(.int (0 : Int32)), (.ref b147)] (lenOf pd_16 rfl) rfl (by show 2 * 0 + _ ≤ _; exact Nat.le_of_eq rfl) (hb hby at_195) (by decide) (by decide) (fun _ q => nomatch q) (fun rv => (mkF m 198 #[.val (.int p0), .val (.long p1), .second, .val (.long p2), .second, .val (.int (3 : Int32)), .val (.int (2 : Int32)), .val (.ref a), .val (.ref b), .val (.ref b147), .unset] (rv.toList ++ [(.int (0 : Int32)), (.ref b147)]))) (fun _ => rfl)
    obtain ⟨rfl, rfl⟩ := Q152
    obtain ⟨h153, W153, z153, V153, w153⟩ := w152.stC hx V147 0 rfl (Nat.le_of_ble_eq_true rfl) ⟨by decide, by decide⟩ rfl rfl (hb hby at_198) (by omega) (mkF m 199 #[.val (.int p0), .val (.long p1), .second, .val (.long p2), .second, .val (.int (3 : Int32)), .val (.int (2 : Int32)), .val (.ref a), .val (.ref b), .val (.ref b147), .unset] []) rfl
    rw [nar_rng kd0.1] at V153
    have U153 : Arv Z h153 b147 k147 .char (6 : Int32) [(.int d0), (.int (0 : Int32)), (.int (0 : Int32)), (.int (0 : Int32)), (.int (0 : Int32)), (.int (0 : Int32))] (.int (0 : Int32)) := V153
    have K154 : Keep h0 h153 [] := K148.wr W153 (Or.inr (by omega))
    have w155 := w153.pure (mkF m 209 #[.val (.int p0), .val (.long p1), .second, .val (.long p2), .second, .val (.int (3 : Int32)), .val (.int (2 : Int32)), .val (.ref a), .val (.ref b), .val (.ref b147), .unset] [(.int (1 : Int32)), (.int (3 : Int32)), (.ref b), (.ref a), (.int (1 : Int32)), (.ref b147)]) (fun X eT hZ hown k => by
        show Steps _ _ _ (State.setTop _ (mkF m 199 #[.val (.int p0), .val (.long p1), .second, .val (.long p2), .second, .val (.int (3 : Int32)), .val (.int (2 : Int32)), .val (.ref a), .val (.ref b), .val (.ref b147), .unset] [])) _
        refine S.aload X.here hx (hb hby at_199) rfl rfl ?_
        refine S.iconst X.here hx (1 : Int32) (hb hby at_201) rfl ?_
        refine S.aload X.here hx (hb hby at_202) rfl rfl ?_
        refine S.aload X.here hx (hb hby at_204) rfl rfl ?_
        refine S.iload X.here hx (hb hby at_206) rfl ?_
        refine S.iconst X.here hx (1 : Int32) (hb hby at_208) rfl ?_
        exact k)
    have F156 := F150.other W153 (nne (by omega))
    have F157 := F151.other W153 (nne (by omega))
    obtain ⟨v158, h158, Q158, K158, z158, w158⟩ := w155.callS hx (y := (⟨"com/example/rowanport/rowanport/util/MailAddressesDomainPinLaw", "at", "([C[CII)C"⟩ : MethodName)) (W := 2) (hw _ (List.mem_of_getElem? (i := 65) rfl)) (hw _ (List.mem_of_getElem? (i := 66) rfl)) (hw _ (List.mem_of_getElem? (i := 3) rfl)) (hw _ (List.mem_of_getElem? (i := 67) rfl)) (by decide) ((rmx31 l Z a0 hw a b ka kb d0 d1 d2 d3 e0 e1 e2 e3 h153 n0 (by omega) F156 F157 kd0 kd1 kd2 kd3 ke0 ke1 ke2 ke3).pay w155.hZ (hw _ (List.mem_of_getElem? (i := 67) rfl)) (hw _ (List.mem_of_getElem? (i := 3) rfl)) (by decide) (by decide)) rfl (by rw [hml]; rfl) [(.int (1 : Int32)), (.ref b147)] (lenOf pd_16 rfl) rfl (by show 2 * 0 + _ ≤ _; exact Nat.le_of_eq rfl) (hb hby at_209) (by decide) (by decide) (fun _ q => nomatch q) (fun rv => (mkF m 212 #[.val (.int p0), .val (.long p1), .second, .val (.long p2), .second, .val (.int (3 : Int32)), .val (.int (2 : Int32)), .val (.ref a), .val (.ref b), .val (.ref b147), .unset] (rv.toList ++ [(.int (1 : Int32)), (.ref b147)]))) (fun _ => rfl)
    obtain ⟨rfl, rfl⟩ := Q158
    obtain ⟨h159, W159, z159, V159, w159⟩ := w158.stC hx U153 1 rfl (Nat.le_of_ble_eq_true rfl) ⟨by decide, by decide⟩ rfl rfl (hb hby at_212) (by omega) (mkF m 213 #[.val (.int p0), .val (.long p1), .second, .val (.long p2), .second, .val (.int (3 : Int32)), .val (.int (2 : Int32)), .val (.ref a), .val (.ref b), .val (.ref b147), .unset] []) rfl
    rw [nar_rng kd1.1] at V159
    have U159 : Arv Z h159 b147 k147 .char (6 : Int32) [(.int d0), (.int d1), (.int (0 : Int32)), (.int (0 : Int32)), (.int (0 : Int32)), (.int (0 : Int32))] (.int (0 : Int32)) := V159
    have K160 : Keep h0 h159 [] := K154.wr W159 (Or.inr (by omega))
    have w161 := w159.pure (mkF m 223 #[.val (.int p0), .val (.long p1), .second, .val (.long p2), .second, .val (.int (3 : Int32)), .val (.int (2 : Int32)), .val (.ref a), .val (.ref b), .val (.ref b147), .unset] [(.int (2 : Int32)), (.int (3 : Int32)), (.ref b), (.ref a), (.int (2 : Int32)), (.ref b147)]) (fun X eT hZ hown k => by
        show Steps _ _ _ (State.setTop _ (mkF m 213 #[.val (.int p0), .val (.long p1), .second, .val (.long p2), .second, .val (.int (3 : Int32)), .val (.int (2 : Int32)), .val (.ref a), .val (.ref b), .val (.ref b147), .unset] [])) _
        refine S.aload X.here hx (hb hby at_213) rfl rfl ?_
        refine S.iconst X.here hx (2 : Int32) (hb hby at_215) rfl ?_
        refine S.aload X.here hx (hb hby at_216) rfl rfl ?_
        refine S.aload X.here hx (hb hby at_218) rfl rfl ?_
        refine S.iload X.here hx (hb hby at_220) rfl ?_
        refine S.iconst X.here hx (2 : Int32) (hb hby at_222) rfl ?_
        exact k)
    have F162 := F156.other W159 (nne (by omega))
    have F163 := F157.other W159 (nne (by omega))
    obtain ⟨v164, h164, Q164, K164, z164, w164⟩ := w161.callS hx (y := (⟨"com/example/rowanport/rowanport/util/MailAddressesDomainPinLaw", "at", "([C[CII)C"⟩ : MethodName)) (W := 2) (hw _ (List.mem_of_getElem? (i := 65) rfl)) (hw _ (List.mem_of_getElem? (i := 66) rfl)) (hw _ (List.mem_of_getElem? (i := 3) rfl)) (hw _ (List.mem_of_getElem? (i := 67) rfl)) (by decide) ((rmx32 l Z a0 hw a b ka kb d0 d1 d2 d3 e0 e1 e2 e3 h159 n0 (by omega) F162 F163 kd0 kd1 kd2 kd3 ke0 ke1 ke2 ke3).pay w161.hZ (hw _ (List.mem_of_getElem? (i := 67) rfl)) (hw _ (List.mem_of_getElem? (i := 3) rfl)) (by decide) (by decide)) rfl (by rw [hml]; rfl) [(.int (2 : Int32)), (.ref b147)] (lenOf pd_16 rfl) rfl (by show 2 * 0 + _ ≤ _; exact Nat.le_of_eq rfl) (hb hby at_223) (by decide) (by decide) (fun _ q => nomatch q) (fun rv => (mkF m 226 #[.val (.int p0), .val (.long p1), .second, .val (.long p2), .second, .val (.int (3 : Int32)), .val (.int (2 : Int32)), .val (.ref a), .val (.ref b), .val (.ref b147), .unset] (rv.toList ++ [(.int (2 : Int32)), (.ref b147)]))) (fun _ => rfl)
    obtain ⟨rfl, rfl⟩ := Q164
    obtain ⟨h165, W165, z165, V165, w165⟩ := w164.stC hx U159 2 rfl (Nat.le_of_ble_eq_true rfl) ⟨by decide, by decide⟩ rfl rfl (hb hby at_226) (by omega) (mkF m 227 #[.val (.int p0), .val (.long p1), .second, .val (.long p2), .second, .val (.int (3 : Int32)), .val (.int (2 : Int32)), .val (.ref a), .val (.ref b), .val (.ref b147), .unset] []) rfl
    rw [nar_rng kd2.1] at V165
    have U165 : Arv Z h165 b147 k147 .char (6 : Int32) [(.int d0), (.int d1), (.int d2), (.int (0 : Int32)), (.int (0 : Int32)), (.int (0 : Int32))] (.int (0 : Int32)) := V165
    have K166 : Keep h0 h165 [] := K160.wr W165 (Or.inr (by omega))
    have w167 := w165.pure (mkF m 237 #[.val (.int p0), .val (.long p1), .second, .val (.long p2), .second, .val (.int (3 : Int32)), .val (.int (2 : Int32)), .val (.ref a), .val (.ref b), .val (.ref b147), .unset] [(.int (3 : Int32)), (.int (3 : Int32)), (.ref b), (.ref a), (.int (3 : Int32)), (.ref b147)]) (fun X eT hZ hown k => by
        show Steps _ _ _ (State.setTop _ (mkF m 227 #[.val (.int p0), .val (.long p1), .second, .val (.long p2), .second, .val (.int (3 : Int32)), .val (.int (2 : Int32)), .val (.ref a), .val (.ref b), .val (.ref b147), .unset] [])) _
        refine S.aload X.here hx (hb hby at_227) rfl rfl ?_
        refine S.iconst X.here hx (3 : Int32) (hb hby at_229) rfl ?_
        refine S.aload X.here hx (hb hby at_230) rfl rfl ?_
        refine S.aload X.here hx (hb hby at_232) rfl rfl ?_
        refine S.iload X.here hx (hb hby at_234) rfl ?_
        refine S.iconst X.here hx (3 : Int32) (hb hby at_236) rfl ?_
        exact k)
    have F168 := F162.other W165 (nne (by omega))
    have F169 := F163.other W165 (nne (by omega))
    obtain ⟨v170, h170, Q170, K170, z170, w170⟩ := w167.callS hx (y := (⟨"com/example/rowanport/rowanport/util/MailAddressesDomainPinLaw", "at", "([C[CII)C"⟩ : MethodName)) (W := 2) (hw _ (List.mem_of_getElem? (i := 65) rfl)) (hw _ (List.mem_of_getElem? (i := 66) rfl)) (hw _ (List.mem_of_getElem? (i := 3) rfl)) (hw _ (List.mem_of_getElem? (i := 67) rfl)) (by decide) ((rmx33 l Z a0 hw a b ka kb d0 d1 d2 d3 e0 e1 e2 e3 h165 n0 (by omega) F168 F169 kd0 kd1 kd2 kd3 ke0 ke1 ke2 ke3).pay w167.hZ (hw _ (List.mem_of_getElem? (i := 67) rfl)) (hw _ (List.mem_of_getElem? (i := 3) rfl)) (by decide) (by decide)) rfl (by rw [hml]; rfl) [(.int (3 : Int32)), (.ref b147)] (lenOf pd_16 rfl) rfl (by show 2 * 0 + _ ≤ _; exact Nat.le_of_eq rfl) (hb hby at_237) (by decide) (by decide) (fun _ q => nomatch q) (fun rv => (mkF m 240 #[.val (.int p0), .val (.long p1), .second, .val (.long p2), .second, .val (.int (3 : Int32)), .val (.int (2 : Int32)), .val (.ref a), .val (.ref b), .val (.ref b147), .unset] (rv.toList ++ [(.int (3 : Int32)), (.ref b147)]))) (fun _ => rfl)
    obtain ⟨rfl, rfl⟩ := Q170
    obtain ⟨h171, W171, z171, V171, w171⟩ := w170.stC hx U165 3 rfl (Nat.le_of_ble_eq_true rfl) ⟨by decide, by decide⟩ rfl rfl (hb hby at_240) (by omega) (mkF m 241 #[.val (.int p0), .val (.long p1), .second, .val (.long p2), .second, .val (.int (3 : Int32)), .val (.int (2 : Int32)), .val (.ref a), .val (.ref b), .val (.ref b147), .unset] []) rfl
    rw [show nar .char (64 : Int32) = (64 : Int32) from rfl] at V171
    have U171 : Arv Z h171 b147 k147 .char (6 : Int32) [(.int d0), (.int d1), (.int d2), (.int (64 : Int32)), (.int (0 : Int32)), (.int (0 : Int32))] (.int (0 : Int32)) := V171
    have K172 : Keep h0 h171 [] := K166.wr W171 (Or.inr (by omega))
    have w173 := w171.pure (mkF m 251 #[.val (.int p0), .val (.long p1), .second, .val (.long p2), .second, .val (.int (3 : Int32)), .val (.int (2 : Int32)), .val (.ref a), .val (.ref b), .val (.ref b147), .unset] [(.int (4 : Int32)), (.int (3 : Int32)), (.ref b), (.ref a), (.int (4 : Int32)), (.ref b147)]) (fun X eT hZ hown k => by
        show Steps _ _ _ (State.setTop _ (mkF m 241 #[.val (.int p0), .val (.long p1), .second, .val (.long p2), .second, .val (.int (3 : Int32)), .val (.int (2 : Int32)), .val (.ref a), .val (.ref b), .val (.ref b147), .unset] [])) _
        refine S.aload X.here hx (hb hby at_241) rfl rfl ?_
        refine S.iconst X.here hx (4 : Int32) (hb hby at_243) rfl ?_
        refine S.aload X.here hx (hb hby at_244) rfl rfl ?_
        refine S.aload X.here hx (hb hby at_246) rfl rfl ?_
        refine S.iload X.here hx (hb hby at_248) rfl ?_
        refine S.iconst X.here hx (4 : Int32) (hb hby at_250) rfl ?_
        exact k)
    have F174 := F168.other W171 (nne (by omega))
    have F175 := F169.other W171 (nne (by omega))
    obtain ⟨v176, h176, Q176, K176, z176, w176⟩ := w173.callS hx (y := (⟨"com/example/rowanport/rowanport/util/MailAddressesDomainPinLaw", "at", "([C[CII)C"⟩ : MethodName)) (W := 2) (hw _ (List.mem_of_getElem? (i := 65) rfl)) (hw _ (List.mem_of_getElem? (i := 66) rfl)) (hw _ (List.mem_of_getElem? (i := 3) rfl)) (hw _ (List.mem_of_getElem? (i := 67) rfl)) (by decide) ((rmx34 l Z a0 hw a b ka kb d0 d1 d2 d3 e0 e1 e2 e3 h171 n0 (by omega) F174 F175 kd0 kd1 kd2 kd3 ke0 ke1 ke2 ke3).pay w173.hZ (hw _ (List.mem_of_getElem? (i := 67) rfl)) (hw _ (List.mem_of_getElem? (i := 3) rfl)) (by decide) (by decide)) rfl (by rw [hml]; rfl) [(.int (4 : Int32)), (.ref b147)] (lenOf pd_16 rfl) rfl (by show 2 * 0 + _ ≤ _; exact Nat.le_of_eq rfl) (hb hby at_251) (by decide) (by decide) (fun _ q => nomatch q) (fun rv => (mkF m 254 #[.val (.int p0), .val (.long p1), .second, .val (.long p2), .second, .val (.int (3 : Int32)), .val (.int (2 : Int32)), .val (.ref a), .val (.ref b), .val (.ref b147), .unset] (rv.toList ++ [(.int (4 : Int32)), (.ref b147)]))) (fun _ => rfl)
    obtain ⟨rfl, rfl⟩ := Q176
    obtain ⟨h177, W177, z177, V177, w177⟩ := w176.stC hx U171 4 rfl (Nat.le_of_ble_eq_true rfl) ⟨by decide, by decide⟩ rfl rfl (hb hby at_254) (by omega) (mkF m 255 #[.val (.int p0), .val (.long p1), .second, .val (.long p2), .second, .val (.int (3 : Int32)), .val (.int (2 : Int32)), .val (.ref a), .val (.ref b), .val (.ref b147), .unset] []) rfl
    rw [nar_rng ke0.1] at V177
    have U177 : Arv Z h177 b147 k147 .char (6 : Int32) [(.int d0), (.int d1), (.int d2), (.int (64 : Int32)), (.int e0), (.int (0 : Int32))] (.int (0 : Int32)) := V177
    have K178 : Keep h0 h177 [] := K172.wr W177 (Or.inr (by omega))
    have w179 := w177.pure (mkF m 265 #[.val (.int p0), .val (.long p1), .second, .val (.long p2), .second, .val (.int (3 : Int32)), .val (.int (2 : Int32)), .val (.ref a), .val (.ref b), .val (.ref b147), .unset] [(.int (5 : Int32)), (.int (3 : Int32)), (.ref b), (.ref a), (.int (5 : Int32)), (.ref b147)]) (fun X eT hZ hown k => by
        show Steps _ _ _ (State.setTop _ (mkF m 255 #[.val (.int p0), .val (.long p1), .second, .val (.long p2), .second, .val (.int (3 : Int32)), .val (.int (2 : Int32)), .val (.ref a), .val (.ref b), .val (.ref b147), .unset] [])) _
        refine S.aload X.here hx (hb hby at_255) rfl rfl ?_
        refine S.iconst X.here hx (5 : Int32) (hb hby at_257) rfl ?_
        refine S.aload X.here hx (hb hby at_258) rfl rfl ?_
        refine S.aload X.here hx (hb hby at_260) rfl rfl ?_
        refine S.iload X.here hx (hb hby at_262) rfl ?_
        refine S.iconst X.here hx (5 : Int32) (hb hby at_264) rfl ?_
        exact k)
    have F180 := F174.other W177 (nne (by omega))
    have F181 := F175.other W177 (nne (by omega))
    obtain ⟨v182, h182, Q182, K182, z182, w182⟩ := w179.callS hx (y := (⟨"com/example/rowanport/rowanport/util/MailAddressesDomainPinLaw", "at", "([C[CII)C"⟩ : MethodName)) (W := 2) (hw _ (List.mem_of_getElem? (i := 65) rfl)) (hw _ (List.mem_of_getElem? (i := 66) rfl)) (hw _ (List.mem_of_getElem? (i := 3) rfl)) (hw _ (List.mem_of_getElem? (i := 67) rfl)) (by decide) ((rmx35 l Z a0 hw a b ka kb d0 d1 d2 d3 e0 e1 e2 e3 h177 n0 (by omega) F180 F181 kd0 kd1 kd2 kd3 ke0 ke1 ke2 ke3).pay w179.hZ (hw _ (List.mem_of_getElem? (i := 67) rfl)) (hw _ (List.mem_of_getElem? (i := 3) rfl)) (by decide) (by decide)) rfl (by rw [hml]; rfl) [(.int (5 : Int32)), (.ref b147)] (lenOf pd_16 rfl) rfl (by show 2 * 0 + _ ≤ _; exact Nat.le_of_eq rfl) (hb hby at_265) (by decide) (by decide) (fun _ q => nomatch q) (fun rv => (mkF m 268 #[.val (.int p0), .val (.long p1), .second, .val (.long p2), .second, .val (.int (3 : Int32)), .val (.int (2 : Int32)), .val (.ref a), .val (.ref b), .val (.ref b147), .unset] (rv.toList ++ [(.int (5 : Int32)), (.ref b147)]))) (fun _ => rfl)
    obtain ⟨rfl, rfl⟩ := Q182
    obtain ⟨h183, W183, z183, V183, w183⟩ := w182.stC hx U177 5 rfl (Nat.le_of_ble_eq_true rfl) ⟨by decide, by decide⟩ rfl rfl (hb hby at_268) (by omega) (mkF m 269 #[.val (.int p0), .val (.long p1), .second, .val (.long p2), .second, .val (.int (3 : Int32)), .val (.int (2 : Int32)), .val (.ref a), .val (.ref b), .val (.ref b147), .unset] []) rfl
    rw [nar_rng ke1.1] at V183
    have U183 : Arv Z h183 b147 k147 .char (6 : Int32) [(.int d0), (.int d1), (.int d2), (.int (64 : Int32)), (.int e0), (.int e1)] (.int (0 : Int32)) := V183
    have K184 : Keep h0 h183 [] := K178.wr W183 (Or.inr (by omega))
    obtain ⟨b185, h185, g185, E185, l185, A185, D185, y185, w185⟩ := w183.newO hx (hw _ (List.mem_of_getElem? (i := 68) rfl)) (hw _ (List.mem_of_getElem? (i := 14) rfl)) (hw _ (List.mem_of_getElem? (i := 13) rfl)) rfl (hb hby at_269) (by decide) (by decide) (fun xq => (mkF m 272 #[.val (.int p0), .val (.long p1), .second, .val (.long p2), .second, .val (.int (3 : Int32)), .val (.int (2 : Int32)), .val (.ref a), .val (.ref b), .val (.ref b147), .unset] (.ref xq :: []))) (fun _ => rfl)
    have z185 := E185.1
    have K186 : Keep h0 h185 [] := K184.ext E185
    have D185_16 : Fld Z h185 b185 "java/lang/String" "value" "[B" .null := D185 (Or.inr (hw _ (List.mem_of_getElem? (i := 16) rfl))) (ty := (.array .byte)) (by decide)
    have D185_17 : Fld Z h185 b185 "java/lang/String" "coder" "B" (.int (0 : Int32)) := D185 (Or.inr (hw _ (List.mem_of_getElem? (i := 17) rfl))) (ty := .byte) (by decide)
    have w187 := w185.pure (mkF m 275 #[.val (.int p0), .val (.long p1), .second, .val (.long p2), .second, .val (.int (3 : Int32)), .val (.int (2 : Int32)), .val (.ref a), .val (.ref b), .val (.ref b147), .unset] [(.ref b147), (.ref b185), (.ref b185)]) (fun X eT hZ hown k => by
        show Steps _ _ _ (State.setTop _ (mkF m 272 #[.val (.int p0), .val (.long p1), .second, .val (.long p2), .second, .val (.int (3 : Int32)), .val (.int (2 : Int32)), .val (.ref a), .val (.ref b), .val (.ref b147), .unset] [(.ref b185)])) _
        refine S.dup X.here hx (hb hby at_272) rfl ?_
        refine S.aload X.here hx (hb hby at_273) rfl rfl ?_
        exact k)
    have F188 := U183.ext E185
    have F189 := X1.ext E147
    have F190 := F189.wr W153 (by omega)
    have F191 := F190.wr W159 (by omega)
    have F192 := F191.wr W165 (by omega)
    have F193 := F192.wr W171 (by omega)
    have F194 := F193.wr W177 (by omega)
    have F195 := F194.wr W183 (by omega)
    have F196 := F195.ext E185
    have r197 : ∀ c ∈ ([d0, d1, d2, (64 : Int32), e0, e1] : List Int32), ¬ c < 0 ∧ ¬ (255 : Int32) < c := (List.forall_mem_cons.mpr ⟨kd0.1, (List.forall_mem_cons.mpr ⟨kd1.1, (List.forall_mem_cons.mpr ⟨kd2.1, (List.forall_mem_cons.mpr ⟨(by decide), (List.forall_mem_cons.mpr ⟨ke0.1, (List.forall_mem_cons.mpr ⟨ke1.1, (fun _ q => nomatch q)⟩)⟩)⟩)⟩)⟩)⟩)
    obtain ⟨v198, h198, Q198, K198, z198, w198⟩ := w187.callI hx (y := (⟨"java/lang/String", "<init>", "([C)V"⟩ : MethodName)) (W := 1) rfl (hw _ (List.mem_of_getElem? (i := 69) rfl)) (hw _ (List.mem_of_getElem? (i := 70) rfl)) (hw _ (List.mem_of_getElem? (i := 71) rfl)) (by decide) (payNew hG w187.hZ hq_backV (hw _ (List.mem_of_getElem? (i := 14) rfl)) [d0, d1, d2, (64 : Int32), e0, e1] 6 (by omega) A185 D185_16 D185_17 F188 F196 rfl rfl (by decide) (by decide) r197 (by decide) (by decide)) rfl (by rw [hml]; rfl) [(.ref b185)] (lenOf pd_17 rfl) rfl (by show 2 * 0 + _ ≤ _; exact Nat.le_of_eq rfl) (hb hby at_275) (by decide) (by decide) (sfS y185 sf0) (fun rv => (mkF m 278 #[.val (.int p0), .val (.long p1), .second, .val (.long p2), .second, .val (.int (3 : Int32)), .val (.int (2 : Int32)), .val (.ref a), .val (.ref b), .val (.ref b147), .unset] (rv.toList ++ [(.ref b185)]))) (fun _ => rfl)
    obtain ⟨rfl, G198⟩ := Q198
    have K199 : Keep h0 h198 [] := K186.trans K198 (allS (Or.inr (by omega)) (fun _ q => nomatch q))
    have lt_b185 := G198.lt
    have F200 := F196.keep K198 (allS (by omega) all0)
    obtain ⟨v201, h201, Q201, K201, z201, w201⟩ := w198.callS hx (y := (⟨"com/example/rowanport/rowanport/util/MailAddresses", "domain", "(Ljava/lang/String;)Ljava/lang/String;"⟩ : MethodName)) (W := 0) (hw _ (List.mem_of_getElem? (i := 89) rfl)) (hw _ (List.mem_of_getElem? (i := 90) rfl)) (hw _ (List.mem_of_getElem? (i := 91) rfl)) (hw _ (List.mem_of_getElem? (i := 92) rfl)) (by decide) ((rmdm l Z a0 hw b185 [d0, d1, d2, (64 : Int32), e0, e1] _ 3 2 h198 n0 (by omega) hG F200 G198 (own_dom3 _ _ _ ke0.2 ke1.2) rfl (by decide) (by decide)).pay w198.hZ (hw _ (List.mem_of_getElem? (i := 92) rfl)) (hw _ (List.mem_of_getElem? (i := 91) rfl)) (by decide) (by decide)) rfl (by rw [hml]; rfl) [] (lenOf pd_18 rfl) rfl (by show 2 * 0 + _ ≤ _; exact Nat.le_of_eq rfl) (hb hby at_278) (by decide) (by decide) (fun _ q => nomatch q) (fun rv => (mkF m 281 #[.val (.int p0), .val (.long p1), .second, .val (.long p2), .second, .val (.int (3 : Int32)), .val (.int (2 : Int32)), .val (.ref a), .val (.ref b), .val (.ref b147), .unset] (rv.toList ++ []))) (fun _ => rfl)
    obtain ⟨y201, rfl, gy201, T201⟩ := Q201
    have K202 : Keep h0 h201 [] := K199.trans K201 (fun _ q => nomatch q)
    have S201 : Str Z h201 y201 [e0, e1] h201.size := T201
    have lt_y201 := S201.lt
    have w203 := w201.pure (mkF m 285 #[.val (.int p0), .val (.long p1), .second, .val (.long p2), .second, .val (.int (3 : Int32)), .val (.int (2 : Int32)), .val (.ref a), .val (.ref b), .val (.ref b147), .val (.ref y201)] [(.ref y201)]) (fun X eT hZ hown k => by
        show Steps _ _ _ (State.setTop _ (mkF m 281 #[.val (.int p0), .val (.long p1), .second, .val (.long p2), .second, .val (.int (3 : Int32)), .val (.int (2 : Int32)), .val (.ref a), .val (.ref b), .val (.ref b147), .unset] [(.ref y201)])) _
        refine S.astore X.here hx (hb hby at_281) rfl #[.val (.int p0), .val (.long p1), .second, .val (.long p2), .second, .val (.int (3 : Int32)), .val (.int (2 : Int32)), .val (.ref a), .val (.ref b), .val (.ref b147), .val (.ref y201)] rfl ?_
        refine S.aload X.here hx (hb hby at_283) rfl rfl ?_
        exact k)
    have F204 := F200.keep K201 all0
    obtain ⟨v205, h205, Q205, K205, z205, w205⟩ := w203.callV hx (C := "java/lang/String") (y := (⟨"java/lang/String", "length", "()I"⟩ : MethodName)) (z := (⟨"java/lang/String", "length", "()I"⟩ : MethodName)) (W := 0) (hw _ (List.mem_of_getElem? (i := 20) rfl)) (hw _ (List.mem_of_getElem? (i := 21) rfl)) (hw _ (List.mem_of_getElem? (i := 23) rfl)) (hw _ (List.mem_of_getElem? (i := 22) rfl)) (w203.nf (hw _ (List.mem_of_getElem? (i := 23) rfl))) (by decide) (payLen hG w203.hZ hq_lenW (hw _ (List.mem_of_getElem? (i := 14) rfl)) S201 F204 (by decide) (by decide)) S201.exa rfl (by rw [hml]; rfl) [] (lenOf pd_4 rfl) rfl (by show 2 * 0 + _ ≤ _; exact Nat.le_of_eq rfl) (hb hby at_285) (by decide) (by decide) (fun _ q => nomatch q) (fun rv => (mkF m 288 #[.val (.int p0), .val (.long p1), .second, .val (.long p2), .second, .val (.int (3 : Int32)), .val (.int (2 : Int32)), .val (.ref a), .val (.ref b), .val (.ref b147), .val (.ref y201)] (rv.toList ++ []))) (fun _ => rfl)
    obtain ⟨rfl, rfl⟩ := Q205
    have w206 := w205.pure (mkF m 296 #[.val (.int p0), .val (.long p1), .second, .val (.long p2), .second, .val (.int (3 : Int32)), .val (.int (2 : Int32)), .val (.ref a), .val (.ref b), .val (.ref b147), .val (.ref y201)] [(.int (0 : Int32)), (.ref y201)]) (fun X eT hZ hown k => by
        show Steps _ _ _ (State.setTop _ (mkF m 288 #[.val (.int p0), .val (.long p1), .second, .val (.long p2), .second, .val (.int (3 : Int32)), .val (.int (2 : Int32)), .val (.ref a), .val (.ref b), .val (.ref b147), .val (.ref y201)] [(.int (2 : Int32))])) _
        refine S.iload X.here hx (hb hby at_288) rfl ?_
        refine S.icmpNo X.here hx (hb hby at_290) (by decide) ?_
        refine S.aload X.here hx (hb hby at_293) rfl rfl ?_
        refine S.iconst X.here hx (0 : Int32) (hb hby at_295) rfl ?_
        exact k)
    obtain ⟨v207, h207, Q207, K207, z207, w207⟩ := w206.callV hx (C := "java/lang/String") (y := (⟨"java/lang/String", "charAt", "(I)C"⟩ : MethodName)) (z := (⟨"java/lang/String", "charAt", "(I)C"⟩ : MethodName)) (W := 0) (hw _ (List.mem_of_getElem? (i := 33) rfl)) (hw _ (List.mem_of_getElem? (i := 34) rfl)) (hw _ (List.mem_of_getElem? (i := 36) rfl)) (hw _ (List.mem_of_getElem? (i := 35) rfl)) (w206.nf (hw _ (List.mem_of_getElem? (i := 36) rfl))) (by decide) (payCh hG w206.hZ hq_chN (hw _ (List.mem_of_getElem? (i := 14) rfl)) S201 F204 0 (Nat.le_of_ble_eq_true rfl) rfl (by decide) (by decide)) S201.exa rfl (by rw [hml]; rfl) [] (lenOf pd_11 rfl) rfl (by show 2 * 0 + _ ≤ _; exact Nat.le_of_eq rfl) (hb hby at_296) (by decide) (by decide) (fun _ q => nomatch q) (fun rv => (mkF m 299 #[.val (.int p0), .val (.long p1), .second, .val (.long p2), .second, .val (.int (3 : Int32)), .val (.int (2 : Int32)), .val (.ref a), .val (.ref b), .val (.ref b147), .val (.ref y201)] (rv.toList ++ []))) (fun _ => rfl)
    obtain ⟨rfl, rfl⟩ := Q207
    have F208 := F181.other W183 (nne (by omega))
    have F209 := F208.ext E185
    have F210 := F209.keep K198 (ninS (nne (by omega)) nin0)
    have F211 := F210.keep K201 nin0
    have w212 := w207.pure (mkF m 315 #[.val (.int p0), .val (.long p1), .second, .val (.long p2), .second, .val (.int (3 : Int32)), .val (.int (2 : Int32)), .val (.ref a), .val (.ref b), .val (.ref b147), .val (.ref y201)] [(.int (1 : Int32)), (.ref y201)]) (fun X eT hZ hown k => by
        show Steps _ _ _ (State.setTop _ (mkF m 299 #[.val (.int p0), .val (.long p1), .second, .val (.long p2), .second, .val (.int (3 : Int32)), .val (.int (2 : Int32)), .val (.ref a), .val (.ref b), .val (.ref b147), .val (.ref y201)] [(.int e0)])) _
        refine S.aload X.here hx (hb hby at_299) rfl rfl ?_
        refine S.iconst X.here hx (0 : Int32) (hb hby at_301) rfl ?_
        refine caV X hx eT hZ F211 (v := (.int e0)) ⟨by decide, by decide⟩ rfl rfl rfl (hb hby at_302) ?_
        show Steps _ _ _ (State.setTop _ (mkF m 303 #[.val (.int p0), .val (.long p1), .second, .val (.long p2), .second, .val (.int (3 : Int32)), .val (.int (2 : Int32)), .val (.ref a), .val (.ref b), .val (.ref b147), .val (.ref y201)] [(.int e0), (.int e0)])) _
        refine S.icmpNo X.here hx (hb hby at_303) (teq (rfl : e0 = e0)).2 ?_
        refine S.iload X.here hx (hb hby at_306) rfl ?_
        refine S.iconst X.here hx (2 : Int32) (hb hby at_308) rfl ?_
        refine S.icmpNo X.here hx (hb hby at_309) (by decide) ?_
        refine S.aload X.here hx (hb hby at_312) rfl rfl ?_
        refine S.iconst X.here hx (1 : Int32) (hb hby at_314) rfl ?_
        exact k)
    obtain ⟨v213, h213, Q213, K213, z213, w213⟩ := w212.callV hx (C := "java/lang/String") (y := (⟨"java/lang/String", "charAt", "(I)C"⟩ : MethodName)) (z := (⟨"java/lang/String", "charAt", "(I)C"⟩ : MethodName)) (W := 0) (hw _ (List.mem_of_getElem? (i := 33) rfl)) (hw _ (List.mem_of_getElem? (i := 34) rfl)) (hw _ (List.mem_of_getElem? (i := 36) rfl)) (hw _ (List.mem_of_getElem? (i := 35) rfl)) (w212.nf (hw _ (List.mem_of_getElem? (i := 36) rfl))) (by decide) (payCh hG w212.hZ hq_chN (hw _ (List.mem_of_getElem? (i := 14) rfl)) S201 F204 1 (Nat.le_of_ble_eq_true rfl) rfl (by decide) (by decide)) S201.exa rfl (by rw [hml]; rfl) [] (lenOf pd_11 rfl) rfl (by show 2 * 0 + _ ≤ _; exact Nat.le_of_eq rfl) (hb hby at_315) (by decide) (by decide) (fun _ q => nomatch q) (fun rv => (mkF m 318 #[.val (.int p0), .val (.long p1), .second, .val (.long p2), .second, .val (.int (3 : Int32)), .val (.int (2 : Int32)), .val (.ref a), .val (.ref b), .val (.ref b147), .val (.ref y201)] (rv.toList ++ []))) (fun _ => rfl)
    obtain ⟨rfl, rfl⟩ := Q213
    have w214 := w213.pure (mkF m 368 #[.val (.int p0), .val (.long p1), .second, .val (.long p2), .second, .val (.int (3 : Int32)), .val (.int (2 : Int32)), .val (.ref a), .val (.ref b), .val (.ref b147), .val (.ref y201)] [(.int (1 : Int32))]) (fun X eT hZ hown k => by
        show Steps _ _ _ (State.setTop _ (mkF m 318 #[.val (.int p0), .val (.long p1), .second, .val (.long p2), .second, .val (.int (3 : Int32)), .val (.int (2 : Int32)), .val (.ref a), .val (.ref b), .val (.ref b147), .val (.ref y201)] [(.int e1)])) _
        refine S.aload X.here hx (hb hby at_318) rfl rfl ?_
        refine S.iconst X.here hx (1 : Int32) (hb hby at_320) rfl ?_
        refine caV X hx eT hZ F211 (v := (.int e1)) ⟨by decide, by decide⟩ rfl rfl rfl (hb hby at_321) ?_
        show Steps _ _ _ (State.setTop _ (mkF m 322 #[.val (.int p0), .val (.long p1), .second, .val (.long p2), .second, .val (.int (3 : Int32)), .val (.int (2 : Int32)), .val (.ref a), .val (.ref b), .val (.ref b147), .val (.ref y201)] [(.int e1), (.int e1)])) _
        refine S.icmpNo X.here hx (hb hby at_322) (teq (rfl : e1 = e1)).2 ?_
        refine S.iload X.here hx (hb hby at_325) rfl ?_
        refine S.iconst X.here hx (3 : Int32) (hb hby at_327) rfl ?_
        refine S.icmpYes X.here hx 344 (hb hby at_328) (by decide) (by decide) (by decide) ?_
        refine S.iload X.here hx (hb hby at_344) rfl ?_
        refine S.iconst X.here hx (4 : Int32) (hb hby at_346) rfl ?_
        refine S.icmpYes X.here hx 363 (hb hby at_347) (by decide) (by decide) (by decide) ?_
        refine S.iconst X.here hx (1 : Int32) (hb hby at_363) rfl ?_
        refine S.goto X.here hx 368 (hb hby at_364) (by decide) (by decide) ?_
        exact k)
    exact w214.endW (v := some (.int (1 : Int32))) (Q := (fun v h => v = some (.int 1))) (wr := []) (h0 := h0) (fun h => by rw [Bd.returns] at h; cases h) Bd.notSynchronized (fun X hr => retN X hx (t := .boolean) Bd.returns (by simp) (hb hby at_368) hr) (by decide) (by decide) rfl K202
  · have w1_3 := w0
    rw [hs1] at w1_3
    have w215 := w1_3.pure (mkF m 181 #[.val (.int p0), .val (.long p1), .second, .val (.long p2), .second, .val (.int (4 : Int32)), .val (.int (1 : Int32)), .val (.ref a), .val (.ref b), .unset, .unset] [(.int (6 : Int32))]) (fun X eT hZ hown k => by
        show Steps _ _ _ (State.setTop _ (mkF m 179 #[.val (.int p0), .val (.long p1), .second, .val (.long p2), .second, .val (.int (4 : Int32)), .val (.int (1 : Int32)), .val (.ref a), .val (.ref b), .unset, .unset] [])) _
        refine S.bipush X.here hx (6 : Int32) (hb hby at_179) rfl ?_
        exact k)
    obtain ⟨b216, h216, k216, g216, E216, l216, A216, y216, w216⟩ := w215.newP hx (hw _ (List.mem_of_getElem? (i := 0) rfl)) rfl (hb hby at_181) rfl (by decide) 6 (by decide) (by decide) (by decide) (by decide) (fun xq => (mkF m 183 #[.val (.int p0), .val (.long p1), .second, .val (.long p2), .second, .val (.int (4 : Int32)), .val (.int (1 : Int32)), .val (.ref a), .val (.ref b), .unset, .unset] (.ref xq :: []))) (fun _ => rfl)
    have z216 := E216.1
    have K217 : Keep h0 h216 [] := K0.ext E216
    have V216 : Arv Z h216 b216 k216 .char (6 : Int32) [(.int (0 : Int32)), (.int (0 : Int32)), (.int (0 : Int32)), (.int (0 : Int32)), (.int (0 : Int32)), (.int (0 : Int32))] (.int (0 : Int32)) := A216.pad (pad_rep [] (.int (0 : Int32)) 6)
    have w218 := w216.pure (mkF m 195 #[.val (.int p0), .val (.long p1), .second, .val (.long p2), .second, .val (.int (4 : Int32)), .val (.int (1 : Int32)), .val (.ref a), .val (.ref b), .val (.ref b216), .unset] [(.int (0 : Int32)), (.int (4 : Int32)), (.ref b), (.ref a), (.int (0 : Int32)), (.ref b216)]) (fun X eT hZ hown k => by
        show Steps _ _ _ (State.setTop _ (mkF m 183 #[.val (.int p0), .val (.long p1), .second, .val (.long p2), .second, .val (.int (4 : Int32)), .val (.int (1 : Int32)), .val (.ref a), .val (.ref b), .unset, .unset] [(.ref b216)])) _
        refine S.astore X.here hx (hb hby at_183) rfl #[.val (.int p0), .val (.long p1), .second, .val (.long p2), .second, .val (.int (4 : Int32)), .val (.int (1 : Int32)), .val (.ref a), .val (.ref b), .val (.ref b216), .unset] rfl ?_
        refine S.aload X.here hx (hb hby at_185) rfl rfl ?_
        refine S.iconst X.here hx (0 : Int32) (hb hby at_187) rfl ?_
        refine S.aload X.here hx (hb hby at_188) rfl rfl ?_
        refine S.aload X.here hx (hb hby at_190) rfl rfl ?_
        refine S.iload X.here hx (hb hby at_192) rfl ?_
        refine S.iconst X.here hx (0 : Int32) (hb hby at_194) rfl ?_
        exact k)
    have F219 := VA.ext E216
    have F220 := VB.ext E216
    obtain ⟨v221, h221, Q221, K221, z221, w221⟩ := w218.callS hx (y := (⟨"com/example/rowanport/rowanport/util/MailAddressesDomainPinLaw", "at", "([C[CII)C"⟩ : MethodName)) (W := 2) (hw _ (List.mem_of_getElem? (i := 65) rfl)) (hw _ (List.mem_of_getElem? (i := 66) rfl)) (hw _ (List.mem_of_getElem? (i := 3) rfl)) (hw _ (List.mem_of_getElem? (i := 67) rfl)) (by decide) ((rmx40 l Z a0 hw a b ka kb d0 d1 d2 d3 e0 e1 e2 e3 h216 n0 (by omega) F219 F220 kd0 kd1 kd2 kd3 ke0 ke1 ke2 ke3).pay w218.hZ (hw _ (List.mem_of_getElem? (i := 67) rfl)) (hw _ (List.mem_of_getElem? (i := 3) rfl)) (by decide) (by decide)) rfl (by rw [hml]; rfl) [(.int (0 : Int32)), (.ref b216)] (lenOf pd_16 rfl) rfl (by show 2 * 0 + _ ≤ _; exact Nat.le_of_eq rfl) (hb hby at_195) (by decide) (by decide) (fun _ q => nomatch q) (fun rv => (mkF m 198 #[.val (.int p0), .val (.long p1), .second, .val (.long p2), .second, .val (.int (4 : Int32)), .val (.int (1 : Int32)), .val (.ref a), .val (.ref b), .val (.ref b216), .unset] (rv.toList ++ [(.int (0 : Int32)), (.ref b216)]))) (fun _ => rfl)
    obtain ⟨rfl, rfl⟩ := Q221
    obtain ⟨h222, W222, z222, V222, w222⟩ := w221.stC hx V216 0 rfl (Nat.le_of_ble_eq_true rfl) ⟨by decide, by decide⟩ rfl rfl (hb hby at_198) (by omega) (mkF m 199 #[.val (.int p0), .val (.long p1), .second, .val (.long p2), .second, .val (.int (4 : Int32)), .val (.int (1 : Int32)), .val (.ref a), .val (.ref b), .val (.ref b216), .unset] []) rfl
    rw [nar_rng kd0.1] at V222
    have U222 : Arv Z h222 b216 k216 .char (6 : Int32) [(.int d0), (.int (0 : Int32)), (.int (0 : Int32)), (.int (0 : Int32)), (.int (0 : Int32)), (.int (0 : Int32))] (.int (0 : Int32)) := V222
    have K223 : Keep h0 h222 [] := K217.wr W222 (Or.inr (by omega))
    have w224 := w222.pure (mkF m 209 #[.val (.int p0), .val (.long p1), .second, .val (.long p2), .second, .val (.int (4 : Int32)), .val (.int (1 : Int32)), .val (.ref a), .val (.ref b), .val (.ref b216), .unset] [(.int (1 : Int32)), (.int (4 : Int32)), (.ref b), (.ref a), (.int (1 : Int32)), (.ref b216)]) (fun X eT hZ hown k => by
        show Steps _ _ _ (State.setTop _ (mkF m 199 #[.val (.int p0), .val (.long p1), .second, .val (.long p2), .second, .val (.int (4 : Int32)), .val (.int (1 : Int32)), .val (.ref a), .val (.ref b), .val (.ref b216), .unset] [])) _
        refine S.aload X.here hx (hb hby at_199) rfl rfl ?_
        refine S.iconst X.here hx (1 : Int32) (hb hby at_201) rfl ?_
        refine S.aload X.here hx (hb hby at_202) rfl rfl ?_
        refine S.aload X.here hx (hb hby at_204) rfl rfl ?_
        refine S.iload X.here hx (hb hby at_206) rfl ?_
        refine S.iconst X.here hx (1 : Int32) (hb hby at_208) rfl ?_
        exact k)
    have F225 := F219.other W222 (nne (by omega))
    have F226 := F220.other W222 (nne (by omega))
    obtain ⟨v227, h227, Q227, K227, z227, w227⟩ := w224.callS hx (y := (⟨"com/example/rowanport/rowanport/util/MailAddressesDomainPinLaw", "at", "([C[CII)C"⟩ : MethodName)) (W := 2) (hw _ (List.mem_of_getElem? (i := 65) rfl)) (hw _ (List.mem_of_getElem? (i := 66) rfl)) (hw _ (List.mem_of_getElem? (i := 3) rfl)) (hw _ (List.mem_of_getElem? (i := 67) rfl)) (by decide) ((rmx41 l Z a0 hw a b ka kb d0 d1 d2 d3 e0 e1 e2 e3 h222 n0 (by omega) F225 F226 kd0 kd1 kd2 kd3 ke0 ke1 ke2 ke3).pay w224.hZ (hw _ (List.mem_of_getElem? (i := 67) rfl)) (hw _ (List.mem_of_getElem? (i := 3) rfl)) (by decide) (by decide)) rfl (by rw [hml]; rfl) [(.int (1 : Int32)), (.ref b216)] (lenOf pd_16 rfl) rfl (by show 2 * 0 + _ ≤ _; exact Nat.le_of_eq rfl) (hb hby at_209) (by decide) (by decide) (fun _ q => nomatch q) (fun rv => (mkF m 212 #[.val (.int p0), .val (.long p1), .second, .val (.long p2), .second, .val (.int (4 : Int32)), .val (.int (1 : Int32)), .val (.ref a), .val (.ref b), .val (.ref b216), .unset] (rv.toList ++ [(.int (1 : Int32)), (.ref b216)]))) (fun _ => rfl)
    obtain ⟨rfl, rfl⟩ := Q227
    obtain ⟨h228, W228, z228, V228, w228⟩ := w227.stC hx U222 1 rfl (Nat.le_of_ble_eq_true rfl) ⟨by decide, by decide⟩ rfl rfl (hb hby at_212) (by omega) (mkF m 213 #[.val (.int p0), .val (.long p1), .second, .val (.long p2), .second, .val (.int (4 : Int32)), .val (.int (1 : Int32)), .val (.ref a), .val (.ref b), .val (.ref b216), .unset] []) rfl
    rw [nar_rng kd1.1] at V228
    have U228 : Arv Z h228 b216 k216 .char (6 : Int32) [(.int d0), (.int d1), (.int (0 : Int32)), (.int (0 : Int32)), (.int (0 : Int32)), (.int (0 : Int32))] (.int (0 : Int32)) := V228
    have K229 : Keep h0 h228 [] := K223.wr W228 (Or.inr (by omega))
    have w230 := w228.pure (mkF m 223 #[.val (.int p0), .val (.long p1), .second, .val (.long p2), .second, .val (.int (4 : Int32)), .val (.int (1 : Int32)), .val (.ref a), .val (.ref b), .val (.ref b216), .unset] [(.int (2 : Int32)), (.int (4 : Int32)), (.ref b), (.ref a), (.int (2 : Int32)), (.ref b216)]) (fun X eT hZ hown k => by
        show Steps _ _ _ (State.setTop _ (mkF m 213 #[.val (.int p0), .val (.long p1), .second, .val (.long p2), .second, .val (.int (4 : Int32)), .val (.int (1 : Int32)), .val (.ref a), .val (.ref b), .val (.ref b216), .unset] [])) _
        refine S.aload X.here hx (hb hby at_213) rfl rfl ?_
        refine S.iconst X.here hx (2 : Int32) (hb hby at_215) rfl ?_
        refine S.aload X.here hx (hb hby at_216) rfl rfl ?_
        refine S.aload X.here hx (hb hby at_218) rfl rfl ?_
        refine S.iload X.here hx (hb hby at_220) rfl ?_
        refine S.iconst X.here hx (2 : Int32) (hb hby at_222) rfl ?_
        exact k)
    have F231 := F225.other W228 (nne (by omega))
    have F232 := F226.other W228 (nne (by omega))
    obtain ⟨v233, h233, Q233, K233, z233, w233⟩ := w230.callS hx (y := (⟨"com/example/rowanport/rowanport/util/MailAddressesDomainPinLaw", "at", "([C[CII)C"⟩ : MethodName)) (W := 2) (hw _ (List.mem_of_getElem? (i := 65) rfl)) (hw _ (List.mem_of_getElem? (i := 66) rfl)) (hw _ (List.mem_of_getElem? (i := 3) rfl)) (hw _ (List.mem_of_getElem? (i := 67) rfl)) (by decide) ((rmx42 l Z a0 hw a b ka kb d0 d1 d2 d3 e0 e1 e2 e3 h228 n0 (by omega) F231 F232 kd0 kd1 kd2 kd3 ke0 ke1 ke2 ke3).pay w230.hZ (hw _ (List.mem_of_getElem? (i := 67) rfl)) (hw _ (List.mem_of_getElem? (i := 3) rfl)) (by decide) (by decide)) rfl (by rw [hml]; rfl) [(.int (2 : Int32)), (.ref b216)] (lenOf pd_16 rfl) rfl (by show 2 * 0 + _ ≤ _; exact Nat.le_of_eq rfl) (hb hby at_223) (by decide) (by decide) (fun _ q => nomatch q) (fun rv => (mkF m 226 #[.val (.int p0), .val (.long p1), .second, .val (.long p2), .second, .val (.int (4 : Int32)), .val (.int (1 : Int32)), .val (.ref a), .val (.ref b), .val (.ref b216), .unset] (rv.toList ++ [(.int (2 : Int32)), (.ref b216)]))) (fun _ => rfl)
    obtain ⟨rfl, rfl⟩ := Q233
    obtain ⟨h234, W234, z234, V234, w234⟩ := w233.stC hx U228 2 rfl (Nat.le_of_ble_eq_true rfl) ⟨by decide, by decide⟩ rfl rfl (hb hby at_226) (by omega) (mkF m 227 #[.val (.int p0), .val (.long p1), .second, .val (.long p2), .second, .val (.int (4 : Int32)), .val (.int (1 : Int32)), .val (.ref a), .val (.ref b), .val (.ref b216), .unset] []) rfl
    rw [nar_rng kd2.1] at V234
    have U234 : Arv Z h234 b216 k216 .char (6 : Int32) [(.int d0), (.int d1), (.int d2), (.int (0 : Int32)), (.int (0 : Int32)), (.int (0 : Int32))] (.int (0 : Int32)) := V234
    have K235 : Keep h0 h234 [] := K229.wr W234 (Or.inr (by omega))
    have w236 := w234.pure (mkF m 237 #[.val (.int p0), .val (.long p1), .second, .val (.long p2), .second, .val (.int (4 : Int32)), .val (.int (1 : Int32)), .val (.ref a), .val (.ref b), .val (.ref b216), .unset] [(.int (3 : Int32)), (.int (4 : Int32)), (.ref b), (.ref a), (.int (3 : Int32)), (.ref b216)]) (fun X eT hZ hown k => by
        show Steps _ _ _ (State.setTop _ (mkF m 227 #[.val (.int p0), .val (.long p1), .second, .val (.long p2), .second, .val (.int (4 : Int32)), .val (.int (1 : Int32)), .val (.ref a), .val (.ref b), .val (.ref b216), .unset] [])) _
        refine S.aload X.here hx (hb hby at_227) rfl rfl ?_
        refine S.iconst X.here hx (3 : Int32) (hb hby at_229) rfl ?_
        refine S.aload X.here hx (hb hby at_230) rfl rfl ?_
        refine S.aload X.here hx (hb hby at_232) rfl rfl ?_
        refine S.iload X.here hx (hb hby at_234) rfl ?_
        refine S.iconst X.here hx (3 : Int32) (hb hby at_236) rfl ?_
        exact k)
    have F237 := F231.other W234 (nne (by omega))
    have F238 := F232.other W234 (nne (by omega))
    obtain ⟨v239, h239, Q239, K239, z239, w239⟩ := w236.callS hx (y := (⟨"com/example/rowanport/rowanport/util/MailAddressesDomainPinLaw", "at", "([C[CII)C"⟩ : MethodName)) (W := 2) (hw _ (List.mem_of_getElem? (i := 65) rfl)) (hw _ (List.mem_of_getElem? (i := 66) rfl)) (hw _ (List.mem_of_getElem? (i := 3) rfl)) (hw _ (List.mem_of_getElem? (i := 67) rfl)) (by decide) ((rmx43 l Z a0 hw a b ka kb d0 d1 d2 d3 e0 e1 e2 e3 h234 n0 (by omega) F237 F238 kd0 kd1 kd2 kd3 ke0 ke1 ke2 ke3).pay w236.hZ (hw _ (List.mem_of_getElem? (i := 67) rfl)) (hw _ (List.mem_of_getElem? (i := 3) rfl)) (by decide) (by decide)) rfl (by rw [hml]; rfl) [(.int (3 : Int32)), (.ref b216)] (lenOf pd_16 rfl) rfl (by show 2 * 0 + _ ≤ _; exact Nat.le_of_eq rfl) (hb hby at_237) (by decide) (by decide) (fun _ q => nomatch q) (fun rv => (mkF m 240 #[.val (.int p0), .val (.long p1), .second, .val (.long p2), .second, .val (.int (4 : Int32)), .val (.int (1 : Int32)), .val (.ref a), .val (.ref b), .val (.ref b216), .unset] (rv.toList ++ [(.int (3 : Int32)), (.ref b216)]))) (fun _ => rfl)
    obtain ⟨rfl, rfl⟩ := Q239
    obtain ⟨h240, W240, z240, V240, w240⟩ := w239.stC hx U234 3 rfl (Nat.le_of_ble_eq_true rfl) ⟨by decide, by decide⟩ rfl rfl (hb hby at_240) (by omega) (mkF m 241 #[.val (.int p0), .val (.long p1), .second, .val (.long p2), .second, .val (.int (4 : Int32)), .val (.int (1 : Int32)), .val (.ref a), .val (.ref b), .val (.ref b216), .unset] []) rfl
    rw [nar_rng kd3.1] at V240
    have U240 : Arv Z h240 b216 k216 .char (6 : Int32) [(.int d0), (.int d1), (.int d2), (.int d3), (.int (0 : Int32)), (.int (0 : Int32))] (.int (0 : Int32)) := V240
    have K241 : Keep h0 h240 [] := K235.wr W240 (Or.inr (by omega))
    have w242 := w240.pure (mkF m 251 #[.val (.int p0), .val (.long p1), .second, .val (.long p2), .second, .val (.int (4 : Int32)), .val (.int (1 : Int32)), .val (.ref a), .val (.ref b), .val (.ref b216), .unset] [(.int (4 : Int32)), (.int (4 : Int32)), (.ref b), (.ref a), (.int (4 : Int32)), (.ref b216)]) (fun X eT hZ hown k => by
        show Steps _ _ _ (State.setTop _ (mkF m 241 #[.val (.int p0), .val (.long p1), .second, .val (.long p2), .second, .val (.int (4 : Int32)), .val (.int (1 : Int32)), .val (.ref a), .val (.ref b), .val (.ref b216), .unset] [])) _
        refine S.aload X.here hx (hb hby at_241) rfl rfl ?_
        refine S.iconst X.here hx (4 : Int32) (hb hby at_243) rfl ?_
        refine S.aload X.here hx (hb hby at_244) rfl rfl ?_
        refine S.aload X.here hx (hb hby at_246) rfl rfl ?_
        refine S.iload X.here hx (hb hby at_248) rfl ?_
        refine S.iconst X.here hx (4 : Int32) (hb hby at_250) rfl ?_
        exact k)
    have F243 := F237.other W240 (nne (by omega))
    have F244 := F238.other W240 (nne (by omega))
    obtain ⟨v245, h245, Q245, K245, z245, w245⟩ := w242.callS hx (y := (⟨"com/example/rowanport/rowanport/util/MailAddressesDomainPinLaw", "at", "([C[CII)C"⟩ : MethodName)) (W := 2) (hw _ (List.mem_of_getElem? (i := 65) rfl)) (hw _ (List.mem_of_getElem? (i := 66) rfl)) (hw _ (List.mem_of_getElem? (i := 3) rfl)) (hw _ (List.mem_of_getElem? (i := 67) rfl)) (by decide) ((rmx44 l Z a0 hw a b ka kb d0 d1 d2 d3 e0 e1 e2 e3 h240 n0 (by omega) F243 F244 kd0 kd1 kd2 kd3 ke0 ke1 ke2 ke3).pay w242.hZ (hw _ (List.mem_of_getElem? (i := 67) rfl)) (hw _ (List.mem_of_getElem? (i := 3) rfl)) (by decide) (by decide)) rfl (by rw [hml]; rfl) [(.int (4 : Int32)), (.ref b216)] (lenOf pd_16 rfl) rfl (by show 2 * 0 + _ ≤ _; exact Nat.le_of_eq rfl) (hb hby at_251) (by decide) (by decide) (fun _ q => nomatch q) (fun rv => (mkF m 254 #[.val (.int p0), .val (.long p1), .second, .val (.long p2), .second, .val (.int (4 : Int32)), .val (.int (1 : Int32)), .val (.ref a), .val (.ref b), .val (.ref b216), .unset] (rv.toList ++ [(.int (4 : Int32)), (.ref b216)]))) (fun _ => rfl)
    obtain ⟨rfl, rfl⟩ := Q245
    obtain ⟨h246, W246, z246, V246, w246⟩ := w245.stC hx U240 4 rfl (Nat.le_of_ble_eq_true rfl) ⟨by decide, by decide⟩ rfl rfl (hb hby at_254) (by omega) (mkF m 255 #[.val (.int p0), .val (.long p1), .second, .val (.long p2), .second, .val (.int (4 : Int32)), .val (.int (1 : Int32)), .val (.ref a), .val (.ref b), .val (.ref b216), .unset] []) rfl
    rw [show nar .char (64 : Int32) = (64 : Int32) from rfl] at V246
    have U246 : Arv Z h246 b216 k216 .char (6 : Int32) [(.int d0), (.int d1), (.int d2), (.int d3), (.int (64 : Int32)), (.int (0 : Int32))] (.int (0 : Int32)) := V246
    have K247 : Keep h0 h246 [] := K241.wr W246 (Or.inr (by omega))
    have w248 := w246.pure (mkF m 265 #[.val (.int p0), .val (.long p1), .second, .val (.long p2), .second, .val (.int (4 : Int32)), .val (.int (1 : Int32)), .val (.ref a), .val (.ref b), .val (.ref b216), .unset] [(.int (5 : Int32)), (.int (4 : Int32)), (.ref b), (.ref a), (.int (5 : Int32)), (.ref b216)]) (fun X eT hZ hown k => by
        show Steps _ _ _ (State.setTop _ (mkF m 255 #[.val (.int p0), .val (.long p1), .second, .val (.long p2), .second, .val (.int (4 : Int32)), .val (.int (1 : Int32)), .val (.ref a), .val (.ref b), .val (.ref b216), .unset] [])) _
        refine S.aload X.here hx (hb hby at_255) rfl rfl ?_
        refine S.iconst X.here hx (5 : Int32) (hb hby at_257) rfl ?_
        refine S.aload X.here hx (hb hby at_258) rfl rfl ?_
        refine S.aload X.here hx (hb hby at_260) rfl rfl ?_
        refine S.iload X.here hx (hb hby at_262) rfl ?_
        refine S.iconst X.here hx (5 : Int32) (hb hby at_264) rfl ?_
        exact k)
    have F249 := F243.other W246 (nne (by omega))
    have F250 := F244.other W246 (nne (by omega))
    obtain ⟨v251, h251, Q251, K251, z251, w251⟩ := w248.callS hx (y := (⟨"com/example/rowanport/rowanport/util/MailAddressesDomainPinLaw", "at", "([C[CII)C"⟩ : MethodName)) (W := 2) (hw _ (List.mem_of_getElem? (i := 65) rfl)) (hw _ (List.mem_of_getElem? (i := 66) rfl)) (hw _ (List.mem_of_getElem? (i := 3) rfl)) (hw _ (List.mem_of_getElem? (i := 67) rfl)) (by decide) ((rmx45 l Z a0 hw a b ka kb d0 d1 d2 d3 e0 e1 e2 e3 h246 n0 (by omega) F249 F250 kd0 kd1 kd2 kd3 ke0 ke1 ke2 ke3).pay w248.hZ (hw _ (List.mem_of_getElem? (i := 67) rfl)) (hw _ (List.mem_of_getElem? (i := 3) rfl)) (by decide) (by decide)) rfl (by rw [hml]; rfl) [(.int (5 : Int32)), (.ref b216)] (lenOf pd_16 rfl) rfl (by show 2 * 0 + _ ≤ _; exact Nat.le_of_eq rfl) (hb hby at_265) (by decide) (by decide) (fun _ q => nomatch q) (fun rv => (mkF m 268 #[.val (.int p0), .val (.long p1), .second, .val (.long p2), .second, .val (.int (4 : Int32)), .val (.int (1 : Int32)), .val (.ref a), .val (.ref b), .val (.ref b216), .unset] (rv.toList ++ [(.int (5 : Int32)), (.ref b216)]))) (fun _ => rfl)
    obtain ⟨rfl, rfl⟩ := Q251
    obtain ⟨h252, W252, z252, V252, w252⟩ := w251.stC hx U246 5 rfl (Nat.le_of_ble_eq_true rfl) ⟨by decide, by decide⟩ rfl rfl (hb hby at_268) (by omega) (mkF m 269 #[.val (.int p0), .val (.long p1), .second, .val (.long p2), .second, .val (.int (4 : Int32)), .val (.int (1 : Int32)), .val (.ref a), .val (.ref b), .val (.ref b216), .unset] []) rfl
    rw [nar_rng ke0.1] at V252
    have U252 : Arv Z h252 b216 k216 .char (6 : Int32) [(.int d0), (.int d1), (.int d2), (.int d3), (.int (64 : Int32)), (.int e0)] (.int (0 : Int32)) := V252
    have K253 : Keep h0 h252 [] := K247.wr W252 (Or.inr (by omega))
    obtain ⟨b254, h254, g254, E254, l254, A254, D254, y254, w254⟩ := w252.newO hx (hw _ (List.mem_of_getElem? (i := 68) rfl)) (hw _ (List.mem_of_getElem? (i := 14) rfl)) (hw _ (List.mem_of_getElem? (i := 13) rfl)) rfl (hb hby at_269) (by decide) (by decide) (fun xq => (mkF m 272 #[.val (.int p0), .val (.long p1), .second, .val (.long p2), .second, .val (.int (4 : Int32)), .val (.int (1 : Int32)), .val (.ref a), .val (.ref b), .val (.ref b216), .unset] (.ref xq :: []))) (fun _ => rfl)
    have z254 := E254.1
    have K255 : Keep h0 h254 [] := K253.ext E254
    have D254_16 : Fld Z h254 b254 "java/lang/String" "value" "[B" .null := D254 (Or.inr (hw _ (List.mem_of_getElem? (i := 16) rfl))) (ty := (.array .byte)) (by decide)
    have D254_17 : Fld Z h254 b254 "java/lang/String" "coder" "B" (.int (0 : Int32)) := D254 (Or.inr (hw _ (List.mem_of_getElem? (i := 17) rfl))) (ty := .byte) (by decide)
    have w256 := w254.pure (mkF m 275 #[.val (.int p0), .val (.long p1), .second, .val (.long p2), .second, .val (.int (4 : Int32)), .val (.int (1 : Int32)), .val (.ref a), .val (.ref b), .val (.ref b216), .unset] [(.ref b216), (.ref b254), (.ref b254)]) (fun X eT hZ hown k => by
        show Steps _ _ _ (State.setTop _ (mkF m 272 #[.val (.int p0), .val (.long p1), .second, .val (.long p2), .second, .val (.int (4 : Int32)), .val (.int (1 : Int32)), .val (.ref a), .val (.ref b), .val (.ref b216), .unset] [(.ref b254)])) _
        refine S.dup X.here hx (hb hby at_272) rfl ?_
        refine S.aload X.here hx (hb hby at_273) rfl rfl ?_
        exact k)
    have F257 := U252.ext E254
    have F258 := X1.ext E216
    have F259 := F258.wr W222 (by omega)
    have F260 := F259.wr W228 (by omega)
    have F261 := F260.wr W234 (by omega)
    have F262 := F261.wr W240 (by omega)
    have F263 := F262.wr W246 (by omega)
    have F264 := F263.wr W252 (by omega)
    have F265 := F264.ext E254
    have r266 : ∀ c ∈ ([d0, d1, d2, d3, (64 : Int32), e0] : List Int32), ¬ c < 0 ∧ ¬ (255 : Int32) < c := (List.forall_mem_cons.mpr ⟨kd0.1, (List.forall_mem_cons.mpr ⟨kd1.1, (List.forall_mem_cons.mpr ⟨kd2.1, (List.forall_mem_cons.mpr ⟨kd3.1, (List.forall_mem_cons.mpr ⟨(by decide), (List.forall_mem_cons.mpr ⟨ke0.1, (fun _ q => nomatch q)⟩)⟩)⟩)⟩)⟩)⟩)
    obtain ⟨v267, h267, Q267, K267, z267, w267⟩ := w256.callI hx (y := (⟨"java/lang/String", "<init>", "([C)V"⟩ : MethodName)) (W := 1) rfl (hw _ (List.mem_of_getElem? (i := 69) rfl)) (hw _ (List.mem_of_getElem? (i := 70) rfl)) (hw _ (List.mem_of_getElem? (i := 71) rfl)) (by decide) (payNew hG w256.hZ hq_backV (hw _ (List.mem_of_getElem? (i := 14) rfl)) [d0, d1, d2, d3, (64 : Int32), e0] 6 (by omega) A254 D254_16 D254_17 F257 F265 rfl rfl (by decide) (by decide) r266 (by decide) (by decide)) rfl (by rw [hml]; rfl) [(.ref b254)] (lenOf pd_17 rfl) rfl (by show 2 * 0 + _ ≤ _; exact Nat.le_of_eq rfl) (hb hby at_275) (by decide) (by decide) (sfS y254 sf0) (fun rv => (mkF m 278 #[.val (.int p0), .val (.long p1), .second, .val (.long p2), .second, .val (.int (4 : Int32)), .val (.int (1 : Int32)), .val (.ref a), .val (.ref b), .val (.ref b216), .unset] (rv.toList ++ [(.ref b254)]))) (fun _ => rfl)
    obtain ⟨rfl, G267⟩ := Q267
    have K268 : Keep h0 h267 [] := K255.trans K267 (allS (Or.inr (by omega)) (fun _ q => nomatch q))
    have lt_b254 := G267.lt
    have F269 := F265.keep K267 (allS (by omega) all0)
    obtain ⟨v270, h270, Q270, K270, z270, w270⟩ := w267.callS hx (y := (⟨"com/example/rowanport/rowanport/util/MailAddresses", "domain", "(Ljava/lang/String;)Ljava/lang/String;"⟩ : MethodName)) (W := 0) (hw _ (List.mem_of_getElem? (i := 89) rfl)) (hw _ (List.mem_of_getElem? (i := 90) rfl)) (hw _ (List.mem_of_getElem? (i := 91) rfl)) (hw _ (List.mem_of_getElem? (i := 92) rfl)) (by decide) ((rmdm l Z a0 hw b254 [d0, d1, d2, d3, (64 : Int32), e0] _ 4 1 h267 n0 (by omega) hG F269 G267 (own_dom4 _ _ _ _ ke0.2) rfl (by decide) (by decide)).pay w267.hZ (hw _ (List.mem_of_getElem? (i := 92) rfl)) (hw _ (List.mem_of_getElem? (i := 91) rfl)) (by decide) (by decide)) rfl (by rw [hml]; rfl) [] (lenOf pd_18 rfl) rfl (by show 2 * 0 + _ ≤ _; exact Nat.le_of_eq rfl) (hb hby at_278) (by decide) (by decide) (fun _ q => nomatch q) (fun rv => (mkF m 281 #[.val (.int p0), .val (.long p1), .second, .val (.long p2), .second, .val (.int (4 : Int32)), .val (.int (1 : Int32)), .val (.ref a), .val (.ref b), .val (.ref b216), .unset] (rv.toList ++ []))) (fun _ => rfl)
    obtain ⟨y270, rfl, gy270, T270⟩ := Q270
    have K271 : Keep h0 h270 [] := K268.trans K270 (fun _ q => nomatch q)
    have S270 : Str Z h270 y270 [e0] h270.size := T270
    have lt_y270 := S270.lt
    have w272 := w270.pure (mkF m 285 #[.val (.int p0), .val (.long p1), .second, .val (.long p2), .second, .val (.int (4 : Int32)), .val (.int (1 : Int32)), .val (.ref a), .val (.ref b), .val (.ref b216), .val (.ref y270)] [(.ref y270)]) (fun X eT hZ hown k => by
        show Steps _ _ _ (State.setTop _ (mkF m 281 #[.val (.int p0), .val (.long p1), .second, .val (.long p2), .second, .val (.int (4 : Int32)), .val (.int (1 : Int32)), .val (.ref a), .val (.ref b), .val (.ref b216), .unset] [(.ref y270)])) _
        refine S.astore X.here hx (hb hby at_281) rfl #[.val (.int p0), .val (.long p1), .second, .val (.long p2), .second, .val (.int (4 : Int32)), .val (.int (1 : Int32)), .val (.ref a), .val (.ref b), .val (.ref b216), .val (.ref y270)] rfl ?_
        refine S.aload X.here hx (hb hby at_283) rfl rfl ?_
        exact k)
    have F273 := F269.keep K270 all0
    obtain ⟨v274, h274, Q274, K274, z274, w274⟩ := w272.callV hx (C := "java/lang/String") (y := (⟨"java/lang/String", "length", "()I"⟩ : MethodName)) (z := (⟨"java/lang/String", "length", "()I"⟩ : MethodName)) (W := 0) (hw _ (List.mem_of_getElem? (i := 20) rfl)) (hw _ (List.mem_of_getElem? (i := 21) rfl)) (hw _ (List.mem_of_getElem? (i := 23) rfl)) (hw _ (List.mem_of_getElem? (i := 22) rfl)) (w272.nf (hw _ (List.mem_of_getElem? (i := 23) rfl))) (by decide) (payLen hG w272.hZ hq_lenW (hw _ (List.mem_of_getElem? (i := 14) rfl)) S270 F273 (by decide) (by decide)) S270.exa rfl (by rw [hml]; rfl) [] (lenOf pd_4 rfl) rfl (by show 2 * 0 + _ ≤ _; exact Nat.le_of_eq rfl) (hb hby at_285) (by decide) (by decide) (fun _ q => nomatch q) (fun rv => (mkF m 288 #[.val (.int p0), .val (.long p1), .second, .val (.long p2), .second, .val (.int (4 : Int32)), .val (.int (1 : Int32)), .val (.ref a), .val (.ref b), .val (.ref b216), .val (.ref y270)] (rv.toList ++ []))) (fun _ => rfl)
    obtain ⟨rfl, rfl⟩ := Q274
    have w275 := w274.pure (mkF m 296 #[.val (.int p0), .val (.long p1), .second, .val (.long p2), .second, .val (.int (4 : Int32)), .val (.int (1 : Int32)), .val (.ref a), .val (.ref b), .val (.ref b216), .val (.ref y270)] [(.int (0 : Int32)), (.ref y270)]) (fun X eT hZ hown k => by
        show Steps _ _ _ (State.setTop _ (mkF m 288 #[.val (.int p0), .val (.long p1), .second, .val (.long p2), .second, .val (.int (4 : Int32)), .val (.int (1 : Int32)), .val (.ref a), .val (.ref b), .val (.ref b216), .val (.ref y270)] [(.int (1 : Int32))])) _
        refine S.iload X.here hx (hb hby at_288) rfl ?_
        refine S.icmpNo X.here hx (hb hby at_290) (by decide) ?_
        refine S.aload X.here hx (hb hby at_293) rfl rfl ?_
        refine S.iconst X.here hx (0 : Int32) (hb hby at_295) rfl ?_
        exact k)
    obtain ⟨v276, h276, Q276, K276, z276, w276⟩ := w275.callV hx (C := "java/lang/String") (y := (⟨"java/lang/String", "charAt", "(I)C"⟩ : MethodName)) (z := (⟨"java/lang/String", "charAt", "(I)C"⟩ : MethodName)) (W := 0) (hw _ (List.mem_of_getElem? (i := 33) rfl)) (hw _ (List.mem_of_getElem? (i := 34) rfl)) (hw _ (List.mem_of_getElem? (i := 36) rfl)) (hw _ (List.mem_of_getElem? (i := 35) rfl)) (w275.nf (hw _ (List.mem_of_getElem? (i := 36) rfl))) (by decide) (payCh hG w275.hZ hq_chN (hw _ (List.mem_of_getElem? (i := 14) rfl)) S270 F273 0 (Nat.le_of_ble_eq_true rfl) rfl (by decide) (by decide)) S270.exa rfl (by rw [hml]; rfl) [] (lenOf pd_11 rfl) rfl (by show 2 * 0 + _ ≤ _; exact Nat.le_of_eq rfl) (hb hby at_296) (by decide) (by decide) (fun _ q => nomatch q) (fun rv => (mkF m 299 #[.val (.int p0), .val (.long p1), .second, .val (.long p2), .second, .val (.int (4 : Int32)), .val (.int (1 : Int32)), .val (.ref a), .val (.ref b), .val (.ref b216), .val (.ref y270)] (rv.toList ++ []))) (fun _ => rfl)
    obtain ⟨rfl, rfl⟩ := Q276
    have F277 := F250.other W252 (nne (by omega))
    have F278 := F277.ext E254
    have F279 := F278.keep K267 (ninS (nne (by omega)) nin0)
    have F280 := F279.keep K270 nin0
    have w281 := w276.pure (mkF m 368 #[.val (.int p0), .val (.long p1), .second, .val (.long p2), .second, .val (.int (4 : Int32)), .val (.int (1 : Int32)), .val (.ref a), .val (.ref b), .val (.ref b216), .val (.ref y270)] [(.int (1 : Int32))]) (fun X eT hZ hown k => by
        show Steps _ _ _ (State.setTop _ (mkF m 299 #[.val (.int p0), .val (.long p1), .second, .val (.long p2), .second, .val (.int (4 : Int32)), .val (.int (1 : Int32)), .val (.ref a), .val (.ref b), .val (.ref b216), .val (.ref y270)] [(.int e0)])) _
        refine S.aload X.here hx (hb hby at_299) rfl rfl ?_
        refine S.iconst X.here hx (0 : Int32) (hb hby at_301) rfl ?_
        refine caV X hx eT hZ F280 (v := (.int e0)) ⟨by decide, by decide⟩ rfl rfl rfl (hb hby at_302) ?_
        show Steps _ _ _ (State.setTop _ (mkF m 303 #[.val (.int p0), .val (.long p1), .second, .val (.long p2), .second, .val (.int (4 : Int32)), .val (.int (1 : Int32)), .val (.ref a), .val (.ref b), .val (.ref b216), .val (.ref y270)] [(.int e0), (.int e0)])) _
        refine S.icmpNo X.here hx (hb hby at_303) (teq (rfl : e0 = e0)).2 ?_
        refine S.iload X.here hx (hb hby at_306) rfl ?_
        refine S.iconst X.here hx (2 : Int32) (hb hby at_308) rfl ?_
        refine S.icmpYes X.here hx 325 (hb hby at_309) (by decide) (by decide) (by decide) ?_
        refine S.iload X.here hx (hb hby at_325) rfl ?_
        refine S.iconst X.here hx (3 : Int32) (hb hby at_327) rfl ?_
        refine S.icmpYes X.here hx 344 (hb hby at_328) (by decide) (by decide) (by decide) ?_
        refine S.iload X.here hx (hb hby at_344) rfl ?_
        refine S.iconst X.here hx (4 : Int32) (hb hby at_346) rfl ?_
        refine S.icmpYes X.here hx 363 (hb hby at_347) (by decide) (by decide) (by decide) ?_
        refine S.iconst X.here hx (1 : Int32) (hb hby at_363) rfl ?_
        refine S.goto X.here hx 368 (hb hby at_364) (by decide) (by decide) ?_
        exact k)
    exact w281.endW (v := some (.int (1 : Int32))) (Q := (fun v h => v = some (.int 1))) (wr := []) (h0 := h0) (fun h => by rw [Bd.returns] at h; cases h) Bd.notSynchronized (fun X hr => retN X hx (t := .boolean) Bd.returns (by simp) (hb hby at_368) hr) (by decide) (by decide) rfl K271
theorem pd_19 : parseMethodDescriptor "(JII)C" = some ⟨[.long, .int, .int], some .char⟩ := by decide +kernel
theorem pd_20 : parseMethodDescriptor "(C)Z" = some ⟨[.char], some .boolean⟩ := by decide +kernel
set_option maxRecDepth 65536 in
set_option maxHeartbeats 40000000 in
theorem ptM (l : Launch) (Z : State) (a0 : Array Value) (hw : ∀ d ∈ tables_1, d.before a0 Z = true) (hE : EW Z a0 consts_1) {p : Program} {e : Env} {s s₁ st : State} {m : MethodId} {args : Array Value} {below : List Frame} {meth : Method} {c : Code} {Sp : Spec} (Bd : BodyLoose p l x Sp code maxLocals ret e s m args below meth c s₁) (hml : c.maxLocals = 11) (p0 : Int32) (p1 p2 : Int64) (a : Nat) (ka : ClassId) (d0 d1 d2 d3 : Int32) (h0 : Heap) (n0 : Nat) (Z0 : n0 ≤ h0.size) {h1 : Heap} {vm1 : Vm}
    (w0 : Wk p l e room_1 s m args below meth c Z a0 consts_1 n0 x.cls false st vm1 h1 (mkF m 86 #[.val (.int p0), .val (.long p1), .second, .val (.long p2), .second, .val (.int ((1 : Int32) + (p0 &&& (3 : Int32)))), .val (.int ((5 : Int32) - ((1 : Int32) + (p0 &&& (3 : Int32))))), .val (.ref a), .unset, .unset, .unset] []) 5 360) (K0 : Keep h0 h1 []) (Z1 : h0.size ≤ h1.size) (hG : SetsOk Z) (X1 : Old Z n0 h1) (ga : n0 ≤ a) (VA : Arv Z h1 a ka .char (4 : Int32) [(.int d0), (.int d1), (.int d2), (.int d3)] (.int (0 : Int32))) (kd0 : own_ok d0) (kd1 : own_ok d1) (kd2 : own_ok d2) (kd3 : own_ok d3) :
    EndsW p e below st s Z consts_1 n0 h0 [] (fun v h => v = some (.int 1)) room_1.cells room_1.slots := by
  have hx := Bd.exec
  have hby := Bd.bytes
  have hnm := (name_of_methodNamed Bd.named Bd.method).1
  have lt_VA := arlt VA
  have w1 := w0.pure (mkF m 87 #[.val (.int p0), .val (.long p1), .second, .val (.long p2), .second, .val (.int ((1 : Int32) + (p0 &&& (3 : Int32)))), .val (.int ((5 : Int32) - ((1 : Int32) + (p0 &&& (3 : Int32))))), .val (.ref a), .unset, .unset, .unset] [(.int (4 : Int32))]) (fun X eT hZ hown k => by
      show Steps _ _ _ (State.setTop _ (mkF m 86 #[.val (.int p0), .val (.long p1), .second, .val (.long p2), .second, .val (.int ((1 : Int32) + (p0 &&& (3 : Int32)))), .val (.int ((5 : Int32) - ((1 : Int32) + (p0 &&& (3 : Int32))))), .val (.ref a), .unset, .unset, .unset] [])) _
      refine S.iconst X.here hx (4 : Int32) (hb hby at_86) rfl ?_
      exact k)
  obtain ⟨b2, h2, k2, g2, E2, l2, A2, y2, w2⟩ := w1.newP hx (hw _ (List.mem_of_getElem? (i := 0) rfl)) rfl (hb hby at_87) rfl (by decide) 4 (by decide) (by decide) (by decide) (by decide) (fun xq => (mkF m 89 #[.val (.int p0), .val (.long p1), .second, .val (.long p2), .second, .val (.int ((1 : Int32) + (p0 &&& (3 : Int32)))), .val (.int ((5 : Int32) - ((1 : Int32) + (p0 &&& (3 : Int32))))), .val (.ref a), .unset, .unset, .unset] (.ref xq :: []))) (fun _ => rfl)
  have z2 := E2.1
  have K3 : Keep h0 h2 [] := K0.ext E2
  have V2 : Arv Z h2 b2 k2 .char (4 : Int32) [(.int (0 : Int32)), (.int (0 : Int32)), (.int (0 : Int32)), (.int (0 : Int32))] (.int (0 : Int32)) := A2.pad (pad_rep [] (.int (0 : Int32)) 4)
  have w4 := w2.pure (mkF m 98 #[.val (.int p0), .val (.long p1), .second, .val (.long p2), .second, .val (.int ((1 : Int32) + (p0 &&& (3 : Int32)))), .val (.int ((5 : Int32) - ((1 : Int32) + (p0 &&& (3 : Int32))))), .val (.ref a), .val (.ref b2), .unset, .unset] [(.int ((5 : Int32) - ((1 : Int32) + (p0 &&& (3 : Int32))))), (.int (0 : Int32)), (.long p2), (.int (0 : Int32)), (.ref b2)]) (fun X eT hZ hown k => by
      show Steps _ _ _ (State.setTop _ (mkF m 89 #[.val (.int p0), .val (.long p1), .second, .val (.long p2), .second, .val (.int ((1 : Int32) + (p0 &&& (3 : Int32)))), .val (.int ((5 : Int32) - ((1 : Int32) + (p0 &&& (3 : Int32))))), .val (.ref a), .unset, .unset, .unset] [(.ref b2)])) _
      refine S.astore X.here hx (hb hby at_89) rfl #[.val (.int p0), .val (.long p1), .second, .val (.long p2), .second, .val (.int ((1 : Int32) + (p0 &&& (3 : Int32)))), .val (.int ((5 : Int32) - ((1 : Int32) + (p0 &&& (3 : Int32))))), .val (.ref a), .val (.ref b2), .unset, .unset] rfl ?_
      refine S.aload X.here hx (hb hby at_91) rfl rfl ?_
      refine S.iconst X.here hx (0 : Int32) (hb hby at_93) rfl ?_
      refine S.lloadN X.here hx (hb hby at_94) rfl ?_
      refine S.iconst X.here hx (0 : Int32) (hb hby at_95) rfl ?_
      refine S.iload X.here hx (hb hby at_96) rfl ?_
      exact k)
  have F5 := X1.ext E2
  obtain ⟨v6, vm6, h6, Q6, K6, z6, D6, C6, w6⟩ := w4.callSV hx (y := (⟨"com/example/rowanport/rowanport/util/MailAddressesDomainPinLaw", "domainChar", "(JII)C"⟩ : MethodName)) (W := 2) (hw _ (List.mem_of_getElem? (i := 55) rfl)) (hw _ (List.mem_of_getElem? (i := 56) rfl)) (hw _ (List.mem_of_getElem? (i := 3) rfl)) (hw _ (List.mem_of_getElem? (i := 57) rfl)) (by decide) ((rmkAL l Z a0 hw hE p2 ((5 : Int32) - ((1 : Int32) + (p0 &&& (3 : Int32)))) h2 n0 (by omega) hG F5).pay w4 (hw _ (List.mem_of_getElem? (i := 57) rfl)) (hw _ (List.mem_of_getElem? (i := 3) rfl)) (by decide) (by decide) (fun _ _ => trivial)) rfl (by rw [hml]; rfl) [(.int (0 : Int32)), (.ref b2)] (lenOf pd_19 rfl) rfl (by show 2 * 0 + _ ≤ _; exact Nat.le_of_eq rfl) (hb hby at_98) (by decide) (by decide)  (fun rv => (mkF m 101 #[.val (.int p0), .val (.long p1), .second, .val (.long p2), .second, .val (.int ((1 : Int32) + (p0 &&& (3 : Int32)))), .val (.int ((5 : Int32) - ((1 : Int32) + (p0 &&& (3 : Int32))))), .val (.ref a), .val (.ref b2), .unset, .unset] (rv.toList ++ [(.int (0 : Int32)), (.ref b2)]))) (fun _ => rfl)
  obtain ⟨c6, a6, rfl, ok6, LL6, S6⟩ := Q6
  have K7 : Keep h0 h6 [] := K3.trans K6 (fun _ q => nomatch q)
  have lt_a6 := S6.lt
  have F9 := V2.keep K6 nin0
  obtain ⟨h8, W8, z8, V8, w8⟩ := w6.stC hx F9 0 rfl (Nat.le_of_ble_eq_true rfl) ⟨by decide, by decide⟩ rfl rfl (hb hby at_101) (by omega) (mkF m 102 #[.val (.int p0), .val (.long p1), .second, .val (.long p2), .second, .val (.int ((1 : Int32) + (p0 &&& (3 : Int32)))), .val (.int ((5 : Int32) - ((1 : Int32) + (p0 &&& (3 : Int32))))), .val (.ref a), .val (.ref b2), .unset, .unset] []) rfl
  rw [nar_rng ok6.1] at V8
  have U8 : Arv Z h8 b2 k2 .char (4 : Int32) [(.int c6), (.int (0 : Int32)), (.int (0 : Int32)), (.int (0 : Int32))] (.int (0 : Int32)) := V8
  have K10 : Keep h0 h8 [] := K7.wr W8 (Or.inr (by omega))
  have w11 := w8.pure (mkF m 109 #[.val (.int p0), .val (.long p1), .second, .val (.long p2), .second, .val (.int ((1 : Int32) + (p0 &&& (3 : Int32)))), .val (.int ((5 : Int32) - ((1 : Int32) + (p0 &&& (3 : Int32))))), .val (.ref a), .val (.ref b2), .unset, .unset] [(.int ((5 : Int32) - ((1 : Int32) + (p0 &&& (3 : Int32))))), (.int (1 : Int32)), (.long p2), (.int (1 : Int32)), (.ref b2)]) (fun X eT hZ hown k => by
      show Steps _ _ _ (State.setTop _ (mkF m 102 #[.val (.int p0), .val (.long p1), .second, .val (.long p2), .second, .val (.int ((1 : Int32) + (p0 &&& (3 : Int32)))), .val (.int ((5 : Int32) - ((1 : Int32) + (p0 &&& (3 : Int32))))), .val (.ref a), .val (.ref b2), .unset, .unset] [])) _
      refine S.aload X.here hx (hb hby at_102) rfl rfl ?_
      refine S.iconst X.here hx (1 : Int32) (hb hby at_104) rfl ?_
      refine S.lloadN X.here hx (hb hby at_105) rfl ?_
      refine S.iconst X.here hx (1 : Int32) (hb hby at_106) rfl ?_
      refine S.iload X.here hx (hb hby at_107) rfl ?_
      exact k)
  have F12 := F5.keep K6 all0
  have F13 := F12.wr W8 (by omega)
  have F14 := S6.wrA W8 F9 (hw _ (List.mem_of_getElem? (i := 14) rfl))
  obtain ⟨v15, vm15, h15, Q15, K15, z15, D15, C15, w15⟩ := w11.callSV hx (y := (⟨"com/example/rowanport/rowanport/util/MailAddressesDomainPinLaw", "domainChar", "(JII)C"⟩ : MethodName)) (W := 2) (hw _ (List.mem_of_getElem? (i := 55) rfl)) (hw _ (List.mem_of_getElem? (i := 56) rfl)) (hw _ (List.mem_of_getElem? (i := 3) rfl)) (hw _ (List.mem_of_getElem? (i := 57) rfl)) (by decide) ((rmvAL l Z a0 hw hE p2 (1 : Int32) ((5 : Int32) - ((1 : Int32) + (p0 &&& (3 : Int32)))) a6 _ h8 n0 (by omega) hG F13 F14).pay w11 (hw _ (List.mem_of_getElem? (i := 57) rfl)) (hw _ (List.mem_of_getElem? (i := 3) rfl)) (by decide) (by decide) (fun _ hv => LitV.stays LL6 hv)) rfl (by rw [hml]; rfl) [(.int (1 : Int32)), (.ref b2)] (lenOf pd_19 rfl) rfl (by show 2 * 0 + _ ≤ _; exact Nat.le_of_eq rfl) (hb hby at_109) (by decide) (by decide)  (fun rv => (mkF m 112 #[.val (.int p0), .val (.long p1), .second, .val (.long p2), .second, .val (.int ((1 : Int32) + (p0 &&& (3 : Int32)))), .val (.int ((5 : Int32) - ((1 : Int32) + (p0 &&& (3 : Int32))))), .val (.ref a), .val (.ref b2), .unset, .unset] (rv.toList ++ [(.int (1 : Int32)), (.ref b2)]))) (fun _ => rfl)
  have LL6_15 := LitV.stays LL6 D15
  obtain ⟨c15, rfl, ok15, rfl⟩ := Q15
  obtain ⟨h16, W16, z16, V16, w16⟩ := w15.stC hx U8 1 rfl (Nat.le_of_ble_eq_true rfl) ⟨by decide, by decide⟩ rfl rfl (hb hby at_112) (by omega) (mkF m 113 #[.val (.int p0), .val (.long p1), .second, .val (.long p2), .second, .val (.int ((1 : Int32) + (p0 &&& (3 : Int32)))), .val (.int ((5 : Int32) - ((1 : Int32) + (p0 &&& (3 : Int32))))), .val (.ref a), .val (.ref b2), .unset, .unset] []) rfl
  rw [nar_rng ok15.1] at V16
  have U16 : Arv Z h16 b2 k2 .char (4 : Int32) [(.int c6), (.int c15), (.int (0 : Int32)), (.int (0 : Int32))] (.int (0 : Int32)) := V16
  have K17 : Keep h0 h16 [] := K10.wr W16 (Or.inr (by omega))
  have w18 := w16.pure (mkF m 120 #[.val (.int p0), .val (.long p1), .second, .val (.long p2), .second, .val (.int ((1 : Int32) + (p0 &&& (3 : Int32)))), .val (.int ((5 : Int32) - ((1 : Int32) + (p0 &&& (3 : Int32))))), .val (.ref a), .val (.ref b2), .unset, .unset] [(.int ((5 : Int32) - ((1 : Int32) + (p0 &&& (3 : Int32))))), (.int (2 : Int32)), (.long p2), (.int (2 : Int32)), (.ref b2)]) (fun X eT hZ hown k => by
      show Steps _ _ _ (State.setTop _ (mkF m 113 #[.val (.int p0), .val (.long p1), .second, .val (.long p2), .second, .val (.int ((1 : Int32) + (p0 &&& (3 : Int32)))), .val (.int ((5 : Int32) - ((1 : Int32) + (p0 &&& (3 : Int32))))), .val (.ref a), .val (.ref b2), .unset, .unset] [])) _
      refine S.aload X.here hx (hb hby at_113) rfl rfl ?_
      refine S.iconst X.here hx (2 : Int32) (hb hby at_115) rfl ?_
      refine S.lloadN X.here hx (hb hby at_116) rfl ?_
      refine S.iconst X.here hx (2 : Int32) (hb hby at_117) rfl ?_
      refine S.iload X.here hx (hb hby at_118) rfl ?_
      exact k)
  have F19 := F13.wr W16 (by omega)
  have F20 := F14.wrA W16 U8 (hw _ (List.mem_of_getElem? (i := 14) rfl))
  obtain ⟨v21, vm21, h21, Q21, K21, z21, D21, C21, w21⟩ := w18.callSV hx (y := (⟨"com/example/rowanport/rowanport/util/MailAddressesDomainPinLaw", "domainChar", "(JII)C"⟩ : MethodName)) (W := 2) (hw _ (List.mem_of_getElem? (i := 55) rfl)) (hw _ (List.mem_of_getElem? (i := 56) rfl)) (hw _ (List.mem_of_getElem? (i := 3) rfl)) (hw _ (List.mem_of_getElem? (i := 57) rfl)) (by decide) ((rmvAL l Z a0 hw hE p2 (2 : Int32) ((5 : Int32) - ((1 : Int32) + (p0 &&& (3 : Int32)))) a6 _ h16 n0 (by omega) hG F19 F20).pay w18 (hw _ (List.mem_of_getElem? (i := 57) rfl)) (hw _ (List.mem_of_getElem? (i := 3) rfl)) (by decide) (by decide) (fun _ hv => LitV.stays LL6_15 hv)) rfl (by rw [hml]; rfl) [(.int (2 : Int32)), (.ref b2)] (lenOf pd_19 rfl) rfl (by show 2 * 0 + _ ≤ _; exact Nat.le_of_eq rfl) (hb hby at_120) (by decide) (by decide)  (fun rv => (mkF m 123 #[.val (.int p0), .val (.long p1), .second, .val (.long p2), .second, .val (.int ((1 : Int32) + (p0 &&& (3 : Int32)))), .val (.int ((5 : Int32) - ((1 : Int32) + (p0 &&& (3 : Int32))))), .val (.ref a), .val (.ref b2), .unset, .unset] (rv.toList ++ [(.int (2 : Int32)), (.ref b2)]))) (fun _ => rfl)
  have LL6_21 := LitV.stays LL6_15 D21
  obtain ⟨c21, rfl, ok21, rfl⟩ := Q21
  obtain ⟨h22, W22, z22, V22, w22⟩ := w21.stC hx U16 2 rfl (Nat.le_of_ble_eq_true rfl) ⟨by decide, by decide⟩ rfl rfl (hb hby at_123) (by omega) (mkF m 124 #[.val (.int p0), .val (.long p1), .second, .val (.long p2), .second, .val (.int ((1 : Int32) + (p0 &&& (3 : Int32)))), .val (.int ((5 : Int32) - ((1 : Int32) + (p0 &&& (3 : Int32))))), .val (.ref a), .val (.ref b2), .unset, .unset] []) rfl
  rw [nar_rng ok21.1] at V22
  have U22 : Arv Z h22 b2 k2 .char (4 : Int32) [(.int c6), (.int c15), (.int c21), (.int (0 : Int32))] (.int (0 : Int32)) := V22
  have K23 : Keep h0 h22 [] := K17.wr W22 (Or.inr (by omega))
  have w24 := w22.pure (mkF m 131 #[.val (.int p0), .val (.long p1), .second, .val (.long p2), .second, .val (.int ((1 : Int32) + (p0 &&& (3 : Int32)))), .val (.int ((5 : Int32) - ((1 : Int32) + (p0 &&& (3 : Int32))))), .val (.ref a), .val (.ref b2), .unset, .unset] [(.int ((5 : Int32) - ((1 : Int32) + (p0 &&& (3 : Int32))))), (.int (3 : Int32)), (.long p2), (.int (3 : Int32)), (.ref b2)]) (fun X eT hZ hown k => by
      show Steps _ _ _ (State.setTop _ (mkF m 124 #[.val (.int p0), .val (.long p1), .second, .val (.long p2), .second, .val (.int ((1 : Int32) + (p0 &&& (3 : Int32)))), .val (.int ((5 : Int32) - ((1 : Int32) + (p0 &&& (3 : Int32))))), .val (.ref a), .val (.ref b2), .unset, .unset] [])) _
      refine S.aload X.here hx (hb hby at_124) rfl rfl ?_
      refine S.iconst X.here hx (3 : Int32) (hb hby at_126) rfl ?_
      refine S.lloadN X.here hx (hb hby at_127) rfl ?_
      refine S.iconst X.here hx (3 : Int32) (hb hby at_128) rfl ?_
      refine S.iload X.here hx (hb hby at_129) rfl ?_
      exact k)
  have F25 := F19.wr W22 (by omega)
  have F26 := F20.wrA W22 U16 (hw _ (List.mem_of_getElem? (i := 14) rfl))
  obtain ⟨v27, vm27, h27, Q27, K27, z27, D27, C27, w27⟩ := w24.callSV hx (y := (⟨"com/example/rowanport/rowanport/util/MailAddressesDomainPinLaw", "domainChar", "(JII)C"⟩ : MethodName)) (W := 2) (hw _ (List.mem_of_getElem? (i := 55) rfl)) (hw _ (List.mem_of_getElem? (i := 56) rfl)) (hw _ (List.mem_of_getElem? (i := 3) rfl)) (hw _ (List.mem_of_getElem? (i := 57) rfl)) (by decide) ((rmvAL l Z a0 hw hE p2 (3 : Int32) ((5 : Int32) - ((1 : Int32) + (p0 &&& (3 : Int32)))) a6 _ h22 n0 (by omega) hG F25 F26).pay w24 (hw _ (List.mem_of_getElem? (i := 57) rfl)) (hw _ (List.mem_of_getElem? (i := 3) rfl)) (by decide) (by decide) (fun _ hv => LitV.stays LL6_21 hv)) rfl (by rw [hml]; rfl) [(.int (3 : Int32)), (.ref b2)] (lenOf pd_19 rfl) rfl (by show 2 * 0 + _ ≤ _; exact Nat.le_of_eq rfl) (hb hby at_131) (by decide) (by decide)  (fun rv => (mkF m 134 #[.val (.int p0), .val (.long p1), .second, .val (.long p2), .second, .val (.int ((1 : Int32) + (p0 &&& (3 : Int32)))), .val (.int ((5 : Int32) - ((1 : Int32) + (p0 &&& (3 : Int32))))), .val (.ref a), .val (.ref b2), .unset, .unset] (rv.toList ++ [(.int (3 : Int32)), (.ref b2)]))) (fun _ => rfl)
  have LL6_27 := LitV.stays LL6_21 D27
  obtain ⟨c27, rfl, ok27, rfl⟩ := Q27
  obtain ⟨h28, W28, z28, V28, w28⟩ := w27.stC hx U22 3 rfl (Nat.le_of_ble_eq_true rfl) ⟨by decide, by decide⟩ rfl rfl (hb hby at_134) (by omega) (mkF m 135 #[.val (.int p0), .val (.long p1), .second, .val (.long p2), .second, .val (.int ((1 : Int32) + (p0 &&& (3 : Int32)))), .val (.int ((5 : Int32) - ((1 : Int32) + (p0 &&& (3 : Int32))))), .val (.ref a), .val (.ref b2), .unset, .unset] []) rfl
  rw [nar_rng ok27.1] at V28
  have U28 : Arv Z h28 b2 k2 .char (4 : Int32) [(.int c6), (.int c15), (.int c21), (.int c27)] (.int (0 : Int32)) := V28
  have K29 : Keep h0 h28 [] := K23.wr W28 (Or.inr (by omega))
  have w30 := w28.pure (mkF m 139 #[.val (.int p0), .val (.long p1), .second, .val (.long p2), .second, .val (.int ((1 : Int32) + (p0 &&& (3 : Int32)))), .val (.int ((5 : Int32) - ((1 : Int32) + (p0 &&& (3 : Int32))))), .val (.ref a), .val (.ref b2), .unset, .unset] [(.int c15)]) (fun X eT hZ hown k => by
      show Steps _ _ _ (State.setTop _ (mkF m 135 #[.val (.int p0), .val (.long p1), .second, .val (.long p2), .second, .val (.int ((1 : Int32) + (p0 &&& (3 : Int32)))), .val (.int ((5 : Int32) - ((1 : Int32) + (p0 &&& (3 : Int32))))), .val (.ref a), .val (.ref b2), .unset, .unset] [])) _
      refine S.aload X.here hx (hb hby at_135) rfl rfl ?_
      refine S.iconst X.here hx (1 : Int32) (hb hby at_137) rfl ?_
      refine caV X hx eT hZ U28 (v := (.int c15)) ⟨by decide, by decide⟩ rfl rfl rfl (hb hby at_138) ?_
      show Steps _ _ _ (State.setTop _ (mkF m 139 #[.val (.int p0), .val (.long p1), .second, .val (.long p2), .second, .val (.int ((1 : Int32) + (p0 &&& (3 : Int32)))), .val (.int ((5 : Int32) - ((1 : Int32) + (p0 &&& (3 : Int32))))), .val (.ref a), .val (.ref b2), .unset, .unset] [(.int c15)])) _
      exact k)
  obtain ⟨v31, h31, Q31, K31, z31, w31⟩ := w30.callS hx (y := (⟨"com/example/rowanport/rowanport/util/MailAddressesDomainPinLaw", "isAlnum", "(C)Z"⟩ : MethodName)) (W := 0) (hw _ (List.mem_of_getElem? (i := 62) rfl)) (hw _ (List.mem_of_getElem? (i := 63) rfl)) (hw _ (List.mem_of_getElem? (i := 3) rfl)) (hw _ (List.mem_of_getElem? (i := 64) rfl)) (by decide) ((rmia l Z a0 hw c15 h28 n0 (by omega)).pay w30.hZ (hw _ (List.mem_of_getElem? (i := 64) rfl)) (hw _ (List.mem_of_getElem? (i := 3) rfl)) (by decide) (by decide)) rfl (by rw [hml]; rfl) [] (lenOf pd_20 rfl) rfl (by show 2 * 0 + _ ≤ _; exact Nat.le_of_eq rfl) (hb hby at_139) (by decide) (by decide) (fun _ q => nomatch q) (fun rv => (mkF m 142 #[.val (.int p0), .val (.long p1), .second, .val (.long p2), .second, .val (.int ((1 : Int32) + (p0 &&& (3 : Int32)))), .val (.int ((5 : Int32) - ((1 : Int32) + (p0 &&& (3 : Int32))))), .val (.ref a), .val (.ref b2), .unset, .unset] (rv.toList ++ []))) (fun _ => rfl)
  obtain ⟨rfl, rfl⟩ := Q31
  by_cases hc32 : (own_alnum c15) = (0 : Int32)
  · have w33 := w31.pure (mkF m 149 #[.val (.int p0), .val (.long p1), .second, .val (.long p2), .second, .val (.int ((1 : Int32) + (p0 &&& (3 : Int32)))), .val (.int ((5 : Int32) - ((1 : Int32) + (p0 &&& (3 : Int32))))), .val (.ref a), .val (.ref b2), .unset, .unset] [(.int c21)]) (fun X eT hZ hown k => by
        show Steps _ _ _ (State.setTop _ (mkF m 142 #[.val (.int p0), .val (.long p1), .second, .val (.long p2), .second, .val (.int ((1 : Int32) + (p0 &&& (3 : Int32)))), .val (.int ((5 : Int32) - ((1 : Int32) + (p0 &&& (3 : Int32))))), .val (.ref a), .val (.ref b2), .unset, .unset] [(.int (own_alnum c15))])) _
        refine S.ifNo X.here hx (hb hby at_142) ((if0 _ _).trans (teq hc32).2) ?_
        refine S.aload X.here hx (hb hby at_145) rfl rfl ?_
        refine S.iconst X.here hx (2 : Int32) (hb hby at_147) rfl ?_
        refine caV X hx eT hZ U28 (v := (.int c21)) ⟨by decide, by decide⟩ rfl rfl rfl (hb hby at_148) ?_
        show Steps _ _ _ (State.setTop _ (mkF m 149 #[.val (.int p0), .val (.long p1), .second, .val (.long p2), .second, .val (.int ((1 : Int32) + (p0 &&& (3 : Int32)))), .val (.int ((5 : Int32) - ((1 : Int32) + (p0 &&& (3 : Int32))))), .val (.ref a), .val (.ref b2), .unset, .unset] [(.int c21)])) _
        exact k)
    obtain ⟨v34, h34, Q34, K34, z34, w34⟩ := w33.callS hx (y := (⟨"com/example/rowanport/rowanport/util/MailAddressesDomainPinLaw", "isAlnum", "(C)Z"⟩ : MethodName)) (W := 0) (hw _ (List.mem_of_getElem? (i := 62) rfl)) (hw _ (List.mem_of_getElem? (i := 63) rfl)) (hw _ (List.mem_of_getElem? (i := 3) rfl)) (hw _ (List.mem_of_getElem? (i := 64) rfl)) (by decide) ((rmia l Z a0 hw c21 h28 n0 (by omega)).pay w33.hZ (hw _ (List.mem_of_getElem? (i := 64) rfl)) (hw _ (List.mem_of_getElem? (i := 3) rfl)) (by decide) (by decide)) rfl (by rw [hml]; rfl) [] (lenOf pd_20 rfl) rfl (by show 2 * 0 + _ ≤ _; exact Nat.le_of_eq rfl) (hb hby at_149) (by decide) (by decide) (fun _ q => nomatch q) (fun rv => (mkF m 152 #[.val (.int p0), .val (.long p1), .second, .val (.long p2), .second, .val (.int ((1 : Int32) + (p0 &&& (3 : Int32)))), .val (.int ((5 : Int32) - ((1 : Int32) + (p0 &&& (3 : Int32))))), .val (.ref a), .val (.ref b2), .unset, .unset] (rv.toList ++ []))) (fun _ => rfl)
    obtain ⟨rfl, rfl⟩ := Q34
    by_cases hc35 : (own_alnum c21) = (0 : Int32)
    · have w36 := w34.pure (mkF m 161 #[.val (.int p0), .val (.long p1), .second, .val (.long p2), .second, .val (.int ((1 : Int32) + (p0 &&& (3 : Int32)))), .val (.int ((5 : Int32) - ((1 : Int32) + (p0 &&& (3 : Int32))))), .val (.ref a), .val (.ref b2), .unset, .unset] [(.int (45 : Int32)), (.int c15)]) (fun X eT hZ hown k => by
          show Steps _ _ _ (State.setTop _ (mkF m 152 #[.val (.int p0), .val (.long p1), .second, .val (.long p2), .second, .val (.int ((1 : Int32) + (p0 &&& (3 : Int32)))), .val (.int ((5 : Int32) - ((1 : Int32) + (p0 &&& (3 : Int32))))), .val (.ref a), .val (.ref b2), .unset, .unset] [(.int (own_alnum c21))])) _
          refine S.ifNo X.here hx (hb hby at_152) ((if0 _ _).trans (teq hc35).2) ?_
          refine S.aload X.here hx (hb hby at_155) rfl rfl ?_
          refine S.iconst X.here hx (1 : Int32) (hb hby at_157) rfl ?_
          refine caV X hx eT hZ U28 (v := (.int c15)) ⟨by decide, by decide⟩ rfl rfl rfl (hb hby at_158) ?_
          show Steps _ _ _ (State.setTop _ (mkF m 159 #[.val (.int p0), .val (.long p1), .second, .val (.long p2), .second, .val (.int ((1 : Int32) + (p0 &&& (3 : Int32)))), .val (.int ((5 : Int32) - ((1 : Int32) + (p0 &&& (3 : Int32))))), .val (.ref a), .val (.ref b2), .unset, .unset] [(.int c15)])) _
          refine S.bipush X.here hx (45 : Int32) (hb hby at_159) rfl ?_
          exact k)
      by_cases hc37 : c15 = (45 : Int32)
      · have w38 := w36.pure (mkF m 170 #[.val (.int p0), .val (.long p1), .second, .val (.long p2), .second, .val (.int ((1 : Int32) + (p0 &&& (3 : Int32)))), .val (.int ((5 : Int32) - ((1 : Int32) + (p0 &&& (3 : Int32))))), .val (.ref a), .val (.ref b2), .unset, .unset] [(.int (45 : Int32)), (.int c21)]) (fun X eT hZ hown k => by
            show Steps _ _ _ (State.setTop _ (mkF m 161 #[.val (.int p0), .val (.long p1), .second, .val (.long p2), .second, .val (.int ((1 : Int32) + (p0 &&& (3 : Int32)))), .val (.int ((5 : Int32) - ((1 : Int32) + (p0 &&& (3 : Int32))))), .val (.ref a), .val (.ref b2), .unset, .unset] [(.int (45 : Int32)), (.int c15)])) _
            refine S.icmpNo X.here hx (hb hby at_161) (teq hc37).2 ?_
            refine S.aload X.here hx (hb hby at_164) rfl rfl ?_
            refine S.iconst X.here hx (2 : Int32) (hb hby at_166) rfl ?_
            refine caV X hx eT hZ U28 (v := (.int c21)) ⟨by decide, by decide⟩ rfl rfl rfl (hb hby at_167) ?_
            show Steps _ _ _ (State.setTop _ (mkF m 168 #[.val (.int p0), .val (.long p1), .second, .val (.long p2), .second, .val (.int ((1 : Int32) + (p0 &&& (3 : Int32)))), .val (.int ((5 : Int32) - ((1 : Int32) + (p0 &&& (3 : Int32))))), .val (.ref a), .val (.ref b2), .unset, .unset] [(.int c21)])) _
            refine S.bipush X.here hx (45 : Int32) (hb hby at_168) rfl ?_
            exact k)
        by_cases hc39 : c21 = (45 : Int32)
        · have w40 := w38.pure (mkF m 179 #[.val (.int p0), .val (.long p1), .second, .val (.long p2), .second, .val (.int ((1 : Int32) + (p0 &&& (3 : Int32)))), .val (.int ((5 : Int32) - ((1 : Int32) + (p0 &&& (3 : Int32))))), .val (.ref a), .val (.ref b2), .unset, .unset] []) (fun X eT hZ hown k => by
              show Steps _ _ _ (State.setTop _ (mkF m 170 #[.val (.int p0), .val (.long p1), .second, .val (.long p2), .second, .val (.int ((1 : Int32) + (p0 &&& (3 : Int32)))), .val (.int ((5 : Int32) - ((1 : Int32) + (p0 &&& (3 : Int32))))), .val (.ref a), .val (.ref b2), .unset, .unset] [(.int (45 : Int32)), (.int c21)])) _
              refine S.icmpYes X.here hx 179 (hb hby at_170) (teq hc39).1 (by decide) (by decide) ?_
              exact k)
          have F41 := F25.wr W28 (by omega)
          have F42 := VA.ext E2
          have F43 := F42.keep K6 nin0
          have F44 := F43.other W8 (nne (by omega))
          have F45 := F44.other W16 (nne (by omega))
          have F46 := F45.other W22 (nne (by omega))
          have F47 := F46.other W28 (nne (by omega))
          exact ptT l Z a0 hw hE Bd hml p0 p1 p2 a b2 ka k2 d0 d1 d2 d3 c6 c15 c21 c27 h0 n0 Z0 (w40.more (k := 12) (n := 700) (by decide) (by decide)) K29 (by omega) hG F41 (by omega) (by omega) F47 U28 kd0 kd1 kd2 kd3 ok6 ok15 ok21 ok27
        · have w48 := w38.pure (mkF m 178 #[.val (.int p0), .val (.long p1), .second, .val (.long p2), .second, .val (.int ((1 : Int32) + (p0 &&& (3 : Int32)))), .val (.int ((5 : Int32) - ((1 : Int32) + (p0 &&& (3 : Int32))))), .val (.ref a), .val (.ref b2), .unset, .unset] [(.int (122 : Int32)), (.int (2 : Int32)), (.ref b2)]) (fun X eT hZ hown k => by
              show Steps _ _ _ (State.setTop _ (mkF m 170 #[.val (.int p0), .val (.long p1), .second, .val (.long p2), .second, .val (.int ((1 : Int32) + (p0 &&& (3 : Int32)))), .val (.int ((5 : Int32) - ((1 : Int32) + (p0 &&& (3 : Int32))))), .val (.ref a), .val (.ref b2), .unset, .unset] [(.int (45 : Int32)), (.int c21)])) _
              refine S.icmpNo X.here hx (hb hby at_170) (feq hc39).1 ?_
              refine S.aload X.here hx (hb hby at_173) rfl rfl ?_
              refine S.iconst X.here hx (2 : Int32) (hb hby at_175) rfl ?_
              refine S.bipush X.here hx (122 : Int32) (hb hby at_176) rfl ?_
              exact k)
          obtain ⟨h49, W49, z49, V49, w49⟩ := w48.stC hx U28 2 rfl (Nat.le_of_ble_eq_true rfl) ⟨by decide, by decide⟩ rfl rfl (hb hby at_178) (by omega) (mkF m 179 #[.val (.int p0), .val (.long p1), .second, .val (.long p2), .second, .val (.int ((1 : Int32) + (p0 &&& (3 : Int32)))), .val (.int ((5 : Int32) - ((1 : Int32) + (p0 &&& (3 : Int32))))), .val (.ref a), .val (.ref b2), .unset, .unset] []) rfl
          rw [show nar .char (122 : Int32) = (122 : Int32) from rfl] at V49
          have U49 : Arv Z h49 b2 k2 .char (4 : Int32) [(.int c6), (.int c15), (.int (122 : Int32)), (.int c27)] (.int (0 : Int32)) := V49
          have K50 : Keep h0 h49 [] := K29.wr W49 (Or.inr (by omega))
          have F51 := F25.wr W28 (by omega)
          have F52 := F51.wr W49 (by omega)
          have F53 := VA.ext E2
          have F54 := F53.keep K6 nin0
          have F55 := F54.other W8 (nne (by omega))
          have F56 := F55.other W16 (nne (by omega))
          have F57 := F56.other W22 (nne (by omega))
          have F58 := F57.other W28 (nne (by omega))
          have F59 := F58.other W49 (nne (by omega))
          exact ptT l Z a0 hw hE Bd hml p0 p1 p2 a b2 ka k2 d0 d1 d2 d3 c6 c15 (122 : Int32) c27 h0 n0 Z0 (w49.more (k := 12) (n := 700) (by decide) (by decide)) K50 (by omega) hG F52 (by omega) (by omega) F59 U49 kd0 kd1 kd2 kd3 ok6 ok15 (show own_ok (122 : Int32) by unfold own_ok; decide) ok27
      · have w60 := w36.pure (mkF m 178 #[.val (.int p0), .val (.long p1), .second, .val (.long p2), .second, .val (.int ((1 : Int32) + (p0 &&& (3 : Int32)))), .val (.int ((5 : Int32) - ((1 : Int32) + (p0 &&& (3 : Int32))))), .val (.ref a), .val (.ref b2), .unset, .unset] [(.int (122 : Int32)), (.int (2 : Int32)), (.ref b2)]) (fun X eT hZ hown k => by
            show Steps _ _ _ (State.setTop _ (mkF m 161 #[.val (.int p0), .val (.long p1), .second, .val (.long p2), .second, .val (.int ((1 : Int32) + (p0 &&& (3 : Int32)))), .val (.int ((5 : Int32) - ((1 : Int32) + (p0 &&& (3 : Int32))))), .val (.ref a), .val (.ref b2), .unset, .unset] [(.int (45 : Int32)), (.int c15)])) _
            refine S.icmpYes X.here hx 173 (hb hby at_161) (feq hc37).2 (by decide) (by decide) ?_
            refine S.aload X.here hx (hb hby at_173) rfl rfl ?_
            refine S.iconst X.here hx (2 : Int32) (hb hby at_175) rfl ?_
            refine S.bipush X.here hx (122 : Int32) (hb hby at_176) rfl ?_
            exact k)
        obtain ⟨h61, W61, z61, V61, w61⟩ := w60.stC hx U28 2 rfl (Nat.le_of_ble_eq_true rfl) ⟨by decide, by decide⟩ rfl rfl (hb hby at_178) (by omega) (mkF m 179 #[.val (.int p0), .val (.long p1), .second, .val (.long p2), .second, .val (.int ((1 : Int32) + (p0 &&& (3 : Int32)))), .val (.int ((5 : Int32) - ((1 : Int32) + (p0 &&& (3 : Int32))))), .val (.ref a), .val (.ref b2), .unset, .unset] []) rfl
        rw [show nar .char (122 : Int32) = (122 : Int32) from rfl] at V61
        have U61 : Arv Z h61 b2 k2 .char (4 : Int32) [(.int c6), (.int c15), (.int (122 : Int32)), (.int c27)] (.int (0 : Int32)) := V61
        have K62 : Keep h0 h61 [] := K29.wr W61 (Or.inr (by omega))
        have F63 := F25.wr W28 (by omega)
        have F64 := F63.wr W61 (by omega)
        have F65 := VA.ext E2
        have F66 := F65.keep K6 nin0
        have F67 := F66.other W8 (nne (by omega))
        have F68 := F67.other W16 (nne (by omega))
        have F69 := F68.other W22 (nne (by omega))
        have F70 := F69.other W28 (nne (by omega))
        have F71 := F70.other W61 (nne (by omega))
        exact ptT l Z a0 hw hE Bd hml p0 p1 p2 a b2 ka k2 d0 d1 d2 d3 c6 c15 (122 : Int32) c27 h0 n0 Z0 (w61.more (k := 12) (n := 700) (by decide) (by decide)) K62 (by omega) hG F64 (by omega) (by omega) F71 U61 kd0 kd1 kd2 kd3 ok6 ok15 (show own_ok (122 : Int32) by unfold own_ok; decide) ok27
    · have w72 := w34.pure (mkF m 179 #[.val (.int p0), .val (.long p1), .second, .val (.long p2), .second, .val (.int ((1 : Int32) + (p0 &&& (3 : Int32)))), .val (.int ((5 : Int32) - ((1 : Int32) + (p0 &&& (3 : Int32))))), .val (.ref a), .val (.ref b2), .unset, .unset] []) (fun X eT hZ hown k => by
          show Steps _ _ _ (State.setTop _ (mkF m 152 #[.val (.int p0), .val (.long p1), .second, .val (.long p2), .second, .val (.int ((1 : Int32) + (p0 &&& (3 : Int32)))), .val (.int ((5 : Int32) - ((1 : Int32) + (p0 &&& (3 : Int32))))), .val (.ref a), .val (.ref b2), .unset, .unset] [(.int (own_alnum c21))])) _
          refine S.ifYes X.here hx 179 (hb hby at_152) ((if0 _ _).trans (feq hc35).2) (by decide) (by decide) ?_
          exact k)
      have F73 := F25.wr W28 (by omega)
      have F74 := VA.ext E2
      have F75 := F74.keep K6 nin0
      have F76 := F75.other W8 (nne (by omega))
      have F77 := F76.other W16 (nne (by omega))
      have F78 := F77.other W22 (nne (by omega))
      have F79 := F78.other W28 (nne (by omega))
      exact ptT l Z a0 hw hE Bd hml p0 p1 p2 a b2 ka k2 d0 d1 d2 d3 c6 c15 c21 c27 h0 n0 Z0 (w72.more (k := 12) (n := 700) (by decide) (by decide)) K29 (by omega) hG F73 (by omega) (by omega) F79 U28 kd0 kd1 kd2 kd3 ok6 ok15 ok21 ok27
  · have w80 := w31.pure (mkF m 179 #[.val (.int p0), .val (.long p1), .second, .val (.long p2), .second, .val (.int ((1 : Int32) + (p0 &&& (3 : Int32)))), .val (.int ((5 : Int32) - ((1 : Int32) + (p0 &&& (3 : Int32))))), .val (.ref a), .val (.ref b2), .unset, .unset] []) (fun X eT hZ hown k => by
        show Steps _ _ _ (State.setTop _ (mkF m 142 #[.val (.int p0), .val (.long p1), .second, .val (.long p2), .second, .val (.int ((1 : Int32) + (p0 &&& (3 : Int32)))), .val (.int ((5 : Int32) - ((1 : Int32) + (p0 &&& (3 : Int32))))), .val (.ref a), .val (.ref b2), .unset, .unset] [(.int (own_alnum c15))])) _
        refine S.ifYes X.here hx 179 (hb hby at_142) ((if0 _ _).trans (feq hc32).2) (by decide) (by decide) ?_
        exact k)
    have F81 := F25.wr W28 (by omega)
    have F82 := VA.ext E2
    have F83 := F82.keep K6 nin0
    have F84 := F83.other W8 (nne (by omega))
    have F85 := F84.other W16 (nne (by omega))
    have F86 := F85.other W22 (nne (by omega))
    have F87 := F86.other W28 (nne (by omega))
    exact ptT l Z a0 hw hE Bd hml p0 p1 p2 a b2 ka k2 d0 d1 d2 d3 c6 c15 c21 c27 h0 n0 Z0 (w80.more (k := 12) (n := 700) (by decide) (by decide)) K29 (by omega) hG F81 (by omega) (by omega) F87 U28 kd0 kd1 kd2 kd3 ok6 ok15 ok21 ok27
theorem ef0 (m : MethodId) (x0 : Int32) (x1 : Int64) (x2 : Int64) : entryFrame m #[(.int x0), (.long x1), (.long x2)] maxLocals = mkF m 0 #[.val (.int x0), .val (.long x1), .second, .val (.long x2), .second, .unset, .unset, .unset, .unset, .unset, .unset] [] := by first | (simp [entryFrame, mkF, argsToLocals, Value.category, maxLocals]; done) | rfl
theorem pn_23 : plainFor x = true := by first | decide +kernel | (apply plainFor_of_name; simp [plainName, overriddenIn]; done)
set_option maxRecDepth 65536 in
set_option maxHeartbeats 40000000 in
theorem rm0 (l : Launch) (Z : State) (a0 : Array Value) (hw : ∀ d ∈ tables_1, d.before a0 Z = true) (hE : EW Z a0 consts_1) (ws : List Jvm.Cond) (p0 : Int32) (p1 p2 : Int64) (h0 : Heap) (n0 : Nat) (Z0 : n0 ≤ h0.size) (hG : SetsOk Z) (X0 : Old Z n0 h0) :
    WMet l Z consts_1 x code maxLocals ret ws room_1 [(.int p0), (.long p1), (.long p2)] h0 n0 [] [] (fun v h => v = some (.int 1)) := by
  refine MetFree.of_bodySF pn_23 hisR ?_
  intro p e s m args below meth c s₁ Bd hml0 hP hK
  obtain ⟨rfl, hZ, hh, hC, hSf⟩ := hP
  have hx := Bd.exec
  have hby := Bd.bytes
  have hml : c.maxLocals = 11 := hml0
  have hnm := (name_of_methodNamed Bd.named Bd.method).1
  have w0 := Wk.start (a0 := a0) (EL := consts_1) (n0 := n0) (nw := false) Bd hZ hh hE hC (ef0 m p0 p1 p2) room_1 rfl
  have K0 : Keep h0 h0 [] := Keep.refl _ _
  have w1 := w0.pure (mkF m 14 #[.val (.int p0), .val (.long p1), .second, .val (.long p2), .second, .val (.int ((1 : Int32) + (p0 &&& (3 : Int32)))), .val (.int ((5 : Int32) - ((1 : Int32) + (p0 &&& (3 : Int32))))), .unset, .unset, .unset, .unset] [(.int (4 : Int32))]) (fun X eT hZ hown k => by
      show Steps _ _ _ (State.setTop _ (mkF m 0 #[.val (.int p0), .val (.long p1), .second, .val (.long p2), .second, .unset, .unset, .unset, .unset, .unset, .unset] [])) _
      refine S.iconst X.here hx (1 : Int32) (hb hby at_0) rfl ?_
      refine S.iloadN X.here hx (hb hby at_1) rfl ?_
      refine S.iconst X.here hx (3 : Int32) (hb hby at_2) rfl ?_
      refine S.iand X.here hx (hb hby at_3) ?_
      refine S.iadd X.here hx (hb hby at_4) ?_
      refine S.istore X.here hx (hb hby at_5) #[.val (.int p0), .val (.long p1), .second, .val (.long p2), .second, .val (.int ((1 : Int32) + (p0 &&& (3 : Int32)))), .unset, .unset, .unset, .unset, .unset] rfl ?_
      refine S.iconst X.here hx (5 : Int32) (hb hby at_7) rfl ?_
      refine S.iload X.here hx (hb hby at_8) rfl ?_
      refine S.isub X.here hx (hb hby at_10) ?_
      refine S.istore X.here hx (hb hby at_11) #[.val (.int p0), .val (.long p1), .second, .val (.long p2), .second, .val (.int ((1 : Int32) + (p0 &&& (3 : Int32)))), .val (.int ((5 : Int32) - ((1 : Int32) + (p0 &&& (3 : Int32))))), .unset, .unset, .unset, .unset] rfl ?_
      refine S.iconst X.here hx (4 : Int32) (hb hby at_13) rfl ?_
      exact k)
  obtain ⟨b2, h2, k2, g2, E2, l2, A2, y2, w2⟩ := w1.newP hx (hw _ (List.mem_of_getElem? (i := 0) rfl)) rfl (hb hby at_14) rfl (by decide) 4 (by decide) (by decide) (by decide) (by decide) (fun xq => (mkF m 16 #[.val (.int p0), .val (.long p1), .second, .val (.long p2), .second, .val (.int ((1 : Int32) + (p0 &&& (3 : Int32)))), .val (.int ((5 : Int32) - ((1 : Int32) + (p0 &&& (3 : Int32))))), .unset, .unset, .unset, .unset] (.ref xq :: []))) (fun _ => rfl)
  have z2 := E2.1
  have K3 : Keep h0 h2 [] := K0.ext E2
  have V2 : Arv Z h2 b2 k2 .char (4 : Int32) [(.int (0 : Int32)), (.int (0 : Int32)), (.int (0 : Int32)), (.int (0 : Int32))] (.int (0 : Int32)) := A2.pad (pad_rep [] (.int (0 : Int32)) 4)
  have w4 := w2.pure (mkF m 25 #[.val (.int p0), .val (.long p1), .second, .val (.long p2), .second, .val (.int ((1 : Int32) + (p0 &&& (3 : Int32)))), .val (.int ((5 : Int32) - ((1 : Int32) + (p0 &&& (3 : Int32))))), .val (.ref b2), .unset, .unset, .unset] [(.int ((1 : Int32) + (p0 &&& (3 : Int32)))), (.int (0 : Int32)), (.long p1), (.int (0 : Int32)), (.ref b2)]) (fun X eT hZ hown k => by
      show Steps _ _ _ (State.setTop _ (mkF m 16 #[.val (.int p0), .val (.long p1), .second, .val (.long p2), .second, .val (.int ((1 : Int32) + (p0 &&& (3 : Int32)))), .val (.int ((5 : Int32) - ((1 : Int32) + (p0 &&& (3 : Int32))))), .unset, .unset, .unset, .unset] [(.ref b2)])) _
      refine S.astore X.here hx (hb hby at_16) rfl #[.val (.int p0), .val (.long p1), .second, .val (.long p2), .second, .val (.int ((1 : Int32) + (p0 &&& (3 : Int32)))), .val (.int ((5 : Int32) - ((1 : Int32) + (p0 &&& (3 : Int32))))), .val (.ref b2), .unset, .unset, .unset] rfl ?_
      refine S.aload X.here hx (hb hby at_18) rfl rfl ?_
      refine S.iconst X.here hx (0 : Int32) (hb hby at_20) rfl ?_
      refine S.lloadN X.here hx (hb hby at_21) rfl ?_
      refine S.iconst X.here hx (0 : Int32) (hb hby at_22) rfl ?_
      refine S.iload X.here hx (hb hby at_23) rfl ?_
      exact k)
  have F5 := X0.ext E2
  obtain ⟨v6, vm6, h6, Q6, K6, z6, D6, C6, w6⟩ := w4.callSV hx (y := (⟨"com/example/rowanport/rowanport/util/MailAddressesDomainPinLaw", "localChar", "(JII)C"⟩ : MethodName)) (W := 2) (hw _ (List.mem_of_getElem? (i := 1) rfl)) (hw _ (List.mem_of_getElem? (i := 2) rfl)) (hw _ (List.mem_of_getElem? (i := 3) rfl)) (hw _ (List.mem_of_getElem? (i := 4) rfl)) (by decide) ((rmkAT l Z a0 hw hE p1 ((1 : Int32) + (p0 &&& (3 : Int32))) h2 n0 (by omega) hG F5).pay w4 (hw _ (List.mem_of_getElem? (i := 4) rfl)) (hw _ (List.mem_of_getElem? (i := 3) rfl)) (by decide) (by decide) (fun _ _ => trivial)) rfl (by rw [hml]; rfl) [(.int (0 : Int32)), (.ref b2)] (lenOf pd_19 rfl) rfl (by show 2 * 0 + _ ≤ _; exact Nat.le_of_eq rfl) (hb hby at_25) (by decide) (by decide)  (fun rv => (mkF m 28 #[.val (.int p0), .val (.long p1), .second, .val (.long p2), .second, .val (.int ((1 : Int32) + (p0 &&& (3 : Int32)))), .val (.int ((5 : Int32) - ((1 : Int32) + (p0 &&& (3 : Int32))))), .val (.ref b2), .unset, .unset, .unset] (rv.toList ++ [(.int (0 : Int32)), (.ref b2)]))) (fun _ => rfl)
  obtain ⟨c6, a6, rfl, ok6, LL6, S6⟩ := Q6
  have K7 : Keep h0 h6 [] := K3.trans K6 (fun _ q => nomatch q)
  have lt_a6 := S6.lt
  have F9 := V2.keep K6 nin0
  obtain ⟨h8, W8, z8, V8, w8⟩ := w6.stC hx F9 0 rfl (Nat.le_of_ble_eq_true rfl) ⟨by decide, by decide⟩ rfl rfl (hb hby at_28) (by omega) (mkF m 29 #[.val (.int p0), .val (.long p1), .second, .val (.long p2), .second, .val (.int ((1 : Int32) + (p0 &&& (3 : Int32)))), .val (.int ((5 : Int32) - ((1 : Int32) + (p0 &&& (3 : Int32))))), .val (.ref b2), .unset, .unset, .unset] []) rfl
  rw [nar_rng ok6.1] at V8
  have U8 : Arv Z h8 b2 k2 .char (4 : Int32) [(.int c6), (.int (0 : Int32)), (.int (0 : Int32)), (.int (0 : Int32))] (.int (0 : Int32)) := V8
  have K10 : Keep h0 h8 [] := K7.wr W8 (Or.inr (by omega))
  have w11 := w8.pure (mkF m 36 #[.val (.int p0), .val (.long p1), .second, .val (.long p2), .second, .val (.int ((1 : Int32) + (p0 &&& (3 : Int32)))), .val (.int ((5 : Int32) - ((1 : Int32) + (p0 &&& (3 : Int32))))), .val (.ref b2), .unset, .unset, .unset] [(.int ((1 : Int32) + (p0 &&& (3 : Int32)))), (.int (1 : Int32)), (.long p1), (.int (1 : Int32)), (.ref b2)]) (fun X eT hZ hown k => by
      show Steps _ _ _ (State.setTop _ (mkF m 29 #[.val (.int p0), .val (.long p1), .second, .val (.long p2), .second, .val (.int ((1 : Int32) + (p0 &&& (3 : Int32)))), .val (.int ((5 : Int32) - ((1 : Int32) + (p0 &&& (3 : Int32))))), .val (.ref b2), .unset, .unset, .unset] [])) _
      refine S.aload X.here hx (hb hby at_29) rfl rfl ?_
      refine S.iconst X.here hx (1 : Int32) (hb hby at_31) rfl ?_
      refine S.lloadN X.here hx (hb hby at_32) rfl ?_
      refine S.iconst X.here hx (1 : Int32) (hb hby at_33) rfl ?_
      refine S.iload X.here hx (hb hby at_34) rfl ?_
      exact k)
  have F12 := F5.keep K6 all0
  have F13 := F12.wr W8 (by omega)
  have F14 := S6.wrA W8 F9 (hw _ (List.mem_of_getElem? (i := 14) rfl))
  obtain ⟨v15, vm15, h15, Q15, K15, z15, D15, C15, w15⟩ := w11.callSV hx (y := (⟨"com/example/rowanport/rowanport/util/MailAddressesDomainPinLaw", "localChar", "(JII)C"⟩ : MethodName)) (W := 2) (hw _ (List.mem_of_getElem? (i := 1) rfl)) (hw _ (List.mem_of_getElem? (i := 2) rfl)) (hw _ (List.mem_of_getElem? (i := 3) rfl)) (hw _ (List.mem_of_getElem? (i := 4) rfl)) (by decide) ((rmvAT l Z a0 hw hE p1 (1 : Int32) ((1 : Int32) + (p0 &&& (3 : Int32))) a6 _ h8 n0 (by omega) hG F13 F14).pay w11 (hw _ (List.mem_of_getElem? (i := 4) rfl)) (hw _ (List.mem_of_getElem? (i := 3) rfl)) (by decide) (by decide) (fun _ hv => LitV.stays LL6 hv)) rfl (by rw [hml]; rfl) [(.int (1 : Int32)), (.ref b2)] (lenOf pd_19 rfl) rfl (by show 2 * 0 + _ ≤ _; exact Nat.le_of_eq rfl) (hb hby at_36) (by decide) (by decide)  (fun rv => (mkF m 39 #[.val (.int p0), .val (.long p1), .second, .val (.long p2), .second, .val (.int ((1 : Int32) + (p0 &&& (3 : Int32)))), .val (.int ((5 : Int32) - ((1 : Int32) + (p0 &&& (3 : Int32))))), .val (.ref b2), .unset, .unset, .unset] (rv.toList ++ [(.int (1 : Int32)), (.ref b2)]))) (fun _ => rfl)
  have LL6_15 := LitV.stays LL6 D15
  obtain ⟨c15, rfl, ok15, rfl⟩ := Q15
  obtain ⟨h16, W16, z16, V16, w16⟩ := w15.stC hx U8 1 rfl (Nat.le_of_ble_eq_true rfl) ⟨by decide, by decide⟩ rfl rfl (hb hby at_39) (by omega) (mkF m 40 #[.val (.int p0), .val (.long p1), .second, .val (.long p2), .second, .val (.int ((1 : Int32) + (p0 &&& (3 : Int32)))), .val (.int ((5 : Int32) - ((1 : Int32) + (p0 &&& (3 : Int32))))), .val (.ref b2), .unset, .unset, .unset] []) rfl
  rw [nar_rng ok15.1] at V16
  have U16 : Arv Z h16 b2 k2 .char (4 : Int32) [(.int c6), (.int c15), (.int (0 : Int32)), (.int (0 : Int32))] (.int (0 : Int32)) := V16
  have K17 : Keep h0 h16 [] := K10.wr W16 (Or.inr (by omega))
  have w18 := w16.pure (mkF m 47 #[.val (.int p0), .val (.long p1), .second, .val (.long p2), .second, .val (.int ((1 : Int32) + (p0 &&& (3 : Int32)))), .val (.int ((5 : Int32) - ((1 : Int32) + (p0 &&& (3 : Int32))))), .val (.ref b2), .unset, .unset, .unset] [(.int ((1 : Int32) + (p0 &&& (3 : Int32)))), (.int (2 : Int32)), (.long p1), (.int (2 : Int32)), (.ref b2)]) (fun X eT hZ hown k => by
      show Steps _ _ _ (State.setTop _ (mkF m 40 #[.val (.int p0), .val (.long p1), .second, .val (.long p2), .second, .val (.int ((1 : Int32) + (p0 &&& (3 : Int32)))), .val (.int ((5 : Int32) - ((1 : Int32) + (p0 &&& (3 : Int32))))), .val (.ref b2), .unset, .unset, .unset] [])) _
      refine S.aload X.here hx (hb hby at_40) rfl rfl ?_
      refine S.iconst X.here hx (2 : Int32) (hb hby at_42) rfl ?_
      refine S.lloadN X.here hx (hb hby at_43) rfl ?_
      refine S.iconst X.here hx (2 : Int32) (hb hby at_44) rfl ?_
      refine S.iload X.here hx (hb hby at_45) rfl ?_
      exact k)
  have F19 := F13.wr W16 (by omega)
  have F20 := F14.wrA W16 U8 (hw _ (List.mem_of_getElem? (i := 14) rfl))
  obtain ⟨v21, vm21, h21, Q21, K21, z21, D21, C21, w21⟩ := w18.callSV hx (y := (⟨"com/example/rowanport/rowanport/util/MailAddressesDomainPinLaw", "localChar", "(JII)C"⟩ : MethodName)) (W := 2) (hw _ (List.mem_of_getElem? (i := 1) rfl)) (hw _ (List.mem_of_getElem? (i := 2) rfl)) (hw _ (List.mem_of_getElem? (i := 3) rfl)) (hw _ (List.mem_of_getElem? (i := 4) rfl)) (by decide) ((rmvAT l Z a0 hw hE p1 (2 : Int32) ((1 : Int32) + (p0 &&& (3 : Int32))) a6 _ h16 n0 (by omega) hG F19 F20).pay w18 (hw _ (List.mem_of_getElem? (i := 4) rfl)) (hw _ (List.mem_of_getElem? (i := 3) rfl)) (by decide) (by decide) (fun _ hv => LitV.stays LL6_15 hv)) rfl (by rw [hml]; rfl) [(.int (2 : Int32)), (.ref b2)] (lenOf pd_19 rfl) rfl (by show 2 * 0 + _ ≤ _; exact Nat.le_of_eq rfl) (hb hby at_47) (by decide) (by decide)  (fun rv => (mkF m 50 #[.val (.int p0), .val (.long p1), .second, .val (.long p2), .second, .val (.int ((1 : Int32) + (p0 &&& (3 : Int32)))), .val (.int ((5 : Int32) - ((1 : Int32) + (p0 &&& (3 : Int32))))), .val (.ref b2), .unset, .unset, .unset] (rv.toList ++ [(.int (2 : Int32)), (.ref b2)]))) (fun _ => rfl)
  have LL6_21 := LitV.stays LL6_15 D21
  obtain ⟨c21, rfl, ok21, rfl⟩ := Q21
  obtain ⟨h22, W22, z22, V22, w22⟩ := w21.stC hx U16 2 rfl (Nat.le_of_ble_eq_true rfl) ⟨by decide, by decide⟩ rfl rfl (hb hby at_50) (by omega) (mkF m 51 #[.val (.int p0), .val (.long p1), .second, .val (.long p2), .second, .val (.int ((1 : Int32) + (p0 &&& (3 : Int32)))), .val (.int ((5 : Int32) - ((1 : Int32) + (p0 &&& (3 : Int32))))), .val (.ref b2), .unset, .unset, .unset] []) rfl
  rw [nar_rng ok21.1] at V22
  have U22 : Arv Z h22 b2 k2 .char (4 : Int32) [(.int c6), (.int c15), (.int c21), (.int (0 : Int32))] (.int (0 : Int32)) := V22
  have K23 : Keep h0 h22 [] := K17.wr W22 (Or.inr (by omega))
  have w24 := w22.pure (mkF m 58 #[.val (.int p0), .val (.long p1), .second, .val (.long p2), .second, .val (.int ((1 : Int32) + (p0 &&& (3 : Int32)))), .val (.int ((5 : Int32) - ((1 : Int32) + (p0 &&& (3 : Int32))))), .val (.ref b2), .unset, .unset, .unset] [(.int ((1 : Int32) + (p0 &&& (3 : Int32)))), (.int (3 : Int32)), (.long p1), (.int (3 : Int32)), (.ref b2)]) (fun X eT hZ hown k => by
      show Steps _ _ _ (State.setTop _ (mkF m 51 #[.val (.int p0), .val (.long p1), .second, .val (.long p2), .second, .val (.int ((1 : Int32) + (p0 &&& (3 : Int32)))), .val (.int ((5 : Int32) - ((1 : Int32) + (p0 &&& (3 : Int32))))), .val (.ref b2), .unset, .unset, .unset] [])) _
      refine S.aload X.here hx (hb hby at_51) rfl rfl ?_
      refine S.iconst X.here hx (3 : Int32) (hb hby at_53) rfl ?_
      refine S.lloadN X.here hx (hb hby at_54) rfl ?_
      refine S.iconst X.here hx (3 : Int32) (hb hby at_55) rfl ?_
      refine S.iload X.here hx (hb hby at_56) rfl ?_
      exact k)
  have F25 := F19.wr W22 (by omega)
  have F26 := F20.wrA W22 U16 (hw _ (List.mem_of_getElem? (i := 14) rfl))
  obtain ⟨v27, vm27, h27, Q27, K27, z27, D27, C27, w27⟩ := w24.callSV hx (y := (⟨"com/example/rowanport/rowanport/util/MailAddressesDomainPinLaw", "localChar", "(JII)C"⟩ : MethodName)) (W := 2) (hw _ (List.mem_of_getElem? (i := 1) rfl)) (hw _ (List.mem_of_getElem? (i := 2) rfl)) (hw _ (List.mem_of_getElem? (i := 3) rfl)) (hw _ (List.mem_of_getElem? (i := 4) rfl)) (by decide) ((rmvAT l Z a0 hw hE p1 (3 : Int32) ((1 : Int32) + (p0 &&& (3 : Int32))) a6 _ h22 n0 (by omega) hG F25 F26).pay w24 (hw _ (List.mem_of_getElem? (i := 4) rfl)) (hw _ (List.mem_of_getElem? (i := 3) rfl)) (by decide) (by decide) (fun _ hv => LitV.stays LL6_21 hv)) rfl (by rw [hml]; rfl) [(.int (3 : Int32)), (.ref b2)] (lenOf pd_19 rfl) rfl (by show 2 * 0 + _ ≤ _; exact Nat.le_of_eq rfl) (hb hby at_58) (by decide) (by decide)  (fun rv => (mkF m 61 #[.val (.int p0), .val (.long p1), .second, .val (.long p2), .second, .val (.int ((1 : Int32) + (p0 &&& (3 : Int32)))), .val (.int ((5 : Int32) - ((1 : Int32) + (p0 &&& (3 : Int32))))), .val (.ref b2), .unset, .unset, .unset] (rv.toList ++ [(.int (3 : Int32)), (.ref b2)]))) (fun _ => rfl)
  have LL6_27 := LitV.stays LL6_21 D27
  obtain ⟨c27, rfl, ok27, rfl⟩ := Q27
  obtain ⟨h28, W28, z28, V28, w28⟩ := w27.stC hx U22 3 rfl (Nat.le_of_ble_eq_true rfl) ⟨by decide, by decide⟩ rfl rfl (hb hby at_61) (by omega) (mkF m 62 #[.val (.int p0), .val (.long p1), .second, .val (.long p2), .second, .val (.int ((1 : Int32) + (p0 &&& (3 : Int32)))), .val (.int ((5 : Int32) - ((1 : Int32) + (p0 &&& (3 : Int32))))), .val (.ref b2), .unset, .unset, .unset] []) rfl
  rw [nar_rng ok27.1] at V28
  have U28 : Arv Z h28 b2 k2 .char (4 : Int32) [(.int c6), (.int c15), (.int c21), (.int c27)] (.int (0 : Int32)) := V28
  have K29 : Keep h0 h28 [] := K23.wr W28 (Or.inr (by omega))
  have w30 := w28.pure (mkF m 68 #[.val (.int p0), .val (.long p1), .second, .val (.long p2), .second, .val (.int ((1 : Int32) + (p0 &&& (3 : Int32)))), .val (.int ((5 : Int32) - ((1 : Int32) + (p0 &&& (3 : Int32))))), .val (.ref b2), .unset, .unset, .unset] [(.int (46 : Int32)), (.int c15)]) (fun X eT hZ hown k => by
      show Steps _ _ _ (State.setTop _ (mkF m 62 #[.val (.int p0), .val (.long p1), .second, .val (.long p2), .second, .val (.int ((1 : Int32) + (p0 &&& (3 : Int32)))), .val (.int ((5 : Int32) - ((1 : Int32) + (p0 &&& (3 : Int32))))), .val (.ref b2), .unset, .unset, .unset] [])) _
      refine S.aload X.here hx (hb hby at_62) rfl rfl ?_
      refine S.iconst X.here hx (1 : Int32) (hb hby at_64) rfl ?_
      refine caV X hx eT hZ U28 (v := (.int c15)) ⟨by decide, by decide⟩ rfl rfl rfl (hb hby at_65) ?_
      show Steps _ _ _ (State.setTop _ (mkF m 66 #[.val (.int p0), .val (.long p1), .second, .val (.long p2), .second, .val (.int ((1 : Int32) + (p0 &&& (3 : Int32)))), .val (.int ((5 : Int32) - ((1 : Int32) + (p0 &&& (3 : Int32))))), .val (.ref b2), .unset, .unset, .unset] [(.int c15)])) _
      refine S.bipush X.here hx (46 : Int32) (hb hby at_66) rfl ?_
      exact k)
  by_cases hc31 : c15 = (46 : Int32)
  · have w32 := w30.pure (mkF m 77 #[.val (.int p0), .val (.long p1), .second, .val (.long p2), .second, .val (.int ((1 : Int32) + (p0 &&& (3 : Int32)))), .val (.int ((5 : Int32) - ((1 : Int32) + (p0 &&& (3 : Int32))))), .val (.ref b2), .unset, .unset, .unset] [(.int (46 : Int32)), (.int c21)]) (fun X eT hZ hown k => by
        show Steps _ _ _ (State.setTop _ (mkF m 68 #[.val (.int p0), .val (.long p1), .second, .val (.long p2), .second, .val (.int ((1 : Int32) + (p0 &&& (3 : Int32)))), .val (.int ((5 : Int32) - ((1 : Int32) + (p0 &&& (3 : Int32))))), .val (.ref b2), .unset, .unset, .unset] [(.int (46 : Int32)), (.int c15)])) _
        refine S.icmpNo X.here hx (hb hby at_68) (teq hc31).2 ?_
        refine S.aload X.here hx (hb hby at_71) rfl rfl ?_
        refine S.iconst X.here hx (2 : Int32) (hb hby at_73) rfl ?_
        refine caV X hx eT hZ U28 (v := (.int c21)) ⟨by decide, by decide⟩ rfl rfl rfl (hb hby at_74) ?_
        show Steps _ _ _ (State.setTop _ (mkF m 75 #[.val (.int p0), .val (.long p1), .second, .val (.long p2), .second, .val (.int ((1 : Int32) + (p0 &&& (3 : Int32)))), .val (.int ((5 : Int32) - ((1 : Int32) + (p0 &&& (3 : Int32))))), .val (.ref b2), .unset, .unset, .unset] [(.int c21)])) _
        refine S.bipush X.here hx (46 : Int32) (hb hby at_75) rfl ?_
        exact k)
    by_cases hc33 : c21 = (46 : Int32)
    · have w34 := w32.pure (mkF m 85 #[.val (.int p0), .val (.long p1), .second, .val (.long p2), .second, .val (.int ((1 : Int32) + (p0 &&& (3 : Int32)))), .val (.int ((5 : Int32) - ((1 : Int32) + (p0 &&& (3 : Int32))))), .val (.ref b2), .unset, .unset, .unset] [(.int (113 : Int32)), (.int (2 : Int32)), (.ref b2)]) (fun X eT hZ hown k => by
          show Steps _ _ _ (State.setTop _ (mkF m 77 #[.val (.int p0), .val (.long p1), .second, .val (.long p2), .second, .val (.int ((1 : Int32) + (p0 &&& (3 : Int32)))), .val (.int ((5 : Int32) - ((1 : Int32) + (p0 &&& (3 : Int32))))), .val (.ref b2), .unset, .unset, .unset] [(.int (46 : Int32)), (.int c21)])) _
          refine S.icmpNo X.here hx (hb hby at_77) (teq hc33).2 ?_
          refine S.aload X.here hx (hb hby at_80) rfl rfl ?_
          refine S.iconst X.here hx (2 : Int32) (hb hby at_82) rfl ?_
          refine S.bipush X.here hx (113 : Int32) (hb hby at_83) rfl ?_
          exact k)
      obtain ⟨h35, W35, z35, V35, w35⟩ := w34.stC hx U28 2 rfl (Nat.le_of_ble_eq_true rfl) ⟨by decide, by decide⟩ rfl rfl (hb hby at_85) (by omega) (mkF m 86 #[.val (.int p0), .val (.long p1), .second, .val (.long p2), .second, .val (.int ((1 : Int32) + (p0 &&& (3 : Int32)))), .val (.int ((5 : Int32) - ((1 : Int32) + (p0 &&& (3 : Int32))))), .val (.ref b2), .unset, .unset, .unset] []) rfl
      rw [show nar .char (113 : Int32) = (113 : Int32) from rfl] at V35
      have U35 : Arv Z h35 b2 k2 .char (4 : Int32) [(.int c6), (.int c15), (.int (113 : Int32)), (.int c27)] (.int (0 : Int32)) := V35
      have K36 : Keep h0 h35 [] := K29.wr W35 (Or.inr (by omega))
      have F37 := F25.wr W28 (by omega)
      have F38 := F37.wr W35 (by omega)
      exact ptM l Z a0 hw hE Bd hml p0 p1 p2 b2 k2 c6 c15 (113 : Int32) c27 h0 n0 Z0 (w35.more (k := 5) (n := 360) (by decide) (by decide)) K36 (by omega) hG F38 (by omega) U35 ok6 ok15 (show own_ok (113 : Int32) by unfold own_ok; decide) ok27
    · have w39 := w32.pure (mkF m 86 #[.val (.int p0), .val (.long p1), .second, .val (.long p2), .second, .val (.int ((1 : Int32) + (p0 &&& (3 : Int32)))), .val (.int ((5 : Int32) - ((1 : Int32) + (p0 &&& (3 : Int32))))), .val (.ref b2), .unset, .unset, .unset] []) (fun X eT hZ hown k => by
          show Steps _ _ _ (State.setTop _ (mkF m 77 #[.val (.int p0), .val (.long p1), .second, .val (.long p2), .second, .val (.int ((1 : Int32) + (p0 &&& (3 : Int32)))), .val (.int ((5 : Int32) - ((1 : Int32) + (p0 &&& (3 : Int32))))), .val (.ref b2), .unset, .unset, .unset] [(.int (46 : Int32)), (.int c21)])) _
          refine S.icmpYes X.here hx 86 (hb hby at_77) (feq hc33).2 (by decide) (by decide) ?_
          exact k)
      have F40 := F25.wr W28 (by omega)
      exact ptM l Z a0 hw hE Bd hml p0 p1 p2 b2 k2 c6 c15 c21 c27 h0 n0 Z0 (w39.more (k := 5) (n := 360) (by decide) (by decide)) K29 (by omega) hG F40 (by omega) U28 ok6 ok15 ok21 ok27
  · have w41 := w30.pure (mkF m 86 #[.val (.int p0), .val (.long p1), .second, .val (.long p2), .second, .val (.int ((1 : Int32) + (p0 &&& (3 : Int32)))), .val (.int ((5 : Int32) - ((1 : Int32) + (p0 &&& (3 : Int32))))), .val (.ref b2), .unset, .unset, .unset] []) (fun X eT hZ hown k => by
        show Steps _ _ _ (State.setTop _ (mkF m 68 #[.val (.int p0), .val (.long p1), .second, .val (.long p2), .second, .val (.int ((1 : Int32) + (p0 &&& (3 : Int32)))), .val (.int ((5 : Int32) - ((1 : Int32) + (p0 &&& (3 : Int32))))), .val (.ref b2), .unset, .unset, .unset] [(.int (46 : Int32)), (.int c15)])) _
        refine S.icmpYes X.here hx 86 (hb hby at_68) (feq hc31).2 (by decide) (by decide) ?_
        exact k)
    have F42 := F25.wr W28 (by omega)
    exact ptM l Z a0 hw hE Bd hml p0 p1 p2 b2 k2 c6 c15 c21 c27 h0 n0 Z0 (w41.more (k := 5) (n := 360) (by decide) (by decide)) K29 (by omega) hG F42 (by omega) U28 ok6 ok15 ok21 ok27
set_option maxRecDepth 65536 in
set_option maxHeartbeats 40000000 in
theorem comes_1 {Post : Tables → Env → Array Value → State → Outcome → State → Prop} (hpost : ∀ tb e args s v u, (limb_1_1.after args s (.returned v) u = true ∧ limb_1_2.after args s (.returned v) u = true ∧ True) → ReturnedEndW s (.returned v) u (Jvm.fieldLocs frame_1_writes args s ++ Jvm.arrayLocs frame_1_arrays args s ++ Jvm.staticLocs frame_1_statics s) 32 2240 → Post tb e args s (.returned v) u) :
    ArmFor flags0 classFile x code maxLocals ret World_1 tables_1 room_1 Calls_1 rest_1 Pre_1 Post := by
  intro l hfl _ _ p e ha hc hk s m args below hf hA hF happ hP
  obtain ⟨hcalls, hrest, hpre⟩ := hP
  obtain ⟨-, -, -, hnamed, -, -, -, hat⟩ := (Spec.applies_iff hf).mp happ
  obtain ⟨hg, hn⟩ := and_e (Cond.before_iff.mp (show (Jvm.Cond.and given_1 narrow_1).before args s = true from hpre))
  obtain ⟨g0, r0⟩ := and_e hg
  obtain ⟨g1, r1⟩ := and_e r0
  obtain ⟨g2, r2⟩ := and_e r1
  obtain ⟨w0, w1, w2, rfl⟩ : ∃ w0 w1 w2 : Value, args = #[w0, w1, w2] := by
    have hs : args.size = 3 := by simpa [Cond.value, given_1] using g0
    obtain ⟨L⟩ := args
    match L, hs with
    | [w0, w1, w2], _ => exact ⟨w0, w1, w2, rfl⟩
  have hw := fun d (hd : d ∈ tables_1) => atoms_spec (ws := Jvm.Cond.code x code maxLocals ret :: tables_1) hat d (List.mem_cons_of_mem _ hd)
  have hfit : Fit s := fun {y c} hc i hi => by
    obtain ⟨ha, rfl⟩ := Array.getElem?_eq_some_iff.mp hc
    have q := List.all_eq_true.mp ((Array.all_eq_true_iff_forall_mem.mp hF) _ (Array.getElem_mem ha)) i (List.mem_range.mpr hi)
    simpa [Array.getElem?_eq_getElem hi] using q
  obtain ⟨i0, e0⟩ := is_v g1
  obtain rfl : w0 = (.int i0) := Option.some.inj e0
  obtain ⟨i1, e1⟩ := isL_v g2
  obtain rfl : w1 = (.long i1) := Option.some.inj e1
  obtain ⟨i2, e2⟩ := isL_v r2
  obtain rfl : w2 = (.long i2) := Option.some.inj e2
  obtain ⟨hsets, hown0⟩ := atoms_of _ (rest_1_c_eq ▸ (show rest_1_c.before _ s = true from hrest))
  have hG : SetsOk s := by
    have n5 := not_v (Cond.before_iff.mp (hsets _ (List.mem_of_getElem? (i := 2) rfl)))
    obtain ⟨i11, e10⟩ := is_v (Cond.before_iff.mp (hsets _ (List.mem_of_getElem? (i := 1) rfl)))
    obtain ⟨v13, e14, r15⟩ := isR_v (Cond.before_iff.mp (hsets _ (List.mem_of_getElem? (i := 8) rfl)))
    exact ⟨i11, v13, Sta.start e10 (Or.inl (hsets _ (List.mem_of_getElem? (i := 0) rfl))), gotF (Cond.eq_ints e10 (Term.int_eval (0))) n5, Sta.start e14 (Or.inl (hsets _ (List.mem_of_getElem? (i := 7) rfl))), r15⟩
  have hE : EW s _ consts_1 := (EW.cons (hw _ (List.mem_of_getElem? (i := 12) rfl)) (by decide +kernel) (EW.cons (hw _ (List.mem_of_getElem? (i := 61) rfl)) (by decide +kernel) EW.nil))
  have hC : CHv s consts_1 s.vm s.heap := CHv.start hE hcalls.1 (hsets _ (List.mem_of_getElem? (i := 2) rfl)) (hw _ (List.mem_of_getElem? (i := 15) rfl)) (hw _ (List.mem_of_getElem? (i := 14) rfl))
  obtain ⟨n, o, h1, h2, h3, _, L, rfl, ⟨rfl, -, N⟩, -, hq⟩ := rm0 l s _ hw hE tables_1 i0 i1 i2 s.heap s.heap.size (Nat.le_refl _) hG (Old.start s) p e ha hc hk s m _ below hf ((Spec.applies_iff_loose hf).mp happ).1 ⟨rfl, State.Warmed39.refl s, rfl, hC, sf0⟩ trivial
  refine ⟨n, _, h1, h2, h3, hpost _ _ _ _ _ _ ⟨Cond.after_iff.mpr rfl, Cond.after_iff.mpr (eq_i res_at (Term.int_eval (1)) rfl), trivial⟩ ⟨hq.1, hq.2.1, hq.2.2.1, (hq.2.2.2.sift fun y hy => Or.inr (N y hy)).mono (by decide) (by decide)⟩⟩
theorem main_1_1 : Claimed_1_1 := comes_1 fun _ _ _ _ _ _ h hF => ⟨h.1, hF⟩
theorem main_1_2 : Claimed_1_2 := comes_1 fun _ _ _ _ _ _ h hF => ⟨h.2.1, hF⟩
end Jvm.Pilot.@@N@@
namespace Jvm.Pilot.@@N@@
open Jvm Jvm.ClassFile Sem Op Lib Jvm.Free Jvm.Stand Jvm.Pilot.@@N@@.Jvm.D
/-! MADE BY PROGRAM (witnessworld.py) out of the Statement's table words and the real class files: 23 classes; the members and pool entries that the words name. The judged class is class 1, her method 8. -/
namespace start1
open Jvm.ClassFile
def u (s : String) : CpInfo := .utf8 (stringToUtf16 s)
/-- a pool by its gaps: so many unusable entries, then the entry; so many at the end -/
def gap : Nat → List CpInfo → List CpInfo
  | 0, r => r
  | n + 1, r => .unusable :: gap n r
def poolList (es : List (Nat × CpInfo)) (last : Nat) : List CpInfo := es.foldr (fun e r => gap e.1 (e.2 :: r)) (gap last [])
def pool (es : List (Nat × CpInfo)) (last : Nat) : Array CpInfo := ⟨poolList es last⟩
def fileOf (pool : Array CpInfo) (this : Nat) (attrs : Array Attribute := #[]) (ms : Array MethodInfo := #[]) (fl : Nat := 33) (sup : Nat := 0) (ifs : Array Nat := #[]) (fds : Array FieldInfo := #[]) : ClassFile where
  minorVersion := 0
  majorVersion := 65
  constantPool := pool
  accessFlags := fl
  thisClass := this
  superClass := sup
  interfaces := ifs
  fields := fds
  methods := ms
  attributes := attrs
def plain (name : String) (sup : Option ClassId) : Class where
  name := name
  kind := .ordinary
  loader := none
  accessFlags := 33
  super := sup
  interfaces := #[]
  cf := none
  fields := #[]
  methods := #[]
  instanceTypes := #[]
  staticTypes := #[]
  resolved := #[]
  callSites := []
  init := .initialized
  statics := none
  mirror := none

def pool0 : Array CpInfo := pool [(5, u "<init>"), (0, u "()V"), (1, .class_ 10), (1, u "java/lang/Object")] 113

def k0c0 : Code := { maxStack := 0, maxLocals := 1, code := object_method_1_code, exceptionTable := #[], attributes := #[] }
def k0m0 : Method := { name := "<init>", desc := "()V", sig := { parameters := [], returnType := none }, accessFlags := 1, code := some k0c0 }
/-- java/lang/Object -/
def k0 : Class := { plain "java/lang/Object" none with
  accessFlags := 33
  interfaces := #[]
  cf := some (fileOf pool0 8 #[] #[{ accessFlags := 1, nameIndex := 5, descriptorIndex := 6, attributes := #[] }] 33 0 #[] #[])
  fields := #[]
  methods := #[k0m0]
  instanceTypes := #[]
  staticTypes := #[]
  resolved := Array.replicate 124 none
  statics := none }

def pool1 : Array CpInfo := pool [(2, .class_ 4), (1, u "java/lang/Object"), (0, u "<init>"), (0, u "()V"), (0, .long 255), (1, .string 10), (0, u "ABCDEFGHIJKLMNOPQRSTUVWXYZabcdefghijklmnopqrstuvwxyz0123456789!#$%&'*+/=?^_`{|}~-"), (0, .methodref 12 13), (0, .class_ 14), (0, .nameAndType 15 16), (0, u "java/lang/String"), (0, u "length"), (0, u "()I"), (0, .methodref 12 18), (0, .nameAndType 19 20), (0, u "charAt"), (0, u "(I)C"), (0, .string 22), (0, u "ABCDEFGHIJKLMNOPQRSTUVWXYZabcdefghijklmnopqrstuvwxyz0123456789"), (0, .methodref 24 25), (0, .class_ 26), (0, .nameAndType 27 28), (0, u "com/example/rowanport/rowanport/util/MailAddressesDomainPinLaw"), (0, u "octet"), (0, u "(JI)I"), (0, .methodref 24 30), (0, .nameAndType 31 20), (0, u "atom"), (0, .methodref 24 33), (0, .nameAndType 34 20), (0, u "alnum"), (0, .methodref 24 36), (0, .nameAndType 37 38), (0, u "localChar"), (0, u "(JII)C"), (0, .methodref 24 40), (0, .nameAndType 41 38), (0, u "domainChar"), (0, .methodref 24 43), (0, .nameAndType 44 45), (0, u "isAlnum"), (0, u "(C)Z"), (0, .methodref 24 47), (0, .nameAndType 48 49), (0, u "at"), (0, u "([C[CII)C"), (0, .methodref 12 51), (0, .nameAndType 5 52), (0, u "([C)V"), (0, .methodref 54 55), (0, .class_ 56), (0, .nameAndType 57 58), (0, u "com/example/rowanport/rowanport/util/MailAddresses"), (0, u "domain"), (0, u "(Ljava/lang/String;)Ljava/lang/String;"), (3, u "law"), (0, u "(IJJ)Z")] 4

def k1m0 : Method := { name := "<init>", desc := "()V", sig := { parameters := [], returnType := none }, accessFlags := 2, code := none }
def k1c1 : Code := { maxStack := 4, maxLocals := 3, code := method_2_code, exceptionTable := #[], attributes := #[] }
def k1m1 : Method := { name := "octet", desc := "(JI)I", sig := { parameters := [.long, .int], returnType := some .int }, accessFlags := 10, code := some k1c1 }
def k1c2 : Code := { maxStack := 3, maxLocals := 2, code := method_3_code, exceptionTable := #[], attributes := #[] }
def k1m2 : Method := { name := "atom", desc := "(I)C", sig := { parameters := [.int], returnType := some .char }, accessFlags := 10, code := some k1c2 }
def k1c3 : Code := { maxStack := 3, maxLocals := 2, code := method_4_code, exceptionTable := #[], attributes := #[] }
def k1m3 : Method := { name := "alnum", desc := "(I)C", sig := { parameters := [.int], returnType := some .char }, accessFlags := 10, code := some k1c3 }
def k1c4 : Code := { maxStack := 2, maxLocals := 1, code := method_5_code, exceptionTable := #[], attributes := #[] }
def k1m4 : Method := { name := "isAlnum", desc := "(C)Z", sig := { parameters := [.char], returnType := some .boolean }, accessFlags := 10, code := some k1c4 }
def k1c5 : Code := { maxStack := 3, maxLocals := 5, code := method_6_code, exceptionTable := #[], attributes := #[] }
def k1m5 : Method := { name := "localChar", desc := "(JII)C", sig := { parameters := [.long, .int, .int], returnType := some .char }, accessFlags := 10, code := some k1c5 }
def k1c6 : Code := { maxStack := 3, maxLocals := 6, code := method_7_code, exceptionTable := #[], attributes := #[] }
def k1m6 : Method := { name := "domainChar", desc := "(JII)C", sig := { parameters := [.long, .int, .int], returnType := some .char }, accessFlags := 10, code := some k1c6 }
def k1c7 : Code := { maxStack := 3, maxLocals := 4, code := method_8_code, exceptionTable := #[], attributes := #[] }
def k1m7 : Method := { name := "at", desc := "([C[CII)C", sig := { parameters := [(.array .char), (.array .char), .int, .int], returnType := some .char }, accessFlags := 10, code := some k1c7 }
def k1c8 : Code := { maxStack := 6, maxLocals := 11, code := code, exceptionTable := #[], attributes := #[] }
def k1m8 : Method := { name := "law", desc := "(IJJ)Z", sig := { parameters := [.int, .long, .long], returnType := some .boolean }, accessFlags := 9, code := some k1c8 }
/-- com/example/rowanport/rowanport/util/MailAddressesDomainPinLaw -/
def k1 : Class := { plain "com/example/rowanport/rowanport/util/MailAddressesDomainPinLaw" (some 0) with
  accessFlags := 49
  interfaces := #[]
  cf := some (fileOf pool1 24 #[] #[{ accessFlags := 2, nameIndex := 5, descriptorIndex := 6, attributes := #[] }, { accessFlags := 10, nameIndex := 27, descriptorIndex := 28, attributes := #[] }, { accessFlags := 10, nameIndex := 31, descriptorIndex := 20, attributes := #[] }, { accessFlags := 10, nameIndex := 34, descriptorIndex := 20, attributes := #[] }, { accessFlags := 10, nameIndex := 44, descriptorIndex := 45, attributes := #[] }, { accessFlags := 10, nameIndex := 37, descriptorIndex := 38, attributes := #[] }, { accessFlags := 10, nameIndex := 41, descriptorIndex := 38, attributes := #[] }, { accessFlags := 10, nameIndex := 48, descriptorIndex := 49, attributes := #[] }, { accessFlags := 9, nameIndex := 62, descriptorIndex := 63, attributes := #[] }] 49 2 #[] #[])
  fields := #[]
  methods := #[k1m0, k1m1, k1m2, k1m3, k1m4, k1m5, k1m6, k1m7, k1m8]
  instanceTypes := #[]
  staticTypes := #[]
  resolved := Array.replicate 68 none
  statics := none }

def pool2 : Array CpInfo := pool [(1, .class_ 2), (0, u "java/io/Serializable"), (0, .class_ 4), (0, u "java/lang/Object")] 2

/-- java/io/Serializable -/
def k2 : Class := { plain "java/io/Serializable" (some 0) with
  accessFlags := 1537
  interfaces := #[]
  cf := some (fileOf pool2 1 #[] #[] 1537 3 #[] #[])
  fields := #[]
  methods := #[]
  instanceTypes := #[]
  staticTypes := #[]
  resolved := Array.replicate 7 none
  statics := none }

def pool3 : Array CpInfo := pool [(1, .class_ 2), (0, u "java/lang/Comparable"), (0, .class_ 4), (0, u "java/lang/Object")] 7

/-- java/lang/Comparable -/
def k3 : Class := { plain "java/lang/Comparable" (some 0) with
  accessFlags := 1537
  interfaces := #[]
  cf := some (fileOf pool3 1 #[] #[] 1537 3 #[] #[])
  fields := #[]
  methods := #[]
  instanceTypes := #[]
  staticTypes := #[]
  resolved := Array.replicate 12 none
  statics := none }

def pool4 : Array CpInfo := pool [(2, .class_ 4), (1, u "java/lang/CharSequence"), (42, .class_ 48), (0, u "java/lang/CharSequence$1CodePointIterator"), (10, .class_ 60), (0, u "java/lang/CharSequence$1CharIterator"), (5, .class_ 67), (0, u "java/lang/Object")] 63

/-- java/lang/CharSequence -/
def k4 : Class := { plain "java/lang/CharSequence" (some 0) with
  accessFlags := 1537
  interfaces := #[]
  cf := some (fileOf pool4 2 #[.nestMembers #[47, 59]] #[] 1537 66 #[] #[])
  fields := #[]
  methods := #[]
  instanceTypes := #[]
  staticTypes := #[]
  resolved := Array.replicate 131 none
  statics := none }

def pool5 : Array CpInfo := pool [(1, .class_ 2), (0, u "java/lang/constant/Constable"), (0, .class_ 4), (0, u "java/lang/Object")] 6

/-- java/lang/constant/Constable -/
def k5 : Class := { plain "java/lang/constant/Constable" (some 0) with
  accessFlags := 1537
  interfaces := #[]
  cf := some (fileOf pool5 1 #[] #[] 1537 3 #[] #[])
  fields := #[]
  methods := #[]
  instanceTypes := #[]
  staticTypes := #[]
  resolved := Array.replicate 11 none
  statics := none }

def pool6 : Array CpInfo := pool [(1, .class_ 2), (0, u "java/lang/constant/ConstantDesc"), (0, .class_ 4), (0, u "java/lang/Object")] 32

/-- java/lang/constant/ConstantDesc -/
def k6 : Class := { plain "java/lang/constant/ConstantDesc" (some 0) with
  accessFlags := 1537
  interfaces := #[]
  cf := some (fileOf pool6 1 #[] #[] 1537 3 #[] #[])
  fields := #[]
  methods := #[]
  instanceTypes := #[]
  staticTypes := #[]
  resolved := Array.replicate 37 none
  statics := none }

def pool7 : Array CpInfo := pool [(1, .methodref 2 3), (0, .class_ 4), (0, .nameAndType 5 6), (0, u "java/lang/Object"), (0, u "<init>"), (0, u "()V"), (2, .fieldref 10 11), (0, .class_ 12), (0, .nameAndType 13 14), (0, u "java/lang/String"), (0, u "value"), (0, u "[B"), (0, .fieldref 10 16), (0, .nameAndType 17 18), (0, u "coder"), (0, u "B"), (2, u "hash"), (0, u "I"), (2, u "hashIsZero"), (0, u "Z"), (0, .methodref 10 28), (0, .nameAndType 5 29), (0, u "([CIILjava/lang/Void;)V"), (8, .fieldref 10 39), (0, .nameAndType 40 26), (0, u "COMPACT_STRINGS"), (1, .class_ 44), (1, u "java/lang/StringUTF16"), (0, u "compress"), (1, .methodref 42 48), (0, .nameAndType 49 50), (0, u "coderFromArrayLen"), (0, u "([BI)B"), (46, u "([BII)I"), (9, .class_ 109), (1, u "java/lang/StringLatin1"), (32, u "()Z"), (34, .methodref 42 178), (0, .nameAndType 45 179), (0, u "([CII)[B"), (31, u "([BB)V"), (122, u "()I"), (0, .methodref 10 336), (0, .nameAndType 17 337), (0, u "()B"), (25, u "([BI)C"), (27, u "(II)V"), (35, u "(I)C"), (64, .methodref 10 493), (0, .nameAndType 494 142), (0, u "isLatin1"), (0, .methodref 107 496), (0, .nameAndType 497 363), (0, u "charAt"), (3, u "checkIndex"), (3, .methodref 10 506), (0, .nameAndType 507 334), (0, u "length"), (5, u "checkFromToIndex"), (7, .methodref 10 522), (0, .nameAndType 523 524), (0, u "checkBoundsBeginEnd"), (0, u "(III)V"), (50, .class_ 576), (0, u "java/lang/CharSequence"), (22, u "CASE_INSENSITIVE_ORDER"), (0, u "Ljava/util/Comparator;"), (35, u "(II)I"), (4, .methodref 10 642), (0, .nameAndType 643 636), (0, u "lastIndexOf"), (0, .methodref 107 645), (0, .nameAndType 643 97), (35, .methodref 10 682), (0, .nameAndType 683 684), (0, u "substring"), (0, u "(II)Ljava/lang/String;"), (0, .methodref 107 686), (0, .nameAndType 687 688), (0, u "newString"), (0, u "([BII)Ljava/lang/String;"), (76, u "(I)I"), (126, u "(I)Ljava/lang/String;"), (117, u "([C)V"), (42, .fieldref 1054 1055), (0, .class_ 1056), (0, .nameAndType 1057 1058), (0, u "jdk/internal/util/Preconditions"), (0, u "SIOOBE_FORMATTER"), (0, u "Ljava/util/function/BiFunction;"), (0, .methodref 1054 1060), (0, .nameAndType 501 1061), (0, u "(IILjava/util/function/BiFunction;)I"), (0, .methodref 1054 1063), (0, .nameAndType 513 1064), (0, u "(IIILjava/util/function/BiFunction;)I"), (36, u "serialPersistentFields"), (0, u "[Ljava/io/ObjectStreamField;"), (0, .class_ 1104), (0, u "java/lang/String$CaseInsensitiveComparator"), (1, .class_ 1107), (0, u "java/io/Serializable"), (0, .class_ 1109), (0, u "java/lang/Comparable"), (0, .class_ 1111), (0, u "java/lang/constant/Constable"), (0, .class_ 1113), (0, u "java/lang/constant/ConstantDesc"), (2, u "serialVersionUID"), (0, u "J"), (3, u "REPL"), (0, u "C"), (2, u "LATIN1"), (1, u "UTF16")] 323

def k7m0 : Method := { name := "<init>", desc := "()V", sig := { parameters := [], returnType := none }, accessFlags := 1, code := none }
def k7c1 : Code := { maxStack := 5, maxLocals := 2, code := jdk_42_method_3_code, exceptionTable := #[], attributes := #[] }
def k7m1 : Method := { name := "<init>", desc := "([C)V", sig := { parameters := [(.array .char)], returnType := none }, accessFlags := 1, code := some k7c1 }
def k7c2 : Code := { maxStack := 2, maxLocals := 1, code := jdk_42_method_54_code, exceptionTable := #[], attributes := #[] }
def k7m2 : Method := { name := "length", desc := "()I", sig := { parameters := [], returnType := some .int }, accessFlags := 1, code := some k7c2 }
def k7c3 : Code := { maxStack := 2, maxLocals := 2, code := jdk_42_method_56_code, exceptionTable := #[], attributes := #[] }
def k7m3 : Method := { name := "charAt", desc := "(I)C", sig := { parameters := [.int], returnType := some .char }, accessFlags := 1, code := some k7c3 }
def k7c4 : Code := { maxStack := 4, maxLocals := 2, code := jdk_42_method_82_code, exceptionTable := #[], attributes := #[] }
def k7m4 : Method := { name := "lastIndexOf", desc := "(I)I", sig := { parameters := [.int], returnType := some .int }, accessFlags := 1, code := some k7c4 }
def k7c5 : Code := { maxStack := 3, maxLocals := 3, code := jdk_42_method_83_code, exceptionTable := #[], attributes := #[] }
def k7m5 : Method := { name := "lastIndexOf", desc := "(II)I", sig := { parameters := [.int, .int], returnType := some .int }, accessFlags := 1, code := some k7c5 }
def k7c6 : Code := { maxStack := 3, maxLocals := 2, code := jdk_42_method_91_code, exceptionTable := #[], attributes := #[] }
def k7m6 : Method := { name := "substring", desc := "(I)Ljava/lang/String;", sig := { parameters := [.int], returnType := some (.object "java/lang/String") }, accessFlags := 1, code := some k7c6 }
def k7c7 : Code := { maxStack := 3, maxLocals := 5, code := jdk_42_method_92_code, exceptionTable := #[], attributes := #[] }
def k7m7 : Method := { name := "substring", desc := "(II)Ljava/lang/String;", sig := { parameters := [.int, .int], returnType := some (.object "java/lang/String") }, accessFlags := 1, code := some k7c7 }
def k7c8 : Code := { maxStack := 4, maxLocals := 6, code := jdk_42_method_149_code, exceptionTable := #[], attributes := #[] }
def k7m8 : Method := { name := "<init>", desc := "([CIILjava/lang/Void;)V", sig := { parameters := [(.array .char), .int, .int, (.object "java/lang/Void")], returnType := none }, accessFlags := 2, code := some k7c8 }
def k7c9 : Code := { maxStack := 2, maxLocals := 3, code := jdk_42_method_151_code, exceptionTable := #[], attributes := #[] }
def k7m9 : Method := { name := "<init>", desc := "([BB)V", sig := { parameters := [(.array .byte), .byte], returnType := none }, accessFlags := 0, code := some k7c9 }
def k7c10 : Code := { maxStack := 1, maxLocals := 1, code := jdk_42_method_152_code, exceptionTable := #[], attributes := #[] }
def k7m10 : Method := { name := "coder", desc := "()B", sig := { parameters := [], returnType := some .byte }, accessFlags := 0, code := some k7c10 }
def k7c11 : Code := { maxStack := 1, maxLocals := 1, code := jdk_42_method_154_code, exceptionTable := #[], attributes := #[] }
def k7m11 : Method := { name := "isLatin1", desc := "()Z", sig := { parameters := [], returnType := some .boolean }, accessFlags := 0, code := some k7c11 }
def k7c12 : Code := { maxStack := 3, maxLocals := 2, code := jdk_42_method_155_code, exceptionTable := #[], attributes := #[] }
def k7m12 : Method := { name := "checkIndex", desc := "(II)V", sig := { parameters := [.int, .int], returnType := none }, accessFlags := 8, code := some k7c12 }
def k7c13 : Code := { maxStack := 4, maxLocals := 3, code := jdk_42_method_158_code, exceptionTable := #[], attributes := #[] }
def k7m13 : Method := { name := "checkBoundsBeginEnd", desc := "(III)V", sig := { parameters := [.int, .int, .int], returnType := none }, accessFlags := 8, code := some k7c13 }
/-- java/lang/String -/
def k7 : Class := { plain "java/lang/String" (some 0) with
  accessFlags := 49
  interfaces := #[2, 3, 4, 5, 6]
  cf := some (fileOf pool7 10 #[.nestMembers #[1103]] #[{ accessFlags := 1, nameIndex := 5, descriptorIndex := 6, attributes := #[] }, { accessFlags := 1, nameIndex := 5, descriptorIndex := 1010, attributes := #[] }, { accessFlags := 1, nameIndex := 507, descriptorIndex := 334, attributes := #[] }, { accessFlags := 1, nameIndex := 497, descriptorIndex := 427, attributes := #[] }, { accessFlags := 1, nameIndex := 643, descriptorIndex := 765, attributes := #[] }, { accessFlags := 1, nameIndex := 643, descriptorIndex := 636, attributes := #[] }, { accessFlags := 1, nameIndex := 683, descriptorIndex := 892, attributes := #[] }, { accessFlags := 1, nameIndex := 683, descriptorIndex := 684, attributes := #[] }, { accessFlags := 2, nameIndex := 5, descriptorIndex := 29, attributes := #[] }, { accessFlags := 0, nameIndex := 5, descriptorIndex := 211, attributes := #[] }, { accessFlags := 0, nameIndex := 17, descriptorIndex := 337, attributes := #[] }, { accessFlags := 0, nameIndex := 494, descriptorIndex := 142, attributes := #[] }, { accessFlags := 8, nameIndex := 501, descriptorIndex := 391, attributes := #[] }, { accessFlags := 8, nameIndex := 523, descriptorIndex := 524, attributes := #[] }] 49 2 #[1106, 1108, 575, 1110, 1112] #[{ accessFlags := 18, nameIndex := 13, descriptorIndex := 14, attributes := #[] }, { accessFlags := 18, nameIndex := 17, descriptorIndex := 18, attributes := #[] }, { accessFlags := 2, nameIndex := 21, descriptorIndex := 22, attributes := #[] }, { accessFlags := 2, nameIndex := 25, descriptorIndex := 26, attributes := #[] }, { accessFlags := 26, nameIndex := 1116, descriptorIndex := 1117, attributes := #[] }, { accessFlags := 24, nameIndex := 40, descriptorIndex := 26, attributes := #[] }, { accessFlags := 26, nameIndex := 1101, descriptorIndex := 1102, attributes := #[] }, { accessFlags := 26, nameIndex := 1121, descriptorIndex := 1122, attributes := #[] }, { accessFlags := 25, nameIndex := 599, descriptorIndex := 600, attributes := #[] }, { accessFlags := 24, nameIndex := 1125, descriptorIndex := 18, attributes := #[] }, { accessFlags := 24, nameIndex := 1127, descriptorIndex := 18, attributes := #[] }])
  fields := #[{ name := "value", type := (.array .byte), accessFlags := 18, slot := 0, constantValue := 0 }, { name := "coder", type := .byte, accessFlags := 18, slot := 1, constantValue := 0 }, { name := "hash", type := .int, accessFlags := 2, slot := 2, constantValue := 0 }, { name := "hashIsZero", type := .boolean, accessFlags := 2, slot := 3, constantValue := 0 }, { name := "serialVersionUID", type := .long, accessFlags := 26, slot := 0, constantValue := 0 }, { name := "COMPACT_STRINGS", type := .boolean, accessFlags := 24, slot := 1, constantValue := 0 }, { name := "serialPersistentFields", type := (.array (.object "java/io/ObjectStreamField")), accessFlags := 26, slot := 2, constantValue := 0 }, { name := "REPL", type := .char, accessFlags := 26, slot := 3, constantValue := 0 }, { name := "CASE_INSENSITIVE_ORDER", type := (.object "java/util/Comparator"), accessFlags := 25, slot := 4, constantValue := 0 }, { name := "LATIN1", type := .byte, accessFlags := 24, slot := 5, constantValue := 0 }, { name := "UTF16", type := .byte, accessFlags := 24, slot := 6, constantValue := 0 }]
  methods := #[k7m0, k7m1, k7m2, k7m3, k7m4, k7m5, k7m6, k7m7, k7m8, k7m9, k7m10, k7m11, k7m12, k7m13]
  instanceTypes := #[(.array .byte), .byte, .int, .boolean]
  staticTypes := #[.long, .boolean, (.array (.object "java/io/ObjectStreamField")), .char, (.object "java/util/Comparator"), .byte, .byte]
  resolved := Array.replicate 1451 none
  statics := some 0 }

def pool8 : Array CpInfo := pool [(1, .class_ 2), (0, u "java/lang/String"), (1, .class_ 6), (1, u "java/lang/Object"), (0, u "<init>"), (0, u "()V"), (0, .methodref 1 10), (0, .nameAndType 11 12), (0, u "checkIndex"), (0, u "(II)V"), (1, .class_ 16), (1, u "java/lang/StringLatin1"), (21, .methodref 39 40), (0, .class_ 41), (0, .nameAndType 42 43), (0, u "java/lang/Math"), (0, u "min"), (0, u "(II)I"), (9, u "([BI)C"), (34, .methodref 14 89), (0, .nameAndType 90 91), (0, u "canEncode"), (0, u "(I)Z"), (20, .methodref 1 113), (0, .nameAndType 7 114), (0, u "([BB)V"), (6, u "$assertionsDisabled"), (0, u "Z"), (8, .class_ 133), (1, u "java/util/Arrays"), (62, u "newString"), (0, u "([BII)Ljava/lang/String;"), (23, .class_ 223), (1, u "java/lang/StringLatin1$LinesSpliterator"), (8, .methodref 131 233), (0, .nameAndType 234 235), (0, u "copyOfRange"), (0, u "([BII)[B"), (16, u "charAt"), (8, u "([BII)I"), (47, u "lastIndexOf"), (80, .class_ 391), (0, u "java/lang/StringLatin1$CharsSpliterator")] 3

def k8m0 : Method := { name := "<init>", desc := "()V", sig := { parameters := [], returnType := none }, accessFlags := 0, code := none }
def k8c1 : Code := { maxStack := 2, maxLocals := 2, code := jdk_43_method_2_code, exceptionTable := #[], attributes := #[] }
def k8m1 : Method := { name := "charAt", desc := "([BI)C", sig := { parameters := [(.array .byte), .int], returnType := some .char }, accessFlags := 9, code := some k8c1 }
def k8c2 : Code := { maxStack := 2, maxLocals := 1, code := jdk_43_method_4_code, exceptionTable := #[], attributes := #[] }
def k8m2 : Method := { name := "canEncode", desc := "(I)Z", sig := { parameters := [.int], returnType := some .boolean }, accessFlags := 9, code := some k8c2 }
def k8c3 : Code := { maxStack := 3, maxLocals := 4, code := jdk_43_method_27_code, exceptionTable := #[], attributes := #[] }
def k8m3 : Method := { name := "lastIndexOf", desc := "([BII)I", sig := { parameters := [(.array .byte), .int, .int], returnType := some .int }, accessFlags := 9, code := some k8c3 }
def k8c4 : Code := { maxStack := 6, maxLocals := 3, code := jdk_43_method_47_code, exceptionTable := #[], attributes := #[] }
def k8m4 : Method := { name := "newString", desc := "([BII)Ljava/lang/String;", sig := { parameters := [(.array .byte), .int, .int], returnType := some (.object "java/lang/String") }, accessFlags := 9, code := some k8c4 }
/-- java/lang/StringLatin1 -/
def k8 : Class := { plain "java/lang/StringLatin1" (some 0) with
  accessFlags := 48
  interfaces := #[]
  cf := some (fileOf pool8 14 #[.nestMembers #[390, 221]] #[{ accessFlags := 0, nameIndex := 7, descriptorIndex := 8, attributes := #[] }, { accessFlags := 9, nameIndex := 252, descriptorIndex := 53, attributes := #[] }, { accessFlags := 9, nameIndex := 90, descriptorIndex := 91, attributes := #[] }, { accessFlags := 9, nameIndex := 309, descriptorIndex := 261, attributes := #[] }, { accessFlags := 9, nameIndex := 196, descriptorIndex := 197, attributes := #[] }] 48 4 #[] #[{ accessFlags := 4120, nameIndex := 121, descriptorIndex := 122, attributes := #[] }])
  fields := #[{ name := "$assertionsDisabled", type := .boolean, accessFlags := 4120, slot := 0, constantValue := 0 }]
  methods := #[k8m0, k8m1, k8m2, k8m3, k8m4]
  instanceTypes := #[]
  staticTypes := #[.boolean]
  resolved := Array.replicate 395 none
  statics := none }

def pool9 : Array CpInfo := pool [(2, .class_ 4), (1, u "java/lang/Object"), (0, u "<init>"), (0, u "()V"), (17, .class_ 26), (1, u "jdk/internal/util/Preconditions"), (6, u "checkIndex"), (13, u "checkFromToIndex"), (7, .class_ 56), (0, u "jdk/internal/util/Preconditions$4"), (57, .class_ 115), (0, u "jdk/internal/util/Preconditions$1"), (7, u "SIOOBE_FORMATTER"), (0, u "Ljava/util/function/BiFunction;"), (0, .class_ 126), (0, u "jdk/internal/util/Preconditions$2"), (3, u "AIOOBE_FORMATTER"), (0, .class_ 132), (0, u "jdk/internal/util/Preconditions$3"), (3, u "IOOBE_FORMATTER"), (41, u "(IILjava/util/function/BiFunction;)I"), (4, u "(IIILjava/util/function/BiFunction;)I")] 10

def k9m0 : Method := { name := "<init>", desc := "()V", sig := { parameters := [], returnType := none }, accessFlags := 1, code := none }
def k9c1 : Code := { maxStack := 3, maxLocals := 3, code := jdk_41_method_11_code, exceptionTable := #[], attributes := #[] }
def k9m1 : Method := { name := "checkIndex", desc := "(IILjava/util/function/BiFunction;)I", sig := { parameters := [.int, .int, (.object "java/util/function/BiFunction")], returnType := some .int }, accessFlags := 9, code := some k9c1 }
def k9c2 : Code := { maxStack := 4, maxLocals := 4, code := jdk_41_method_12_code, exceptionTable := #[], attributes := #[] }
def k9m2 : Method := { name := "checkFromToIndex", desc := "(IIILjava/util/function/BiFunction;)I", sig := { parameters := [.int, .int, .int, (.object "java/util/function/BiFunction")], returnType := some .int }, accessFlags := 9, code := some k9c2 }
/-- jdk/internal/util/Preconditions -/
def k9 : Class := { plain "jdk/internal/util/Preconditions" (some 0) with
  accessFlags := 33
  interfaces := #[]
  cf := some (fileOf pool9 24 #[.nestMembers #[55, 131, 125, 114]] #[{ accessFlags := 1, nameIndex := 5, descriptorIndex := 6, attributes := #[] }, { accessFlags := 9, nameIndex := 33, descriptorIndex := 178, attributes := #[] }, { accessFlags := 9, nameIndex := 47, descriptorIndex := 183, attributes := #[] }] 33 2 #[] #[{ accessFlags := 25, nameIndex := 123, descriptorIndex := 124, attributes := #[] }, { accessFlags := 25, nameIndex := 130, descriptorIndex := 124, attributes := #[] }, { accessFlags := 25, nameIndex := 136, descriptorIndex := 124, attributes := #[] }])
  fields := #[{ name := "SIOOBE_FORMATTER", type := (.object "java/util/function/BiFunction"), accessFlags := 25, slot := 0, constantValue := 0 }, { name := "AIOOBE_FORMATTER", type := (.object "java/util/function/BiFunction"), accessFlags := 25, slot := 1, constantValue := 0 }, { name := "IOOBE_FORMATTER", type := (.object "java/util/function/BiFunction"), accessFlags := 25, slot := 2, constantValue := 0 }]
  methods := #[k9m0, k9m1, k9m2]
  instanceTypes := #[]
  staticTypes := #[(.object "java/util/function/BiFunction"), (.object "java/util/function/BiFunction"), (.object "java/util/function/BiFunction")]
  resolved := Array.replicate 194 none
  statics := some 1 }

def pool10 : Array CpInfo := pool [(6, .class_ 8), (1, u "java/lang/Object"), (0, u "<init>"), (0, u "()V"), (1, .class_ 14), (1, u "java/lang/StringUTF16"), (31, u "$assertionsDisabled"), (0, u "Z"), (13, u "HI_BYTE_SHIFT"), (0, u "I"), (2, u "LO_BYTE_SHIFT"), (49, .methodref 12 116), (0, .nameAndType 117 118), (0, u "compress"), (0, u "([CI[BII)I"), (3, u "([CII)[B"), (138, u "coderFromArrayLen"), (0, u "([BI)B"), (106, .class_ 371), (1, u "java/lang/StringUTF16$LinesSpliterator"), (58, u "MAX_LENGTH"), (196, .class_ 628), (0, u "java/lang/StringUTF16$CodePointsSpliterator"), (0, .class_ 630), (0, u "java/lang/StringUTF16$CharsSpliterator")] 4

def k10m0 : Method := { name := "<init>", desc := "()V", sig := { parameters := [], returnType := none }, accessFlags := 0, code := none }
def k10c1 : Code := { maxStack := 2, maxLocals := 2, code := jdk_52_method_15_code, exceptionTable := #[], attributes := #[] }
def k10m1 : Method := { name := "coderFromArrayLen", desc := "([BI)B", sig := { parameters := [(.array .byte), .int], returnType := some .byte }, accessFlags := 8, code := some k10c1 }
def k10c2 : Code := { maxStack := 5, maxLocals := 6, code := jdk_52_method_16_code, exceptionTable := #[], attributes := #[] }
def k10m2 : Method := { name := "compress", desc := "([CII)[B", sig := { parameters := [(.array .char), .int, .int], returnType := some (.array .byte) }, accessFlags := 9, code := some k10c2 }
def k10c3 : Code := { maxStack := 3, maxLocals := 7, code := jdk_52_method_21_code, exceptionTable := #[], attributes := #[] }
def k10m3 : Method := { name := "compress", desc := "([CI[BII)I", sig := { parameters := [(.array .char), .int, (.array .byte), .int, .int], returnType := some .int }, accessFlags := 9, code := some k10c3 }
/-- java/lang/StringUTF16 -/
def k10 : Class := { plain "java/lang/StringUTF16" (some 0) with
  accessFlags := 48
  interfaces := #[]
  cf := some (fileOf pool10 12 #[.nestMembers #[627, 629, 369]] #[{ accessFlags := 0, nameIndex := 9, descriptorIndex := 10, attributes := #[] }, { accessFlags := 8, nameIndex := 261, descriptorIndex := 262, attributes := #[] }, { accessFlags := 9, nameIndex := 117, descriptorIndex := 122, attributes := #[] }, { accessFlags := 9, nameIndex := 117, descriptorIndex := 118, attributes := #[] }] 48 6 #[] #[{ accessFlags := 26, nameIndex := 61, descriptorIndex := 62, attributes := #[] }, { accessFlags := 26, nameIndex := 65, descriptorIndex := 62, attributes := #[] }, { accessFlags := 24, nameIndex := 430, descriptorIndex := 62, attributes := #[] }, { accessFlags := 4120, nameIndex := 46, descriptorIndex := 47, attributes := #[] }])
  fields := #[{ name := "HI_BYTE_SHIFT", type := .int, accessFlags := 26, slot := 0, constantValue := 0 }, { name := "LO_BYTE_SHIFT", type := .int, accessFlags := 26, slot := 1, constantValue := 0 }, { name := "MAX_LENGTH", type := .int, accessFlags := 24, slot := 2, constantValue := 0 }, { name := "$assertionsDisabled", type := .boolean, accessFlags := 4120, slot := 3, constantValue := 0 }]
  methods := #[k10m0, k10m1, k10m2, k10m3]
  instanceTypes := #[]
  staticTypes := #[.int, .int, .int, .boolean]
  resolved := Array.replicate 635 none
  statics := none }

def pool11 : Array CpInfo := pool [(2, .class_ 4), (1, u "java/lang/Object"), (0, u "<init>"), (0, u "()V"), (1, .class_ 10), (1, u "java/lang/String"), (2, .class_ 14), (0, u "com/example/rowanport/rowanport/util/MailAddresses"), (2, u "ADDRESS"), (0, u "Ljava/util/regex/Pattern;"), (12, .methodref 8 32), (0, .nameAndType 33 34), (0, u "lastIndexOf"), (0, u "(I)I"), (0, .methodref 8 36), (0, .nameAndType 37 38), (0, u "substring"), (0, u "(I)Ljava/lang/String;"), (6, u "ATOM"), (0, u "Ljava/lang/String;"), (3, u "LABEL"), (2, u "MAX_LENGTH"), (0, u "I"), (6, u "domain"), (0, u "(Ljava/lang/String;)Ljava/lang/String;")] 3

def k11m0 : Method := { name := "<init>", desc := "()V", sig := { parameters := [], returnType := none }, accessFlags := 2, code := none }
def k11c1 : Code := { maxStack := 3, maxLocals := 1, code := prog_60_method_3_code, exceptionTable := #[], attributes := #[] }
def k11m1 : Method := { name := "domain", desc := "(Ljava/lang/String;)Ljava/lang/String;", sig := { parameters := [(.object "java/lang/String")], returnType := some (.object "java/lang/String") }, accessFlags := 9, code := some k11c1 }
/-- com/example/rowanport/rowanport/util/MailAddresses -/
def k11 : Class := { plain "com/example/rowanport/rowanport/util/MailAddresses" (some 0) with
  accessFlags := 49
  interfaces := #[]
  cf := some (fileOf pool11 13 #[] #[{ accessFlags := 2, nameIndex := 5, descriptorIndex := 6, attributes := #[] }, { accessFlags := 9, nameIndex := 61, descriptorIndex := 62, attributes := #[] }] 49 2 #[] #[{ accessFlags := 26, nameIndex := 45, descriptorIndex := 46, attributes := #[] }, { accessFlags := 26, nameIndex := 50, descriptorIndex := 46, attributes := #[] }, { accessFlags := 26, nameIndex := 17, descriptorIndex := 18, attributes := #[] }, { accessFlags := 26, nameIndex := 53, descriptorIndex := 54, attributes := #[] }])
  fields := #[{ name := "ATOM", type := (.object "java/lang/String"), accessFlags := 26, slot := 0, constantValue := 0 }, { name := "LABEL", type := (.object "java/lang/String"), accessFlags := 26, slot := 1, constantValue := 0 }, { name := "ADDRESS", type := (.object "java/util/regex/Pattern"), accessFlags := 26, slot := 2, constantValue := 0 }, { name := "MAX_LENGTH", type := .int, accessFlags := 26, slot := 3, constantValue := 0 }]
  methods := #[k11m0, k11m1]
  instanceTypes := #[]
  staticTypes := #[(.object "java/lang/String"), (.object "java/lang/String"), (.object "java/util/regex/Pattern"), .int]
  resolved := Array.replicate 66 none
  statics := none }

def pool12 : Array CpInfo := pool [(1, .class_ 2), (0, u "java/lang/Math"), (1, .class_ 6), (1, u "java/lang/Object"), (0, u "<init>"), (0, u "()V"), (89, .class_ 100), (1, u "java/lang/Math$RandomNumberGeneratorHolder"), (71, u "negativeZeroFloatBits"), (0, u "J"), (2, u "negativeZeroDoubleBits"), (24, u "min"), (43, u "$assertionsDisabled"), (0, u "Z"), (88, u "(II)I"), (2, u "twoToTheDoubleScaleDown"), (0, u "D"), (4, u "twoToTheDoubleScaleUp"), (9, u "E"), (3, u "PI"), (2, u "TAU"), (2, u "DEGREES_TO_RADIANS"), (0, u "RADIANS_TO_DEGREES")] 94

def k12m0 : Method := { name := "<init>", desc := "()V", sig := { parameters := [], returnType := none }, accessFlags := 2, code := none }
def k12c1 : Code := { maxStack := 2, maxLocals := 2, code := jdk_29_method_69_code, exceptionTable := #[], attributes := #[] }
def k12m1 : Method := { name := "min", desc := "(II)I", sig := { parameters := [.int, .int], returnType := some .int }, accessFlags := 9, code := some k12c1 }
/-- java/lang/Math -/
def k12 : Class := { plain "java/lang/Math" (some 0) with
  accessFlags := 49
  interfaces := #[]
  cf := some (fileOf pool12 1 #[.nestMembers #[98]] #[{ accessFlags := 2, nameIndex := 7, descriptorIndex := 8, attributes := #[] }, { accessFlags := 9, nameIndex := 201, descriptorIndex := 335, attributes := #[] }] 49 4 #[] #[{ accessFlags := 25, nameIndex := 354, descriptorIndex := 339, attributes := #[] }, { accessFlags := 25, nameIndex := 358, descriptorIndex := 339, attributes := #[] }, { accessFlags := 25, nameIndex := 361, descriptorIndex := 339, attributes := #[] }, { accessFlags := 26, nameIndex := 364, descriptorIndex := 339, attributes := #[] }, { accessFlags := 26, nameIndex := 365, descriptorIndex := 339, attributes := #[] }, { accessFlags := 26, nameIndex := 172, descriptorIndex := 173, attributes := #[] }, { accessFlags := 26, nameIndex := 176, descriptorIndex := 173, attributes := #[] }, { accessFlags := 8, nameIndex := 344, descriptorIndex := 339, attributes := #[] }, { accessFlags := 8, nameIndex := 338, descriptorIndex := 339, attributes := #[] }, { accessFlags := 4120, nameIndex := 245, descriptorIndex := 246, attributes := #[] }])
  fields := #[{ name := "E", type := .double, accessFlags := 25, slot := 0, constantValue := 0 }, { name := "PI", type := .double, accessFlags := 25, slot := 1, constantValue := 0 }, { name := "TAU", type := .double, accessFlags := 25, slot := 2, constantValue := 0 }, { name := "DEGREES_TO_RADIANS", type := .double, accessFlags := 26, slot := 3, constantValue := 0 }, { name := "RADIANS_TO_DEGREES", type := .double, accessFlags := 26, slot := 4, constantValue := 0 }, { name := "negativeZeroFloatBits", type := .long, accessFlags := 26, slot := 5, constantValue := 0 }, { name := "negativeZeroDoubleBits", type := .long, accessFlags := 26, slot := 6, constantValue := 0 }, { name := "twoToTheDoubleScaleUp", type := .double, accessFlags := 8, slot := 7, constantValue := 0 }, { name := "twoToTheDoubleScaleDown", type := .double, accessFlags := 8, slot := 8, constantValue := 0 }, { name := "$assertionsDisabled", type := .boolean, accessFlags := 4120, slot := 9, constantValue := 0 }]
  methods := #[k12m0, k12m1]
  instanceTypes := #[]
  staticTypes := #[.double, .double, .double, .double, .double, .long, .long, .double, .double, .boolean]
  resolved := Array.replicate 460 none
  statics := none }

def pool13 : Array CpInfo := pool [(2, .class_ 4), (1, u "java/lang/Object"), (0, u "<init>"), (0, u "()V"), (7, .class_ 16), (1, u "java/util/Arrays"), (57, .class_ 76), (1, u "java/util/Arrays$NaturalOrder"), (36, .class_ 115), (1, u "java/util/Arrays$LegacyMergeSort"), (1, u "Z"), (21, u "copyOfRange"), (10, .methodref 151 152), (0, .class_ 153), (0, .nameAndType 154 155), (0, u "java/lang/System"), (0, u "arraycopy"), (0, u "(Ljava/lang/Object;ILjava/lang/Object;II)V"), (148, .methodref 305 306), (0, .class_ 307), (0, .nameAndType 308 309), (0, u "java/lang/Math"), (0, u "min"), (0, u "(II)I"), (29, .methodref 14 340), (0, .nameAndType 341 342), (0, u "copyOfRangeByte"), (0, u "([BII)[B"), (0, .methodref 14 344), (0, .nameAndType 345 346), (0, u "checkLength"), (0, u "(II)V"), (28, .class_ 376), (0, u "java/util/Arrays$ArrayList"), (68, u "$assertionsDisabled"), (269, u "MIN_ARRAY_SORT_GRAN"), (0, u "I"), (2, u "INSERTIONSORT_THRESHOLD"), (255, .class_ 976), (0, u "java/util/Arrays$ArrayItr")] 52

def k13m0 : Method := { name := "<init>", desc := "()V", sig := { parameters := [], returnType := none }, accessFlags := 2, code := none }
def k13c1 : Code := { maxStack := 4, maxLocals := 2, code := jdk_65_method_131_code, exceptionTable := #[], attributes := #[] }
def k13m1 : Method := { name := "checkLength", desc := "(II)V", sig := { parameters := [.int, .int], returnType := none }, accessFlags := 10, code := some k13c1 }
def k13c2 : Code := { maxStack := 3, maxLocals := 3, code := jdk_65_method_132_code, exceptionTable := #[], attributes := #[] }
def k13m2 : Method := { name := "copyOfRange", desc := "([BII)[B", sig := { parameters := [(.array .byte), .int, .int], returnType := some (.array .byte) }, accessFlags := 9, code := some k13c2 }
def k13c3 : Code := { maxStack := 6, maxLocals := 5, code := jdk_65_method_133_code, exceptionTable := #[], attributes := #[] }
def k13m3 : Method := { name := "copyOfRangeByte", desc := "([BII)[B", sig := { parameters := [(.array .byte), .int, .int], returnType := some (.array .byte) }, accessFlags := 10, code := some k13c3 }
/-- java/util/Arrays -/
def k13 : Class := { plain "java/util/Arrays" (some 0) with
  accessFlags := 49
  interfaces := #[]
  cf := some (fileOf pool13 14 #[.nestMembers #[975, 375, 113, 74]] #[{ accessFlags := 2, nameIndex := 5, descriptorIndex := 6, attributes := #[] }, { accessFlags := 10, nameIndex := 345, descriptorIndex := 346, attributes := #[] }, { accessFlags := 9, nameIndex := 139, descriptorIndex := 342, attributes := #[] }, { accessFlags := 10, nameIndex := 341, descriptorIndex := 342, attributes := #[] }] 49 2 #[] #[{ accessFlags := 26, nameIndex := 715, descriptorIndex := 716, attributes := #[] }, { accessFlags := 26, nameIndex := 719, descriptorIndex := 716, attributes := #[] }, { accessFlags := 4120, nameIndex := 445, descriptorIndex := 117, attributes := #[] }])
  fields := #[{ name := "MIN_ARRAY_SORT_GRAN", type := .int, accessFlags := 26, slot := 0, constantValue := 0 }, { name := "INSERTIONSORT_THRESHOLD", type := .int, accessFlags := 26, slot := 1, constantValue := 0 }, { name := "$assertionsDisabled", type := .boolean, accessFlags := 4120, slot := 2, constantValue := 0 }]
  methods := #[k13m0, k13m1, k13m2, k13m3]
  instanceTypes := #[]
  staticTypes := #[.int, .int, .boolean]
  resolved := Array.replicate 1029 none
  statics := none }

def pool14 : Array CpInfo := pool [(2, .class_ 4), (1, u "java/lang/Object"), (0, u "<init>"), (0, u "()V"), (1, .class_ 10), (1, u "java/lang/System"), (0, u "allowSecurityManager"), (0, u "I"), (16, u "cons"), (0, u "Ljava/io/Console;"), (77, .class_ 110), (1, u "java/lang/System$CallersHolder"), (43, u "initialErrStream"), (0, u "Ljava/io/PrintStream;"), (19, u "security"), (0, u "Ljava/lang/SecurityManager;"), (31, .class_ 209), (0, u "java/lang/System$1"), (7, u "props"), (0, u "Ljava/util/Properties;"), (2, u "lineSeparator"), (0, u "Ljava/lang/String;"), (96, .class_ 321), (1, u "java/lang/System$LoggerFinder"), (5, .class_ 328), (0, u "java/lang/System$Logger"), (67, u "err"), (2, u "out"), (91, u "notSupportedJnuEncoding"), (15, u "in"), (17, u "initialIn"), (0, u "Ljava/io/InputStream;"), (35, u "bootLayer"), (0, u "Ljava/lang/ModuleLayer;"), (99, .class_ 664), (0, u "java/lang/System$2"), (9, u "NEVER"), (2, u "MAYBE"), (49, u "arraycopy"), (0, u "(Ljava/lang/Object;ILjava/lang/Object;II)V"), (72, .class_ 802), (0, u "java/lang/System$Logger$Level")] 31

def k14m0 : Method := { name := "<init>", desc := "()V", sig := { parameters := [], returnType := none }, accessFlags := 2, code := none }
def k14m1 : Method := { name := "arraycopy", desc := "(Ljava/lang/Object;ILjava/lang/Object;II)V", sig := { parameters := [(.object "java/lang/Object"), .int, (.object "java/lang/Object"), .int, .int], returnType := none }, accessFlags := 265, code := none }
/-- java/lang/System -/
def k14 : Class := { plain "java/lang/System" (some 0) with
  accessFlags := 49
  interfaces := #[]
  cf := some (fileOf pool14 8 #[.nestMembers #[319, 327, 801, 108, 663, 208]] #[{ accessFlags := 2, nameIndex := 5, descriptorIndex := 6, attributes := #[] }, { accessFlags := 265, nameIndex := 727, descriptorIndex := 728, attributes := #[] }] 49 2 #[] #[{ accessFlags := 25, nameIndex := 507, descriptorIndex := 526, attributes := #[] }, { accessFlags := 25, nameIndex := 399, descriptorIndex := 155, attributes := #[] }, { accessFlags := 25, nameIndex := 396, descriptorIndex := 155, attributes := #[] }, { accessFlags := 10, nameIndex := 525, descriptorIndex := 526, attributes := #[] }, { accessFlags := 26, nameIndex := 674, descriptorIndex := 12, attributes := #[] }, { accessFlags := 26, nameIndex := 677, descriptorIndex := 12, attributes := #[] }, { accessFlags := 10, nameIndex := 11, descriptorIndex := 12, attributes := #[] }, { accessFlags := 74, nameIndex := 175, descriptorIndex := 176, attributes := #[] }, { accessFlags := 10, nameIndex := 491, descriptorIndex := 222, attributes := #[] }, { accessFlags := 74, nameIndex := 29, descriptorIndex := 30, attributes := #[] }, { accessFlags := 74, nameIndex := 154, descriptorIndex := 155, attributes := #[] }, { accessFlags := 10, nameIndex := 217, descriptorIndex := 218, attributes := #[] }, { accessFlags := 10, nameIndex := 221, descriptorIndex := 222, attributes := #[] }, { accessFlags := 8, nameIndex := 562, descriptorIndex := 563, attributes := #[] }])
  fields := #[{ name := "in", type := (.object "java/io/InputStream"), accessFlags := 25, slot := 0, constantValue := 0 }, { name := "out", type := (.object "java/io/PrintStream"), accessFlags := 25, slot := 1, constantValue := 0 }, { name := "err", type := (.object "java/io/PrintStream"), accessFlags := 25, slot := 2, constantValue := 0 }, { name := "initialIn", type := (.object "java/io/InputStream"), accessFlags := 10, slot := 3, constantValue := 0 }, { name := "NEVER", type := .int, accessFlags := 26, slot := 4, constantValue := 0 }, { name := "MAYBE", type := .int, accessFlags := 26, slot := 5, constantValue := 0 }, { name := "allowSecurityManager", type := .int, accessFlags := 10, slot := 6, constantValue := 0 }, { name := "security", type := (.object "java/lang/SecurityManager"), accessFlags := 74, slot := 7, constantValue := 0 }, { name := "notSupportedJnuEncoding", type := (.object "java/lang/String"), accessFlags := 10, slot := 8, constantValue := 0 }, { name := "cons", type := (.object "java/io/Console"), accessFlags := 74, slot := 9, constantValue := 0 }, { name := "initialErrStream", type := (.object "java/io/PrintStream"), accessFlags := 74, slot := 10, constantValue := 0 }, { name := "props", type := (.object "java/util/Properties"), accessFlags := 10, slot := 11, constantValue := 0 }, { name := "lineSeparator", type := (.object "java/lang/String"), accessFlags := 10, slot := 12, constantValue := 0 }, { name := "bootLayer", type := (.object "java/lang/ModuleLayer"), accessFlags := 8, slot := 13, constantValue := 0 }]
  methods := #[k14m0, k14m1]
  instanceTypes := #[]
  staticTypes := #[(.object "java/io/InputStream"), (.object "java/io/PrintStream"), (.object "java/io/PrintStream"), (.object "java/io/InputStream"), .int, .int, .int, (.object "java/lang/SecurityManager"), (.object "java/lang/String"), (.object "java/io/Console"), (.object "java/io/PrintStream"), (.object "java/util/Properties"), (.object "java/lang/String"), (.object "java/lang/ModuleLayer")]
  resolved := Array.replicate 834 none
  statics := none }

def pool15 : Array CpInfo := pool [(9, u "<init>"), (6, .class_ 18), (1, u "java/lang/Object"), (0, u "()V"), (1, .class_ 23), (1, u "jdk/internal/util/ArraysSupport"), (0, u "LOG2_ARRAY_LONG_INDEX_SCALE"), (0, u "I"), (2, u "U"), (0, u "Ljdk/internal/misc/Unsafe;"), (8, u "BIG_ENDIAN"), (0, u "Z"), (8, u "LOG2_BYTE_BIT_SIZE"), (4, u "LOG2_ARRAY_INT_INDEX_SCALE"), (54, u "JLA"), (0, u "Ljdk/internal/access/JavaLangAccess;"), (11, u "LOG2_ARRAY_BOOLEAN_INDEX_SCALE"), (9, u "LOG2_ARRAY_BYTE_INDEX_SCALE"), (5, u "LOG2_ARRAY_CHAR_INDEX_SCALE"), (5, u "LOG2_ARRAY_SHORT_INDEX_SCALE"), (18, u "LOG2_ARRAY_FLOAT_INDEX_SCALE"), (24, u "LOG2_ARRAY_DOUBLE_INDEX_SCALE"), (89, u "T_BOOLEAN"), (2, u "T_CHAR"), (1, u "T_FLOAT"), (1, u "T_DOUBLE"), (1, u "T_BYTE"), (1, u "T_SHORT"), (1, u "T_INT"), (1, u "T_LONG"), (1, u "SOFT_MAX_ARRAY_LENGTH")] 83

def k15m0 : Method := { name := "<init>", desc := "()V", sig := { parameters := [], returnType := none }, accessFlags := 2, code := none }
/-- jdk/internal/util/ArraysSupport -/
def k15 : Class := { plain "jdk/internal/util/ArraysSupport" (some 0) with
  accessFlags := 33
  interfaces := #[]
  cf := some (fileOf pool15 21 #[] #[{ accessFlags := 2, nameIndex := 9, descriptorIndex := 19, attributes := #[] }] 33 16 #[] #[{ accessFlags := 24, nameIndex := 28, descriptorIndex := 29, attributes := #[] }, { accessFlags := 26, nameIndex := 38, descriptorIndex := 39, attributes := #[] }, { accessFlags := 25, nameIndex := 121, descriptorIndex := 25, attributes := #[] }, { accessFlags := 25, nameIndex := 131, descriptorIndex := 25, attributes := #[] }, { accessFlags := 25, nameIndex := 137, descriptorIndex := 25, attributes := #[] }, { accessFlags := 25, nameIndex := 143, descriptorIndex := 25, attributes := #[] }, { accessFlags := 25, nameIndex := 53, descriptorIndex := 25, attributes := #[] }, { accessFlags := 25, nameIndex := 24, descriptorIndex := 25, attributes := #[] }, { accessFlags := 25, nameIndex := 162, descriptorIndex := 25, attributes := #[] }, { accessFlags := 25, nameIndex := 187, descriptorIndex := 25, attributes := #[] }, { accessFlags := 26, nameIndex := 48, descriptorIndex := 25, attributes := #[] }, { accessFlags := 25, nameIndex := 277, descriptorIndex := 25, attributes := #[] }, { accessFlags := 25, nameIndex := 280, descriptorIndex := 25, attributes := #[] }, { accessFlags := 25, nameIndex := 282, descriptorIndex := 25, attributes := #[] }, { accessFlags := 25, nameIndex := 284, descriptorIndex := 25, attributes := #[] }, { accessFlags := 25, nameIndex := 286, descriptorIndex := 25, attributes := #[] }, { accessFlags := 25, nameIndex := 288, descriptorIndex := 25, attributes := #[] }, { accessFlags := 25, nameIndex := 290, descriptorIndex := 25, attributes := #[] }, { accessFlags := 25, nameIndex := 292, descriptorIndex := 25, attributes := #[] }, { accessFlags := 26, nameIndex := 108, descriptorIndex := 109, attributes := #[] }, { accessFlags := 25, nameIndex := 294, descriptorIndex := 25, attributes := #[] }])
  fields := #[{ name := "U", type := (.object "jdk/internal/misc/Unsafe"), accessFlags := 24, slot := 0, constantValue := 0 }, { name := "BIG_ENDIAN", type := .boolean, accessFlags := 26, slot := 1, constantValue := 0 }, { name := "LOG2_ARRAY_BOOLEAN_INDEX_SCALE", type := .int, accessFlags := 25, slot := 2, constantValue := 0 }, { name := "LOG2_ARRAY_BYTE_INDEX_SCALE", type := .int, accessFlags := 25, slot := 3, constantValue := 0 }, { name := "LOG2_ARRAY_CHAR_INDEX_SCALE", type := .int, accessFlags := 25, slot := 4, constantValue := 0 }, { name := "LOG2_ARRAY_SHORT_INDEX_SCALE", type := .int, accessFlags := 25, slot := 5, constantValue := 0 }, { name := "LOG2_ARRAY_INT_INDEX_SCALE", type := .int, accessFlags := 25, slot := 6, constantValue := 0 }, { name := "LOG2_ARRAY_LONG_INDEX_SCALE", type := .int, accessFlags := 25, slot := 7, constantValue := 0 }, { name := "LOG2_ARRAY_FLOAT_INDEX_SCALE", type := .int, accessFlags := 25, slot := 8, constantValue := 0 }, { name := "LOG2_ARRAY_DOUBLE_INDEX_SCALE", type := .int, accessFlags := 25, slot := 9, constantValue := 0 }, { name := "LOG2_BYTE_BIT_SIZE", type := .int, accessFlags := 26, slot := 10, constantValue := 0 }, { name := "T_BOOLEAN", type := .int, accessFlags := 25, slot := 11, constantValue := 0 }, { name := "T_CHAR", type := .int, accessFlags := 25, slot := 12, constantValue := 0 }, { name := "T_FLOAT", type := .int, accessFlags := 25, slot := 13, constantValue := 0 }, { name := "T_DOUBLE", type := .int, accessFlags := 25, slot := 14, constantValue := 0 }, { name := "T_BYTE", type := .int, accessFlags := 25, slot := 15, constantValue := 0 }, { name := "T_SHORT", type := .int, accessFlags := 25, slot := 16, constantValue := 0 }, { name := "T_INT", type := .int, accessFlags := 25, slot := 17, constantValue := 0 }, { name := "T_LONG", type := .int, accessFlags := 25, slot := 18, constantValue := 0 }, { name := "JLA", type := (.object "jdk/internal/access/JavaLangAccess"), accessFlags := 26, slot := 19, constantValue := 0 }, { name := "SOFT_MAX_ARRAY_LENGTH", type := .int, accessFlags := 25, slot := 20, constantValue := 0 }]
  methods := #[k15m0]
  instanceTypes := #[]
  staticTypes := #[(.object "jdk/internal/misc/Unsafe"), .boolean, .int, .int, .int, .int, .int, .int, .int, .int, .int, .int, .int, .int, .int, .int, .int, .int, .int, (.object "jdk/internal/access/JavaLangAccess"), .int]
  resolved := Array.replicate 378 none
  statics := none }

def pool16 : Array CpInfo := pool [(1, u "java/lang/Cloneable"), (0, .class_ 1), (0, u "java/lang/Object"), (0, .class_ 3)] 3

/-- java/lang/Cloneable -/
def k16 : Class := { plain "java/lang/Cloneable" (some 0) with
  accessFlags := 1537
  interfaces := #[]
  cf := some (fileOf pool16 2 #[] #[] 1537 4 #[] #[])
  fields := #[]
  methods := #[]
  instanceTypes := #[]
  staticTypes := #[]
  resolved := Array.replicate 8 none
  statics := none }

/-- the primitive byte -/
def k17 : Class := { plain "byte" none with kind := .primitive 'B', accessFlags := 0x411 }
/-- [B -/
def k18 : Class := { plain "[B" (some 0) with kind := .array 17 .byte, interfaces := #[16, 2], accessFlags := 1041 }

/-- the primitive char -/
def k19 : Class := { plain "char" none with kind := .primitive 'C', accessFlags := 0x411 }
/-- [C -/
def k20 : Class := { plain "[C" (some 0) with kind := .array 19 .char, interfaces := #[16, 2], accessFlags := 1041 }

/-- the primitive int -/
def k21 : Class := { plain "int" none with kind := .primitive 'I', accessFlags := 0x411 }
/-- [I -/
def k22 : Class := { plain "[I" (some 0) with kind := .array 21 .int, interfaces := #[16, 2], accessFlags := 1041 }

def heap : Heap := #[{ cls := 7, slots := #[.long 0, .int 1, .null, .int 0, .null, .int 0, .int 0], vm := .statics 7 },
  { cls := 9, slots := #[.null, .null, .null], vm := .statics 9 }]
def classes : Array Class := #[k0, k1, k2, k3, k4, k5, k6, k7, k8, k9, k10, k11, k12, k13, k14, k15, k16, k17, k18, k19, k20, k21, k22]
def interned : List (Array UInt16 × Addr) := []
def slotsUsed : Nat := 10
def theMethod : MethodId := ⟨1, 8⟩
def args0 : Array Value := #[.int 5, .long 6, .long 7]
def aboutOver (below : List Frame) : State where
  vm := { classes := classes, interned := interned.toArray }
  heap := heap
  slotsUsed := slotsUsed
  threads := #[{ frames := .invoking theMethod args0 :: below }]
def below0 : List Frame := [.native { method := ⟨0, 0⟩, args := #[] }]
def about1 : State := aboutOver below0
def p0 : Program := .bare "" "" ""
def e0 : Env := launch0.env 0 0 0
theorem w_frames : about1.frames = Frame.invoking theMethod args0 :: below0 := rfl
set_option maxRecDepth 65536 in
theorem w_args : argsFit about1.vm theMethod args0 = true := by decide +kernel
set_option maxRecDepth 65536 in
theorem w_heap : heapFits about1 = true := by decide +kernel
set_option maxRecDepth 65536 in
theorem w_runnable : about1.curStatus? = some .runnable := by decide +kernel
set_option maxRecDepth 65536 in
theorem w_alone : about1.alone = true := by decide +kernel
set_option maxRecDepth 65536 in
theorem w_named : about1.methodNamed? x = some theMethod := by decide +kernel
set_option maxRecDepth 65536 in
theorem w_hears : about1.hears theMethod below0 = true := by decide +kernel
set_option maxRecDepth 65536 in
theorem w_ripe : about1.ripe theMethod args0 below0 = true := by decide +kernel
theorem w_running : about1.status = .running := rfl
set_option maxRecDepth 65536 in
theorem w_room : about1.hasRoom e0.platform room_1 = true :=
  launch0.hasRoom_least _ room_1 (by decide +kernel) (by decide +kernel) (by decide +kernel) (by decide +kernel) (by decide +kernel) (by decide +kernel)
theorem allAtoms_all (ts : List Jvm.Cond) (a : Array Jvm.Value) (st : Jvm.State) : (allAtoms ts).before a st = ts.all (fun c => c.before a st) := by
  induction ts with
  | nil => rfl
  | cons c t ih =>
    show (Jvm.Cond.and c (allAtoms t)).before a st = _
    rw [Jvm.Cond.before_and, ih, List.all_cons]
def words1 : List Jvm.Cond := Jvm.Cond.code x code maxLocals ret :: tables_1
/-- a 'code' word, met by the world's own term for the bytes: nothing is compared byte by byte -/
theorem code_word {y : MethodName} {bytes : ByteArray} {mx : Nat} {rt : Option FieldType} {a : Array Value} {s : State} {m : MethodId} {meth : Method} {c : Code} (h1 : s.methodNamed? y = some m) (h2 : s.vm.method? m = some meth) (h3 : meth.code = some c) (h4 : c.code = bytes)
    (h5 : (c.maxLocals == mx && c.exceptionTable.isEmpty && decide (c.maxStack ≤ mostOperands) && decide (meth.sig.returnType = rt) && !meth.locks && decide (parseMethodDescriptor y.desc = some meth.sig)) = true) : (Jvm.Cond.code y bytes mx rt).before a s = true := by
  simp only [Bool.and_eq_true, beq_iff_eq, Bool.not_eq_true', decide_eq_true_eq] at h5
  obtain ⟨⟨⟨⟨⟨g1, g2⟩, g3⟩, g4⟩, g5⟩, g6⟩ := h5
  simp [Cond.before, Cond.holds, Cond.value, h1, h2, h3, h4, g1, g2, g3, g4, g5, g6]
def isCode : Jvm.Cond → Bool
  | .code _ _ _ _ => true
  | _ => false
theorem all_split {L : List Jvm.Cond} {P : Jvm.Cond → Bool} (h1 : L.all (fun c => isCode c || P c) = true) (h2 : ∀ c ∈ L.filter isCode, P c = true) : L.all P = true := by
  refine List.all_eq_true.mpr fun c hc => ?_
  have h := List.all_eq_true.mp h1 c hc
  rcases Bool.eq_false_or_eq_true (isCode c) with hi | hi
  · exact h2 c (List.mem_filter.mpr ⟨hc, hi⟩)
  · simpa [hi] using h
set_option maxRecDepth 65536 in
theorem w_c0 : (Jvm.Cond.code x code maxLocals ret).before args0 about1 = true := code_word (m := ⟨1, 8⟩) (meth := k1m8) (c := k1c8) (by decide +kernel) rfl rfl rfl (by decide +kernel)
set_option maxRecDepth 65536 in
theorem w_c1 : (Jvm.Cond.code ({ cls := "com/example/rowanport/rowanport/util/MailAddressesDomainPinLaw", name := "localChar", desc := "(JII)C" } : Jvm.MethodName) method_6_code (5 : Nat) (Option.some Jvm.ClassFile.FieldType.char)).before args0 about1 = true := code_word (m := ⟨1, 5⟩) (meth := k1m5) (c := k1c5) (by decide +kernel) rfl rfl rfl (by decide +kernel)
set_option maxRecDepth 65536 in
theorem w_c2 : (Jvm.Cond.code ({ cls := "com/example/rowanport/rowanport/util/MailAddressesDomainPinLaw", name := "octet", desc := "(JI)I" } : Jvm.MethodName) method_2_code (3 : Nat) (Option.some Jvm.ClassFile.FieldType.int)).before args0 about1 = true := code_word (m := ⟨1, 1⟩) (meth := k1m1) (c := k1c1) (by decide +kernel) rfl rfl rfl (by decide +kernel)
set_option maxRecDepth 65536 in
theorem w_c3 : (Jvm.Cond.code ({ cls := "com/example/rowanport/rowanport/util/MailAddressesDomainPinLaw", name := "atom", desc := "(I)C" } : Jvm.MethodName) method_3_code (2 : Nat) (Option.some Jvm.ClassFile.FieldType.char)).before args0 about1 = true := code_word (m := ⟨1, 2⟩) (meth := k1m2) (c := k1c2) (by decide +kernel) rfl rfl rfl (by decide +kernel)
set_option maxRecDepth 65536 in
theorem w_c4 : (Jvm.Cond.code ({ cls := "java/lang/String", name := "length", desc := "()I" } : Jvm.MethodName) jdk_42_method_54_code (1 : Nat) (Option.some Jvm.ClassFile.FieldType.int)).before args0 about1 = true := code_word (m := ⟨7, 2⟩) (meth := k7m2) (c := k7c2) (by decide +kernel) rfl rfl rfl (by decide +kernel)
set_option maxRecDepth 65536 in
theorem w_c5 : (Jvm.Cond.code ({ cls := "java/lang/String", name := "coder", desc := "()B" } : Jvm.MethodName) jdk_42_method_152_code (1 : Nat) (Option.some Jvm.ClassFile.FieldType.byte)).before args0 about1 = true := code_word (m := ⟨7, 10⟩) (meth := k7m10) (c := k7c10) (by decide +kernel) rfl rfl rfl (by decide +kernel)
set_option maxRecDepth 65536 in
theorem w_c6 : (Jvm.Cond.code ({ cls := "java/lang/String", name := "charAt", desc := "(I)C" } : Jvm.MethodName) jdk_42_method_56_code (2 : Nat) (Option.some Jvm.ClassFile.FieldType.char)).before args0 about1 = true := code_word (m := ⟨7, 3⟩) (meth := k7m3) (c := k7c3) (by decide +kernel) rfl rfl rfl (by decide +kernel)
set_option maxRecDepth 65536 in
theorem w_c7 : (Jvm.Cond.code ({ cls := "java/lang/String", name := "isLatin1", desc := "()Z" } : Jvm.MethodName) jdk_42_method_154_code (1 : Nat) (Option.some Jvm.ClassFile.FieldType.boolean)).before args0 about1 = true := code_word (m := ⟨7, 11⟩) (meth := k7m11) (c := k7c11) (by decide +kernel) rfl rfl rfl (by decide +kernel)
set_option maxRecDepth 65536 in
theorem w_c8 : (Jvm.Cond.code ({ cls := "java/lang/StringLatin1", name := "charAt", desc := "([BI)C" } : Jvm.MethodName) jdk_43_method_2_code (2 : Nat) (Option.some Jvm.ClassFile.FieldType.char)).before args0 about1 = true := code_word (m := ⟨8, 1⟩) (meth := k8m1) (c := k8c1) (by decide +kernel) rfl rfl rfl (by decide +kernel)
set_option maxRecDepth 65536 in
theorem w_c9 : (Jvm.Cond.code ({ cls := "java/lang/String", name := "checkIndex", desc := "(II)V" } : Jvm.MethodName) jdk_42_method_155_code (2 : Nat) (Option.none : Option Jvm.ClassFile.FieldType)).before args0 about1 = true := code_word (m := ⟨7, 12⟩) (meth := k7m12) (c := k7c12) (by decide +kernel) rfl rfl rfl (by decide +kernel)
set_option maxRecDepth 65536 in
theorem w_c10 : (Jvm.Cond.code ({ cls := "jdk/internal/util/Preconditions", name := "checkIndex", desc := "(IILjava/util/function/BiFunction;)I" } : Jvm.MethodName) jdk_41_method_11_code (3 : Nat) (Option.some Jvm.ClassFile.FieldType.int)).before args0 about1 = true := code_word (m := ⟨9, 1⟩) (meth := k9m1) (c := k9c1) (by decide +kernel) rfl rfl rfl (by decide +kernel)
set_option maxRecDepth 65536 in
theorem w_c11 : (Jvm.Cond.code ({ cls := "com/example/rowanport/rowanport/util/MailAddressesDomainPinLaw", name := "domainChar", desc := "(JII)C" } : Jvm.MethodName) method_7_code (6 : Nat) (Option.some Jvm.ClassFile.FieldType.char)).before args0 about1 = true := code_word (m := ⟨1, 6⟩) (meth := k1m6) (c := k1c6) (by decide +kernel) rfl rfl rfl (by decide +kernel)
set_option maxRecDepth 65536 in
theorem w_c12 : (Jvm.Cond.code ({ cls := "com/example/rowanport/rowanport/util/MailAddressesDomainPinLaw", name := "alnum", desc := "(I)C" } : Jvm.MethodName) method_4_code (2 : Nat) (Option.some Jvm.ClassFile.FieldType.char)).before args0 about1 = true := code_word (m := ⟨1, 3⟩) (meth := k1m3) (c := k1c3) (by decide +kernel) rfl rfl rfl (by decide +kernel)
set_option maxRecDepth 65536 in
theorem w_c13 : (Jvm.Cond.code ({ cls := "com/example/rowanport/rowanport/util/MailAddressesDomainPinLaw", name := "isAlnum", desc := "(C)Z" } : Jvm.MethodName) method_5_code (1 : Nat) (Option.some Jvm.ClassFile.FieldType.boolean)).before args0 about1 = true := code_word (m := ⟨1, 4⟩) (meth := k1m4) (c := k1c4) (by decide +kernel) rfl rfl rfl (by decide +kernel)
set_option maxRecDepth 65536 in
theorem w_c14 : (Jvm.Cond.code ({ cls := "com/example/rowanport/rowanport/util/MailAddressesDomainPinLaw", name := "at", desc := "([C[CII)C" } : Jvm.MethodName) method_8_code (4 : Nat) (Option.some Jvm.ClassFile.FieldType.char)).before args0 about1 = true := code_word (m := ⟨1, 7⟩) (meth := k1m7) (c := k1c7) (by decide +kernel) rfl rfl rfl (by decide +kernel)
set_option maxRecDepth 65536 in
theorem w_c15 : (Jvm.Cond.code ({ cls := "java/lang/String", name := "<init>", desc := "([C)V" } : Jvm.MethodName) jdk_42_method_3_code (2 : Nat) (Option.none : Option Jvm.ClassFile.FieldType)).before args0 about1 = true := code_word (m := ⟨7, 1⟩) (meth := k7m1) (c := k7c1) (by decide +kernel) rfl rfl rfl (by decide +kernel)
set_option maxRecDepth 65536 in
theorem w_c16 : (Jvm.Cond.code ({ cls := "java/lang/String", name := "<init>", desc := "([CIILjava/lang/Void;)V" } : Jvm.MethodName) jdk_42_method_149_code (6 : Nat) (Option.none : Option Jvm.ClassFile.FieldType)).before args0 about1 = true := code_word (m := ⟨7, 8⟩) (meth := k7m8) (c := k7c8) (by decide +kernel) rfl rfl rfl (by decide +kernel)
set_option maxRecDepth 65536 in
theorem w_c17 : (Jvm.Cond.code ({ cls := "java/lang/Object", name := "<init>", desc := "()V" } : Jvm.MethodName) object_method_1_code (1 : Nat) (Option.none : Option Jvm.ClassFile.FieldType)).before args0 about1 = true := code_word (m := ⟨0, 0⟩) (meth := k0m0) (c := k0c0) (by decide +kernel) rfl rfl rfl (by decide +kernel)
set_option maxRecDepth 65536 in
theorem w_c18 : (Jvm.Cond.code ({ cls := "java/lang/StringUTF16", name := "compress", desc := "([CII)[B" } : Jvm.MethodName) jdk_52_method_16_code (6 : Nat) (Option.some (Jvm.ClassFile.FieldType.array Jvm.ClassFile.FieldType.byte))).before args0 about1 = true := code_word (m := ⟨10, 2⟩) (meth := k10m2) (c := k10c2) (by decide +kernel) rfl rfl rfl (by decide +kernel)
set_option maxRecDepth 65536 in
theorem w_c19 : (Jvm.Cond.code ({ cls := "java/lang/StringUTF16", name := "compress", desc := "([CI[BII)I" } : Jvm.MethodName) jdk_52_method_21_code (7 : Nat) (Option.some Jvm.ClassFile.FieldType.int)).before args0 about1 = true := code_word (m := ⟨10, 3⟩) (meth := k10m3) (c := k10c3) (by decide +kernel) rfl rfl rfl (by decide +kernel)
set_option maxRecDepth 65536 in
theorem w_c20 : (Jvm.Cond.code ({ cls := "java/lang/StringUTF16", name := "coderFromArrayLen", desc := "([BI)B" } : Jvm.MethodName) jdk_52_method_15_code (2 : Nat) (Option.some Jvm.ClassFile.FieldType.byte)).before args0 about1 = true := code_word (m := ⟨10, 1⟩) (meth := k10m1) (c := k10c1) (by decide +kernel) rfl rfl rfl (by decide +kernel)
set_option maxRecDepth 65536 in
theorem w_c21 : (Jvm.Cond.code ({ cls := "com/example/rowanport/rowanport/util/MailAddresses", name := "domain", desc := "(Ljava/lang/String;)Ljava/lang/String;" } : Jvm.MethodName) prog_60_method_3_code (1 : Nat) (Option.some (Jvm.ClassFile.FieldType.object "java/lang/String"))).before args0 about1 = true := code_word (m := ⟨11, 1⟩) (meth := k11m1) (c := k11c1) (by decide +kernel) rfl rfl rfl (by decide +kernel)
set_option maxRecDepth 65536 in
theorem w_c22 : (Jvm.Cond.code ({ cls := "java/lang/String", name := "lastIndexOf", desc := "(I)I" } : Jvm.MethodName) jdk_42_method_82_code (2 : Nat) (Option.some Jvm.ClassFile.FieldType.int)).before args0 about1 = true := code_word (m := ⟨7, 4⟩) (meth := k7m4) (c := k7c4) (by decide +kernel) rfl rfl rfl (by decide +kernel)
set_option maxRecDepth 65536 in
theorem w_c23 : (Jvm.Cond.code ({ cls := "java/lang/String", name := "lastIndexOf", desc := "(II)I" } : Jvm.MethodName) jdk_42_method_83_code (3 : Nat) (Option.some Jvm.ClassFile.FieldType.int)).before args0 about1 = true := code_word (m := ⟨7, 5⟩) (meth := k7m5) (c := k7c5) (by decide +kernel) rfl rfl rfl (by decide +kernel)
set_option maxRecDepth 65536 in
theorem w_c24 : (Jvm.Cond.code ({ cls := "java/lang/StringLatin1", name := "lastIndexOf", desc := "([BII)I" } : Jvm.MethodName) jdk_43_method_27_code (4 : Nat) (Option.some Jvm.ClassFile.FieldType.int)).before args0 about1 = true := code_word (m := ⟨8, 3⟩) (meth := k8m3) (c := k8c3) (by decide +kernel) rfl rfl rfl (by decide +kernel)
set_option maxRecDepth 65536 in
theorem w_c25 : (Jvm.Cond.code ({ cls := "java/lang/StringLatin1", name := "canEncode", desc := "(I)Z" } : Jvm.MethodName) jdk_43_method_4_code (1 : Nat) (Option.some Jvm.ClassFile.FieldType.boolean)).before args0 about1 = true := code_word (m := ⟨8, 2⟩) (meth := k8m2) (c := k8c2) (by decide +kernel) rfl rfl rfl (by decide +kernel)
set_option maxRecDepth 65536 in
theorem w_c26 : (Jvm.Cond.code ({ cls := "java/lang/Math", name := "min", desc := "(II)I" } : Jvm.MethodName) jdk_29_method_69_code (2 : Nat) (Option.some Jvm.ClassFile.FieldType.int)).before args0 about1 = true := code_word (m := ⟨12, 1⟩) (meth := k12m1) (c := k12c1) (by decide +kernel) rfl rfl rfl (by decide +kernel)
set_option maxRecDepth 65536 in
theorem w_c27 : (Jvm.Cond.code ({ cls := "java/lang/String", name := "substring", desc := "(I)Ljava/lang/String;" } : Jvm.MethodName) jdk_42_method_91_code (2 : Nat) (Option.some (Jvm.ClassFile.FieldType.object "java/lang/String"))).before args0 about1 = true := code_word (m := ⟨7, 6⟩) (meth := k7m6) (c := k7c6) (by decide +kernel) rfl rfl rfl (by decide +kernel)
set_option maxRecDepth 65536 in
theorem w_c28 : (Jvm.Cond.code ({ cls := "java/lang/String", name := "substring", desc := "(II)Ljava/lang/String;" } : Jvm.MethodName) jdk_42_method_92_code (5 : Nat) (Option.some (Jvm.ClassFile.FieldType.object "java/lang/String"))).before args0 about1 = true := code_word (m := ⟨7, 7⟩) (meth := k7m7) (c := k7c7) (by decide +kernel) rfl rfl rfl (by decide +kernel)
set_option maxRecDepth 65536 in
theorem w_c29 : (Jvm.Cond.code ({ cls := "java/lang/String", name := "checkBoundsBeginEnd", desc := "(III)V" } : Jvm.MethodName) jdk_42_method_158_code (3 : Nat) (Option.none : Option Jvm.ClassFile.FieldType)).before args0 about1 = true := code_word (m := ⟨7, 13⟩) (meth := k7m13) (c := k7c13) (by decide +kernel) rfl rfl rfl (by decide +kernel)
set_option maxRecDepth 65536 in
theorem w_c30 : (Jvm.Cond.code ({ cls := "jdk/internal/util/Preconditions", name := "checkFromToIndex", desc := "(IIILjava/util/function/BiFunction;)I" } : Jvm.MethodName) jdk_41_method_12_code (4 : Nat) (Option.some Jvm.ClassFile.FieldType.int)).before args0 about1 = true := code_word (m := ⟨9, 2⟩) (meth := k9m2) (c := k9c2) (by decide +kernel) rfl rfl rfl (by decide +kernel)
set_option maxRecDepth 65536 in
theorem w_c31 : (Jvm.Cond.code ({ cls := "java/lang/StringLatin1", name := "newString", desc := "([BII)Ljava/lang/String;" } : Jvm.MethodName) jdk_43_method_47_code (3 : Nat) (Option.some (Jvm.ClassFile.FieldType.object "java/lang/String"))).before args0 about1 = true := code_word (m := ⟨8, 4⟩) (meth := k8m4) (c := k8c4) (by decide +kernel) rfl rfl rfl (by decide +kernel)
set_option maxRecDepth 65536 in
theorem w_c32 : (Jvm.Cond.code ({ cls := "java/util/Arrays", name := "copyOfRange", desc := "([BII)[B" } : Jvm.MethodName) jdk_65_method_132_code (3 : Nat) (Option.some (Jvm.ClassFile.FieldType.array Jvm.ClassFile.FieldType.byte))).before args0 about1 = true := code_word (m := ⟨13, 2⟩) (meth := k13m2) (c := k13c2) (by decide +kernel) rfl rfl rfl (by decide +kernel)
set_option maxRecDepth 65536 in
theorem w_c33 : (Jvm.Cond.code ({ cls := "java/util/Arrays", name := "copyOfRangeByte", desc := "([BII)[B" } : Jvm.MethodName) jdk_65_method_133_code (5 : Nat) (Option.some (Jvm.ClassFile.FieldType.array Jvm.ClassFile.FieldType.byte))).before args0 about1 = true := code_word (m := ⟨13, 3⟩) (meth := k13m3) (c := k13c3) (by decide +kernel) rfl rfl rfl (by decide +kernel)
set_option maxRecDepth 65536 in
theorem w_c34 : (Jvm.Cond.code ({ cls := "java/util/Arrays", name := "checkLength", desc := "(II)V" } : Jvm.MethodName) jdk_65_method_131_code (2 : Nat) (Option.none : Option Jvm.ClassFile.FieldType)).before args0 about1 = true := code_word (m := ⟨13, 1⟩) (meth := k13m1) (c := k13c1) (by decide +kernel) rfl rfl rfl (by decide +kernel)
set_option maxRecDepth 65536 in
theorem w_c35 : (Jvm.Cond.code ({ cls := "java/lang/String", name := "<init>", desc := "([BB)V" } : Jvm.MethodName) jdk_42_method_151_code (3 : Nat) (Option.none : Option Jvm.ClassFile.FieldType)).before args0 about1 = true := code_word (m := ⟨7, 9⟩) (meth := k7m9) (c := k7c9) (by decide +kernel) rfl rfl rfl (by decide +kernel)
def codes1 : List Jvm.Cond := [Jvm.Cond.code x code maxLocals ret, Jvm.Cond.code ({ cls := "com/example/rowanport/rowanport/util/MailAddressesDomainPinLaw", name := "localChar", desc := "(JII)C" } : Jvm.MethodName) method_6_code (5 : Nat) (Option.some Jvm.ClassFile.FieldType.char), Jvm.Cond.code ({ cls := "com/example/rowanport/rowanport/util/MailAddressesDomainPinLaw", name := "octet", desc := "(JI)I" } : Jvm.MethodName) method_2_code (3 : Nat) (Option.some Jvm.ClassFile.FieldType.int), Jvm.Cond.code ({ cls := "com/example/rowanport/rowanport/util/MailAddressesDomainPinLaw", name := "atom", desc := "(I)C" } : Jvm.MethodName) method_3_code (2 : Nat) (Option.some Jvm.ClassFile.FieldType.char), Jvm.Cond.code ({ cls := "java/lang/String", name := "length", desc := "()I" } : Jvm.MethodName) jdk_42_method_54_code (1 : Nat) (Option.some Jvm.ClassFile.FieldType.int), Jvm.Cond.code ({ cls := "java/lang/String", name := "coder", desc := "()B" } : Jvm.MethodName) jdk_42_method_152_code (1 : Nat) (Option.some Jvm.ClassFile.FieldType.byte), Jvm.Cond.code ({ cls := "java/lang/String", name := "charAt", desc := "(I)C" } : Jvm.MethodName) jdk_42_method_56_code (2 : Nat) (Option.some Jvm.ClassFile.FieldType.char), Jvm.Cond.code ({ cls := "java/lang/String", name := "isLatin1", desc := "()Z" } : Jvm.MethodName) jdk_42_method_154_code (1 : Nat) (Option.some Jvm.ClassFile.FieldType.boolean), Jvm.Cond.code ({ cls := "java/lang/StringLatin1", name := "charAt", desc := "([BI)C" } : Jvm.MethodName) jdk_43_method_2_code (2 : Nat) (Option.some Jvm.ClassFile.FieldType.char), Jvm.Cond.code ({ cls := "java/lang/String", name := "checkIndex", desc := "(II)V" } : Jvm.MethodName) jdk_42_method_155_code (2 : Nat) (Option.none : Option Jvm.ClassFile.FieldType), Jvm.Cond.code ({ cls := "jdk/internal/util/Preconditions", name := "checkIndex", desc := "(IILjava/util/function/BiFunction;)I" } : Jvm.MethodName) jdk_41_method_11_code (3 : Nat) (Option.some Jvm.ClassFile.FieldType.int), Jvm.Cond.code ({ cls := "com/example/rowanport/rowanport/util/MailAddressesDomainPinLaw", name := "domainChar", desc := "(JII)C" } : Jvm.MethodName) method_7_code (6 : Nat) (Option.some Jvm.ClassFile.FieldType.char), Jvm.Cond.code ({ cls := "com/example/rowanport/rowanport/util/MailAddressesDomainPinLaw", name := "alnum", desc := "(I)C" } : Jvm.MethodName) method_4_code (2 : Nat) (Option.some Jvm.ClassFile.FieldType.char), Jvm.Cond.code ({ cls := "com/example/rowanport/rowanport/util/MailAddressesDomainPinLaw", name := "isAlnum", desc := "(C)Z" } : Jvm.MethodName) method_5_code (1 : Nat) (Option.some Jvm.ClassFile.FieldType.boolean), Jvm.Cond.code ({ cls := "com/example/rowanport/rowanport/util/MailAddressesDomainPinLaw", name := "at", desc := "([C[CII)C" } : Jvm.MethodName) method_8_code (4 : Nat) (Option.some Jvm.ClassFile.FieldType.char), Jvm.Cond.code ({ cls := "java/lang/String", name := "<init>", desc := "([C)V" } : Jvm.MethodName) jdk_42_method_3_code (2 : Nat) (Option.none : Option Jvm.ClassFile.FieldType), Jvm.Cond.code ({ cls := "java/lang/String", name := "<init>", desc := "([CIILjava/lang/Void;)V" } : Jvm.MethodName) jdk_42_method_149_code (6 : Nat) (Option.none : Option Jvm.ClassFile.FieldType), Jvm.Cond.code ({ cls := "java/lang/Object", name := "<init>", desc := "()V" } : Jvm.MethodName) object_method_1_code (1 : Nat) (Option.none : Option Jvm.ClassFile.FieldType), Jvm.Cond.code ({ cls := "java/lang/StringUTF16", name := "compress", desc := "([CII)[B" } : Jvm.MethodName) jdk_52_method_16_code (6 : Nat) (Option.some (Jvm.ClassFile.FieldType.array Jvm.ClassFile.FieldType.byte)), Jvm.Cond.code ({ cls := "java/lang/StringUTF16", name := "compress", desc := "([CI[BII)I" } : Jvm.MethodName) jdk_52_method_21_code (7 : Nat) (Option.some Jvm.ClassFile.FieldType.int), Jvm.Cond.code ({ cls := "java/lang/StringUTF16", name := "coderFromArrayLen", desc := "([BI)B" } : Jvm.MethodName) jdk_52_method_15_code (2 : Nat) (Option.some Jvm.ClassFile.FieldType.byte), Jvm.Cond.code ({ cls := "com/example/rowanport/rowanport/util/MailAddresses", name := "domain", desc := "(Ljava/lang/String;)Ljava/lang/String;" } : Jvm.MethodName) prog_60_method_3_code (1 : Nat) (Option.some (Jvm.ClassFile.FieldType.object "java/lang/String")), Jvm.Cond.code ({ cls := "java/lang/String", name := "lastIndexOf", desc := "(I)I" } : Jvm.MethodName) jdk_42_method_82_code (2 : Nat) (Option.some Jvm.ClassFile.FieldType.int), Jvm.Cond.code ({ cls := "java/lang/String", name := "lastIndexOf", desc := "(II)I" } : Jvm.MethodName) jdk_42_method_83_code (3 : Nat) (Option.some Jvm.ClassFile.FieldType.int), Jvm.Cond.code ({ cls := "java/lang/StringLatin1", name := "lastIndexOf", desc := "([BII)I" } : Jvm.MethodName) jdk_43_method_27_code (4 : Nat) (Option.some Jvm.ClassFile.FieldType.int), Jvm.Cond.code ({ cls := "java/lang/StringLatin1", name := "canEncode", desc := "(I)Z" } : Jvm.MethodName) jdk_43_method_4_code (1 : Nat) (Option.some Jvm.ClassFile.FieldType.boolean), Jvm.Cond.code ({ cls := "java/lang/Math", name := "min", desc := "(II)I" } : Jvm.MethodName) jdk_29_method_69_code (2 : Nat) (Option.some Jvm.ClassFile.FieldType.int), Jvm.Cond.code ({ cls := "java/lang/String", name := "substring", desc := "(I)Ljava/lang/String;" } : Jvm.MethodName) jdk_42_method_91_code (2 : Nat) (Option.some (Jvm.ClassFile.FieldType.object "java/lang/String")), Jvm.Cond.code ({ cls := "java/lang/String", name := "substring", desc := "(II)Ljava/lang/String;" } : Jvm.MethodName) jdk_42_method_92_code (5 : Nat) (Option.some (Jvm.ClassFile.FieldType.object "java/lang/String")), Jvm.Cond.code ({ cls := "java/lang/String", name := "checkBoundsBeginEnd", desc := "(III)V" } : Jvm.MethodName) jdk_42_method_158_code (3 : Nat) (Option.none : Option Jvm.ClassFile.FieldType), Jvm.Cond.code ({ cls := "jdk/internal/util/Preconditions", name := "checkFromToIndex", desc := "(IIILjava/util/function/BiFunction;)I" } : Jvm.MethodName) jdk_41_method_12_code (4 : Nat) (Option.some Jvm.ClassFile.FieldType.int), Jvm.Cond.code ({ cls := "java/lang/StringLatin1", name := "newString", desc := "([BII)Ljava/lang/String;" } : Jvm.MethodName) jdk_43_method_47_code (3 : Nat) (Option.some (Jvm.ClassFile.FieldType.object "java/lang/String")), Jvm.Cond.code ({ cls := "java/util/Arrays", name := "copyOfRange", desc := "([BII)[B" } : Jvm.MethodName) jdk_65_method_132_code (3 : Nat) (Option.some (Jvm.ClassFile.FieldType.array Jvm.ClassFile.FieldType.byte)), Jvm.Cond.code ({ cls := "java/util/Arrays", name := "copyOfRangeByte", desc := "([BII)[B" } : Jvm.MethodName) jdk_65_method_133_code (5 : Nat) (Option.some (Jvm.ClassFile.FieldType.array Jvm.ClassFile.FieldType.byte)), Jvm.Cond.code ({ cls := "java/util/Arrays", name := "checkLength", desc := "(II)V" } : Jvm.MethodName) jdk_65_method_131_code (2 : Nat) (Option.none : Option Jvm.ClassFile.FieldType), Jvm.Cond.code ({ cls := "java/lang/String", name := "<init>", desc := "([BB)V" } : Jvm.MethodName) jdk_42_method_151_code (3 : Nat) (Option.none : Option Jvm.ClassFile.FieldType)]
set_option maxRecDepth 65536 in
theorem codes_eq : words1.filter isCode = codes1 := rfl
theorem w_codes : ∀ c ∈ words1.filter isCode, c.before args0 about1 = true := by
  rw [codes_eq]
  intro c hc
  simp only [codes1, List.mem_cons, List.not_mem_nil, or_false] at hc
  rcases hc with rfl | rfl | rfl | rfl | rfl | rfl | rfl | rfl | rfl | rfl | rfl | rfl | rfl | rfl | rfl | rfl | rfl | rfl | rfl | rfl | rfl | rfl | rfl | rfl | rfl | rfl | rfl | rfl | rfl | rfl | rfl | rfl | rfl | rfl | rfl | rfl
  · exact w_c0
  · exact w_c1
  · exact w_c2
  · exact w_c3
  · exact w_c4
  · exact w_c5
  · exact w_c6
  · exact w_c7
  · exact w_c8
  · exact w_c9
  · exact w_c10
  · exact w_c11
  · exact w_c12
  · exact w_c13
  · exact w_c14
  · exact w_c15
  · exact w_c16
  · exact w_c17
  · exact w_c18
  · exact w_c19
  · exact w_c20
  · exact w_c21
  · exact w_c22
  · exact w_c23
  · exact w_c24
  · exact w_c25
  · exact w_c26
  · exact w_c27
  · exact w_c28
  · exact w_c29
  · exact w_c30
  · exact w_c31
  · exact w_c32
  · exact w_c33
  · exact w_c34
  · exact w_c35
set_option maxRecDepth 65536 in
theorem w_t1 : (words1.take 24).all (fun c => isCode c || c.before args0 about1) = true := by decide +kernel
set_option maxRecDepth 65536 in
theorem w_t2 : ((words1.drop 24).take 24).all (fun c => isCode c || c.before args0 about1) = true := by decide +kernel
set_option maxRecDepth 65536 in
theorem w_t3 : (((words1.drop 24).drop 24).take 24).all (fun c => isCode c || c.before args0 about1) = true := by decide +kernel
set_option maxRecDepth 65536 in
theorem w_t4 : ((((words1.drop 24).drop 24).drop 24).take 24).all (fun c => isCode c || c.before args0 about1) = true := by decide +kernel
set_option maxRecDepth 65536 in
theorem w_t5 : (((((words1.drop 24).drop 24).drop 24).drop 24).take 24).all (fun c => isCode c || c.before args0 about1) = true := by decide +kernel
set_option maxRecDepth 65536 in
theorem w_t6 : ((((((words1.drop 24).drop 24).drop 24).drop 24).drop 24).take 24).all (fun c => isCode c || c.before args0 about1) = true := by decide +kernel
set_option maxRecDepth 65536 in
theorem w_t7 : ((((((words1.drop 24).drop 24).drop 24).drop 24).drop 24).drop 24).all (fun c => isCode c || c.before args0 about1) = true := by decide +kernel
theorem w_tables : (allAtoms (Jvm.Cond.code x code maxLocals ret :: tables_1)).before args0 about1 = true := by
  rw [allAtoms_all]
  show words1.all (fun c => c.before args0 about1) = true
  refine all_split ?_ w_codes
  rw [← List.take_append_drop 24 words1, List.all_append, w_t1, ← List.take_append_drop 24 (words1.drop 24), List.all_append, w_t2, ← List.take_append_drop 24 ((words1.drop 24).drop 24), List.all_append, w_t3, ← List.take_append_drop 24 (((words1.drop 24).drop 24).drop 24), List.all_append, w_t4, ← List.take_append_drop 24 ((((words1.drop 24).drop 24).drop 24).drop 24), List.all_append, w_t5, ← List.take_append_drop 24 (((((words1.drop 24).drop 24).drop 24).drop 24).drop 24), List.all_append, w_t6, w_t7]
  rfl
set_option maxRecDepth 65536 in
theorem w_rest : rest_1_c.before args0 about1 = true := by decide +kernel
set_option maxRecDepth 65536 in
theorem w_case : (Jvm.Cond.and given_1 narrow_1).before args0 about1 = true := by decide +kernel
set_option maxRecDepth 65536 in
theorem w_consts : constsHeld consts_1 about1 := Jvm.Lit.constsHeldB_iff.mp (by decide +kernel)
theorem w_applies : (headSpec (Jvm.Cond.code x code maxLocals ret :: tables_1) room_1).applies x e0.platform about1 = true :=
  (Spec.applies_iff w_frames).mpr ⟨w_running, w_runnable, w_alone, w_named, w_hears, w_ripe, w_room, w_tables⟩
theorem atStart : AtStart classFile x code maxLocals ret World_1 tables_1 room_1 Calls_1 rest_1 Pre_1 launch0 p0 e0 about1 theMethod args0 below0 :=
  ⟨lists_1, trivial, launch0.admits_env _ _ _, launch0.least_env, fairChoices_fair.cas, fairChoices_fair.clock, w_frames, w_args, w_heap, w_applies, ⟨w_consts, trivial⟩, w_rest, w_case⟩
end start1
theorem witness_1 : WitnessClaimed_1 := ⟨start1.p0, start1.e0, start1.about1, start1.theMethod, start1.args0, start1.below0, start1.atStart⟩
end Jvm.Pilot.@@N@@
