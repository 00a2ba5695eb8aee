import JvmDerived
import JvmDerived.Pilot.@@N@@Statement
import JvmDerived.Pilot.@@N@@Code
set_option linter.unusedVariables false
set_option linter.unusedSimpArgs false
/- laws to paste: Road.backV, Road.lenW, Road.chN, Road.eqW, Road.codOf (cut by pick.py; bodies as the Statement names them) -/
namespace Jvm.Pilot.@@N@@
namespace StrChars
open Jvm Sem ClassFile Op Lib Jvm.Stand Jvm.Free.XT Jvm.Free.ALB Jvm.Free.JM Jvm.Free
open Jvm.Lib.Cold (StaticIs)
/-- a char array whose places are chars -/
def Ch (a : Addr) (A : Cell) (U : State) : Prop := Arr .char a A U ∧ Typed .char A
theorem Ch.mv {a : Addr} {A : Cell} {U U' : State} (h : Ch a A U) (hal : U.vm.Alike U'.vm) (hh : U'.heap = U.heap) : Ch a A U' := ⟨h.1.mv hal hh, h.2⟩
theorem Ch.keep {a : Addr} {A : Cell} {U U' : State} (h : Ch a A U) (hal : U.vm.Alike U'.vm) (hk : U'.heap[a]? = some A) : Ch a A U' := ⟨h.1.keep hal hk, h.2⟩
/-- what place i of a char[]'s cell holds -/
def cv (A : Cell) (i : Nat) : Int32 := match A.slots[i]? with | some (.int x) => x | _ => 0
theorem Ch.get {a : Addr} {A : Cell} {U : State} (h : Ch a A U) {i : Nat} (hi : i < A.slots.size) : A.slots[i]? = some (.int (cv A i)) := by
  have e := Array.getElem?_eq_getElem hi
  have f := h.2 i _ e
  unfold cv; rw [e]
  generalize A.slots[i] = v at f
  cases v <;> simp [fits] at f ⊢
/-- the byte that i2b leaves of a char -/
def lo8 (x : Int32) : Int32 := x.toInt8.toInt32
theorem fits_lo8 (y : Int32) : fits .byte (.int (lo8 y)) = true := by
  have h1 := y.toInt8.le_toInt
  have h2 := y.toInt8.toInt_lt
  simp only [lo8, fits, Bool.and_eq_true, decide_eq_true_eq, Int32.le_iff_toInt_le, Int8.toInt_toInt32, show (-128 : Int32).toInt = -128 from by decide, show (127 : Int32).toInt = 127 from by decide]
  omega
/-- A' is A but that each place j of lo .. hi - 1 holds f j -/
def Laid (A A' : Cell) (lo hi : Nat) (f : Nat → Value) : Prop := A'.cls = A.cls ∧ A'.vm = A.vm ∧ A'.slots.size = A.slots.size ∧ ∀ i, A'.slots[i]? = if lo ≤ i ∧ i < hi then some (f i) else A.slots[i]?
theorem Laid.zero (A : Cell) (lo : Nat) (f : Nat → Value) : Laid A A lo (lo + 0) f := ⟨rfl, rfl, rfl, fun i => by rw [if_neg (by omega)]⟩
theorem Laid.step {A Ak : Cell} {lo k : Nat} {f : Nat → Value} {v : Value} (h : Laid A Ak lo k f) (hlo : lo ≤ k) (hk : k < Ak.slots.size) (hv : v = f k) : Laid A (Ak.setSlot k v) lo (k + 1) f := by
  refine ⟨h.1, h.2.1, by simpa [Cell.setSlot] using h.2.2.1, fun i => ?_⟩
  by_cases e : k = i
  · subst e; rw [Cell.slots_setSlot_self v hk, if_pos (by omega), hv]
  · rw [Cell.slots_setSlot_ne v e, h.2.2.2 i]
    by_cases q : lo ≤ i ∧ i < k
    · rw [if_pos q, if_pos (by omega)]
    · rw [if_neg q, if_neg (by omega)]
def U16 : String := "java/lang/StringUTF16"
namespace Cmp5
def yN : MethodName := ⟨"java/lang/StringUTF16", "compress", "([CI[BII)I"⟩
abbrev yB : ByteArray := jdk_52_method_21_code
theorem d0 : decode yB 0 = .ok (.iconst 0, 1) := by decide +kernel
theorem d1 : decode yB 1 = .ok (.istore 5, 2) := by decide +kernel
theorem d3 : decode yB 3 = .ok (.iload 5, 2) := by decide +kernel
theorem d5 : decode yB 5 = .ok (.iload 4, 2) := by decide +kernel
theorem d7 : decode yB 7 = .ok (.if_icmp (.ge) 37, 3) := by decide +kernel
theorem d10 : decode yB 10 = .ok (.aload_n 0, 1) := by decide +kernel
theorem d11 : decode yB 11 = .ok (.iload_n 1, 1) := by decide +kernel
theorem d12 : decode yB 12 = .ok (.caload, 1) := by decide +kernel
theorem d13 : decode yB 13 = .ok (.istore 6, 2) := by decide +kernel
theorem d15 : decode yB 15 = .ok (.iload 6, 2) := by decide +kernel
theorem d17 : decode yB 17 = .ok (.sipush 255, 3) := by decide +kernel
theorem d20 : decode yB 20 = .ok (.if_icmp (.le) 6, 3) := by decide +kernel
theorem d26 : decode yB 26 = .ok (.aload_n 2, 1) := by decide +kernel
theorem d27 : decode yB 27 = .ok (.iload_n 3, 1) := by decide +kernel
theorem d28 : decode yB 28 = .ok (.iload 6, 2) := by decide +kernel
theorem d30 : decode yB 30 = .ok (.i2b, 1) := by decide +kernel
theorem d31 : decode yB 31 = .ok (.bastore, 1) := by decide +kernel
theorem d32 : decode yB 32 = .ok (.iinc 1 1, 3) := by decide +kernel
theorem d35 : decode yB 35 = .ok (.iinc 3 1, 3) := by decide +kernel
theorem d38 : decode yB 38 = .ok (.iinc 5 1, 3) := by decide +kernel
theorem d41 : decode yB 41 = .ok (.goto (-38), 3) := by decide +kernel
theorem d44 : decode yB 44 = .ok (.iload 4, 2) := by decide +kernel
theorem d46 : decode yB 46 = .ok (.ireturn, 1) := by decide +kernel
def site : List Cond := []
def tab : Cond := tabOf yN yB 7 (some .int) site
def P (b : Addr) (A : Cell) (d : Addr) (B : Cell) (o q len : Nat) (args : Array Value) (s : State) : Prop := args = #[.ref b, .int (Int32.ofNat o), .ref d, .int (Int32.ofNat q), .int (Int32.ofNat len)] ∧ Ch b A s ∧ Arr .byte d B s ∧ b ≠ d ∧ o + len ≤ A.slots.size ∧ q + len ≤ B.slots.size ∧ ∀ i, i < len → ¬ 255 < cv A (o + i)
def E (b : Addr) (A : Cell) (d : Addr) (B : Cell) (o q len : Nat) (r : Option Value) (s u : State) : Prop := r = some (.int (Int32.ofNat len)) ∧ ∃ B', Put d B' s u ∧ Laid B B' q (q + len) (fun j => Value.int (lo8 (cv A (o + (j - q)))))
/-- no char of the range above 255: len; the places written hold each char's low byte -/
theorem law (l : Launch) (b : Addr) (A : Cell) (d : Addr) (B : Cell) (o q len : Nat) : Law l yN 5 5 0 0 yB 7 (some .int) site (P b A d B o q len) (E b A d B o q len) (copyLocs d q len) 0 0 := by
  refine Law.of_walk (plainFor_of_name (by decide +kernel)) (by decide +kernel) (by decide +kernel) (by decide) (fun _ _ h => by rw [h.1]; rfl) (fun _ U U' hal hh h => ⟨h.1, h.2.1.mv hal hh, h.2.2.1.mv hal hh, h.2.2.2⟩) (fun r U U' V V' h1 hal h2 h => ⟨h.1, h.2.elim fun B' q => ⟨B', q.1.mv h1 h2, q.2⟩⟩) ?_
  intro p e s m args below meth c s₁ X0 hexec hbytes hml hret hlk hnm hown hh0 W hP
  obtain ⟨rfl, hA, hB, hne, l1, l2, hp⟩ := hP
  have c1 : Steps p.tables e below (s₁.setTop (entryFrame m #[.ref b, .int (Int32.ofNat o), .ref d, .int (Int32.ofNat q), .int (Int32.ofNat len)] 7)) (s₁.setTop (mkF m 0 #[.val (.ref b), .val (.int (Int32.ofNat o)), .val (.ref d), .val (.int (Int32.ofNat q)), .val (.int (Int32.ofNat len)), .unset, .unset] [])) := entry rfl
  have hA0 := hA.1.mv X0.warmed.alike hh0
  have hB0 := hB.mv X0.warmed.alike hh0
  have a31 := hA.1.2.2.2
  have c2 : Steps p.tables e below (s₁.setTop (entryFrame m #[.ref b, .int (Int32.ofNat o), .ref d, .int (Int32.ofNat q), .int (Int32.ofNat len)] 7)) (s₁.setTop (mkF m 3 #[.val (.ref b), .val (.int (Int32.ofNat o)), .val (.ref d), .val (.int (Int32.ofNat q)), .val (.int (Int32.ofNat len)), .val (.int 0), .unset] [])) := c1.trans (by
    refine iconstV X0.here hexec rfl 0 (hb hbytes d0) (by decide) ?_
    refine XS.istore X0.here hexec rfl (hb hbytes d1) rfl rfl ?_
    exact Steps.refl _)
  have loop : ∀ (r i : Nat), i + r = len → ∀ (z : Slot), (z = .unset ∨ ∃ w, z = .val w ∧ w.category = 1) → ∀ (Tl : State) (Bk : Cell), Stand p l e { frames := 0, locals := 0, cells := 0, slots := 0 } s m #[.ref b, .int (Int32.ofNat o), .ref d, .int (Int32.ofNat q), .int (Int32.ofNat len)] below meth c Tl ([] ++ copyLocs d q i) 0 0 → Put d Bk s₁ Tl → Laid B Bk q (q + i) (fun j => Value.int (lo8 (cv A (o + (j - q))))) →
      Steps p.tables e below (s₁.setTop (entryFrame m #[.ref b, .int (Int32.ofNat o), .ref d, .int (Int32.ofNat q), .int (Int32.ofNat len)] 7)) (Tl.setTop (mkF m 3 #[.val (.ref b), .val (.int (Int32.ofNat (o + i))), .val (.ref d), .val (.int (Int32.ofNat (q + i))), .val (.int (Int32.ofNat len)), .val (.int (Int32.ofNat i)), z] [])) → ∃ (T' : State) (B' : Cell) (z' : Slot), Stand p l e { frames := 0, locals := 0, cells := 0, slots := 0 } s m #[.ref b, .int (Int32.ofNat o), .ref d, .int (Int32.ofNat q), .int (Int32.ofNat len)] below meth c T' ([] ++ copyLocs d q len) 0 0 ∧ Put d B' s₁ T' ∧ Laid B B' q (q + len) (fun j => Value.int (lo8 (cv A (o + (j - q))))) ∧
      Steps p.tables e below (s₁.setTop (entryFrame m #[.ref b, .int (Int32.ofNat o), .ref d, .int (Int32.ofNat q), .int (Int32.ofNat len)] 7)) (T'.setTop (mkF m 3 #[.val (.ref b), .val (.int (Int32.ofNat (o + len))), .val (.ref d), .val (.int (Int32.ofNat (q + len))), .val (.int (Int32.ofNat len)), .val (.int (Int32.ofNat len)), z'] [])) := by
    intro r
    induction r with
    | zero =>
      intro i hi z hz Tl Bk Xl pl fl cl
      have hil : i = len := by omega
      rw [hil] at Xl fl cl
      exact ⟨Tl, Bk, z, Xl, pl, fl, cl⟩
    | succ r ih =>
      intro i hi z hz Tl Bk Xl pl fl cl
      have all := X0.warmed.alike.symm.trans Xl.warmed.alike
      have hAl := hA0.keep all (pl.other hne hA0.1)
      have hBk := hB0.like all pl.1 fl.1 fl.2.1 fl.2.2.1
      have hlt : q + i < Bk.slots.size := by rw [fl.2.2.1]; omega
      have c3 : Steps p.tables e below (s₁.setTop (entryFrame m #[.ref b, .int (Int32.ofNat o), .ref d, .int (Int32.ofNat q), .int (Int32.ofNat len)] 7)) (Tl.setTop (mkF m 12 #[.val (.ref b), .val (.int (Int32.ofNat (o + i))), .val (.ref d), .val (.int (Int32.ofNat (q + i))), .val (.int (Int32.ofNat len)), .val (.int (Int32.ofNat i)), z] [.int (Int32.ofNat (o + i)), .ref b])) := cl.trans (by
        refine XS.iload Xl.here hexec rfl (hb hbytes d3) rfl ?_
        refine XS.iload Xl.here hexec rfl (hb hbytes d5) rfl ?_
        refine XS.icmpNo Xl.here hexec rfl (hb hbytes d7) rfl (ii_ge_f (lt32 (by omega) (by omega))) ?_
        refine XS.aloadN Xl.here hexec rfl (hb hbytes d10) rfl rfl ?_
        refine XS.iloadN Xl.here hexec rfl (hb hbytes d11) rfl ?_
        exact Steps.refl _)
      have c4 : Steps p.tables e below (s₁.setTop (entryFrame m #[.ref b, .int (Int32.ofNat o), .ref d, .int (Int32.ofNat q), .int (Int32.ofNat len)] 7)) (Tl.setTop (mkF m 13 #[.val (.ref b), .val (.int (Int32.ofNat (o + i))), .val (.ref d), .val (.int (Int32.ofNat (q + i))), .val (.int (Int32.ofNat len)), .val (.int (Int32.ofNat i)), z] [.int (cv A (o + i))])) := c3.trans (by
        refine Xl.aget hexec hAl rfl (hA.get (i := o + i) (by omega)) rfl rfl (hb hbytes d12) ?_
        exact Steps.refl _)
      have c5 : Steps p.tables e below (s₁.setTop (entryFrame m #[.ref b, .int (Int32.ofNat o), .ref d, .int (Int32.ofNat q), .int (Int32.ofNat len)] 7)) (Tl.setTop (mkF m 15 #[.val (.ref b), .val (.int (Int32.ofNat (o + i))), .val (.ref d), .val (.int (Int32.ofNat (q + i))), .val (.int (Int32.ofNat len)), .val (.int (Int32.ofNat i)), .val (.int (cv A (o + i)))] [])) := c4.trans (by
        refine XS.istoreS Xl.here hexec rfl (hb hbytes d13) rfl rfl hz ?_
        exact Steps.refl _)
      have c6 : Steps p.tables e below (s₁.setTop (entryFrame m #[.ref b, .int (Int32.ofNat o), .ref d, .int (Int32.ofNat q), .int (Int32.ofNat len)] 7)) (Tl.setTop (mkF m 31 #[.val (.ref b), .val (.int (Int32.ofNat (o + i))), .val (.ref d), .val (.int (Int32.ofNat (q + i))), .val (.int (Int32.ofNat len)), .val (.int (Int32.ofNat i)), .val (.int (cv A (o + i)))] [.int (lo8 (cv A (o + i))), .int (Int32.ofNat (q + i)), .ref d])) := c5.trans (by
        refine XS.iload Xl.here hexec rfl (hb hbytes d15) rfl ?_
        refine sipushV Xl.here hexec rfl 255 (hb hbytes d17) (by decide) ?_
        refine XS.icmpYes Xl.here hexec rfl (pc0 := 20) rfl (hb hbytes d20) rfl (ii_le_t (hp i (by omega))) (by decide) rfl ?_
        refine XS.aloadN Xl.here hexec rfl (hb hbytes d26) rfl rfl ?_
        refine XS.iloadN Xl.here hexec rfl (hb hbytes d27) rfl ?_
        refine XS.iload Xl.here hexec rfl (hb hbytes d28) rfl ?_
        refine i2b Xl.here hexec rfl (hb hbytes d30) rfl ?_
        exact Steps.refl _)
      obtain ⟨T7, X7, p7, st7⟩ := Xl.aput hexec hBk rfl hlt rfl (fits_lo8 (cv A (o + i))) (g := (mkF m 31 #[.val (.ref b), .val (.int (Int32.ofNat (o + i))), .val (.ref d), .val (.int (Int32.ofNat (q + i))), .val (.int (Int32.ofNat len)), .val (.int (Int32.ofNat i)), .val (.int (cv A (o + i)))] [.int (lo8 (cv A (o + i))), .int (Int32.ofNat (q + i)), .ref d])) rfl (rest := []) rfl (hb hbytes d31)
      have c8 : Steps p.tables e below (s₁.setTop (entryFrame m #[.ref b, .int (Int32.ofNat o), .ref d, .int (Int32.ofNat q), .int (Int32.ofNat len)] 7)) (T7.setTop (mkF m 32 #[.val (.ref b), .val (.int (Int32.ofNat (o + i))), .val (.ref d), .val (.int (Int32.ofNat (q + i))), .val (.int (Int32.ofNat len)), .val (.int (Int32.ofNat i)), .val (.int (cv A (o + i)))] [])) := c6.trans (st7 _ (Steps.refl _))
      have c9 : Steps p.tables e below (s₁.setTop (entryFrame m #[.ref b, .int (Int32.ofNat o), .ref d, .int (Int32.ofNat q), .int (Int32.ofNat len)] 7)) (T7.setTop (mkF m 3 #[.val (.ref b), .val (.int (Int32.ofNat (o + i) + 1)), .val (.ref d), .val (.int (Int32.ofNat (q + i) + 1)), .val (.int (Int32.ofNat len)), .val (.int (Int32.ofNat i + 1)), .val (.int (cv A (o + i)))] [])) := c8.trans (by
        refine iincV X7.here hexec rfl 1 (hb hbytes d32) (by decide) rfl rfl ?_
        refine iincV X7.here hexec rfl 1 (hb hbytes d35) (by decide) rfl rfl ?_
        refine iincV X7.here hexec rfl 1 (hb hbytes d38) (by decide) rfl rfl ?_
        refine XS.goto X7.here hexec rfl (pc0 := 41) rfl (hb hbytes d41) (by decide) rfl ?_
        exact Steps.refl _)
      have c10 : Steps p.tables e below (s₁.setTop (entryFrame m #[.ref b, .int (Int32.ofNat o), .ref d, .int (Int32.ofNat q), .int (Int32.ofNat len)] 7)) (T7.setTop (mkF m 3 #[.val (.ref b), .val (.int (Int32.ofNat (o + (i + 1)))), .val (.ref d), .val (.int (Int32.ofNat (q + (i + 1)))), .val (.int (Int32.ofNat len)), .val (.int (Int32.ofNat (i + 1))), .val (.int (cv A (o + i)))] [])) := by
        have := c9
        rw [succ32, succ32, succ32] at this
        exact this
      exact ih (i + 1) (by omega) _ (Or.inr ⟨_, rfl, rfl⟩) T7 _ (by rw [copyLocs_step, ← List.append_assoc]; exact X7) (pl.trans p7) (fl.step (by omega) hlt (by simp)) c10
  obtain ⟨T9, B9, z9, X9, p9, f9, g9⟩ := loop len 0 (by omega) .unset (Or.inl rfl) s₁ B (by simpa [copyLocs] using X0) ⟨hB0.1, fun _ _ => rfl, rfl⟩ (Laid.zero _ _ _) c2
  have c11 : Steps p.tables e below (s₁.setTop (entryFrame m #[.ref b, .int (Int32.ofNat o), .ref d, .int (Int32.ofNat q), .int (Int32.ofNat len)] 7)) (T9.setTop (mkF m 46 #[.val (.ref b), .val (.int (Int32.ofNat (o + len))), .val (.ref d), .val (.int (Int32.ofNat (q + len))), .val (.int (Int32.ofNat len)), .val (.int (Int32.ofNat len)), z9] [.int (Int32.ofNat len)])) := g9.trans (by
    refine XS.iload X9.here hexec rfl (hb hbytes d3) rfl ?_
    refine XS.iload X9.here hexec rfl (hb hbytes d5) rfl ?_
    refine XS.icmpYes X9.here hexec rfl (pc0 := 7) rfl (hb hbytes d7) rfl (ii_ge_t (nlt32 (by omega) (Nat.le_refl _))) (by decide) rfl ?_
    refine XS.iload X9.here hexec rfl (hb hbytes d44) rfl ?_
    exact Steps.refl _)
  exact ⟨T9, some (.int (Int32.ofNat len)), _, _, _, X9, by simp, rfl, rfl, (fun h => by cases h), ⟨rfl, B9, p9.from hh0, f9⟩, fun fs hl => c11.trans (X9.ireturnOut hexec hret rfl (Or.inl rfl) (hb hbytes d46) hl)⟩
end Cmp5
namespace Cmp3
def yN : MethodName := ⟨"java/lang/StringUTF16", "compress", "([CII)[B"⟩
abbrev yB : ByteArray := jdk_52_method_16_code
theorem d0 : decode yB 0 = .ok (.iload_n 2, 1) := by decide +kernel
theorem d1 : decode yB 1 = .ok (.newarray .byte, 2) := by decide +kernel
theorem d3 : decode yB 3 = .ok (.astore_n 3, 1) := by decide +kernel
theorem d4 : decode yB 4 = .ok (.aload_n 0, 1) := by decide +kernel
theorem d5 : decode yB 5 = .ok (.iload_n 1, 1) := by decide +kernel
theorem d6 : decode yB 6 = .ok (.aload_n 3, 1) := by decide +kernel
theorem d7 : decode yB 7 = .ok (.iconst 0, 1) := by decide +kernel
theorem d8 : decode yB 8 = .ok (.iload_n 2, 1) := by decide +kernel
theorem d9 : decode yB 9 = .ok (.invokestatic 115, 3) := by decide +kernel
theorem d12 : decode yB 12 = .ok (.istore 4, 2) := by decide +kernel
theorem d14 : decode yB 14 = .ok (.iload 4, 2) := by decide +kernel
theorem d16 : decode yB 16 = .ok (.iload_n 2, 1) := by decide +kernel
theorem d17 : decode yB 17 = .ok (.if_icmp (.eq) 40, 3) := by decide +kernel
theorem d57 : decode yB 57 = .ok (.aload_n 3, 1) := by decide +kernel
theorem d58 : decode yB 58 = .ok (.areturn, 1) := by decide +kernel
def site : List Cond := [.arrayClass .byte, Cmp5.tab] ++ staticW U16 115 Cmp5.yN
def tab : Cond := tabOf yN yB 6 (some (.array .byte)) site
def P (b : Addr) (A : Cell) (o len : Nat) (args : Array Value) (s : State) : Prop := args = #[.ref b, .int (Int32.ofNat o), .int (Int32.ofNat len)] ∧ Ch b A s ∧ o + len ≤ A.slots.size ∧ len ≤ 536870912 ∧ ∀ i, i < len → ¬ 255 < cv A (o + i)
def E (b : Addr) (A : Cell) (o len : Nat) (r : Option Value) (s u : State) : Prop := NewArr .byte "[B" len (fun j => .int (lo8 (cv A (o + j)))) r s u ∧ u.heap.size = s.heap.size + 1
/-- no char of the range above 255: a new byte[] of their low bytes -/
theorem law (l : Launch) (b : Addr) (A : Cell) (o len : Nat) : Law l yN 3 3 1 18 yB 6 (some (.array .byte)) site (P b A o len) (E b A o len) [] 1 len := by
  refine Law.of_walk (plainFor_of_name (by decide +kernel)) (by decide +kernel) (by decide +kernel) (by decide) (fun _ _ h => by rw [h.1]; rfl) (fun _ U U' hal hh h => ⟨h.1, h.2.1.mv hal hh, h.2.2⟩) (fun r U U' V V' h1 hal h2 h => ⟨NewArr.mv r U U' V V' h1 hal h2 h.1, by rw [h1, h2]; exact h.2⟩) ?_
  intro p e s m args below meth c s₁ X0 hexec hbytes hml hret hlk hnm hown hh0 W hP
  obtain ⟨rfl, hA, l1, l2, hp⟩ := hP
  have a31 := hA.1.2.2.2
  have c1 : Steps p.tables e below (s₁.setTop (entryFrame m #[.ref b, .int (Int32.ofNat o), .int (Int32.ofNat len)] 6)) (s₁.setTop (mkF m 0 #[.val (.ref b), .val (.int (Int32.ofNat o)), .val (.int (Int32.ofNat len)), .unset, .unset, .unset] [])) := entry rfl
  have c2 : Steps p.tables e below (s₁.setTop (entryFrame m #[.ref b, .int (Int32.ofNat o), .int (Int32.ofNat len)] 6)) (s₁.setTop (mkF m 1 #[.val (.ref b), .val (.int (Int32.ofNat o)), .val (.int (Int32.ofNat len)), .unset, .unset, .unset] [.int (Int32.ofNat len)])) := c1.trans (by
    refine XS.iloadN X0.here hexec rfl (hb hbytes d0) rfl ?_
    exact Steps.refl _)
  obtain ⟨T3, B3, X3, ba3, bs3, bv3, bh3, bf3, st3⟩ := X0.anew hexec (atype := .byte) (wk W (.arrayClass .byte)) rfl (by show len * 1 ≤ _; omega) (by omega) (g := (mkF m 1 #[.val (.ref b), .val (.int (Int32.ofNat o)), .val (.int (Int32.ofNat len)), .unset, .unset, .unset] [.int (Int32.ofNat len)])) rfl (hb hbytes d1) (rest := []) rfl (Nat.le_refl _) (by show 0 + len ≤ len; omega)
  rw [hh0] at ba3 st3
  have kp3 : XT.Kept s T3 := (XT.Kept.of_eq hh0).push bh3
  have hA3 := hA.keep X3.warmed.alike (kp3 _ _ hA.1.1)
  have hne : b ≠ s.heap.size := hA.1.ne
  have c4 : Steps p.tables e below (s₁.setTop (entryFrame m #[.ref b, .int (Int32.ofNat o), .int (Int32.ofNat len)] 6)) (T3.setTop (mkF m 3 #[.val (.ref b), .val (.int (Int32.ofNat o)), .val (.int (Int32.ofNat len)), .unset, .unset, .unset] [.ref s.heap.size])) := c2.trans (st3 _ (Steps.refl _))
  have c5 : Steps p.tables e below (s₁.setTop (entryFrame m #[.ref b, .int (Int32.ofNat o), .int (Int32.ofNat len)] 6)) (T3.setTop (mkF m 9 #[.val (.ref b), .val (.int (Int32.ofNat o)), .val (.int (Int32.ofNat len)), .val (.ref s.heap.size), .unset, .unset] [.int (Int32.ofNat len), .int 0, .ref s.heap.size, .int (Int32.ofNat o), .ref b])) := c4.trans (by
    refine XS.astoreN X3.here hexec rfl (hb hbytes d3) rfl rfl rfl ?_
    refine XS.aloadN X3.here hexec rfl (hb hbytes d4) rfl rfl ?_
    refine XS.iloadN X3.here hexec rfl (hb hbytes d5) rfl ?_
    refine XS.aloadN X3.here hexec rfl (hb hbytes d6) rfl rfl ?_
    refine iconstV X3.here hexec rfl 0 (hb hbytes d7) (by decide) ?_
    refine XS.iloadN X3.here hexec rfl (hb hbytes d8) rfl ?_
    exact Steps.refl _)
  obtain ⟨v6, T6, X6, E6, g6⟩ := X3.callS hexec (Cmp5.law l b A s.heap.size B3 o 0 len) hown (wks W (staticW U16 115 Cmp5.yN)) (wk W Cmp5.tab) (W := 0) (Nat.le_of_ble_eq_true rfl) (Nat.le_of_ble_eq_true rfl) (Nat.le_refl _) (by show 0 + len + 0 ≤ len; omega) (g := (mkF m 9 #[.val (.ref b), .val (.int (Int32.ofNat o)), .val (.int (Int32.ofNat len)), .val (.ref s.heap.size), .unset, .unset] [.int (Int32.ofNat len), .int (Int32.ofNat 0), .ref s.heap.size, .int (Int32.ofNat o), .ref b])) rfl (by rw [hml]; rfl) c5 (argsL := [.ref b, .int (Int32.ofNat o), .ref s.heap.size, .int (Int32.ofNat 0), .int (Int32.ofNat len)]) (rest := []) rfl rfl (by show 2 * 0 + 0 ≤ _; decide) (hb hbytes d9) (⟨rfl, hA3, ba3, hne, l1, by rw [bs3]; simp, hp⟩)
  obtain ⟨rfl, B6, p6, f6⟩ := E6
  have c7 : Steps p.tables e below (s₁.setTop (entryFrame m #[.ref b, .int (Int32.ofNat o), .int (Int32.ofNat len)] 6)) (T6.setTop (mkF m 12 #[.val (.ref b), .val (.int (Int32.ofNat o)), .val (.int (Int32.ofNat len)), .val (.ref s.heap.size), .unset, .unset] [.int (Int32.ofNat len)])) := g6
  have c8 : Steps p.tables e below (s₁.setTop (entryFrame m #[.ref b, .int (Int32.ofNat o), .int (Int32.ofNat len)] 6)) (T6.setTop (mkF m 58 #[.val (.ref b), .val (.int (Int32.ofNat o)), .val (.int (Int32.ofNat len)), .val (.ref s.heap.size), .val (.int (Int32.ofNat len)), .unset] [.ref s.heap.size])) := c7.trans (by
    refine XS.istore X6.here hexec rfl (hb hbytes d12) rfl rfl ?_
    refine XS.iload X6.here hexec rfl (hb hbytes d14) rfl ?_
    refine XS.iloadN X6.here hexec rfl (hb hbytes d16) rfl ?_
    refine XS.icmpYes X6.here hexec rfl (pc0 := 17) rfl (hb hbytes d17) rfl (ii_eq_t rfl) (by decide) rfl ?_
    refine XS.aloadN X6.here hexec rfl (hb hbytes d57) rfl rfl ?_
    exact Steps.refl _)
  have X8 := X6.wide (L' := []) (cells' := 1) (slots' := len) (fun x hx hlt => by
    simp only [List.nil_append, copyLocs, List.mem_map, List.mem_range] at hx
    obtain ⟨i, -, rfl⟩ := hx
    exact absurd hlt (Nat.lt_irrefl _)) (Nat.le_refl _) (by omega)
  exact ⟨T6, some (.ref s.heap.size), _, _, _, X8, rfl, rfl, rfl, (fun h => by cases h), ⟨⟨rfl, B6, ba3.like (X3.warmed.alike.symm.trans X6.warmed.alike) p6.1 f6.1 f6.2.1 f6.2.2.1, f6.2.1.trans bv3, by rw [X6.warmed.alike.findClass, f6.1]; exact bf3, by rw [f6.2.2.1, bs3]; simp, fun j hj => by rw [f6.2.2.2 j, if_pos (by omega)]; rfl, kp3.put p6 (Nat.le_refl _)⟩, by rw [p6.2.2, bh3, hh0]; simp⟩, fun fs hl => c8.trans (X8.areturnOut hexec rfl hret rfl (hb hbytes d58) hl)⟩
end Cmp3
namespace CodL
def yN : MethodName := ⟨"java/lang/StringUTF16", "coderFromArrayLen", "([BI)B"⟩
abbrev yB : ByteArray := jdk_52_method_15_code
theorem d0 : decode yB 0 = .ok (.iload_n 1, 1) := by decide +kernel
theorem d1 : decode yB 1 = .ok (.aload_n 0, 1) := by decide +kernel
theorem d2 : decode yB 2 = .ok (.arraylength, 1) := by decide +kernel
theorem d3 : decode yB 3 = .ok (.isub, 1) := by decide +kernel
theorem d4 : decode yB 4 = .ok (.bipush 31, 2) := by decide +kernel
theorem d6 : decode yB 6 = .ok (.iushr, 1) := by decide +kernel
theorem d7 : decode yB 7 = .ok (.i2b, 1) := by decide +kernel
theorem d8 : decode yB 8 = .ok (.ireturn, 1) := by decide +kernel
def site : List Cond := []
def tab : Cond := tabOf yN yB 2 (some .byte) site
def P (d : Addr) (B : Cell) (args : Array Value) (s : State) : Prop := args = #[.ref d, .int (Int32.ofNat B.slots.size)] ∧ Arr .byte d B s
def E (r : Option Value) (s u : State) : Prop := XT.PureE (some (.int 0)) r s u
/-- an array as long as the number of chars: LATIN1 -/
theorem law (l : Launch) (d : Addr) (B : Cell) : Law l yN 2 2 0 0 yB 2 (some .byte) site (P d B) E [] 0 0 := by
  refine Law.of_walk (plainFor_of_name (by decide +kernel)) (by decide +kernel) (by decide +kernel) (by decide) (fun _ _ h => by rw [h.1]; rfl) (fun _ U U' hal hh h => ⟨h.1, h.2.mv hal hh⟩) (fun r U U' V V' h1 hal h2 h => XT.PureE.mv r U U' V V' h1 hal h2 h) ?_
  intro p e s m args below meth c s₁ X0 hexec hbytes hml hret hlk hnm hown hh0 W hP
  obtain ⟨rfl, hB⟩ := hP
  have hB0 := hB.mv X0.warmed.alike hh0
  have c1 : Steps p.tables e below (s₁.setTop (entryFrame m #[.ref d, .int (Int32.ofNat B.slots.size)] 2)) (s₁.setTop (mkF m 0 #[.val (.ref d), .val (.int (Int32.ofNat B.slots.size))] [])) := entry rfl
  have c2 : Steps p.tables e below (s₁.setTop (entryFrame m #[.ref d, .int (Int32.ofNat B.slots.size)] 2)) (s₁.setTop (mkF m 2 #[.val (.ref d), .val (.int (Int32.ofNat B.slots.size))] [.ref d, .int (Int32.ofNat B.slots.size)])) := c1.trans (by
    refine XS.iloadN X0.here hexec rfl (hb hbytes d0) rfl ?_
    refine XS.aloadN X0.here hexec rfl (hb hbytes d1) rfl rfl ?_
    exact Steps.refl _)
  have c3 : Steps p.tables e below (s₁.setTop (entryFrame m #[.ref d, .int (Int32.ofNat B.slots.size)] 2)) (s₁.setTop (mkF m 8 #[.val (.ref d), .val (.int (Int32.ofNat B.slots.size))] [.int (lo8 (ushr (Int32.ofNat B.slots.size - Int32.ofNat B.slots.size) 31))])) := c2.trans (by
    refine X0.alen hexec hB0 rfl rfl (hb hbytes d2) ?_
    refine XS.isub X0.here hexec rfl (hb hbytes d3) rfl ?_
    refine bipushV X0.here hexec rfl 31 (hb hbytes d4) (by decide) ?_
    refine iushr X0.here hexec rfl (hb hbytes d6) rfl ?_
    refine i2b X0.here hexec rfl (hb hbytes d7) rfl ?_
    exact Steps.refl _)
  have e0 : lo8 (ushr (Int32.ofNat B.slots.size - Int32.ofNat B.slots.size) 31) = 0 := by rw [Int32.sub_self]; decide
  rw [e0] at c3
  exact ⟨s₁, some (.int 0), _, _, _, X0, rfl, rfl, rfl, (fun h => by cases h), ⟨rfl, hh0⟩, fun fs hl => c3.trans (X0.ireturnOut hexec hret rfl (Or.inr (Or.inr (Or.inl rfl))) (hb hbytes d8) hl)⟩
end CodL
/-- the String at a is Latin-1 over a new byte[] (the heap's one new cell): the low bytes of the len chars of A from o on; every cell but a is kept -/
def Got (a : Addr) (D : Cell) (fV fC : Field) (A : Cell) (o len : Nat) (r : Option Value) (s u : State) : Prop := r = none ∧ ∃ D' V : Cell, Blank "java/lang/String" a D' u ∧ Same D D' [fV.slot, fC.slot] ∧ D'.slots[fV.slot]? = some (.ref s.heap.size) ∧ D'.slots[fC.slot]? = some (.int 0) ∧ Arr .byte s.heap.size V u ∧ V.vm = .none ∧ u.vm.findClass "[B" = some V.cls ∧ V.slots.size = len ∧ (∀ j, j < len → V.slots[j]? = some (.int (lo8 (cv A (o + j))))) ∧ (∀ (y : Addr) (c : Cell), y ≠ a → s.heap[y]? = some c → u.heap[y]? = some c) ∧ u.heap.size = s.heap.size + 1
theorem Got.mv {a : Addr} {D A : Cell} {fV fC : Field} {o len : Nat} : ∀ r (U U' V V' : State), U'.heap = U.heap → V.vm.Alike V'.vm → V'.heap = V.heap → Got a D fV fC A o len r U V → Got a D fV fC A o len r U' V' :=
  fun r U U' V V' h1 hal h2 ⟨e0, D', X, a1, a2, a3, a4, a5, a6, a7, a8, a9, a10, a11⟩ => ⟨e0, D', X, a1.mv hal h2, a2, by rw [h1]; exact a3, a4, by rw [h1]; exact a5.mv hal h2, a6, by rw [hal.findClass]; exact a7, a8, a9, by rw [h1, h2]; exact a10, by rw [h1, h2]; exact a11⟩
namespace New4
def yN : MethodName := ⟨"java/lang/String", "<init>", "([CIILjava/lang/Void;)V"⟩
abbrev yB : ByteArray := jdk_42_method_149_code
theorem d0 : decode yB 0 = .ok (.aload_n 0, 1) := by decide +kernel
theorem d1 : decode yB 1 = .ok (.invokespecial 1, 3) := by decide +kernel
theorem d4 : decode yB 4 = .ok (.iload_n 3, 1) := by decide +kernel
theorem d5 : decode yB 5 = .ok (.ifCond (.ne) 22, 3) := by decide +kernel
theorem d27 : decode yB 27 = .ok (.getstatic 38, 3) := by decide +kernel
theorem d30 : decode yB 30 = .ok (.ifCond (.eq) 28, 3) := by decide +kernel
theorem d33 : decode yB 33 = .ok (.aload_n 1, 1) := by decide +kernel
theorem d34 : decode yB 34 = .ok (.iload_n 2, 1) := by decide +kernel
theorem d35 : decode yB 35 = .ok (.iload_n 3, 1) := by decide +kernel
theorem d36 : decode yB 36 = .ok (.invokestatic 177, 3) := by decide +kernel
theorem d39 : decode yB 39 = .ok (.astore 5, 2) := by decide +kernel
theorem d41 : decode yB 41 = .ok (.aload_n 0, 1) := by decide +kernel
theorem d42 : decode yB 42 = .ok (.aload 5, 2) := by decide +kernel
theorem d44 : decode yB 44 = .ok (.iload_n 3, 1) := by decide +kernel
theorem d45 : decode yB 45 = .ok (.invokestatic 47, 3) := by decide +kernel
theorem d48 : decode yB 48 = .ok (.putfield 15, 3) := by decide +kernel
theorem d51 : decode yB 51 = .ok (.aload_n 0, 1) := by decide +kernel
theorem d52 : decode yB 52 = .ok (.aload 5, 2) := by decide +kernel
theorem d54 : decode yB 54 = .ok (.putfield 9, 3) := by decide +kernel
theorem d57 : decode yB 57 = .ok (.return_, 1) := by decide +kernel
def site : List Cond := [.fieldLink "java/lang/String" 38 "java/lang/String" "COMPACT_STRINGS" "Z", Cmp3.tab, CodL.tab, .laysFinal "java/lang/String" "java/lang/String" "value" "[B", .fieldLink "java/lang/String" 9 "java/lang/String" "value" "[B", .laysFinal "java/lang/String" "java/lang/String" "coder" "B", .fieldLink "java/lang/String" 15 "java/lang/String" "coder" "B"] ++ objW "java/lang/String" 1 ++ staticW "java/lang/String" 177 Cmp3.yN ++ staticW "java/lang/String" 47 CodL.yN
def tab : Cond := tabOf yN yB 6 none site
def P (a : Addr) (D : Cell) (fV fC : Field) (b : Addr) (A : Cell) (z : Int32) (o len : Nat) (args : Array Value) (s : State) : Prop := args = #[.ref a, .ref b, .int (Int32.ofNat o), .int (Int32.ofNat len), .null] ∧ Blank "java/lang/String" a D s ∧ Found "java/lang/String" "value" "[B" fV s ∧ Found "java/lang/String" "coder" "B" fC s ∧ Ch b A s ∧ StaticIs s "java/lang/String" "COMPACT_STRINGS" "Z" (.int z) ∧ ¬ z = 0 ∧ 0 < len ∧ o + len ≤ A.slots.size ∧ len ≤ 536870912 ∧ ∀ i, i < len → ¬ 255 < cv A (o + i)
def E (a : Addr) (D : Cell) (fV fC : Field) (A : Cell) (o len : Nat) (r : Option Value) (s u : State) : Prop := Got a D fV fC A o len r s u
/-- len > 0, no char of the range above 255: a Latin-1 String of their low bytes -/
theorem law (l : Launch) (a : Addr) (D : Cell) (fV fC : Field) (b : Addr) (A : Cell) (z : Int32) (o len : Nat) : Law l yN 5 4 2 35 yB 6 none site (P a D fV fC b A z o len) (E a D fV fC A o len) [⟨a, fC.slot⟩, ⟨a, fV.slot⟩] 1 len := by
  refine Law.of_walk (plainFor_of_name (by decide +kernel)) (by decide +kernel) (by decide +kernel) (by decide) (fun _ _ h => by rw [h.1]; rfl) (fun _ U U' hal hh h => ⟨h.1, h.2.1.mv hal hh, h.2.2.1.al hal, h.2.2.2.1.al hal, h.2.2.2.2.1.mv hal hh, h.2.2.2.2.2.1.there hal hh, h.2.2.2.2.2.2⟩) (fun r U U' V V' h1 hal h2 h => Got.mv r U U' V V' h1 hal h2 h) ?_
  intro p e s m args below meth c s₁ X0 hexec hbytes hml hret hlk hnm hown hh0 W hP
  obtain ⟨rfl, hB, f1, f2, hA, s1, hz, l0, l1, l2, hp⟩ := hP
  have a31 := hA.1.2.2.2
  have c1 : Steps p.tables e below (s₁.setTop (entryFrame m #[.ref a, .ref b, .int (Int32.ofNat o), .int (Int32.ofNat len), .null] 6)) (s₁.setTop (mkF m 0 #[.val (.ref a), .val (.ref b), .val (.int (Int32.ofNat o)), .val (.int (Int32.ofNat len)), .val .null, .unset] [])) := entry rfl
  have c2 : Steps p.tables e below (s₁.setTop (entryFrame m #[.ref a, .ref b, .int (Int32.ofNat o), .int (Int32.ofNat len), .null] 6)) (s₁.setTop (mkF m 1 #[.val (.ref a), .val (.ref b), .val (.int (Int32.ofNat o)), .val (.int (Int32.ofNat len)), .val .null, .unset] [.ref a])) := c1.trans (by
    refine XS.aloadN X0.here hexec rfl (hb hbytes d0) rfl rfl ?_
    exact Steps.refl _)
  obtain ⟨T3, X3, q3, st3⟩ := X0.oinit hexec hown (wks W (objW "java/lang/String" 1)) (g := (mkF m 1 #[.val (.ref a), .val (.ref b), .val (.int (Int32.ofNat o)), .val (.int (Int32.ofNat len)), .val .null, .unset] [.ref a])) rfl (by rw [hml]; rfl) (rest := []) rfl (hb hbytes d1) (W := 0) (by show 2 * 0 + 0 ≤ _; decide) (Nat.le_of_ble_eq_true rfl) (Nat.le_of_ble_eq_true rfl)
  have hh3 := q3.trans hh0
  have c4 : Steps p.tables e below (s₁.setTop (entryFrame m #[.ref a, .ref b, .int (Int32.ofNat o), .int (Int32.ofNat len), .null] 6)) (T3.setTop (mkF m 27 #[.val (.ref a), .val (.ref b), .val (.int (Int32.ofNat o)), .val (.int (Int32.ofNat len)), .val .null, .unset] [])) := (c2.trans (st3 _ (Steps.refl _))).trans (by
    refine XS.iloadN X3.here hexec rfl (hb hbytes d4) rfl ?_
    refine XS.ifYes X3.here hexec rfl (pc0 := 5) rfl (hb hbytes d5) rfl (i0_ne_t (nz32 (by omega) l0)) (by decide) rfl ?_
    exact Steps.refl _)
  obtain ⟨T5, X5, q5, st5⟩ := X3.sget hexec hown (wk W (.fieldLink "java/lang/String" 38 "java/lang/String" "COMPACT_STRINGS" "Z")) s1 (fun _ _ h => by rw [hh3]; exact h) (g := (mkF m 27 #[.val (.ref a), .val (.ref b), .val (.int (Int32.ofNat o)), .val (.int (Int32.ofNat len)), .val .null, .unset] [])) rfl (hb hbytes d27)
  have hh5 := q5.trans hh3
  have c6 : Steps p.tables e below (s₁.setTop (entryFrame m #[.ref a, .ref b, .int (Int32.ofNat o), .int (Int32.ofNat len), .null] 6)) (T5.setTop (mkF m 30 #[.val (.ref a), .val (.ref b), .val (.int (Int32.ofNat o)), .val (.int (Int32.ofNat len)), .val .null, .unset] [.int z])) := c4.trans (st5 _ (Steps.refl _))
  have c7 : Steps p.tables e below (s₁.setTop (entryFrame m #[.ref a, .ref b, .int (Int32.ofNat o), .int (Int32.ofNat len), .null] 6)) (T5.setTop (mkF m 36 #[.val (.ref a), .val (.ref b), .val (.int (Int32.ofNat o)), .val (.int (Int32.ofNat len)), .val .null, .unset] [.int (Int32.ofNat len), .int (Int32.ofNat o), .ref b])) := c6.trans (by
    refine XS.ifNo X5.here hexec rfl (hb hbytes d30) rfl (i0_eq_f hz) ?_
    refine XS.aloadN X5.here hexec rfl (hb hbytes d33) rfl rfl ?_
    refine XS.iloadN X5.here hexec rfl (hb hbytes d34) rfl ?_
    refine XS.iloadN X5.here hexec rfl (hb hbytes d35) rfl ?_
    exact Steps.refl _)
  obtain ⟨v8, T8, X8, E8, g8⟩ := X5.callS hexec (Cmp3.law l b A o len) hown (wks W (staticW "java/lang/String" 177 Cmp3.yN)) (wk W Cmp3.tab) (W := 0) (Nat.le_of_ble_eq_true rfl) (Nat.le_of_ble_eq_true rfl) (Nat.le_refl _) (by show 0 + len ≤ len; omega) (g := (mkF m 36 #[.val (.ref a), .val (.ref b), .val (.int (Int32.ofNat o)), .val (.int (Int32.ofNat len)), .val .null, .unset] [.int (Int32.ofNat len), .int (Int32.ofNat o), .ref b])) rfl (by rw [hml]; rfl) c7 (argsL := [.ref b, .int (Int32.ofNat o), .int (Int32.ofNat len)]) (rest := []) rfl rfl (by show 2 * 0 + 0 ≤ _; decide) (hb hbytes d36) (⟨rfl, hA.mv X5.warmed.alike hh5, l1, l2, hp⟩)
  obtain ⟨e8, z8⟩ := E8
  obtain ⟨rfl, N, n1, n2, n3, n4, n5, n6⟩ := NewArr.mv _ T5 s _ _ hh5.symm (Vm.Alike.refl _) rfl e8
  rw [hh5] at z8
  have hB1 := hB.keep X8.warmed.alike (n6 _ _ hB.1)
  have hne : s.heap.size ≠ a := (Nat.ne_of_lt (Array.getElem?_eq_some_iff.mp hB.1).1).symm
  have c9 : Steps p.tables e below (s₁.setTop (entryFrame m #[.ref a, .ref b, .int (Int32.ofNat o), .int (Int32.ofNat len), .null] 6)) (T8.setTop (mkF m 39 #[.val (.ref a), .val (.ref b), .val (.int (Int32.ofNat o)), .val (.int (Int32.ofNat len)), .val .null, .unset] [.ref s.heap.size])) := g8
  have c10 : Steps p.tables e below (s₁.setTop (entryFrame m #[.ref a, .ref b, .int (Int32.ofNat o), .int (Int32.ofNat len), .null] 6)) (T8.setTop (mkF m 45 #[.val (.ref a), .val (.ref b), .val (.int (Int32.ofNat o)), .val (.int (Int32.ofNat len)), .val .null, .val (.ref s.heap.size)] [.int (Int32.ofNat N.slots.size), .ref s.heap.size, .ref a])) := by
    have hc : Steps p.tables e below (s₁.setTop (entryFrame m #[.ref a, .ref b, .int (Int32.ofNat o), .int (Int32.ofNat len), .null] 6)) (T8.setTop (mkF m 45 #[.val (.ref a), .val (.ref b), .val (.int (Int32.ofNat o)), .val (.int (Int32.ofNat len)), .val .null, .val (.ref s.heap.size)] [.int (Int32.ofNat len), .ref s.heap.size, .ref a])) := c9.trans (by
      refine XS.astore X8.here hexec rfl (hb hbytes d39) rfl rfl rfl ?_
      refine XS.aloadN X8.here hexec rfl (hb hbytes d41) rfl rfl ?_
      refine XS.aload X8.here hexec rfl (hb hbytes d42) rfl rfl ?_
      refine XS.iloadN X8.here hexec rfl (hb hbytes d44) rfl ?_
      exact Steps.refl _)
    rw [n4]; exact hc
  obtain ⟨v11, T11, X11, E11, g11⟩ := X8.callS hexec (CodL.law l s.heap.size N) hown (wks W (staticW "java/lang/String" 47 CodL.yN)) (wk W CodL.tab) (W := 1) (Nat.le_of_ble_eq_true rfl) (Nat.le_of_ble_eq_true rfl) (Nat.le_refl _) (by show 0 + len + 0 ≤ len; omega) (g := (mkF m 45 #[.val (.ref a), .val (.ref b), .val (.int (Int32.ofNat o)), .val (.int (Int32.ofNat len)), .val .null, .val (.ref s.heap.size)] [.int (Int32.ofNat N.slots.size), .ref s.heap.size, .ref a])) rfl (by rw [hml]; rfl) c10 (argsL := [.ref s.heap.size, .int (Int32.ofNat N.slots.size)]) (rest := [.ref a]) rfl rfl (by show 2 * 0 + (1 + 0) ≤ _; decide) (hb hbytes d45) (⟨rfl, n1⟩)
  obtain ⟨rfl, q11⟩ := E11
  have hB11 := hB1.mv (X8.warmed.alike.symm.trans X11.warmed.alike) q11
  have c12 : Steps p.tables e below (s₁.setTop (entryFrame m #[.ref a, .ref b, .int (Int32.ofNat o), .int (Int32.ofNat len), .null] 6)) (T11.setTop (mkF m 48 #[.val (.ref a), .val (.ref b), .val (.int (Int32.ofNat o)), .val (.int (Int32.ofNat len)), .val .null, .val (.ref s.heap.size)] [.int 0, .ref a])) := g11
  obtain ⟨T13, X13, p13, bl13, sl13, st13⟩ := X11.finit hexec hown (wk W (.fieldLink "java/lang/String" 15 "java/lang/String" "coder" "B")) (Or.inr ⟨_, (wk W (.laysFinal "java/lang/String" "java/lang/String" "coder" "B"))⟩) (Or.inl ⟨rfl, hnm⟩) f2 (Or.inl rfl) hB11 (t := .byte) (by decide +kernel) rfl (g := (mkF m 48 #[.val (.ref a), .val (.ref b), .val (.int (Int32.ofNat o)), .val (.int (Int32.ofNat len)), .val .null, .val (.ref s.heap.size)] [.int 0, .ref a])) rfl (rest := []) rfl (hb hbytes d48)
  have c14 : Steps p.tables e below (s₁.setTop (entryFrame m #[.ref a, .ref b, .int (Int32.ofNat o), .int (Int32.ofNat len), .null] 6)) (T13.setTop (mkF m 54 #[.val (.ref a), .val (.ref b), .val (.int (Int32.ofNat o)), .val (.int (Int32.ofNat len)), .val .null, .val (.ref s.heap.size)] [.ref s.heap.size, .ref a])) := (c12.trans (st13 _ (Steps.refl _))).trans (by
    refine XS.aloadN X13.here hexec rfl (hb hbytes d51) rfl rfl ?_
    refine XS.aload X13.here hexec rfl (hb hbytes d52) rfl rfl ?_
    exact Steps.refl _)
  obtain ⟨T15, X15, p15, bl15, sl15, st15⟩ := X13.finit hexec hown (wk W (.fieldLink "java/lang/String" 9 "java/lang/String" "value" "[B")) (Or.inr ⟨_, (wk W (.laysFinal "java/lang/String" "java/lang/String" "value" "[B"))⟩) (Or.inl ⟨rfl, hnm⟩) f1 (Or.inl rfl) bl13 (t := (.array .byte)) (by decide +kernel) rfl (g := (mkF m 54 #[.val (.ref a), .val (.ref b), .val (.int (Int32.ofNat o)), .val (.int (Int32.ofNat len)), .val .null, .val (.ref s.heap.size)] [.ref s.heap.size, .ref a])) rfl (rest := []) rfl (hb hbytes d54)
  have c16 : Steps p.tables e below (s₁.setTop (entryFrame m #[.ref a, .ref b, .int (Int32.ofNat o), .int (Int32.ofNat len), .null] 6)) (T15.setTop (mkF m 57 #[.val (.ref a), .val (.ref b), .val (.int (Int32.ofNat o)), .val (.int (Int32.ofNat len)), .val .null, .val (.ref s.heap.size)] [])) := c14.trans (st15 _ (Steps.refl _))
  have ap := apart (Or.inr ⟨_, (wk W (.laysFinal "java/lang/String" "java/lang/String" "value" "[B"))⟩) (Or.inr ⟨_, (wk W (.laysFinal "java/lang/String" "java/lang/String" "coder" "B"))⟩) f1 f2 (t₁ := .array .byte) (t₂ := .byte) (by decide +kernel) (by decide +kernel) (by decide)
  have al := X8.warmed.alike.symm.trans X15.warmed.alike
  have n7 : T11.heap[s.heap.size]? = some N := by rw [q11]; exact n1.1
  exact ⟨T15, none, _, _, _, X15, by simp, rfl, by omega, (fun _ => rfl), ⟨rfl, _, N, bl15, ((Same.refl D _).set _ (by simp)).set _ (by simp), sl15, (Cell.slots_setSlot_ne _ ap).trans sl13, n1.keep al (p15.other hne (p13.other hne n7)), n2, by rw [al.findClass]; exact n3, n4, n5, fun y c h1 h2 => p15.other h1 (p13.other h1 (by rw [q11]; exact n6 y c h2)), by rw [p15.2.2, p13.2.2, q11]; exact z8⟩, fun fs hl => c16.trans (X15.returnOut hexec hret (hb hbytes d57) hl)⟩
end New4
namespace New1
def yN : MethodName := ⟨"java/lang/String", "<init>", "([C)V"⟩
abbrev yB : ByteArray := jdk_42_method_3_code
theorem d0 : decode yB 0 = .ok (.aload_n 0, 1) := by decide +kernel
theorem d1 : decode yB 1 = .ok (.aload_n 1, 1) := by decide +kernel
theorem d2 : decode yB 2 = .ok (.iconst 0, 1) := by decide +kernel
theorem d3 : decode yB 3 = .ok (.aload_n 1, 1) := by decide +kernel
theorem d4 : decode yB 4 = .ok (.arraylength, 1) := by decide +kernel
theorem d5 : decode yB 5 = .ok (.aconst_null, 1) := by decide +kernel
theorem d6 : decode yB 6 = .ok (.invokespecial 27, 3) := by decide +kernel
theorem d9 : decode yB 9 = .ok (.return_, 1) := by decide +kernel
def site : List Cond := [New4.tab] ++ initW "java/lang/String" 27 New4.yN
def tab : Cond := tabOf yN yB 2 none site
def P (a : Addr) (D : Cell) (fV fC : Field) (b : Addr) (A : Cell) (z : Int32) (args : Array Value) (s : State) : Prop := args = #[.ref a, .ref b] ∧ Blank "java/lang/String" a D s ∧ Found "java/lang/String" "value" "[B" fV s ∧ Found "java/lang/String" "coder" "B" fC s ∧ Ch b A s ∧ StaticIs s "java/lang/String" "COMPACT_STRINGS" "Z" (.int z) ∧ ¬ z = 0 ∧ 0 < A.slots.size ∧ A.slots.size ≤ 536870912 ∧ ∀ i, i < A.slots.size → ¬ 255 < cv A i
def E (a : Addr) (D : Cell) (fV fC : Field) (A : Cell) (r : Option Value) (s u : State) : Prop := Got a D fV fC A 0 A.slots.size r s u
/-- new String(chars), not empty, no char above 255: a Latin-1 String of their low bytes -/
theorem law (l : Launch) (a : Addr) (D : Cell) (fV fC : Field) (b : Addr) (A : Cell) (z : Int32) : Law l yN 2 1 3 52 yB 2 none site (P a D fV fC b A z) (E a D fV fC A) [⟨a, fC.slot⟩, ⟨a, fV.slot⟩] 1 A.slots.size := by
  refine Law.of_walk (plainFor_of_name (by decide +kernel)) (by decide +kernel) (by decide +kernel) (by decide) (fun _ _ h => by rw [h.1]; rfl) (fun _ U U' hal hh h => ⟨h.1, h.2.1.mv hal hh, h.2.2.1.al hal, h.2.2.2.1.al hal, h.2.2.2.2.1.mv hal hh, h.2.2.2.2.2.1.there hal hh, h.2.2.2.2.2.2⟩) (fun r U U' V V' h1 hal h2 h => Got.mv r U U' V V' h1 hal h2 h) ?_
  intro p e s m args below meth c s₁ X0 hexec hbytes hml hret hlk hnm hown hh0 W hP
  obtain ⟨rfl, hB, f1, f2, hA, s1, hz, l0, l2, hp⟩ := hP
  have c1 : Steps p.tables e below (s₁.setTop (entryFrame m #[.ref a, .ref b] 2)) (s₁.setTop (mkF m 0 #[.val (.ref a), .val (.ref b)] [])) := entry rfl
  have c2 : Steps p.tables e below (s₁.setTop (entryFrame m #[.ref a, .ref b] 2)) (s₁.setTop (mkF m 6 #[.val (.ref a), .val (.ref b)] [.null, .int (Int32.ofNat A.slots.size), .int 0, .ref b, .ref a])) := c1.trans (by
    refine XS.aloadN X0.here hexec rfl (hb hbytes d0) rfl rfl ?_
    refine XS.aloadN X0.here hexec rfl (hb hbytes d1) rfl rfl ?_
    refine iconstV X0.here hexec rfl 0 (hb hbytes d2) (by decide) ?_
    refine XS.aloadN X0.here hexec rfl (hb hbytes d3) rfl rfl ?_
    refine X0.alen hexec (hA.1.mv X0.warmed.alike hh0) rfl rfl (hb hbytes d4) ?_
    refine XS.aconstNull X0.here hexec rfl (hb hbytes d5) ?_
    exact Steps.refl _)
  obtain ⟨v3, T3, X3, E3, g3⟩ := X0.callN hexec (New4.law l a D fV fC b A z 0 A.slots.size) rfl hown (wks W (initW "java/lang/String" 27 New4.yN)) (W New4.tab (by simp only [site, List.mem_cons, List.mem_append, true_or, or_true])) (W := 0) (Nat.le_of_ble_eq_true rfl) (Nat.le_of_ble_eq_true rfl) (Nat.le_refl _) (by show 0 + A.slots.size ≤ A.slots.size; omega) (g := (mkF m 6 #[.val (.ref a), .val (.ref b)] [.null, .int (Int32.ofNat A.slots.size), .int (Int32.ofNat 0), .ref b, .ref a])) rfl (by rw [hml]; rfl) c2 (argsL := [.ref b, .int (Int32.ofNat 0), .int (Int32.ofNat A.slots.size), .null]) (rest := []) rfl rfl (by show 2 * 0 + 0 ≤ _; decide) (hb hbytes d6) (⟨rfl, hB.mv X0.warmed.alike hh0, f1.al X0.warmed.alike, f2.al X0.warmed.alike, hA.mv X0.warmed.alike hh0, s1.there X0.warmed.alike hh0, hz, l0, by omega, l2, fun i hi => by rw [Nat.zero_add]; exact hp i hi⟩)
  have e0 := Got.mv _ s₁ s _ _ hh0.symm (Vm.Alike.refl _) rfl E3
  obtain rfl := e0.1
  have c4 : Steps p.tables e below (s₁.setTop (entryFrame m #[.ref a, .ref b] 2)) (T3.setTop (mkF m 9 #[.val (.ref a), .val (.ref b)] [])) := g3
  exact ⟨T3, none, _, _, _, X3, by simp, rfl, by omega, (fun _ => rfl), e0, fun fs hl => c4.trans (X3.returnOut hexec hret (hb hbytes d9) hl)⟩
theorem pays {l : Launch} {R : Room} {p : Program} {e : Env} {below : List Frame} {s : State} {sargs : Array Value} {len W : Nat} (a : Addr) (D : Cell) (fV fC : Field) (b : Addr) (A : Cell) (z : Int32) (htab : tab.before sargs s = true) (hfr : 4 ≤ R.frames) (hlo : W + 65 ≤ R.locals) :
    Back l R p e below s sargs yN len W (fun A₁ a₁ => A₁.cells + 1 ≤ R.cells ∧ A₁.slots + A.slots.size ≤ R.slots ∧ P a D fV fC b A z a₁ A₁.U) (fun A₁ _ v₁ B₁ => E a D fV fC A v₁ A₁.U B₁.U ∧ B₁.locs = A₁.locs ++ [⟨a, fC.slot⟩, ⟨a, fV.slot⟩] ∧ B₁.cells = A₁.cells + 1 ∧ B₁.slots = A₁.slots + A.slots.size) :=
  (law l a D fV fC b A z).pays htab hfr (by omega)
end New1
/-- the byte, read back as charAt reads it, is the char -/
theorem lo8_mask {x : Int32} (h0 : ¬ x < 0) (h1 : ¬ 255 < x) : lo8 x &&& 255 = x := by
  have t : ∀ k : Fin 256, lo8 (Int32.ofNat k.val) &&& 255 = Int32.ofNat k.val := by decide +kernel
  rw [Int32.lt_iff_toInt_lt] at h0 h1
  have e0 : (0 : Int32).toInt = 0 := rfl
  have e1 : (255 : Int32).toInt = 255 := rfl
  obtain ⟨k, hk⟩ : ∃ k : Nat, x.toInt = k := ⟨x.toInt.toNat, by omega⟩
  have hx : x = Int32.ofNat k := Int32.toInt_inj.mp (by rw [hk, Int32.toInt_ofNat_small (by omega)])
  rw [hx]
  exact t ⟨k, by omega⟩
end StrChars
namespace StrChars.Road
open Jvm Sem ClassFile Op Lib Jvm.Stand Jvm.Free Jvm.Free.XT
open Jvm.Lib.Cold (StaticIs)
abbrev ST : String := "java/lang/String"
/-- every table word that New1's law asks, flat -/
abbrev words : List Jvm.Cond := [.code New1.yN New1.yB 2 none, .initialized ST, .methodLink ST 27 New4.yN, .instanceMethod New4.yN,
  .code New4.yN New4.yB 6 none, .fieldLink ST 38 ST "COMPACT_STRINGS" "Z", .laysFinal ST ST "value" "[B", .fieldLink ST 9 ST "value" "[B", .laysFinal ST ST "coder" "B", .fieldLink ST 15 ST "coder" "B",
  .methodLink ST 1 Lib.objectInit, .instanceMethod Lib.objectInit, .code Lib.objectInit ⟨#[0xb1]⟩ 1 none, .methodLink ST 177 Cmp3.yN, .static Cmp3.yN, .methodLink ST 47 CodL.yN, .static CodL.yN,
  .code Cmp3.yN Cmp3.yB 6 (some (.array .byte)), .initialized U16, .arrayClass .byte, .methodLink U16 115 Cmp5.yN, .static Cmp5.yN, .code Cmp5.yN Cmp5.yB 7 (some .int), .code CodL.yN CodL.yB 2 (some .byte)]
theorem tab_of {a : Array Value} {s : State} (h : ∀ w ∈ words, w.before a s = true) : New1.tab.before a s = true := by
  have h5 : Cmp5.tab.before a s = true := unparts (wk h (.code Cmp5.yN Cmp5.yB 7 (some .int))) (wks h (.initialized Cmp5.yN.cls :: Cmp5.site))
  have hc : CodL.tab.before a s = true := unparts (wk h (.code CodL.yN CodL.yB 2 (some .byte))) (wks h (.initialized CodL.yN.cls :: CodL.site))
  have q5 : ∀ w ∈ Cmp5.tab :: words, w.before a s = true := fun w hw => (List.mem_cons.mp hw).elim (fun e => e ▸ h5) (h w)
  have h3 : Cmp3.tab.before a s = true := unparts (wk q5 (.code Cmp3.yN Cmp3.yB 6 (some (.array .byte)))) (wks q5 (.initialized Cmp3.yN.cls :: Cmp3.site))
  have q3 : ∀ w ∈ Cmp3.tab :: CodL.tab :: words, w.before a s = true := fun w hw => (List.mem_cons.mp hw).elim (fun e => e ▸ h3) fun hw => (List.mem_cons.mp hw).elim (fun e => e ▸ hc) (h w)
  have h4 : New4.tab.before a s = true := unparts (wk q3 (.code New4.yN New4.yB 6 none)) (wks q3 (.initialized New4.yN.cls :: New4.site))
  have q4 : ∀ w ∈ New4.tab :: words, w.before a s = true := fun w hw => (List.mem_cons.mp hw).elim (fun e => e ▸ h4) (h w)
  exact unparts (wk q4 (.code New1.yN New1.yB 2 none)) (wks q4 (.initialized New1.yN.cls :: New1.site))
/-- the words ride from the start Z to the walk's own state -/
theorem moved {Z s : State} {a0 args : Array Value} (hZ : Z.Warmed39 s.vm) (hw : ∀ d ∈ words, d.before a0 Z = true) : ∀ d ∈ words, d.before args s = true := fun d hd => by
  have q := hw d hd
  have t : ∀ d ∈ words, d = .arrayClass .byte ∨ (d.onTables && d.keepsFace) = true := by decide +kernel
  rcases t d hd with rfl | t
  · exact RoadKit.mvA hZ q
  · exact RoadKit.mv hZ q t
/-- WHAT COMES BACK, over the tables of the start Z: h the heap at the call, h' behind it -/
def Q (Z : State) (x : Addr) (A : Cell) (h : Heap) (v : Option Value) (h' : Heap) (L : List Loc) : Prop := v = none ∧ (∀ y ∈ L, y.base = x) ∧ RoadKit.Keep h h' [x] ∧ h'.size = h.size + 1 ∧ RoadKit.Exa Z h' x ST ∧ RoadKit.Fld Z h' x ST "value" "[B" (.ref h.size) ∧ RoadKit.Fld Z h' x ST "coder" "B" (.int 0) ∧
  (∃ V : Cell, RoadKit.Arr Z h' h.size V .byte ∧ V.vm = .none ∧ Z.vm.findClass "[B" = some V.cls ∧ V.slots.size = A.slots.size ∧ ∀ j, j < A.slots.size → V.slots[j]? = some (.int (lo8 (cv A j)))) ∧
  ∀ (O n d : String) (w : Value), RoadKit.Fld Z h x O n d w → RoadKit.slotOf Z O n d ≠ RoadKit.slotOf Z ST "value" "[B" → RoadKit.slotOf Z O n d ≠ RoadKit.slotOf Z ST "coder" "B" → RoadKit.Fld Z h' x O n d w
/-- **new String(chars) AT A CALL, IN THE ROAD'S FORM**: for specialBack behind newO: x the fresh String, b the char[] with the cell A -/
theorem back {p : Program} {l : Launch} {e : Env} {R : Room} {s : State} {args : Array Value} {below : List Frame} {len W : Nat} {Z : State} {a0 : Array Value} {h : Heap} (hZ : Z.Warmed39 s.vm) (hw : ∀ d ∈ words, d.before a0 Z = true) {kI : Nat} (wi : (Jvm.Cond.instantiable ST kI).before a0 Z = true)
    {x b : Addr} {A : Cell} {z : Int32} {v0 c0 : Value} (E : RoadKit.Exa Z h x ST) (V : RoadKit.Fld Z h x ST "value" "[B" v0) (C : RoadKit.Fld Z h x ST "coder" "B" c0) (K : RoadKit.Arr Z h b A .char) (hty : Typed .char A) (S : RoadKit.Sta Z h ST "COMPACT_STRINGS" "Z" (.int z)) (hz : ¬ z = 0)
    (l0 : 0 < A.slots.size) (l2 : A.slots.size ≤ 536870912) (hp : ∀ i, i < A.slots.size → ¬ 255 < cv A i) (hfr : 4 ≤ R.frames) (hlo : W + 65 ≤ R.locals) :
    Back l R p e below s args New1.yN len W (fun P a => a = #[.ref x, .ref b] ∧ P.U.heap = h ∧ P.cells + 1 ≤ R.cells ∧ P.slots + A.slots.size ≤ R.slots)
      (fun P _ v B => ∃ L, Q Z x A h v B.U.heap L ∧ B.locs = P.locs ++ L ∧ B.cells = P.cells + 1 ∧ B.slots = P.slots + A.slots.size) := by
  intro m meth c P g ig mk a X hg hsize hdg hW hn hp'
  obtain ⟨rfl, rfl, r1, r2⟩ := hp'
  have al : Z.vm.Alike P.U.vm := hZ.alike.trans X.warmed.alike
  obtain ⟨D, cfV, kV, iV, fV, hD, gV, stV, knV, obV, asV, slV⟩ := id V
  obtain ⟨D', cfC, kC, iC, fC, hD', gC, stC, -, -, asC, slC⟩ := id C
  cases hD.symm.trans hD'
  obtain ⟨D2, kD, e1, e2, e3, e4, e5⟩ := id E
  cases hD.symm.trans e1
  obtain ⟨c2, k2, i1, i2, i3, -⟩ := Cond.instantiable_spec wi
  cases e2.symm.trans i1
  cases e3.symm.trans i2
  obtain ⟨kU, u1, u2⟩ := al.2.2 _ _ e3
  have hB : Blank ST x D P.U := ⟨hD, ⟨knV, fun q hq => by rw [hq] at obV; cases obV⟩, by rw [al.findClass]; exact e2, kU, u1, by rw [u2]; exact i3, by rw [u2]; exact e5 i3⟩
  have F1 : Found ST "value" "[B" fV P.U := ⟨SBG.found_only al ⟨cfV, kV, iV, gV⟩, stV⟩
  have F2 : Found ST "coder" "B" fC P.U := ⟨SBG.found_only al ⟨cfC, kC, iC, gC⟩, stC⟩
  have hA : Ch b A P.U := ⟨⟨K.1, State.isArrayOf_alike al K.2.1, K.2.2, by omega⟩, hty⟩
  have hS : StaticIs P.U ST "COMPACT_STRINGS" "Z" (.int z) := by
    obtain ⟨cfS, iS, kS, fS, st, cS, t1, t2, t3, t4, t5, t6, t7⟩ := S
    exact StaticIs.there (s := { Z with heap := P.U.heap }) ⟨cfS, iS, kS, fS, st, cS, t1, t2, t3, t4, t5, (fun q => by rw [q] at t6; cases t6), t7⟩ al rfl
  obtain ⟨v, B, X', ⟨⟨hv, E', V', q1, q2, q3, q4, q5, q6, q7, q8, q9, q10, q11⟩, hl, hc, hs⟩, st⟩ := New1.pays x D fV fC b A z (tab_of (moved hZ hw)) hfr hlo m meth c P g ig mk _ X hg hsize hdg hW hn ⟨r1, r2, rfl, hB, F1, F2, hA, hS, hz, l0, l2, hp⟩
  have al' : Z.vm.Alike B.U.vm := hZ.alike.trans X'.warmed.alike
  have hsz : E'.slots.size = D.slots.size := by
    obtain ⟨-, -, -, kB, w1, w2, w3⟩ := q1
    obtain ⟨kB', y1, y2⟩ := al'.2.2 _ _ e3
    rw [q2.2.1] at w1
    cases w1.symm.trans y1
    rw [w3, e5 i3, y2]
  refine ⟨v, B, X', ⟨_, ⟨hv, ?_, ⟨by omega, fun y cy hy hn' => q10 y cy (by simpa using hn') hy, fun y cy hy => ?_⟩, q11, ⟨E', _, q1.1, by rw [q2.2.1]; exact e2, by rw [q2.2.1]; exact e3, by rw [q2.1]; exact obV, fun _ => by rw [hsz]; exact e5 i3⟩,
    ⟨E', cfV, kV, iV, fV, q1.1, gV, stV, by rw [q2.1]; exact knV, by rw [q2.1]; exact obV, by rw [q2.2.1]; exact asV, q3⟩, ⟨E', cfC, kC, iC, fC, q1.1, gC, stC, by rw [q2.1]; exact knV, by rw [q2.1]; exact obV, by rw [q2.2.1]; exact asC, q4⟩,
    ⟨V', ⟨q5.1, State.isArrayOf_alike al'.symm q5.2.1, q5.2.2.1⟩, q6, by rw [← al'.findClass]; exact q7, q8, fun j hj => by have := q9 j hj; rwa [Nat.zero_add] at this⟩, fun O n d w F n1 n2 => ?_⟩, hl, hc, hs⟩, st⟩
  · intro y hy
    simp only [List.mem_cons, List.not_mem_nil, or_false] at hy
    rcases hy with rfl | rfl <;> rfl
  · by_cases q : y = x
    · subst q
      cases hD.symm.trans hy
      exact ⟨E', q1.1, q2.2.1, q2.1, hsz⟩
    · exact ⟨cy, q10 y cy q hy, rfl, rfl, rfl⟩
  · obtain ⟨D3, cf, k, i, f, g1, g2, g3, g4, g5, g6, g7⟩ := F
    cases hD.symm.trans g1
    simp only [RoadKit.slotOf, g2, gV, gC, Option.map_some, Option.getD_some] at n1 n2
    exact ⟨E', cf, k, i, f, q1.1, g2, g3, by rw [q2.1]; exact g4, by rw [q2.1]; exact g5, by rw [q2.2.1]; exact g6, by rw [q2.2.2 f.slot (by simp [n1, n2])]; exact g7⟩
end StrChars.Road
namespace StrChars.Road
open Jvm Sem ClassFile Op Lib Jvm.Stand Jvm.Free Jvm.Free.XT
/-- WHAT COMES BACK, the byte[] as a list of values -/
def QA (Z : State) (x : Addr) (zn : Int32) (cs : List Int32) (h : Heap) (v : Option Value) (h' : Heap) (L : List Loc) : Prop := v = none ∧ (∀ y ∈ L, y.base = x) ∧ RoadKit.Keep h h' [x] ∧ h'.size = h.size + 1 ∧ RoadKit.Exa Z h' x ST ∧ RoadKit.Fld Z h' x ST "value" "[B" (.ref h.size) ∧ RoadKit.Fld Z h' x ST "coder" "B" (.int 0) ∧
  (∃ kb, Z.vm.findClass "[B" = some kb ∧ RoadKit.Arv Z h' h.size kb .byte zn (cs.map fun c => .int (lo8 c)) (.int 0)) ∧
  ∀ (O n d : String) (w : Value), RoadKit.Fld Z h x O n d w → RoadKit.slotOf Z O n d ≠ RoadKit.slotOf Z ST "value" "[B" → RoadKit.slotOf Z O n d ≠ RoadKit.slotOf Z ST "coder" "B" → RoadKit.Fld Z h' x O n d w
/-- **new String(chars) AT A CALL, THE ARRAYS AS LISTS**: the char[] at b holds cs, not empty, no char above 255 -/
theorem backArv {p : Program} {l : Launch} {e : Env} {R : Room} {s : State} {args : Array Value} {below : List Frame} {len W : Nat} {Z : State} {a0 : Array Value} {h : Heap} (hZ : Z.Warmed39 s.vm) (hw : ∀ d ∈ words, d.before a0 Z = true) {kI : Nat} (wi : (Jvm.Cond.instantiable ST kI).before a0 Z = true)
    {x b : Addr} {k : ClassId} {zn z : Int32} {cs : List Int32} {dv v0 c0 : Value} (E : RoadKit.Exa Z h x ST) (V : RoadKit.Fld Z h x ST "value" "[B" v0) (C : RoadKit.Fld Z h x ST "coder" "B" c0) (K : RoadKit.Arv Z h b k .char zn (cs.map Value.int) dv) (S : RoadKit.Sta Z h ST "COMPACT_STRINGS" "Z" (.int z)) (hz : ¬ z = 0)
    (hlen : zn.toNatClampNeg = cs.length) (h0 : 0 < cs.length) (hbig : cs.length ≤ 536870912) (hall : ∀ c ∈ cs, ¬ 255 < c) (hfr : 4 ≤ R.frames) (hlo : W + 65 ≤ R.locals) :
    Back l R p e below s args New1.yN len W (fun P a => a = #[.ref x, .ref b] ∧ P.U.heap = h ∧ P.cells + 1 ≤ R.cells ∧ P.slots + cs.length ≤ R.slots)
      (fun P _ v B => ∃ L, QA Z x zn cs h v B.U.heap L ∧ B.locs = P.locs ++ L ∧ B.cells = P.cells + 1 ∧ B.slots = P.slots + cs.length) := by
  obtain ⟨A, K1, K2, K3, K4, K5, K6⟩ := K
  have e : A.slots.size = cs.length := K3.trans hlen
  have hat : ∀ (i : Nat) (hi : i < cs.length), A.slots[i]? = some (.int cs[i]) := fun i hi => by rw [K5 i (by omega)]; simp [List.getD_eq_getElem?_getD, hi]
  have hcv : ∀ (i : Nat) (hi : i < cs.length), cv A i = cs[i] := fun i hi => by unfold cv; rw [hat i hi]
  have hty : Typed .char A := fun i v hv => by
    have hi : i < A.slots.size := (Array.getElem?_eq_some_iff.mp hv).1
    have q := K5 i hi
    rw [hv] at q
    rw [Option.some.inj q]
    exact K6 i hi
  refine Back.mono (back hZ hw wi E V C K1 hty S hz (by omega) (by omega) (fun i hi => by rw [hcv i (by omega)]; exact hall _ (List.getElem_mem _)) hfr hlo) (fun P a hp => ⟨hp.1, hp.2.1, hp.2.2.1, by rw [e]; exact hp.2.2.2⟩) (fun P a v B hp hq => ?_)
  obtain ⟨L, ⟨q1, q2, q3, q4, q5, q6, q7, ⟨V', v1, v2, v3, v4, v5⟩, q9⟩, hl, hc, hs⟩ := hq
  refine ⟨L, ⟨q1, q2, q3, q4, q5, q6, q7, ⟨V'.cls, v3, V', v1, rfl, by rw [v4, e, hlen], K4, fun i hi => ?_, fun i hi => ?_⟩, q9⟩, hl, hc, by rw [hs, e]⟩
  · have hi' : i < cs.length := by omega
    rw [v5 i (by omega), hcv i hi']; simp [List.getD_eq_getElem?_getD, hi']
  · have hi' : i < cs.length := by omega
    simp only [List.getD_eq_getElem?_getD, List.getElem?_map, List.getElem?_eq_getElem hi', Option.map_some, Option.getD_some]
    exact fits_lo8 _
end StrChars.Road
namespace StrChars.Road
open Jvm Sem ClassFile Op Lib Jvm.Stand Jvm.Free Jvm.Free.XT
/-- WHAT COMES BACK, in the writer's own shape -/
def QV (Z : State) (x : Addr) (N : Int32) (bs : List Int32) (h : Heap) (n0 : Nat) (v : Option Value) (h' : Heap) (L : List Loc) : Prop := v = none ∧ RoadKit.Fr n0 L ∧ RoadKit.Keep h h' [x] ∧ RoadKit.Exa Z h' x ST ∧ RoadKit.Fld Z h' x ST "coder" "B" (.int 0) ∧
  ∃ (t : Addr) (kb : ClassId), n0 ≤ t ∧ h.size ≤ t ∧ ¬ t = x ∧ RoadKit.Fld Z h' x ST "value" "[B" (.ref t) ∧ RoadKit.Arv Z h' t kb .byte N (bs.map Value.int) (.int 0)
/-- **new String(chars) AT A CALL, FOR THE WRITER**: a char[] of n known ints, each 0 to 255 -/
theorem backV {p : Program} {l : Launch} {e : Env} {R : Room} {s : State} {args : Array Value} {below : List Frame} {len W : Nat} {Z : State} {a0 : Array Value} {h : Heap} (hZ : Z.Warmed39 s.vm) (hw : ∀ d ∈ words, d.before a0 Z = true) {kI : Nat} (wi : (Jvm.Cond.instantiable ST kI).before a0 Z = true)
    {x b : Addr} {kC : ClassId} {cs bs : List Int32} {d v0 c0 : Value} {z N : Int32} {n n0 : Nat} (hx0 : n0 ≤ x) (hh0 : n0 ≤ h.size) (E : RoadKit.Exa Z h x ST) (V : RoadKit.Fld Z h x ST "value" "[B" v0) (C : RoadKit.Fld Z h x ST "coder" "B" c0) (K : RoadKit.Arv Z h b kC .char N (cs.map Value.int) d) (S : RoadKit.Sta Z h ST "COMPACT_STRINGS" "Z" (.int z)) (hz : ¬ z = 0)
    (hn : cs.length = n) (hN : N = Int32.ofNat n) (l0 : 0 < n) (l2 : n ≤ 4000) (hp : ∀ c ∈ cs, ¬ c < 0 ∧ ¬ (255 : Int32) < c) (hb : bs = cs.map (fun c => c.toInt8.toInt32)) (hfr : 4 ≤ R.frames) (hlo : W + 65 ≤ R.locals) :
    Back l R p e below s args (⟨"java/lang/String", "<init>", "([C)V"⟩ : MethodName) len W (fun P a => a = #[.ref x, .ref b] ∧ P.U.heap = h ∧ P.cells + 1 ≤ R.cells ∧ P.slots + n ≤ R.slots)
      (fun P _ v B => ∃ L, QV Z x N bs h n0 v B.U.heap L ∧ B.locs = P.locs ++ L ∧ B.cells = P.cells + 1 ∧ B.slots = P.slots + n) := by
  subst hn hN hb
  refine Back.mono (backArv hZ hw wi E V C K S hz (n32 (by omega)) l0 (by omega) (fun c hc => (hp c hc).2) hfr hlo) (fun P a hp => hp) (fun P a v B hp hq => ?_)
  obtain ⟨L, ⟨q1, q2, q3, q4, q5, q6, q7, ⟨kb, v1, v2⟩, q9⟩, hl, hc, hs⟩ := hq
  exact ⟨L, ⟨q1, fun y hy => by rw [q2 y hy]; exact hx0, q3, q5, q7, h.size, kb, hh0, Nat.le_refl _, Nat.ne_of_gt E.lt, q6, by rw [List.map_map]; exact v2⟩, hl, hc, hs⟩
end StrChars.Road
namespace StrChars
open Jvm Sem ClassFile Op Lib Jvm.Stand Jvm.Free.XT Jvm.Free.ALB Jvm.Free.JM Jvm.Free
open Jvm.Lib.Cold (StaticIs)
def hi8 (x : Int32) : Int32 := lo8 (x >>> ((8 : Int32) &&& 31))
/-- what StringUTF16.getChar makes of two bytes -/
def pairCh (u v : Int32) : Int32 := (((u &&& 255) <<< ((0 : Int32) &&& 31)) ||| ((v &&& 255) <<< ((8 : Int32) &&& 31))).toUInt32.toUInt16.toUInt32.toInt32
theorem shr0 (c : Int32) : c >>> ((0 : Int32) &&& 31) = c := by
  have e : ((0 : Int32) &&& 31) = 0 := by decide
  rw [e]
  apply Int32.toBitVec_inj.mp
  rw [Int32.toBitVec_shiftRight]
  have e1 : ((0 : Int32).toBitVec.smod 32) = 0#32 := by decide
  rw [e1, BitVec.sshiftRight_eq']
  exact BitVec.sshiftRight_zero
theorem lo8_and (x : Int32) : (lo8 x &&& 255).toBitVec.toNat = x.toBitVec.toNat % 256 := by
  have h : (lo8 x).toBitVec = (x.toBitVec.signExtend 8).signExtend 32 := by rw [lo8, Int8.toBitVec_toInt32, Int32.toBitVec_toInt8]
  rw [Int32.toBitVec_and, BitVec.toNat_and, h]
  have e : ((x.toBitVec.signExtend 8).signExtend 32).toNat % 256 = x.toBitVec.toNat % 256 := by
    rw [BitVec.toNat_signExtend]
    have hlt := x.toBitVec.isLt
    simp only [BitVec.toNat_setWidth, BitVec.toNat_signExtend]
    split <;> split <;> omega
  rw [← e]
  exact Nat.and_two_pow_sub_one_eq_mod _ 8
theorem pair_says {c : Int32} (h0 : ¬ c < 0) (h1 : ¬ 65535 < c) : pairCh (lo8 c) (hi8 c) = c := by
  rw [Int32.lt_iff_toInt_lt] at h0 h1
  have e0 : (0 : Int32).toInt = 0 := rfl
  have e1 : (65535 : Int32).toInt = 65535 := rfl
  have hc : c.toInt = c.toBitVec.toNat := by
    have := c.toBitVec.isLt
    have e : c.toInt = c.toBitVec.toInt := rfl
    rw [e] at h0 h1
    rw [e]
    rw [BitVec.toInt_eq_toNat_cond] at h0 h1 ⊢
    split at h0 <;> split <;> omega
  have hn : c.toBitVec.toNat < 65536 := by omega
  have a1 := lo8_and c
  have a2 : (hi8 c &&& 255).toBitVec.toNat = c.toBitVec.toNat / 256 := by
    rw [hi8, lo8_and]
    have e : ((8 : Int32) &&& 31) = 8 := by decide
    rw [e, Int32.toBitVec_shiftRight]
    have e2 : ((8 : Int32).toBitVec.smod 32) = 8#32 := by decide
    rw [e2, BitVec.sshiftRight_eq', BitVec.toNat_sshiftRight_of_msb_false (by rw [BitVec.msb_eq_false_iff_two_mul_lt]; omega)]
    show c.toBitVec.toNat >>> 8 % 256 = _
    rw [Nat.shiftRight_eq_div_pow]
    omega
  unfold pairCh
  apply Int32.toBitVec_inj.mp
  apply BitVec.eq_of_toNat_eq
  have f0 : ((0 : Int32) &&& 31) = 0 := by decide
  have f8 : ((8 : Int32) &&& 31) = 8 := by decide
  rw [f0, f8]
  have g : (((lo8 c &&& 255) <<< (0 : Int32)) ||| ((hi8 c &&& 255) <<< (8 : Int32))).toBitVec.toNat = c.toBitVec.toNat := by
    rw [Int32.toBitVec_or, Int32.toBitVec_shiftLeft, Int32.toBitVec_shiftLeft]
    have s0 : ((0 : Int32).toBitVec.smod 32) = 0#32 := by decide
    have s8 : ((8 : Int32).toBitVec.smod 32) = 8#32 := by decide
    rw [s0, s8, BitVec.toNat_or]
    simp only [BitVec.shiftLeft_eq', BitVec.toNat_shiftLeft, a1, a2]
    show (c.toBitVec.toNat % 256) <<< 0 % 2 ^ 32 ||| (c.toBitVec.toNat / 256) <<< 8 % 2 ^ 32 = _
    rw [Nat.shiftLeft_zero, Nat.mod_eq_of_lt (show c.toBitVec.toNat % 256 < 2 ^ 32 by omega), Nat.mod_eq_of_lt (show (c.toBitVec.toNat / 256) <<< 8 < 2 ^ 32 by rw [Nat.shiftLeft_eq]; omega), Nat.or_comm, ← Nat.shiftLeft_add_eq_or_of_lt (by omega), Nat.shiftLeft_eq]
    omega
  show BitVec.toNat (((((lo8 c &&& 255) <<< (0 : Int32)) ||| ((hi8 c &&& 255) <<< (8 : Int32))).toBitVec.setWidth 16).setWidth 32) = _
  rw [BitVec.toNat_setWidth, BitVec.toNat_setWidth, g]
  omega
end StrChars
namespace StrChars
open Jvm Sem ClassFile Op Lib Jvm.Stand Jvm.Free.XT Jvm.Free.ALB Jvm.Free.JM Jvm.Free
open Jvm.Lib.Cold (StaticIs)
theorem shr1 {n : Nat} (h : 2 * n < 2 ^ 31) : Int32.ofNat (2 * n) >>> ((1 : Int32) &&& 31) = Int32.ofNat n := by
  have e : ((1 : Int32) &&& 31) = 1 := by decide
  rw [e]
  apply Int32.toBitVec_inj.mp
  rw [Int32.toBitVec_shiftRight]
  have e1 : ((1 : Int32).toBitVec.smod 32) = 1#32 := by decide
  have hm : (BitVec.ofNat 32 (2 * n)).toNat = 2 * n := by rw [BitVec.toNat_ofNat, Nat.mod_eq_of_lt (by omega)]
  rw [e1, BitVec.sshiftRight_eq']
  apply BitVec.eq_of_toNat_eq
  show ((BitVec.ofNat 32 (2 * n)).sshiftRight 1).toNat = (BitVec.ofNat 32 n).toNat
  rw [BitVec.toNat_sshiftRight_of_msb_false (by rw [BitVec.msb_eq_false_iff_two_mul_lt, hm]; omega), hm, BitVec.toNat_ofNat, Nat.shiftRight_eq_div_pow]
  omega
/-- charAt's cast of a byte read back -/
def chr8 (u : Int32) : Int32 := (u &&& 255).toUInt32.toUInt16.toUInt32.toInt32
theorem chr8_lo8 {c : Int32} (h0 : ¬ c < 0) (h1 : ¬ 255 < c) : chr8 (lo8 c) = c := by
  have t : ∀ k : Fin 256, (Int32.ofNat k.val).toUInt32.toUInt16.toUInt32.toInt32 = Int32.ofNat k.val := by decide +kernel
  unfold chr8
  rw [lo8_mask h0 h1]
  rw [Int32.lt_iff_toInt_lt] at h0 h1
  have e0 : (0 : Int32).toInt = 0 := rfl
  have e1 : (255 : Int32).toInt = 255 := rfl
  obtain ⟨k, hk⟩ : ∃ k : Nat, c.toInt = k := ⟨c.toInt.toNat, by omega⟩
  have hx : c = Int32.ofNat k := Int32.toInt_inj.mp (by rw [hk, Int32.toInt_ofNat_small (by omega)])
  rw [hx]
  exact t ⟨k, by omega⟩
theorem narrow_ch {c : Int32} (h0 : ¬ c < 0) (h1 : ¬ 65535 < c) : narrow .char (.int c) = .int c := by
  have q : narrow .char (.int (pairCh (lo8 c) (hi8 c))) = .int (pairCh (lo8 c) (hi8 c)) := narrow_c _
  rwa [pair_says h0 h1] at q
/-- the array's cell V codes the n chars f 0 .. f (n - 1) by the coder cd, as the JDK does: coder 1 just where some char is above 255 -/
def Cod (cd : Int32) (n : Nat) (f : Nat → Int32) (V : Cell) : Prop := (cd = 0 ∧ V.slots.size = n ∧ ∀ j, j < n → V.slots[j]? = some (.int (lo8 (f j))) ∧ ¬ 255 < f j) ∨ (cd = 1 ∧ V.slots.size = 2 * n ∧ (∀ j, j < n → V.slots[2 * j]? = some (.int (lo8 (f j))) ∧ V.slots[2 * j + 1]? = some (.int (hi8 (f j)))) ∧ ∃ j, j < n ∧ 255 < f j)
theorem Cod.cd {cd : Int32} {n : Nat} {f : Nat → Int32} {V : Cell} (h : Cod cd n f V) : cd = 0 ∨ cd = 1 := h.imp (fun q => q.1) fun q => q.1
theorem Cod.len {cd : Int32} {n : Nat} {f : Nat → Int32} {V : Cell} (h : Cod cd n f V) (hs : V.slots.size < 2 ^ 31) : Int32.ofNat V.slots.size >>> (cd &&& 31) = Int32.ofNat n := by
  rcases h with ⟨rfl, h, -⟩ | ⟨rfl, h, -⟩
  · rw [shr0, h]
  · rw [h, shr1 (by omega)]
/-- **x is a String of the n chars f 0 .. f (n - 1)**, Latin-1 or UTF-16; its array at t has the cell V -/
def Txt (x t : Addr) (V : Cell) (cd : Int32) (n : Nat) (f : Nat → Int32) (U : State) : Prop := Exact "java/lang/String" x U ∧ Has x "java/lang/String" "value" "[B" (.ref t) U ∧ Has x "java/lang/String" "coder" "B" (.int cd) U ∧ XT.Arr .byte t V U ∧ Cod cd n f V ∧ ∀ j, j < n → ¬ f j < 0 ∧ ¬ 65535 < f j
theorem Txt.mv {x t : Addr} {V : Cell} {cd : Int32} {n : Nat} {f : Nat → Int32} {U U' : State} (h : Txt x t V cd n f U) (hal : U.vm.Alike U'.vm) (hh : U'.heap = U.heap) : Txt x t V cd n f U' := ⟨h.1.mv hal hh, h.2.1.mv hal hh, h.2.2.1.mv hal hh, h.2.2.2.1.mv hal hh, h.2.2.2.2⟩
namespace Cdr
def yN : MethodName := ⟨"java/lang/String", "coder", "()B"⟩
abbrev yB : ByteArray := jdk_42_method_152_code
theorem d0 : decode yB 0 = .ok (.getstatic 38, 3) := by decide +kernel
theorem d3 : decode yB 3 = .ok (.ifCond (.eq) 10, 3) := by decide +kernel
theorem d6 : decode yB 6 = .ok (.aload_n 0, 1) := by decide +kernel
theorem d7 : decode yB 7 = .ok (.getfield 15, 3) := by decide +kernel
theorem d10 : decode yB 10 = .ok (.goto 4, 3) := by decide +kernel
theorem d14 : decode yB 14 = .ok (.ireturn, 1) := by decide +kernel
def site : List Cond := [.fieldLink "java/lang/String" 38 "java/lang/String" "COMPACT_STRINGS" "Z", .fieldLink "java/lang/String" 15 "java/lang/String" "coder" "B"]
def tab : Cond := tabOf yN yB 1 (some .byte) site
def P (x : Addr) (cd z : Int32) (args : Array Value) (s : State) : Prop := args = #[.ref x] ∧ Has x "java/lang/String" "coder" "B" (.int cd) s ∧ (cd = 0 ∨ cd = 1) ∧ StaticIs s "java/lang/String" "COMPACT_STRINGS" "Z" (.int z) ∧ ¬ z = 0
def E (cd : Int32) (r : Option Value) (s u : State) : Prop := XT.PureE (some (.int cd)) r s u
theorem law (l : Launch) (x : Addr) (cd z : Int32) : Law l yN 1 0 0 0 yB 1 (some .byte) site (P x cd z) (E cd) [] 0 0 := by
  refine Law.of_walk (plainFor_of_name (by decide +kernel)) (by decide +kernel) (by decide +kernel) (by decide) (fun _ _ h => by rw [h.1]; rfl) (fun _ U U' hal hh h => ⟨h.1, h.2.1.mv hal hh, h.2.2.1, h.2.2.2.1.there hal hh, h.2.2.2.2⟩) (fun r U U' V V' h1 hal h2 h => XT.PureE.mv r U U' V V' h1 hal h2 h) ?_
  intro p e s m args below meth c s₁ X0 hexec hbytes hml hret hlk hnm hown hh0 W hP
  obtain ⟨rfl, hx, hc, s1, hz⟩ := hP
  have c1 : Steps p.tables e below (s₁.setTop (entryFrame m #[.ref x] 1)) (s₁.setTop (mkF m 0 #[.val (.ref x)] [])) := entry rfl
  obtain ⟨T2, X2, q2, st2⟩ := X0.sget hexec hown (wk W (.fieldLink "java/lang/String" 38 "java/lang/String" "COMPACT_STRINGS" "Z")) s1 (fun _ _ h => by rw [hh0]; exact h) (g := (mkF m 0 #[.val (.ref x)] [])) rfl (hb hbytes d0)
  have hh2 := q2.trans hh0
  have c3 : Steps p.tables e below (s₁.setTop (entryFrame m #[.ref x] 1)) (T2.setTop (mkF m 7 #[.val (.ref x)] [.ref x])) := (c1.trans (st2 _ (Steps.refl _))).trans (by
    refine XS.ifNo X2.here hexec rfl (hb hbytes d3) rfl (i0_eq_f hz) ?_
    refine XS.aloadN X2.here hexec rfl (hb hbytes d6) rfl rfl ?_
    exact Steps.refl _)
  obtain ⟨T4, X4, q4, st4⟩ := X2.hget hexec hown (wk W (.fieldLink "java/lang/String" 15 "java/lang/String" "coder" "B")) (hx.mv X2.warmed.alike hh2) (g := (mkF m 7 #[.val (.ref x)] [.ref x])) rfl (rest := []) rfl (hb hbytes d7)
  have c5 : Steps p.tables e below (s₁.setTop (entryFrame m #[.ref x] 1)) (T4.setTop (mkF m 14 #[.val (.ref x)] [.int cd])) := (c3.trans (st4 _ (Steps.refl _))).trans (by
    refine XS.goto X4.here hexec rfl (pc0 := 10) rfl (hb hbytes d10) (by decide) rfl ?_
    exact Steps.refl _)
  exact ⟨T4, some (.int cd), _, _, _, X4, rfl, rfl, rfl, (fun h => by cases h), ⟨rfl, q4.trans hh2⟩, fun fs hl => c5.trans (X4.ireturnOut hexec hret (by rcases hc with rfl | rfl <;> rfl) (Or.inr (Or.inr (Or.inl rfl))) (hb hbytes d14) hl)⟩
end Cdr
namespace Len
def yN : MethodName := ⟨"java/lang/String", "length", "()I"⟩
abbrev yB : ByteArray := jdk_42_method_54_code
theorem d0 : decode yB 0 = .ok (.aload_n 0, 1) := by decide +kernel
theorem d1 : decode yB 1 = .ok (.getfield 9, 3) := by decide +kernel
theorem d4 : decode yB 4 = .ok (.arraylength, 1) := by decide +kernel
theorem d5 : decode yB 5 = .ok (.aload_n 0, 1) := by decide +kernel
theorem d6 : decode yB 6 = .ok (.invokevirtual 335, 3) := by decide +kernel
theorem d9 : decode yB 9 = .ok (.ishr, 1) := by decide +kernel
theorem d10 : decode yB 10 = .ok (.ireturn, 1) := by decide +kernel
def site : List Cond := [.fieldLink "java/lang/String" 9 "java/lang/String" "value" "[B", Cdr.tab] ++ virtW "java/lang/String" 335 "java/lang/String" Cdr.yN Cdr.yN
def tab : Cond := tabOf yN yB 1 (some .int) site
def P (x t : Addr) (V : Cell) (cd : Int32) (n : Nat) (f : Nat → Int32) (z : Int32) (args : Array Value) (s : State) : Prop := args = #[.ref x] ∧ Txt x t V cd n f s ∧ StaticIs s "java/lang/String" "COMPACT_STRINGS" "Z" (.int z) ∧ ¬ z = 0
def E (n : Nat) (r : Option Value) (s u : State) : Prop := XT.PureE (some (.int (Int32.ofNat n))) r s u
/-- length() of a String of n chars, in either coding -/
theorem law (l : Launch) (x t : Addr) (V : Cell) (cd : Int32) (n : Nat) (f : Nat → Int32) (z : Int32) : Law l yN 1 0 1 13 yB 1 (some .int) site (P x t V cd n f z) (E n) [] 0 0 := by
  refine Law.of_walk (plainFor_of_name (by decide +kernel)) (by decide +kernel) (by decide +kernel) (by decide) (fun _ _ h => by rw [h.1]; rfl) (fun _ U U' hal hh h => ⟨h.1, h.2.1.mv hal hh, h.2.2.1.there hal hh, h.2.2.2⟩) (fun r U U' V V' h1 hal h2 h => XT.PureE.mv r U U' V V' h1 hal h2 h) ?_
  intro p e s m args below meth c s₁ X0 hexec hbytes hml hret hlk hnm hown hh0 W hP
  obtain ⟨rfl, hx, s1, hz⟩ := hP
  have v31 := hx.2.2.2.1.2.2.2
  have c1 : Steps p.tables e below (s₁.setTop (entryFrame m #[.ref x] 1)) (s₁.setTop (mkF m 1 #[.val (.ref x)] [.ref x])) := Steps.trans (entry rfl) (by
    show Steps p.tables e below (s₁.setTop (mkF m 0 #[.val (.ref x)] [])) _
    refine XS.aloadN X0.here hexec rfl (hb hbytes d0) rfl rfl ?_
    exact Steps.refl _)
  obtain ⟨T2, X2, q2, st2⟩ := X0.hget hexec hown (wk W (.fieldLink "java/lang/String" 9 "java/lang/String" "value" "[B")) (hx.mv X0.warmed.alike hh0).2.1 (g := (mkF m 1 #[.val (.ref x)] [.ref x])) rfl (rest := []) rfl (hb hbytes d1)
  have hh2 := q2.trans hh0
  have hx2 := hx.mv X2.warmed.alike hh2
  have c3 : Steps p.tables e below (s₁.setTop (entryFrame m #[.ref x] 1)) (T2.setTop (mkF m 6 #[.val (.ref x)] [.ref x, .int (Int32.ofNat V.slots.size)])) := (c1.trans (st2 _ (Steps.refl _))).trans (by
    refine X2.alen hexec hx2.2.2.2.1 rfl rfl (hb hbytes d4) ?_
    refine XS.aloadN X2.here hexec rfl (hb hbytes d5) rfl rfl ?_
    exact Steps.refl _)
  obtain ⟨v4, T4, X4, E4, g4⟩ := X2.callV hexec (Cdr.law l x cd z) hown (wks W (virtW "java/lang/String" 335 "java/lang/String" Cdr.yN Cdr.yN)) rfl (by decide) (wk W Cdr.tab) (W := 1) (Nat.le_of_ble_eq_true rfl) (Nat.le_of_ble_eq_true rfl) (Nat.le_refl _) (Nat.le_refl _) (hx2.1.fc X2.warmed.alike) hx2.1.is (g := (mkF m 6 #[.val (.ref x)] [.ref x, .int (Int32.ofNat V.slots.size)])) rfl (by rw [hml]; rfl) c3 (argsL := []) (rest := [.int (Int32.ofNat V.slots.size)]) rfl rfl (by show 2 * 0 + (1 + 0) ≤ _; decide) (hb hbytes d6) (⟨rfl, hx2.2.2.1, hx.2.2.2.2.1.cd, s1.there X2.warmed.alike hh2, hz⟩)
  obtain ⟨rfl, q4⟩ := E4
  have c5 : Steps p.tables e below (s₁.setTop (entryFrame m #[.ref x] 1)) (T4.setTop (mkF m 10 #[.val (.ref x)] [.int (Int32.ofNat V.slots.size >>> (cd &&& 31))])) := Steps.trans g4 (by
    refine ishr X4.here hexec rfl (hb hbytes d9) rfl ?_
    exact Steps.refl _)
  rw [hx.2.2.2.2.1.len v31] at c5
  exact ⟨T4, some (.int (Int32.ofNat n)), _, _, _, X4, rfl, rfl, rfl, (fun h => by cases h), ⟨rfl, q4.trans hh2⟩, fun fs hl => c5.trans (X4.ireturnOut hexec hret rfl (Or.inl rfl) (hb hbytes d10) hl)⟩
theorem pays {l : Launch} {R : Room} {p : Program} {e : Env} {below : List Frame} {s : State} {sargs : Array Value} {len W : Nat} (x t : Addr) (V : Cell) (cd : Int32) (n : Nat) (f : Nat → Int32) (z : Int32) (htab : tab.before sargs s = true) (hfr : 2 ≤ R.frames) (hlo : W + 25 ≤ R.locals) :
    Back l R p e below s sargs yN len W (fun A₁ a₁ => A₁.cells + 0 ≤ R.cells ∧ A₁.slots + 0 ≤ R.slots ∧ P x t V cd n f z a₁ A₁.U) (fun A₁ _ v₁ B₁ => E n v₁ A₁.U B₁.U ∧ B₁.locs = A₁.locs ++ [] ∧ B₁.cells = A₁.cells + 0 ∧ B₁.slots = A₁.slots + 0) :=
  (law l x t V cd n f z).pays htab hfr (by omega)
end Len
namespace IsL
def yN : MethodName := ⟨"java/lang/String", "isLatin1", "()Z"⟩
abbrev yB : ByteArray := jdk_42_method_154_code
theorem d0 : decode yB 0 = .ok (.getstatic 38, 3) := by decide +kernel
theorem d3 : decode yB 3 = .ok (.ifCond (.eq) 14, 3) := by decide +kernel
theorem d6 : decode yB 6 = .ok (.aload_n 0, 1) := by decide +kernel
theorem d7 : decode yB 7 = .ok (.getfield 15, 3) := by decide +kernel
theorem d10 : decode yB 10 = .ok (.ifCond (.ne) 7, 3) := by decide +kernel
theorem d13 : decode yB 13 = .ok (.iconst 1, 1) := by decide +kernel
theorem d14 : decode yB 14 = .ok (.goto 4, 3) := by decide +kernel
theorem d17 : decode yB 17 = .ok (.iconst 0, 1) := by decide +kernel
theorem d18 : decode yB 18 = .ok (.ireturn, 1) := by decide +kernel
def site : List Cond := [.fieldLink "java/lang/String" 38 "java/lang/String" "COMPACT_STRINGS" "Z", .fieldLink "java/lang/String" 15 "java/lang/String" "coder" "B"]
def tab : Cond := tabOf yN yB 1 (some .boolean) site
def P (x : Addr) (cd z : Int32) (args : Array Value) (s : State) : Prop := args = #[.ref x] ∧ Has x "java/lang/String" "coder" "B" (.int cd) s ∧ (cd = 0 ∨ cd = 1) ∧ StaticIs s "java/lang/String" "COMPACT_STRINGS" "Z" (.int z) ∧ ¬ z = 0
def E (cd : Int32) (r : Option Value) (s u : State) : Prop := XT.PureE (some (.int (1 - cd))) r s u
theorem law (l : Launch) (x : Addr) (cd z : Int32) : Law l yN 1 0 0 0 yB 1 (some .boolean) site (P x cd z) (E cd) [] 0 0 := by
  refine Law.of_walk (plainFor_of_name (by decide +kernel)) (by decide +kernel) (by decide +kernel) (by decide) (fun _ _ h => by rw [h.1]; rfl) (fun _ U U' hal hh h => ⟨h.1, h.2.1.mv hal hh, h.2.2.1, h.2.2.2.1.there hal hh, h.2.2.2.2⟩) (fun r U U' V V' h1 hal h2 h => XT.PureE.mv r U U' V V' h1 hal h2 h) ?_
  intro p e s m args below meth c s₁ X0 hexec hbytes hml hret hlk hnm hown hh0 W hP
  obtain ⟨rfl, hx, hc, s1, hz⟩ := hP
  have c1 : Steps p.tables e below (s₁.setTop (entryFrame m #[.ref x] 1)) (s₁.setTop (mkF m 0 #[.val (.ref x)] [])) := entry rfl
  obtain ⟨T2, X2, q2, st2⟩ := X0.sget hexec hown (wk W (.fieldLink "java/lang/String" 38 "java/lang/String" "COMPACT_STRINGS" "Z")) s1 (fun _ _ h => by rw [hh0]; exact h) (g := (mkF m 0 #[.val (.ref x)] [])) rfl (hb hbytes d0)
  have hh2 := q2.trans hh0
  have c3 : Steps p.tables e below (s₁.setTop (entryFrame m #[.ref x] 1)) (T2.setTop (mkF m 7 #[.val (.ref x)] [.ref x])) := (c1.trans (st2 _ (Steps.refl _))).trans (by
    refine XS.ifNo X2.here hexec rfl (hb hbytes d3) rfl (i0_eq_f hz) ?_
    refine XS.aloadN X2.here hexec rfl (hb hbytes d6) rfl rfl ?_
    exact Steps.refl _)
  obtain ⟨T4, X4, q4, st4⟩ := X2.hget hexec hown (wk W (.fieldLink "java/lang/String" 15 "java/lang/String" "coder" "B")) (hx.mv X2.warmed.alike hh2) (g := (mkF m 7 #[.val (.ref x)] [.ref x])) rfl (rest := []) rfl (hb hbytes d7)
  have c5 : Steps p.tables e below (s₁.setTop (entryFrame m #[.ref x] 1)) (T4.setTop (mkF m 10 #[.val (.ref x)] [.int cd])) := c3.trans (st4 _ (Steps.refl _))
  have c6 : Steps p.tables e below (s₁.setTop (entryFrame m #[.ref x] 1)) (T4.setTop (mkF m 18 #[.val (.ref x)] [.int (1 - cd)])) := by
    rcases hc with rfl | rfl
    · exact c5.trans (by
        refine XS.ifNo X4.here hexec rfl (hb hbytes d10) rfl (i0_ne_f rfl) ?_
        refine iconstV X4.here hexec rfl 1 (hb hbytes d13) (by decide) ?_
        refine XS.goto X4.here hexec rfl (pc0 := 14) rfl (hb hbytes d14) (by decide) rfl ?_
        exact Steps.refl _)
    · exact c5.trans (by
        refine XS.ifYes X4.here hexec rfl (pc0 := 10) rfl (hb hbytes d10) rfl (i0_ne_t (by decide)) (by decide) rfl ?_
        refine iconstV X4.here hexec rfl 0 (hb hbytes d17) (by decide) ?_
        exact Steps.refl _)
  exact ⟨T4, some (.int (1 - cd)), _, _, _, X4, rfl, rfl, rfl, (fun h => by cases h), ⟨rfl, q4.trans hh2⟩, fun fs hl => c6.trans (X4.ireturnOut hexec hret (by rcases hc with rfl | rfl <;> rfl) (Or.inr (Or.inl rfl)) (hb hbytes d18) hl)⟩
end IsL
namespace LChA
def yN : MethodName := ⟨"java/lang/StringLatin1", "charAt", "([BI)C"⟩
abbrev yB : ByteArray := jdk_43_method_2_code
theorem d0 : decode yB 0 = .ok (.iload_n 1, 1) := by decide +kernel
theorem d1 : decode yB 1 = .ok (.aload_n 0, 1) := by decide +kernel
theorem d2 : decode yB 2 = .ok (.arraylength, 1) := by decide +kernel
theorem d3 : decode yB 3 = .ok (.invokestatic 9, 3) := by decide +kernel
theorem d6 : decode yB 6 = .ok (.aload_n 0, 1) := by decide +kernel
theorem d7 : decode yB 7 = .ok (.iload_n 1, 1) := by decide +kernel
theorem d8 : decode yB 8 = .ok (.baload, 1) := by decide +kernel
theorem d9 : decode yB 9 = .ok (.sipush 255, 3) := by decide +kernel
theorem d12 : decode yB 12 = .ok (.iand, 1) := by decide +kernel
theorem d13 : decode yB 13 = .ok (.i2c, 1) := by decide +kernel
theorem d14 : decode yB 14 = .ok (.ireturn, 1) := by decide +kernel
def site : List Cond := [JO.Str_checkIndex.tab] ++ staticW "java/lang/StringLatin1" 9 JO.Str_checkIndex.yN
def tab : Cond := tabOf yN yB 2 (some .char) site
def P (t : Addr) (V : Cell) (i : Nat) (u : Int32) (fm : Value) (args : Array Value) (s : State) : Prop := args = #[.ref t, .int (Int32.ofNat i)] ∧ XT.Arr .byte t V s ∧ V.slots[i]? = some (.int u) ∧ (StaticIs s "jdk/internal/util/Preconditions" "SIOOBE_FORMATTER" "Ljava/util/function/BiFunction;" fm ∧ fm.isRef = true)
def E (u : Int32) (r : Option Value) (s w : State) : Prop := XT.PureE (some (.int (chr8 u))) r s w
theorem law (l : Launch) (t : Addr) (V : Cell) (i : Nat) (u : Int32) (fm : Value) : Law l yN 2 2 2 27 yB 2 (some .char) site (P t V i u fm) (E u) [] 0 0 := by
  refine Law.of_walk (plainFor_of_name (by decide +kernel)) (by decide +kernel) (by decide +kernel) (by decide) (fun _ _ h => by rw [h.1]; rfl) (fun _ U U' hal hh h => ⟨h.1, h.2.1.mv hal hh, h.2.2.1, h.2.2.2.1.there hal hh, h.2.2.2.2⟩) (fun r U U' V V' h1 hal h2 h => XT.PureE.mv r U U' V V' h1 hal h2 h) ?_
  intro p e s m args below meth c s₁ X0 hexec hbytes hml hret hlk hnm hown hh0 W hP
  obtain ⟨rfl, hV, hu, s1, rf⟩ := hP
  have v31 := hV.2.2.2
  have hi : i < V.slots.size := (Array.getElem?_eq_some_iff.mp hu).1
  have c1 : Steps p.tables e below (s₁.setTop (entryFrame m #[.ref t, .int (Int32.ofNat i)] 2)) (s₁.setTop (mkF m 0 #[.val (.ref t), .val (.int (Int32.ofNat i))] [])) := entry rfl
  have c2 : Steps p.tables e below (s₁.setTop (entryFrame m #[.ref t, .int (Int32.ofNat i)] 2)) (s₁.setTop (mkF m 3 #[.val (.ref t), .val (.int (Int32.ofNat i))] [.int (Int32.ofNat V.slots.size), .int (Int32.ofNat i)])) := c1.trans (by
    refine XS.iloadN X0.here hexec rfl (hb hbytes d0) rfl ?_
    refine XS.aloadN X0.here hexec rfl (hb hbytes d1) rfl rfl ?_
    refine X0.alen hexec (hV.mv X0.warmed.alike hh0) rfl rfl (hb hbytes d2) ?_
    exact Steps.refl _)
  obtain ⟨v3, T3, X3, E3, g3⟩ := X0.callS hexec (JO.Str_checkIndex.law l (Int32.ofNat i) (Int32.ofNat V.slots.size) fm) hown (wks W (staticW "java/lang/StringLatin1" 9 JO.Str_checkIndex.yN)) (wk W JO.Str_checkIndex.tab) (W := 0) (Nat.le_of_ble_eq_true rfl) (Nat.le_of_ble_eq_true rfl) (Nat.le_refl _) (Nat.le_refl _) (g := (mkF m 3 #[.val (.ref t), .val (.int (Int32.ofNat i))] [.int (Int32.ofNat V.slots.size), .int (Int32.ofNat i)])) rfl (by rw [hml]; rfl) c2 (argsL := [.int (Int32.ofNat i), .int (Int32.ofNat V.slots.size)]) (rest := []) rfl rfl (by show 2 * 0 + 0 ≤ _; decide) (hb hbytes d3) (⟨rfl, rf, s1.there X0.warmed.alike hh0, Int32.ofNat_not_neg (by omega), lt32 v31 hi⟩)
  obtain ⟨rfl, q3⟩ := E3
  have hh3 := q3.trans hh0
  have c4 : Steps p.tables e below (s₁.setTop (entryFrame m #[.ref t, .int (Int32.ofNat i)] 2)) (T3.setTop (mkF m 14 #[.val (.ref t), .val (.int (Int32.ofNat i))] [.int (chr8 u)])) := Steps.trans g3 (by
    refine XS.aloadN X3.here hexec rfl (hb hbytes d6) rfl rfl ?_
    refine XS.iloadN X3.here hexec rfl (hb hbytes d7) rfl ?_
    refine X3.aget hexec (hV.mv X3.warmed.alike hh3) rfl hu rfl rfl (hb hbytes d8) ?_
    refine sipushV X3.here hexec rfl 255 (hb hbytes d9) (by decide) ?_
    refine XS.iand X3.here hexec rfl (hb hbytes d12) rfl ?_
    refine i2c X3.here hexec rfl (hb hbytes d13) rfl ?_
    exact Steps.refl _)
  exact ⟨T3, some (.int (chr8 u)), _, _, _, X3, rfl, rfl, rfl, (fun h => by cases h), ⟨rfl, hh3⟩, fun fs hl => c4.trans (X3.ireturnOut hexec hret (narrow_c _) (Or.inr (Or.inr (Or.inr (Or.inl rfl)))) (hb hbytes d14) hl)⟩
end LChA
end StrChars
namespace StrChars.Road
open Jvm Sem ClassFile Op Lib Jvm.Stand Jvm.Free Jvm.Free.XT
open Jvm.Lib.Cold (StaticIs)
theorem consq {a : Array Value} {s : State} {c : Jvm.Cond} {L : List Jvm.Cond} (h0 : c.before a s = true) (h : ∀ w ∈ L, w.before a s = true) : ∀ w ∈ c :: L, w.before a s = true := fun w hw => (List.mem_cons.mp hw).elim (fun e => e ▸ h0) (h w)
/-- the words of String.length(), either coding -/
abbrev wordsLen : List Jvm.Cond := [.code Len.yN Len.yB 1 (some .int), .initialized ST, .fieldLink ST 9 ST "value" "[B", .fieldLink ST 38 ST "COMPACT_STRINGS" "Z", .fieldLink ST 15 ST "coder" "B", .code Cdr.yN Cdr.yB 1 (some .byte), .methodLink ST 335 Cdr.yN, .declares Cdr.yN, .selects ST Cdr.yN Cdr.yN, .instanceMethod Cdr.yN]
theorem tabLen_of {a : Array Value} {s : State} (h : ∀ w ∈ wordsLen, w.before a s = true) : Len.tab.before a s = true := by
  have hc : Cdr.tab.before a s = true := unparts (wk h (.code Cdr.yN Cdr.yB 1 (some .byte))) (wks h (.initialized Cdr.yN.cls :: Cdr.site))
  have q := consq hc h
  exact unparts (wk q (.code Len.yN Len.yB 1 (some .int))) (wks q (.initialized Len.yN.cls :: Len.site))
theorem movedLen {Z s : State} {a0 args : Array Value} (hZ : Z.Warmed39 s.vm) (hw : ∀ d ∈ wordsLen, d.before a0 Z = true) : ∀ d ∈ wordsLen, d.before args s = true := fun d hd => by
  have q := hw d hd
  have t : ∀ d ∈ wordsLen, d = .arrayClass .byte ∨ (d.onTables && d.keepsFace) = true := by decide +kernel
  rcases t d hd with rfl | t
  · exact RoadKit.mvA hZ q
  · exact RoadKit.mv hZ q t
/-- the bytes of the chars cs, low before high -/
def wideBytes : List Int32 → List Value
  | [] => []
  | c :: cs => .int (lo8 c) :: .int (hi8 c) :: wideBytes cs
theorem wide_lo (d : Value) : ∀ (cs : List Int32) (j : Nat), j < cs.length → (wideBytes cs).getD (2 * j) d = .int (lo8 (cs.getD j 0))
  | [], j, h => absurd h (Nat.not_lt_zero j)
  | c :: cs, 0, _ => rfl
  | c :: cs, j + 1, h => by
    have q := wide_lo d cs j (by simpa using h)
    rw [show 2 * (j + 1) = 2 * j + 1 + 1 from by omega]
    simpa [wideBytes] using q
theorem wide_hi (d : Value) : ∀ (cs : List Int32) (j : Nat), j < cs.length → (wideBytes cs).getD (2 * j + 1) d = .int (hi8 (cs.getD j 0))
  | [], j, h => absurd h (Nat.not_lt_zero j)
  | c :: cs, 0, _ => rfl
  | c :: cs, j + 1, h => by
    have q := wide_hi d cs j (by simpa using h)
    rw [show 2 * (j + 1) + 1 = 2 * j + 1 + 1 + 1 from by omega]
    simpa [wideBytes] using q
theorem low_at (d : Value) (cs : List Int32) (j : Nat) (h : j < cs.length) : (cs.map fun c => Value.int (lo8 c)).getD j d = .int (lo8 (cs.getD j 0)) := by
  simp [List.getD_eq_getElem?_getD, h]
/-- an array of N2 bytes vs codes the chars cs by the coder cd -/
def CodA (cs : List Int32) (cd N2 : Int32) (vs : List Value) : Prop := (cd = 0 ∧ N2 = Int32.ofNat cs.length ∧ vs = (cs.map fun c => Value.int (lo8 c)) ∧ ∀ c ∈ cs, ¬ 255 < c) ∨ (cd = 1 ∧ N2 = Int32.ofNat (2 * cs.length) ∧ vs = wideBytes cs ∧ ∃ c ∈ cs, 255 < c)
theorem CodA.cod {cs : List Int32} {cd N2 : Int32} {vs : List Value} {V : Cell} (h : CodA cs cd N2 vs) (hn : 2 * cs.length < 2 ^ 31) (hs : V.slots.size = N2.toNatClampNeg) (hv : RoadKit.Has V vs (.int 0)) : Cod cd cs.length (fun j => cs.getD j 0) V := by
  rcases h with ⟨rfl, rfl, rfl, h⟩ | ⟨rfl, rfl, rfl, c, hc, hw⟩
  · rw [n32 (by omega)] at hs
    exact Or.inl ⟨rfl, hs, fun j hj => ⟨by rw [hv j (by omega), low_at _ _ _ hj], by
      have e : cs.getD j 0 = cs[j] := by simp [List.getD_eq_getElem?_getD, hj]
      show ¬ 255 < cs.getD j 0
      rw [e]; exact h _ (List.getElem_mem _)⟩⟩
  · rw [n32 (by omega)] at hs
    obtain ⟨j, hj, rfl⟩ := List.getElem_of_mem hc
    exact Or.inr ⟨rfl, hs, fun j hj => ⟨by rw [hv _ (by omega), wide_lo _ _ _ hj], by rw [hv _ (by omega), wide_hi _ _ _ hj]⟩, j, hj, by
      have e : cs.getD j 0 = cs[j] := by simp [List.getD_eq_getElem?_getD, hj]
      show 255 < cs.getD j 0
      rw [e]; exact hw⟩
/-- an object of exactly java/lang/String, its two fields found: as the laws ask it -/
theorem strObj {Z U : State} {a0 : Array Value} {kI : Nat} (wi : (Jvm.Cond.instantiable ST kI).before a0 Z = true) (al : Z.vm.Alike U.vm) {x : Addr} {v0 c0 : Value} (E : RoadKit.Exa Z U.heap x ST) (V : RoadKit.Fld Z U.heap x ST "value" "[B" v0) (C : RoadKit.Fld Z U.heap x ST "coder" "B" c0) :
    ∃ (D : Cell) (fV fC : Field), Blank ST x D U ∧ Found ST "value" "[B" fV U ∧ Found ST "coder" "B" fC U ∧ D.slots[fV.slot]? = some v0 ∧ D.slots[fC.slot]? = some c0 ∧ RoadKit.slotOf Z ST "value" "[B" = fV.slot ∧ RoadKit.slotOf Z ST "coder" "B" = fC.slot := by
  obtain ⟨D, cfV, kV, iV, fV, hD, gV, stV, knV, obV, asV, slV⟩ := V
  obtain ⟨D', cfC, kC, iC, fC, hD', gC, stC, -, -, asC, slC⟩ := C
  cases hD.symm.trans hD'
  obtain ⟨D2, kD, e1, e2, e3, e4, e5⟩ := E
  cases hD.symm.trans e1
  obtain ⟨c2, k2, i1, i2, i3, -⟩ := Cond.instantiable_spec wi
  cases e2.symm.trans i1
  cases e3.symm.trans i2
  obtain ⟨kU, u1, u2⟩ := al.2.2 _ _ e3
  exact ⟨D, fV, fC, ⟨hD, ⟨knV, fun q hq => by rw [hq] at obV; cases obV⟩, by rw [al.findClass]; exact e2, kU, u1, by rw [u2]; exact i3, by rw [u2]; exact e5 i3⟩, ⟨SBG.found_only al ⟨cfV, kV, iV, gV⟩, stV⟩, ⟨SBG.found_only al ⟨cfC, kC, iC, gC⟩, stC⟩, slV, slC, by simp [RoadKit.slotOf, gV], by simp [RoadKit.slotOf, gC]⟩
theorem sta_is {Z U : State} (al : Z.vm.Alike U.vm) {C n d : String} {v : Value} (S : RoadKit.Sta Z U.heap C n d v) : StaticIs U C n d v := by
  obtain ⟨cfS, iS, kS, fS, st, cS, t1, t2, t3, t4, t5, t6, t7⟩ := S
  exact StaticIs.there (s := { Z with heap := U.heap }) ⟨cfS, iS, kS, fS, st, cS, t1, t2, t3, t4, t5, (fun q => by rw [q] at t6; cases t6), t7⟩ al rfl
/-- **length() OF SUCH A STRING** -/
theorem lenW {p : Program} {l : Launch} {e : Env} {R : Room} {s : State} {args : Array Value} {below : List Frame} {len W : Nat} {Z : State} {a0 : Array Value} {h : Heap} (hZ : Z.Warmed39 s.vm) (hw : ∀ d ∈ wordsLen, d.before a0 Z = true) {kI : Nat} (wi : (Jvm.Cond.instantiable ST kI).before a0 Z = true)
    {x t : Addr} {kb : ClassId} {cs : List Int32} {cd N2 z : Int32} {vs : List Value} (E : RoadKit.Exa Z h x ST) (V : RoadKit.Fld Z h x ST "value" "[B" (.ref t)) (C : RoadKit.Fld Z h x ST "coder" "B" (.int cd)) (K : RoadKit.Arv Z h t kb .byte N2 vs (.int 0)) (hc : CodA cs cd N2 vs) (hb : ∀ c ∈ cs, ¬ c < 0 ∧ ¬ (65535 : Int32) < c)
    (S : RoadKit.Sta Z h ST "COMPACT_STRINGS" "Z" (.int z)) (hz : ¬ z = 0) (l2 : cs.length ≤ 4000) (hfr : 2 ≤ R.frames) (hlo : W + 25 ≤ R.locals) :
    Back l R p e below s args (⟨"java/lang/String", "length", "()I"⟩ : MethodName) len W (fun P a => a = #[.ref x] ∧ P.U.heap = h ∧ P.cells + 0 ≤ R.cells ∧ P.slots + 0 ≤ R.slots)
      (fun P _ v B => ∃ L, (v = some (.int (Int32.ofNat cs.length)) ∧ L = [] ∧ B.U.heap = h) ∧ B.locs = P.locs ++ L ∧ B.cells = P.cells + 0 ∧ B.slots = P.slots + 0) := by
  obtain ⟨A, K1, K2, K3, K4, K5, K6⟩ := K
  have hcod := hc.cod (by omega) K3 K5
  intro m meth c P g ig mk a X hg hsize hdg hW hn hp'
  obtain ⟨rfl, rfl, r1, r2⟩ := hp'
  have al : Z.vm.Alike P.U.vm := hZ.alike.trans X.warmed.alike
  obtain ⟨D, fV, fC, hB, F1, F2, g1, g2, -, -⟩ := strObj wi al E V C
  have hx : Txt x t A cd cs.length (fun j => cs.getD j 0) P.U := ⟨⟨_, hB.2.2.1, D, hB.1, rfl, by cases q : D.vm <;> first | rfl | exact absurd q (hB.2.1.2 _)⟩, Has.of hB F1 g1, Has.of hB F2 g2, ⟨K1.1, State.isArrayOf_alike al K1.2.1, K1.2.2, by rcases hcod with ⟨-, q, -⟩ | ⟨-, q, -⟩ <;> omega⟩, hcod, fun j hj => by
    have e : cs.getD j 0 = cs[j] := by simp [List.getD_eq_getElem?_getD, hj]
    show ¬ cs.getD j 0 < 0 ∧ ¬ 65535 < cs.getD j 0
    rw [e]; exact hb _ (List.getElem_mem _)⟩
  obtain ⟨v, B, X', ⟨⟨hv, hh⟩, hl, hk, hs⟩, st⟩ := Len.pays x t A cd cs.length (fun j => cs.getD j 0) z (tabLen_of (movedLen hZ hw)) hfr hlo m meth c P g ig mk _ X hg hsize hdg hW hn ⟨r1, r2, rfl, hx, sta_is al S, hz⟩
  exact ⟨v, B, X', ⟨[], ⟨hv, rfl, hh⟩, hl, hk, hs⟩, st⟩
end StrChars.Road
namespace StrChars
open Jvm Sem ClassFile Op Lib Jvm.Stand Jvm.Free.XT Jvm.Free.ALB Jvm.Free.JM Jvm.Free
open Jvm.Lib.Cold (StaticIs)
/-- what place i of a byte[]'s cell holds -/
def yv (A : Cell) (i : Nat) : Int32 := match A.slots[i]? with | some (.int x) => x | _ => 0
theorem yv_get {a : Addr} {A : Cell} {U : State} (h : XT.Arr .byte a A U) (ht : Typed .byte A) {i : Nat} (hi : i < A.slots.size) : A.slots[i]? = some (.int (yv A i)) := by
  have e := Array.getElem?_eq_getElem hi
  have f := ht i _ e
  unfold yv; rw [e]
  generalize A.slots[i] = v at f
  cases v <;> simp [fits] at f ⊢
/-- the two arrays are equal, place for place -/
def EqC (A B : Cell) : Prop := A.slots.size = B.slots.size ∧ ∀ i, i < A.slots.size → yv A i = yv B i
/-- a boolean that says whether p -/
def Says01 (q : Prop) (r : Option Value) (s u : State) : Prop := ∃ v : Int32, r = some (.int v) ∧ u.heap = s.heap ∧ ((v = 1 ∧ q) ∨ (v = 0 ∧ ¬ q))
theorem Says01.mv {q : Prop} : ∀ r (U U' V V' : State), U'.heap = U.heap → V.vm.Alike V'.vm → V'.heap = V.heap → Says01 q r U V → Says01 q r U' V' :=
  fun r U U' V V' h1 _ h2 ⟨v, a, b, c⟩ => ⟨v, a, by rw [h1, h2]; exact b, c⟩
namespace LEq
def yN : MethodName := ⟨"java/lang/StringLatin1", "equals", "([B[B)Z"⟩
abbrev yB : ByteArray := jdk_43_method_13_code
theorem d0 : decode yB 0 = .ok (.aload_n 0, 1) := by decide +kernel
theorem d1 : decode yB 1 = .ok (.arraylength, 1) := by decide +kernel
theorem d2 : decode yB 2 = .ok (.aload_n 1, 1) := by decide +kernel
theorem d3 : decode yB 3 = .ok (.arraylength, 1) := by decide +kernel
theorem d4 : decode yB 4 = .ok (.if_icmp (.ne) 30, 3) := by decide +kernel
theorem d7 : decode yB 7 = .ok (.iconst 0, 1) := by decide +kernel
theorem d8 : decode yB 8 = .ok (.istore_n 2, 1) := by decide +kernel
theorem d9 : decode yB 9 = .ok (.iload_n 2, 1) := by decide +kernel
theorem d10 : decode yB 10 = .ok (.aload_n 0, 1) := by decide +kernel
theorem d11 : decode yB 11 = .ok (.arraylength, 1) := by decide +kernel
theorem d12 : decode yB 12 = .ok (.if_icmp (.ge) 20, 3) := by decide +kernel
theorem d15 : decode yB 15 = .ok (.aload_n 0, 1) := by decide +kernel
theorem d16 : decode yB 16 = .ok (.iload_n 2, 1) := by decide +kernel
theorem d17 : decode yB 17 = .ok (.baload, 1) := by decide +kernel
theorem d18 : decode yB 18 = .ok (.aload_n 1, 1) := by decide +kernel
theorem d19 : decode yB 19 = .ok (.iload_n 2, 1) := by decide +kernel
theorem d20 : decode yB 20 = .ok (.baload, 1) := by decide +kernel
theorem d21 : decode yB 21 = .ok (.if_icmp (.eq) 5, 3) := by decide +kernel
theorem d24 : decode yB 24 = .ok (.iconst 0, 1) := by decide +kernel
theorem d25 : decode yB 25 = .ok (.ireturn, 1) := by decide +kernel
theorem d26 : decode yB 26 = .ok (.iinc 2 1, 3) := by decide +kernel
theorem d29 : decode yB 29 = .ok (.goto (-20), 3) := by decide +kernel
theorem d32 : decode yB 32 = .ok (.iconst 1, 1) := by decide +kernel
theorem d33 : decode yB 33 = .ok (.ireturn, 1) := by decide +kernel
theorem d34 : decode yB 34 = .ok (.iconst 0, 1) := by decide +kernel
theorem d35 : decode yB 35 = .ok (.ireturn, 1) := by decide +kernel
def site : List Cond := []
def tab : Cond := tabOf yN yB 3 (some .boolean) site
def P (a : Addr) (A : Cell) (b : Addr) (B : Cell) (args : Array Value) (s : State) : Prop := args = #[.ref a, .ref b] ∧ XT.Arr .byte a A s ∧ Typed .byte A ∧ XT.Arr .byte b B s ∧ Typed .byte B
/-- whether two byte[] are equal, place for place -/
theorem law (l : Launch) (a : Addr) (A : Cell) (b : Addr) (B : Cell) : Law l yN 2 2 0 0 yB 3 (some .boolean) site (P a A b B) (Says01 (EqC A B)) [] 0 0 := by
  refine Law.of_walk (plainFor_of_name (by decide +kernel)) (by decide +kernel) (by decide +kernel) (by decide) (fun _ _ h => by rw [h.1]; rfl) (fun _ U U' hal hh h => ⟨h.1, h.2.1.mv hal hh, h.2.2.1, h.2.2.2.1.mv hal hh, h.2.2.2.2⟩) (fun r U U' V V' h1 hal h2 h => Says01.mv r U U' V V' h1 hal h2 h) ?_
  intro p e s m args below meth c s₁ X0 hexec hbytes hml hret hlk hnm hown hh0 W hP
  obtain ⟨rfl, hA, tA, hB, tB⟩ := hP
  have a31 := hA.2.2.2
  have b31 := hB.2.2.2
  have hA0 := hA.mv X0.warmed.alike hh0
  have hB0 := hB.mv X0.warmed.alike hh0
  have c1 : Steps p.tables e below (s₁.setTop (entryFrame m #[.ref a, .ref b] 3)) (s₁.setTop (mkF m 0 #[.val (.ref a), .val (.ref b), .unset] [])) := entry rfl
  have c2 : Steps p.tables e below (s₁.setTop (entryFrame m #[.ref a, .ref b] 3)) (s₁.setTop (mkF m 4 #[.val (.ref a), .val (.ref b), .unset] [.int (Int32.ofNat B.slots.size), .int (Int32.ofNat A.slots.size)])) := c1.trans (by
    refine XS.aloadN X0.here hexec rfl (hb hbytes d0) rfl rfl ?_
    refine X0.alen hexec hA0 rfl rfl (hb hbytes d1) ?_
    refine XS.aloadN X0.here hexec rfl (hb hbytes d2) rfl rfl ?_
    refine X0.alen hexec hB0 rfl rfl (hb hbytes d3) ?_
    exact Steps.refl _)
  by_cases hs : A.slots.size = B.slots.size
  · have c3 : Steps p.tables e below (s₁.setTop (entryFrame m #[.ref a, .ref b] 3)) (s₁.setTop (mkF m 9 #[.val (.ref a), .val (.ref b), .val (.int 0)] [])) := c2.trans (by
      refine XS.icmpNo X0.here hexec rfl (hb hbytes d4) rfl (ii_ne_f (by rw [hs])) ?_
      refine iconstV X0.here hexec rfl 0 (hb hbytes d7) (by decide) ?_
      refine XS.istoreN X0.here hexec rfl (hb hbytes d8) rfl rfl ?_
      exact Steps.refl _)
    have loop : ∀ (r i : Nat), i + r = A.slots.size → (∀ j, j < i → yv A j = yv B j) → Steps p.tables e below (s₁.setTop (entryFrame m #[.ref a, .ref b] 3)) (s₁.setTop (mkF m 9 #[.val (.ref a), .val (.ref b), .val (.int (Int32.ofNat i))] [])) → ∃ (pc : Nat) (Ls : Array Slot) (v : Int32), (pc = 25 ∨ pc = 33) ∧ ((v = 1 ∧ EqC A B) ∨ (v = 0 ∧ ¬ EqC A B)) ∧ Steps p.tables e below (s₁.setTop (entryFrame m #[.ref a, .ref b] 3)) (s₁.setTop (mkF m pc Ls [.int v])) := by
      intro r
      induction r with
      | zero =>
        intro i hi he cl
        exact ⟨33, _, 1, Or.inr rfl, Or.inl ⟨rfl, hs, fun j hj => he j (by omega)⟩, cl.trans (by
          refine XS.iloadN X0.here hexec rfl (hb hbytes d9) rfl ?_
          refine XS.aloadN X0.here hexec rfl (hb hbytes d10) rfl rfl ?_
          refine X0.alen hexec hA0 rfl rfl (hb hbytes d11) ?_
          refine XS.icmpYes X0.here hexec rfl (pc0 := 12) rfl (hb hbytes d12) rfl (ii_ge_t (nlt32 (by omega) (by omega))) (by decide) rfl ?_
          refine iconstV X0.here hexec rfl 1 (hb hbytes d32) (by decide) ?_
          exact Steps.refl _)⟩
      | succ r ih =>
        intro i hi he cl
        have c4 : Steps p.tables e below (s₁.setTop (entryFrame m #[.ref a, .ref b] 3)) (s₁.setTop (mkF m 21 #[.val (.ref a), .val (.ref b), .val (.int (Int32.ofNat i))] [.int (yv B i), .int (yv A i)])) := cl.trans (by
          refine XS.iloadN X0.here hexec rfl (hb hbytes d9) rfl ?_
          refine XS.aloadN X0.here hexec rfl (hb hbytes d10) rfl rfl ?_
          refine X0.alen hexec hA0 rfl rfl (hb hbytes d11) ?_
          refine XS.icmpNo X0.here hexec rfl (hb hbytes d12) rfl (ii_ge_f (lt32 (by omega) (by omega))) ?_
          refine XS.aloadN X0.here hexec rfl (hb hbytes d15) rfl rfl ?_
          refine XS.iloadN X0.here hexec rfl (hb hbytes d16) rfl ?_
          refine X0.aget hexec hA0 rfl (yv_get hA tA (i := i) (by omega)) rfl rfl (hb hbytes d17) ?_
          refine XS.aloadN X0.here hexec rfl (hb hbytes d18) rfl rfl ?_
          refine XS.iloadN X0.here hexec rfl (hb hbytes d19) rfl ?_
          refine X0.aget hexec hB0 rfl (yv_get hB tB (i := i) (by omega)) rfl rfl (hb hbytes d20) ?_
          exact Steps.refl _)
        by_cases hv : yv A i = yv B i
        · have c5 : Steps p.tables e below (s₁.setTop (entryFrame m #[.ref a, .ref b] 3)) (s₁.setTop (mkF m 9 #[.val (.ref a), .val (.ref b), .val (.int (Int32.ofNat i + 1))] [])) := c4.trans (by
            refine XS.icmpYes X0.here hexec rfl (pc0 := 21) rfl (hb hbytes d21) rfl (ii_eq_t hv) (by decide) rfl ?_
            refine iincV X0.here hexec rfl 1 (hb hbytes d26) (by decide) rfl rfl ?_
            refine XS.goto X0.here hexec rfl (pc0 := 29) rfl (hb hbytes d29) (by decide) rfl ?_
            exact Steps.refl _)
          rw [succ32] at c5
          exact ih (i + 1) (by omega) (fun j hj => by
            by_cases e : j = i
            · rw [e]; exact hv
            · exact he j (by omega)) c5
        · exact ⟨25, _, 0, Or.inl rfl, Or.inr ⟨rfl, fun q => hv (q.2 i (by omega))⟩, c4.trans (by
            refine XS.icmpNo X0.here hexec rfl (hb hbytes d21) rfl (ii_eq_f hv) ?_
            refine iconstV X0.here hexec rfl 0 (hb hbytes d24) (by decide) ?_
            exact Steps.refl _)⟩
    obtain ⟨pc, Ls, v, hpc, hv, cz⟩ := loop A.slots.size 0 (by omega) (fun j hj => absurd hj (Nat.not_lt_zero j)) c3
    have nv : narrow .boolean (.int v) = .int v := by rcases hv with ⟨rfl, -⟩ | ⟨rfl, -⟩ <;> rfl
    rcases hpc with rfl | rfl
    · exact ⟨s₁, some (.int v), _, _, _, X0, rfl, rfl, rfl, (fun h => by cases h), ⟨v, rfl, hh0, hv⟩, fun fs hl => cz.trans (X0.ireturnOut hexec hret nv (Or.inr (Or.inl rfl)) (hb hbytes d25) hl)⟩
    · exact ⟨s₁, some (.int v), _, _, _, X0, rfl, rfl, rfl, (fun h => by cases h), ⟨v, rfl, hh0, hv⟩, fun fs hl => cz.trans (X0.ireturnOut hexec hret nv (Or.inr (Or.inl rfl)) (hb hbytes d33) hl)⟩
  · have c3 : Steps p.tables e below (s₁.setTop (entryFrame m #[.ref a, .ref b] 3)) (s₁.setTop (mkF m 35 #[.val (.ref a), .val (.ref b), .unset] [.int 0])) := c2.trans (by
      refine XS.icmpYes X0.here hexec rfl (pc0 := 4) rfl (hb hbytes d4) rfl (ii_ne_t (ne32 a31 b31 hs)) (by decide) rfl ?_
      refine iconstV X0.here hexec rfl 0 (hb hbytes d34) (by decide) ?_
      exact Steps.refl _)
    exact ⟨s₁, some (.int 0), _, _, _, X0, rfl, rfl, rfl, (fun h => by cases h), ⟨0, rfl, hh0, Or.inr ⟨rfl, fun q => hs q.1⟩⟩, fun fs hl => c3.trans (X0.ireturnOut hexec hret rfl (Or.inr (Or.inl rfl)) (hb hbytes d35) hl)⟩
end LEq
theorem Cod.ty {cd : Int32} {n : Nat} {f : Nat → Int32} {V : Cell} (h : Cod cd n f V) : Typed .byte V := fun i v hv => by
  have hi : i < V.slots.size := (Array.getElem?_eq_some_iff.mp hv).1
  rcases h with ⟨-, k1, k2⟩ | ⟨-, k1, k2, -⟩
  · rw [(k2 i (by omega)).1] at hv; cases hv; exact fits_lo8 _
  · rcases Nat.mod_two_eq_zero_or_one i with e | e
    · obtain ⟨j, rfl⟩ : ∃ j, i = 2 * j := ⟨i / 2, by omega⟩
      rw [(k2 j (by omega)).1] at hv; cases hv; exact fits_lo8 _
    · obtain ⟨j, rfl⟩ : ∃ j, i = 2 * j + 1 := ⟨i / 2, by omega⟩
      rw [(k2 j (by omega)).2] at hv; cases hv; exact fits_lo8 _
/-- the same text -/
def SameT (n : Nat) (f : Nat → Int32) (k : Nat) (g : Nat → Int32) : Prop := n = k ∧ ∀ j, j < n → f j = g j
theorem lo8_inj {x y : Int32} (h0 : ¬ x < 0) (h1 : ¬ 255 < x) (k0 : ¬ y < 0) (k1 : ¬ 255 < y) (h : lo8 x = lo8 y) : x = y := by
  rw [← lo8_mask h0 h1, ← lo8_mask k0 k1, h]
/-- arrays coded by one coder are equal just where the texts are -/
theorem Cod.eqv {cd : Int32} {n k : Nat} {f g : Nat → Int32} {V V' : Cell} (h : Cod cd n f V) (h' : Cod cd k g V') (hf : ∀ j, j < n → ¬ f j < 0 ∧ ¬ 65535 < f j) (hg : ∀ j, j < k → ¬ g j < 0 ∧ ¬ 65535 < g j) : EqC V V' ↔ SameT n f k g := by
  have yvv : ∀ {W : Cell} {i : Nat} {x : Int32}, W.slots[i]? = some (.int x) → yv W i = x := fun q => by unfold yv; rw [q]
  rcases h with ⟨rfl, k1, k2⟩ | ⟨rfl, k1, k2, -⟩
  · rcases h' with ⟨-, m1, m2⟩ | ⟨e, -⟩
    · constructor
      · rintro ⟨e1, e2⟩
        refine ⟨by omega, fun j hj => ?_⟩
        have q := e2 j (by omega)
        rw [yvv (k2 j hj).1, yvv (m2 j (by omega)).1] at q
        exact lo8_inj (hf j hj).1 (k2 j hj).2 (hg j (by omega)).1 (m2 j (by omega)).2 q
      · rintro ⟨rfl, e2⟩
        refine ⟨by omega, fun j hj => ?_⟩
        rw [yvv (k2 j (by omega)).1, yvv (m2 j (by omega)).1, e2 j (by omega)]
    · exact absurd e (by decide)
  · rcases h' with ⟨e, -⟩ | ⟨-, m1, m2, -⟩
    · exact absurd e (by decide)
    · constructor
      · rintro ⟨e1, e2⟩
        refine ⟨by omega, fun j hj => ?_⟩
        have q1 := e2 (2 * j) (by omega)
        have q2 := e2 (2 * j + 1) (by omega)
        rw [yvv (k2 j hj).1, yvv (m2 j (by omega)).1] at q1
        rw [yvv (k2 j hj).2, yvv (m2 j (by omega)).2] at q2
        rw [← pair_says (hf j hj).1 (hf j hj).2, ← pair_says (hg j (by omega)).1 (hg j (by omega)).2, q1, q2]
      · rintro ⟨rfl, e2⟩
        refine ⟨by omega, fun i hi => ?_⟩
        rcases Nat.mod_two_eq_zero_or_one i with e | e
        · obtain ⟨j, rfl⟩ : ∃ j, i = 2 * j := ⟨i / 2, by omega⟩
          rw [yvv (k2 j (by omega)).1, yvv (m2 j (by omega)).1, e2 j (by omega)]
        · obtain ⟨j, rfl⟩ : ∃ j, i = 2 * j + 1 := ⟨i / 2, by omega⟩
          rw [yvv (k2 j (by omega)).2, yvv (m2 j (by omega)).2, e2 j (by omega)]
/-- two codings differ: so do the texts -/
theorem Cod.dif {cd cd' : Int32} {n k : Nat} {f g : Nat → Int32} {V V' : Cell} (h : Cod cd n f V) (h' : Cod cd' k g V') (hne : ¬ cd = cd') : ¬ SameT n f k g := by
  rintro ⟨rfl, e⟩
  rcases h with ⟨rfl, -, k2⟩ | ⟨rfl, -, -, j, hj, hw⟩
  · rcases h' with ⟨rfl, -⟩ | ⟨-, -, -, j, hj, hw⟩
    · exact hne rfl
    · exact (k2 j hj).2 (by rw [e j hj]; exact hw)
  · rcases h' with ⟨-, -, m2⟩ | ⟨rfl, -⟩
    · exact (m2 j hj).2 (by rw [← e j hj]; exact hw)
    · exact hne rfl
/-- an object of exactly C is an instance of C -/
theorem cinst {p : Program} {l : Launch} {e : Env} {R : Room} {s : State} {m : MethodId} {args : Array Value} {below : List Frame} {meth : Method} {c : Code} {T : State} {locs : List Loc} {cells slots : Nat} (X : Stand p l e R s m args below meth c T locs cells slots) (hexec : p.tables.exec = Jvm.exec) {own C : String} {index : Nat} (hown : s.vm.findClass own = some m.cls) (hlink : (Cond.classLink own index C).before args s = true) {a : Addr} (hE : Exact C a T)
    {g : JFrame} (hg : g.method = m) {rest : List Value} (hstack : g.stack = .ref a :: rest) (hdg : decode c.code g.pc = .ok (.instanceof index, 3)) :
    ∃ T', Stand p l e R s m args below meth c T' locs cells slots ∧ T'.heap = T.heap ∧ ∀ target, Steps p.tables e below (T'.setTop { g with pc := g.pc + 3, stack := .int 1 :: rest }) target → Steps p.tables e below (T.setTop g) target := by
  obtain ⟨cB, h1, D, h2, h3, h4⟩ := hE
  have h1' : s.vm.findClass C = some cB := by rw [← X.warmed.alike.findClass]; exact h1
  obtain ⟨vm', X', st⟩ := X.instanceofYes hexec hown hlink h2 h4 h1' (by rw [h3]; exact Jvm.Free.SB.assignable_self _ _) hg hstack hdg
  exact ⟨_, X', rfl, st⟩
theorem cself {p : Program} {l : Launch} {e : Env} {R : Room} {s : State} {m : MethodId} {args : Array Value} {below : List Frame} {meth : Method} {c : Code} {T : State} {locs : List Loc} {cells slots : Nat} (X : Stand p l e R s m args below meth c T locs cells slots) (hexec : p.tables.exec = Jvm.exec) {own C : String} {index : Nat} (hown : s.vm.findClass own = some m.cls) (hlink : (Cond.classLink own index C).before args s = true) {a : Addr} (hE : Exact C a T)
    {g : JFrame} (hg : g.method = m) {rest : List Value} (hstack : g.stack = .ref a :: rest) (hdg : decode c.code g.pc = .ok (.checkcast index, 3)) :
    ∃ T', Stand p l e R s m args below meth c T' locs cells slots ∧ T'.heap = T.heap ∧ ∀ target, Steps p.tables e below (T'.setTop { g with pc := g.pc + 3, stack := .ref a :: rest }) target → Steps p.tables e below (T.setTop g) target := by
  obtain ⟨cB, h1, D, h2, h3, h4⟩ := hE
  have h1' : s.vm.findClass C = some cB := by rw [← X.warmed.alike.findClass]; exact h1
  obtain ⟨vm', X', st⟩ := X.checkcastYes hexec hown hlink h2 h4 h1' (by rw [h3]; exact Jvm.Free.SB.assignable_self _ _) hg hstack hdg
  exact ⟨_, X', rfl, fun t h => st t (by rw [← hstack] at h; exact h)⟩
namespace SEq
def yN : MethodName := ⟨"java/lang/String", "equals", "(Ljava/lang/Object;)Z"⟩
abbrev yB : ByteArray := jdk_42_method_66_code
theorem d0 : decode yB 0 = .ok (.aload_n 0, 1) := by decide +kernel
theorem d1 : decode yB 1 = .ok (.aload_n 1, 1) := by decide +kernel
theorem d2 : decode yB 2 = .ok (.if_acmp (.ne) 5, 3) := by decide +kernel
theorem d5 : decode yB 5 = .ok (.iconst 1, 1) := by decide +kernel
theorem d6 : decode yB 6 = .ok (.ireturn, 1) := by decide +kernel
theorem d7 : decode yB 7 = .ok (.aload_n 1, 1) := by decide +kernel
theorem d8 : decode yB 8 = .ok (.instanceof 10, 3) := by decide +kernel
theorem d11 : decode yB 11 = .ok (.ifCond (.eq) 43, 3) := by decide +kernel
theorem d14 : decode yB 14 = .ok (.aload_n 1, 1) := by decide +kernel
theorem d15 : decode yB 15 = .ok (.checkcast 10, 3) := by decide +kernel
theorem d18 : decode yB 18 = .ok (.astore_n 2, 1) := by decide +kernel
theorem d19 : decode yB 19 = .ok (.getstatic 38, 3) := by decide +kernel
theorem d22 : decode yB 22 = .ok (.ifCond (.eq) 14, 3) := by decide +kernel
theorem d25 : decode yB 25 = .ok (.aload_n 0, 1) := by decide +kernel
theorem d26 : decode yB 26 = .ok (.getfield 15, 3) := by decide +kernel
theorem d29 : decode yB 29 = .ok (.aload_n 2, 1) := by decide +kernel
theorem d30 : decode yB 30 = .ok (.getfield 15, 3) := by decide +kernel
theorem d33 : decode yB 33 = .ok (.if_icmp (.ne) 21, 3) := by decide +kernel
theorem d36 : decode yB 36 = .ok (.aload_n 0, 1) := by decide +kernel
theorem d37 : decode yB 37 = .ok (.getfield 9, 3) := by decide +kernel
theorem d40 : decode yB 40 = .ok (.aload_n 2, 1) := by decide +kernel
theorem d41 : decode yB 41 = .ok (.getfield 9, 3) := by decide +kernel
theorem d44 : decode yB 44 = .ok (.invokestatic 541, 3) := by decide +kernel
theorem d47 : decode yB 47 = .ok (.ifCond (.eq) 7, 3) := by decide +kernel
theorem d50 : decode yB 50 = .ok (.iconst 1, 1) := by decide +kernel
theorem d51 : decode yB 51 = .ok (.goto 4, 3) := by decide +kernel
theorem d54 : decode yB 54 = .ok (.iconst 0, 1) := by decide +kernel
theorem d55 : decode yB 55 = .ok (.ireturn, 1) := by decide +kernel
def site : List Cond := [.classLink "java/lang/String" 10 "java/lang/String", .fieldLink "java/lang/String" 38 "java/lang/String" "COMPACT_STRINGS" "Z", .fieldLink "java/lang/String" 15 "java/lang/String" "coder" "B", .fieldLink "java/lang/String" 9 "java/lang/String" "value" "[B", LEq.tab] ++ staticW "java/lang/String" 541 LEq.yN
def tab : Cond := tabOf yN yB 3 (some .boolean) site
def P (x t : Addr) (V : Cell) (cd : Int32) (n : Nat) (f : Nat → Int32) (y t' : Addr) (V' : Cell) (cd' : Int32) (k : Nat) (g : Nat → Int32) (z : Int32) (args : Array Value) (s : State) : Prop := args = #[.ref x, .ref y] ∧ Txt x t V cd n f s ∧ Txt y t' V' cd' k g s ∧ StaticIs s "java/lang/String" "COMPACT_STRINGS" "Z" (.int z) ∧ ¬ z = 0
/-- equals(Object) of two Strings: whether the texts are the same -/
theorem law (l : Launch) (x t : Addr) (V : Cell) (cd : Int32) (n : Nat) (f : Nat → Int32) (y t' : Addr) (V' : Cell) (cd' : Int32) (k : Nat) (g : Nat → Int32) (z : Int32) : Law l yN 2 1 1 14 yB 3 (some .boolean) site (P x t V cd n f y t' V' cd' k g z) (Says01 (SameT n f k g)) [] 0 0 := by
  refine Law.of_walk (plainFor_of_name (by decide +kernel)) (by decide +kernel) (by decide +kernel) (by decide) (fun _ _ h => by rw [h.1]; rfl) (fun _ U U' hal hh h => ⟨h.1, h.2.1.mv hal hh, h.2.2.1.mv hal hh, h.2.2.2.1.there hal hh, h.2.2.2.2⟩) (fun r U U' V V' h1 hal h2 h => Says01.mv r U U' V V' h1 hal h2 h) ?_
  intro p e s m args below meth c s₁ X0 hexec hbytes hml hret hlk hnm hown hh0 W hP
  obtain ⟨rfl, hx, hy, s1, hz⟩ := hP
  have c1 : Steps p.tables e below (s₁.setTop (entryFrame m #[.ref x, .ref y] 3)) (s₁.setTop (mkF m 2 #[.val (.ref x), .val (.ref y), .unset] [.ref y, .ref x])) := Steps.trans (entry rfl) (by
    show Steps p.tables e below (s₁.setTop (mkF m 0 #[.val (.ref x), .val (.ref y), .unset] [])) _
    refine XS.aloadN X0.here hexec rfl (hb hbytes d0) rfl rfl ?_
    refine XS.aloadN X0.here hexec rfl (hb hbytes d1) rfl rfl ?_
    exact Steps.refl _)
  by_cases hxy : x = y
  · have c2 : Steps p.tables e below (s₁.setTop (entryFrame m #[.ref x, .ref y] 3)) (s₁.setTop (mkF m 6 #[.val (.ref x), .val (.ref y), .unset] [.int 1])) := c1.trans (by
      refine acmpNo X0.here hexec rfl (hb hbytes d2) rfl rfl rfl (by simp [acmp, hxy]) ?_
      refine iconstV X0.here hexec rfl 1 (hb hbytes d5) (by decide) ?_
      exact Steps.refl _)
    subst hxy
    have ec : cd = cd' := by
      obtain ⟨D, fd, a1, a2, a3⟩ := hx.2.2.1
      obtain ⟨D', fd', b1, b2, b3⟩ := hy.2.2.1
      cases a1.symm.trans b1
      obtain ⟨q1, q2, q3, q4⟩ := a2.1
      obtain ⟨r1, r2, r3, r4⟩ := b2.1
      cases q4.symm.trans r4
      cases a3.symm.trans b3; rfl
    have et : t = t' := by
      obtain ⟨D, fd, a1, a2, a3⟩ := hx.2.1
      obtain ⟨D', fd', b1, b2, b3⟩ := hy.2.1
      cases a1.symm.trans b1
      obtain ⟨q1, q2, q3, q4⟩ := a2.1
      obtain ⟨r1, r2, r3, r4⟩ := b2.1
      cases q4.symm.trans r4
      cases a3.symm.trans b3; rfl
    subst ec et
    have ev : V = V' := by cases hx.2.2.2.1.1.symm.trans hy.2.2.2.1.1; rfl
    subst ev
    have hs : SameT n f k g := (Cod.eqv hx.2.2.2.2.1 hy.2.2.2.2.1 hx.2.2.2.2.2 hy.2.2.2.2.2).mp ⟨rfl, fun _ _ => rfl⟩
    exact ⟨s₁, some (.int 1), _, _, _, X0, rfl, rfl, rfl, (fun h => by cases h), ⟨1, rfl, hh0, Or.inl ⟨rfl, hs⟩⟩, fun fs hl => c2.trans (X0.ireturnOut hexec hret rfl (Or.inr (Or.inl rfl)) (hb hbytes d6) hl)⟩
  · have c2 : Steps p.tables e below (s₁.setTop (entryFrame m #[.ref x, .ref y] 3)) (s₁.setTop (mkF m 8 #[.val (.ref x), .val (.ref y), .unset] [.ref y])) := c1.trans (by
      refine acmpYes X0.here hexec rfl (pc0 := 2) rfl (hb hbytes d2) rfl rfl rfl (by simp [acmp, hxy]) (by decide) rfl ?_
      refine XS.aloadN X0.here hexec rfl (hb hbytes d7) rfl rfl ?_
      exact Steps.refl _)
    obtain ⟨T3, X3, q3, st3⟩ := cinst X0 hexec hown (wk W (.classLink "java/lang/String" 10 "java/lang/String")) (hy.mv X0.warmed.alike hh0).1 (g := (mkF m 8 #[.val (.ref x), .val (.ref y), .unset] [.ref y])) rfl (rest := []) rfl (hb hbytes d8)
    have hh3 := q3.trans hh0
    have c4 : Steps p.tables e below (s₁.setTop (entryFrame m #[.ref x, .ref y] 3)) (T3.setTop (mkF m 15 #[.val (.ref x), .val (.ref y), .unset] [.ref y])) := (c2.trans (st3 _ (Steps.refl _))).trans (by
      refine XS.ifNo X3.here hexec rfl (hb hbytes d11) rfl (i0_eq_f (by decide)) ?_
      refine XS.aloadN X3.here hexec rfl (hb hbytes d14) rfl rfl ?_
      exact Steps.refl _)
    obtain ⟨T5, X5, q5, st5⟩ := cself X3 hexec hown (wk W (.classLink "java/lang/String" 10 "java/lang/String")) (hy.mv X3.warmed.alike hh3).1 (g := (mkF m 15 #[.val (.ref x), .val (.ref y), .unset] [.ref y])) rfl (rest := []) rfl (hb hbytes d15)
    have hh5 := q5.trans hh3
    have c6 : Steps p.tables e below (s₁.setTop (entryFrame m #[.ref x, .ref y] 3)) (T5.setTop (mkF m 19 #[.val (.ref x), .val (.ref y), .val (.ref y)] [])) := (c4.trans (st5 _ (Steps.refl _))).trans (by
      refine XS.astoreN X5.here hexec rfl (hb hbytes d18) rfl rfl rfl ?_
      exact Steps.refl _)
    obtain ⟨T7, X7, q7, st7⟩ := X5.sget hexec hown (wk W (.fieldLink "java/lang/String" 38 "java/lang/String" "COMPACT_STRINGS" "Z")) s1 (fun _ _ h => by rw [hh5]; exact h) (g := (mkF m 19 #[.val (.ref x), .val (.ref y), .val (.ref y)] [])) rfl (hb hbytes d19)
    have hh7 := q7.trans hh5
    have c8 : Steps p.tables e below (s₁.setTop (entryFrame m #[.ref x, .ref y] 3)) (T7.setTop (mkF m 26 #[.val (.ref x), .val (.ref y), .val (.ref y)] [.ref x])) := (c6.trans (st7 _ (Steps.refl _))).trans (by
      refine XS.ifNo X7.here hexec rfl (hb hbytes d22) rfl (i0_eq_f hz) ?_
      refine XS.aloadN X7.here hexec rfl (hb hbytes d25) rfl rfl ?_
      exact Steps.refl _)
    obtain ⟨T9, X9, q9, st9⟩ := X7.hget hexec hown (wk W (.fieldLink "java/lang/String" 15 "java/lang/String" "coder" "B")) (hx.mv X7.warmed.alike hh7).2.2.1 (g := (mkF m 26 #[.val (.ref x), .val (.ref y), .val (.ref y)] [.ref x])) rfl (rest := []) rfl (hb hbytes d26)
    have hh9 := q9.trans hh7
    have c10 : Steps p.tables e below (s₁.setTop (entryFrame m #[.ref x, .ref y] 3)) (T9.setTop (mkF m 30 #[.val (.ref x), .val (.ref y), .val (.ref y)] [.ref y, .int cd])) := (c8.trans (st9 _ (Steps.refl _))).trans (by
      refine XS.aloadN X9.here hexec rfl (hb hbytes d29) rfl rfl ?_
      exact Steps.refl _)
    obtain ⟨T11, X11, q11, st11⟩ := X9.hget hexec hown (wk W (.fieldLink "java/lang/String" 15 "java/lang/String" "coder" "B")) (hy.mv X9.warmed.alike hh9).2.2.1 (g := (mkF m 30 #[.val (.ref x), .val (.ref y), .val (.ref y)] [.ref y, .int cd])) rfl (rest := [.int cd]) rfl (hb hbytes d30)
    have hh11 := q11.trans hh9
    have c12 : Steps p.tables e below (s₁.setTop (entryFrame m #[.ref x, .ref y] 3)) (T11.setTop (mkF m 33 #[.val (.ref x), .val (.ref y), .val (.ref y)] [.int cd', .int cd])) := c10.trans (st11 _ (Steps.refl _))
    by_cases hcd : cd = cd'
    · subst hcd
      have c13 : Steps p.tables e below (s₁.setTop (entryFrame m #[.ref x, .ref y] 3)) (T11.setTop (mkF m 37 #[.val (.ref x), .val (.ref y), .val (.ref y)] [.ref x])) := c12.trans (by
        refine XS.icmpNo X11.here hexec rfl (hb hbytes d33) rfl (ii_ne_f rfl) ?_
        refine XS.aloadN X11.here hexec rfl (hb hbytes d36) rfl rfl ?_
        exact Steps.refl _)
      obtain ⟨T14, X14, q14, st14⟩ := X11.hget hexec hown (wk W (.fieldLink "java/lang/String" 9 "java/lang/String" "value" "[B")) (hx.mv X11.warmed.alike hh11).2.1 (g := (mkF m 37 #[.val (.ref x), .val (.ref y), .val (.ref y)] [.ref x])) rfl (rest := []) rfl (hb hbytes d37)
      have hh14 := q14.trans hh11
      have c15 : Steps p.tables e below (s₁.setTop (entryFrame m #[.ref x, .ref y] 3)) (T14.setTop (mkF m 41 #[.val (.ref x), .val (.ref y), .val (.ref y)] [.ref y, .ref t])) := (c13.trans (st14 _ (Steps.refl _))).trans (by
        refine XS.aloadN X14.here hexec rfl (hb hbytes d40) rfl rfl ?_
        exact Steps.refl _)
      obtain ⟨T16, X16, q16, st16⟩ := X14.hget hexec hown (wk W (.fieldLink "java/lang/String" 9 "java/lang/String" "value" "[B")) (hy.mv X14.warmed.alike hh14).2.1 (g := (mkF m 41 #[.val (.ref x), .val (.ref y), .val (.ref y)] [.ref y, .ref t])) rfl (rest := [.ref t]) rfl (hb hbytes d41)
      have hh16 := q16.trans hh14
      have c17 : Steps p.tables e below (s₁.setTop (entryFrame m #[.ref x, .ref y] 3)) (T16.setTop (mkF m 44 #[.val (.ref x), .val (.ref y), .val (.ref y)] [.ref t', .ref t])) := c15.trans (st16 _ (Steps.refl _))
      obtain ⟨v18, T18, X18, E18, g18⟩ := X16.callS hexec (LEq.law l t V t' V') hown (wks W (staticW "java/lang/String" 541 LEq.yN)) (wk W LEq.tab) (W := 0) (Nat.le_of_ble_eq_true rfl) (Nat.le_of_ble_eq_true rfl) (Nat.le_refl _) (Nat.le_refl _) (g := (mkF m 44 #[.val (.ref x), .val (.ref y), .val (.ref y)] [.ref t', .ref t])) rfl (by rw [hml]; rfl) c17 (argsL := [.ref t, .ref t']) (rest := []) rfl rfl (by show 2 * 0 + 0 ≤ _; decide) (hb hbytes d44) (⟨rfl, hx.2.2.2.1.mv X16.warmed.alike hh16, hx.2.2.2.2.1.ty, hy.2.2.2.1.mv X16.warmed.alike hh16, hy.2.2.2.2.1.ty⟩)
      obtain ⟨v, rfl, q18, hv⟩ := E18
      have iff := Cod.eqv hx.2.2.2.2.1 hy.2.2.2.2.1 hx.2.2.2.2.2 hy.2.2.2.2.2
      rcases hv with ⟨rfl, he⟩ | ⟨rfl, he⟩
      · have c19 : Steps p.tables e below (s₁.setTop (entryFrame m #[.ref x, .ref y] 3)) (T18.setTop (mkF m 55 #[.val (.ref x), .val (.ref y), .val (.ref y)] [.int 1])) := Steps.trans g18 (by
          refine XS.ifNo X18.here hexec rfl (hb hbytes d47) rfl (i0_eq_f (by decide)) ?_
          refine iconstV X18.here hexec rfl 1 (hb hbytes d50) (by decide) ?_
          refine XS.goto X18.here hexec rfl (pc0 := 51) rfl (hb hbytes d51) (by decide) rfl ?_
          exact Steps.refl _)
        exact ⟨T18, some (.int 1), _, _, _, X18, rfl, rfl, rfl, (fun h => by cases h), ⟨1, rfl, q18.trans hh16, Or.inl ⟨rfl, iff.mp he⟩⟩, fun fs hl => c19.trans (X18.ireturnOut hexec hret rfl (Or.inr (Or.inl rfl)) (hb hbytes d55) hl)⟩
      · have c19 : Steps p.tables e below (s₁.setTop (entryFrame m #[.ref x, .ref y] 3)) (T18.setTop (mkF m 55 #[.val (.ref x), .val (.ref y), .val (.ref y)] [.int 0])) := Steps.trans g18 (by
          refine XS.ifYes X18.here hexec rfl (pc0 := 47) rfl (hb hbytes d47) rfl (i0_eq_t rfl) (by decide) rfl ?_
          refine iconstV X18.here hexec rfl 0 (hb hbytes d54) (by decide) ?_
          exact Steps.refl _)
        exact ⟨T18, some (.int 0), _, _, _, X18, rfl, rfl, rfl, (fun h => by cases h), ⟨0, rfl, q18.trans hh16, Or.inr ⟨rfl, fun q => he (iff.mpr q)⟩⟩, fun fs hl => c19.trans (X18.ireturnOut hexec hret rfl (Or.inr (Or.inl rfl)) (hb hbytes d55) hl)⟩
    · have c13 : Steps p.tables e below (s₁.setTop (entryFrame m #[.ref x, .ref y] 3)) (T11.setTop (mkF m 55 #[.val (.ref x), .val (.ref y), .val (.ref y)] [.int 0])) := c12.trans (by
        refine XS.icmpYes X11.here hexec rfl (pc0 := 33) rfl (hb hbytes d33) rfl (ii_ne_t hcd) (by decide) rfl ?_
        refine iconstV X11.here hexec rfl 0 (hb hbytes d54) (by decide) ?_
        exact Steps.refl _)
      exact ⟨T11, some (.int 0), _, _, _, X11, rfl, rfl, rfl, (fun h => by cases h), ⟨0, rfl, hh11, Or.inr ⟨rfl, Cod.dif hx.2.2.2.2.1 hy.2.2.2.2.1 hcd⟩⟩, fun fs hl => c13.trans (X11.ireturnOut hexec hret rfl (Or.inr (Or.inl rfl)) (hb hbytes d55) hl)⟩
theorem pays {l : Launch} {R : Room} {p : Program} {e : Env} {below : List Frame} {s : State} {sargs : Array Value} {len W : Nat} (x t : Addr) (V : Cell) (cd : Int32) (n : Nat) (f : Nat → Int32) (y t' : Addr) (V' : Cell) (cd' : Int32) (k : Nat) (g : Nat → Int32) (z : Int32) (htab : tab.before sargs s = true) (hfr : 2 ≤ R.frames) (hlo : W + 28 ≤ R.locals) :
    Back l R p e below s sargs yN len W (fun A₁ a₁ => A₁.cells + 0 ≤ R.cells ∧ A₁.slots + 0 ≤ R.slots ∧ P x t V cd n f y t' V' cd' k g z a₁ A₁.U) (fun A₁ _ v₁ B₁ => Says01 (SameT n f k g) v₁ A₁.U B₁.U ∧ B₁.locs = A₁.locs ++ [] ∧ B₁.cells = A₁.cells + 0 ∧ B₁.slots = A₁.slots + 0) :=
  (law l x t V cd n f y t' V' cd' k g z).pays htab hfr (by omega)
end SEq
end StrChars
namespace StrChars.Road
open Jvm Sem ClassFile Op Lib Jvm.Stand Jvm.Free Jvm.Free.XT
open Jvm.Lib.Cold (StaticIs)
/-- the words of String.equals(Object) -/
abbrev wordsEq : List Jvm.Cond := [.code SEq.yN SEq.yB 3 (some .boolean), .initialized ST, .classLink ST 10 ST, .fieldLink ST 38 ST "COMPACT_STRINGS" "Z", .fieldLink ST 15 ST "coder" "B", .fieldLink ST 9 ST "value" "[B", .methodLink ST 541 LEq.yN, .static LEq.yN, .code LEq.yN LEq.yB 3 (some .boolean), .initialized "java/lang/StringLatin1"]
theorem tabEq_of {a : Array Value} {s : State} (h : ∀ w ∈ wordsEq, w.before a s = true) : SEq.tab.before a s = true := by
  have hl : LEq.tab.before a s = true := unparts (wk h (.code LEq.yN LEq.yB 3 (some .boolean))) (wks h (.initialized LEq.yN.cls :: LEq.site))
  have q := consq hl h
  exact unparts (wk q (.code SEq.yN SEq.yB 3 (some .boolean))) (wks q (.initialized SEq.yN.cls :: SEq.site))
theorem movedEq {Z s : State} {a0 args : Array Value} (hZ : Z.Warmed39 s.vm) (hw : ∀ d ∈ wordsEq, d.before a0 Z = true) : ∀ d ∈ wordsEq, d.before args s = true := fun d hd => by
  have t : ∀ d ∈ wordsEq, (d.onTables && d.keepsFace) = true := by decide +kernel
  exact RoadKit.mv hZ (hw d hd) (t d hd)
/-- the road's facts of a String, as the laws ask it -/
theorem txt_of {Z U : State} {a0 : Array Value} {kI : Nat} (wi : (Jvm.Cond.instantiable ST kI).before a0 Z = true) (al : Z.vm.Alike U.vm) {x t : Addr} {kb : ClassId} {cs : List Int32} {cd N2 : Int32} {vs : List Value} (E : RoadKit.Exa Z U.heap x ST) (V : RoadKit.Fld Z U.heap x ST "value" "[B" (.ref t)) (C : RoadKit.Fld Z U.heap x ST "coder" "B" (.int cd)) (K : RoadKit.Arv Z U.heap t kb .byte N2 vs (.int 0)) (hc : CodA cs cd N2 vs) (hb : ∀ c ∈ cs, ¬ c < 0 ∧ ¬ (65535 : Int32) < c) (l2 : cs.length ≤ 4000) :
    ∃ A, Txt x t A cd cs.length (fun j => cs.getD j 0) U := by
  obtain ⟨A, K1, K2, K3, K4, K5, K6⟩ := K
  have hcod := hc.cod (by omega) K3 K5
  obtain ⟨D, fV, fC, hB, F1, F2, g1, g2, -, -⟩ := strObj wi al E V C
  exact ⟨A, ⟨_, hB.2.2.1, D, hB.1, rfl, by cases q : D.vm <;> first | rfl | exact absurd q (hB.2.1.2 _)⟩, Has.of hB F1 g1, Has.of hB F2 g2, ⟨K1.1, State.isArrayOf_alike al K1.2.1, K1.2.2, by rcases hcod with ⟨-, q, -⟩ | ⟨-, q, -⟩ <;> omega⟩, hcod, fun j hj => by
    have e : cs.getD j 0 = cs[j] := by simp [List.getD_eq_getElem?_getD, hj]
    show ¬ cs.getD j 0 < 0 ∧ ¬ 65535 < cs.getD j 0
    rw [e]; exact hb _ (List.getElem_mem _)⟩
theorem same_list (cs ds : List Int32) : SameT cs.length (fun j => cs.getD j 0) ds.length (fun j => ds.getD j 0) ↔ cs = ds := by
  constructor
  · rintro ⟨e, q⟩
    refine List.ext_getElem e fun j h1 h2 => ?_
    have := q j h1
    simpa [List.getD_eq_getElem?_getD, h1, h2] using this
  · rintro rfl
    exact ⟨rfl, fun _ _ => rfl⟩
/-- **equals(Object) OF TWO SUCH STRINGS**: 1 just where the chars are the same -/
theorem eqW {p : Program} {l : Launch} {e : Env} {R : Room} {s : State} {args : Array Value} {below : List Frame} {len W : Nat} {Z : State} {a0 : Array Value} {h : Heap} (hZ : Z.Warmed39 s.vm) (hw : ∀ d ∈ wordsEq, d.before a0 Z = true) {kI : Nat} (wi : (Jvm.Cond.instantiable ST kI).before a0 Z = true)
    {x t : Addr} {kb : ClassId} {cs : List Int32} {cd N2 : Int32} {vs : List Value} (E : RoadKit.Exa Z h x ST) (V : RoadKit.Fld Z h x ST "value" "[B" (.ref t)) (C : RoadKit.Fld Z h x ST "coder" "B" (.int cd)) (K : RoadKit.Arv Z h t kb .byte N2 vs (.int 0)) (hc : CodA cs cd N2 vs) (hb : ∀ c ∈ cs, ¬ c < 0 ∧ ¬ (65535 : Int32) < c) (l2 : cs.length ≤ 4000)
    {y t' : Addr} {kb' : ClassId} {ds : List Int32} {cd' N2' : Int32} {vs' : List Value} (E' : RoadKit.Exa Z h y ST) (V' : RoadKit.Fld Z h y ST "value" "[B" (.ref t')) (C' : RoadKit.Fld Z h y ST "coder" "B" (.int cd')) (K' : RoadKit.Arv Z h t' kb' .byte N2' vs' (.int 0)) (hc' : CodA ds cd' N2' vs') (hb' : ∀ c ∈ ds, ¬ c < 0 ∧ ¬ (65535 : Int32) < c) (l2' : ds.length ≤ 4000)
    {z : Int32} (S : RoadKit.Sta Z h ST "COMPACT_STRINGS" "Z" (.int z)) (hz : ¬ z = 0) (hfr : 2 ≤ R.frames) (hlo : W + 28 ≤ R.locals) :
    Back l R p e below s args (⟨"java/lang/String", "equals", "(Ljava/lang/Object;)Z"⟩ : MethodName) len W (fun P a => a = #[.ref x, .ref y] ∧ P.U.heap = h ∧ P.cells + 0 ≤ R.cells ∧ P.slots + 0 ≤ R.slots)
      (fun P _ v B => ∃ L, (((v = some (.int 1) ∧ cs = ds) ∨ (v = some (.int 0) ∧ ¬ cs = ds)) ∧ L = [] ∧ B.U.heap = h) ∧ B.locs = P.locs ++ L ∧ B.cells = P.cells + 0 ∧ B.slots = P.slots + 0) := by
  intro m meth c P g ig mk a X hg hsize hdg hW hn hp'
  obtain ⟨rfl, rfl, r1, r2⟩ := hp'
  have al : Z.vm.Alike P.U.vm := hZ.alike.trans X.warmed.alike
  obtain ⟨A, hx⟩ := txt_of wi al E V C K hc hb l2
  obtain ⟨A', hy⟩ := txt_of wi al E' V' C' K' hc' hb' l2'
  obtain ⟨v, B, X', ⟨⟨w, hv, hh, hq⟩, hl, hk, hs⟩, st⟩ := SEq.pays x t A cd cs.length (fun j => cs.getD j 0) y t' A' cd' ds.length (fun j => ds.getD j 0) z (tabEq_of (movedEq hZ hw)) hfr hlo m meth c P g ig mk _ X hg hsize hdg hW hn ⟨r1, r2, rfl, hx, hy, sta_is al S, hz⟩
  refine ⟨v, B, X', ⟨[], ⟨?_, rfl, hh⟩, hl, hk, hs⟩, st⟩
  rcases hq with ⟨rfl, q⟩ | ⟨rfl, q⟩
  · exact Or.inl ⟨hv, (same_list cs ds).mp q⟩
  · exact Or.inr ⟨hv, fun e => q ((same_list cs ds).mpr e)⟩
end StrChars.Road
namespace StrChars
open Jvm Sem ClassFile Op Lib Jvm.Stand Jvm.Free.XT Jvm.Free.ALB Jvm.Free.JM Jvm.Free
open Jvm.Lib.Cold (StaticIs)
namespace ChN
def yN : MethodName := ⟨"java/lang/String", "charAt", "(I)C"⟩
abbrev yB : ByteArray := jdk_42_method_56_code
theorem d0 : decode yB 0 = .ok (.aload_n 0, 1) := by decide +kernel
theorem d1 : decode yB 1 = .ok (.invokevirtual 492, 3) := by decide +kernel
theorem d4 : decode yB 4 = .ok (.ifCond (.eq) 12, 3) := by decide +kernel
theorem d7 : decode yB 7 = .ok (.aload_n 0, 1) := by decide +kernel
theorem d8 : decode yB 8 = .ok (.getfield 9, 3) := by decide +kernel
theorem d11 : decode yB 11 = .ok (.iload_n 1, 1) := by decide +kernel
theorem d12 : decode yB 12 = .ok (.invokestatic 495, 3) := by decide +kernel
theorem d15 : decode yB 15 = .ok (.ireturn, 1) := by decide +kernel
def site : List Cond := [.fieldLink "java/lang/String" 9 "java/lang/String" "value" "[B", IsL.tab, LChA.tab] ++ virtW "java/lang/String" 492 "java/lang/String" IsL.yN IsL.yN ++ staticW "java/lang/String" 495 LChA.yN
def tab : Cond := tabOf yN yB 2 (some .char) site
def P (x t : Addr) (V : Cell) (n : Nat) (f : Nat → Int32) (z : Int32) (fm : Value) (i : Nat) (args : Array Value) (s : State) : Prop := args = #[.ref x, .int (Int32.ofNat i)] ∧ Txt x t V 0 n f s ∧ i < n ∧ StaticIs s "java/lang/String" "COMPACT_STRINGS" "Z" (.int z) ∧ ¬ z = 0 ∧ StaticIs s "jdk/internal/util/Preconditions" "SIOOBE_FORMATTER" "Ljava/util/function/BiFunction;" fm ∧ fm.isRef = true
def E (f : Nat → Int32) (i : Nat) (r : Option Value) (s u : State) : Prop := XT.PureE (some (.int (f i))) r s u
/-- charAt(i) of a Latin-1 String of n chars, i < n: f i -/
theorem law (l : Launch) (x t : Addr) (V : Cell) (n : Nat) (f : Nat → Int32) (z : Int32) (fm : Value) (i : Nat) : Law l yN 2 1 3 40 yB 2 (some .char) site (P x t V n f z fm i) (E f i) [] 0 0 := by
  refine Law.of_walk (plainFor_of_name (by decide +kernel)) (by decide +kernel) (by decide +kernel) (by decide) (fun _ _ h => by rw [h.1]; rfl) (fun _ U U' hal hh h => ⟨h.1, h.2.1.mv hal hh, h.2.2.1, h.2.2.2.1.there hal hh, h.2.2.2.2.1, h.2.2.2.2.2.1.there hal hh, h.2.2.2.2.2.2⟩) (fun r U U' V V' h1 hal h2 h => XT.PureE.mv r U U' V V' h1 hal h2 h) ?_
  intro p e s m args below meth c s₁ X0 hexec hbytes hml hret hlk hnm hown hh0 W hP
  obtain ⟨rfl, hx, hi, s1, hz, s3, rf⟩ := hP
  have v31 := hx.2.2.2.1.2.2.2
  have hr := hx.2.2.2.2.2 i hi
  have hx0 := hx.mv X0.warmed.alike hh0
  have c1 : Steps p.tables e below (s₁.setTop (entryFrame m #[.ref x, .int (Int32.ofNat i)] 2)) (s₁.setTop (mkF m 1 #[.val (.ref x), .val (.int (Int32.ofNat i))] [.ref x])) := Steps.trans (entry rfl) (by
    show Steps p.tables e below (s₁.setTop (mkF m 0 #[.val (.ref x), .val (.int (Int32.ofNat i))] [])) _
    refine XS.aloadN X0.here hexec rfl (hb hbytes d0) rfl rfl ?_
    exact Steps.refl _)
  obtain ⟨v2, T2, X2, E2, g2⟩ := X0.callV hexec (IsL.law l x 0 z) hown (wks W (virtW "java/lang/String" 492 "java/lang/String" IsL.yN IsL.yN)) rfl (by decide) (wk W IsL.tab) (W := 0) (Nat.le_of_ble_eq_true rfl) (Nat.le_of_ble_eq_true rfl) (Nat.le_refl _) (Nat.le_refl _) (hx0.1.fc X0.warmed.alike) hx0.1.is (g := (mkF m 1 #[.val (.ref x), .val (.int (Int32.ofNat i))] [.ref x])) rfl (by rw [hml]; rfl) c1 (argsL := []) (rest := []) rfl rfl (by show 2 * 0 + 0 ≤ _; decide) (hb hbytes d1) (⟨rfl, hx0.2.2.1, hx.2.2.2.2.1.cd, s1.there X0.warmed.alike hh0, hz⟩)
  obtain ⟨rfl, q2⟩ := E2
  have hh2 := q2.trans hh0
  have hx2 := hx.mv X2.warmed.alike hh2
  obtain ⟨-, k1, k2⟩ | ⟨k0, -⟩ := hx.2.2.2.2.1
  · have c3 : Steps p.tables e below (s₁.setTop (entryFrame m #[.ref x, .int (Int32.ofNat i)] 2)) (T2.setTop (mkF m 8 #[.val (.ref x), .val (.int (Int32.ofNat i))] [.ref x])) := Steps.trans g2 (by
      refine XS.ifNo X2.here hexec rfl (hb hbytes d4) rfl (i0_eq_f (by decide)) ?_
      refine XS.aloadN X2.here hexec rfl (hb hbytes d7) rfl rfl ?_
      exact Steps.refl _)
    obtain ⟨T4, X4, q4, st4⟩ := X2.hget hexec hown (wk W (.fieldLink "java/lang/String" 9 "java/lang/String" "value" "[B")) hx2.2.1 (g := (mkF m 8 #[.val (.ref x), .val (.int (Int32.ofNat i))] [.ref x])) rfl (rest := []) rfl (hb hbytes d8)
    have hh4 := q4.trans hh2
    have c5 : Steps p.tables e below (s₁.setTop (entryFrame m #[.ref x, .int (Int32.ofNat i)] 2)) (T4.setTop (mkF m 12 #[.val (.ref x), .val (.int (Int32.ofNat i))] [.int (Int32.ofNat i), .ref t])) := (c3.trans (st4 _ (Steps.refl _))).trans (by
      refine XS.iloadN X4.here hexec rfl (hb hbytes d11) rfl ?_
      exact Steps.refl _)
    obtain ⟨v6, T6, X6, E6, g6⟩ := X4.callS hexec (LChA.law l t V i (lo8 (f i)) fm) hown (wks W (staticW "java/lang/String" 495 LChA.yN)) (wk W LChA.tab) (W := 0) (Nat.le_of_ble_eq_true rfl) (Nat.le_of_ble_eq_true rfl) (Nat.le_refl _) (Nat.le_refl _) (g := (mkF m 12 #[.val (.ref x), .val (.int (Int32.ofNat i))] [.int (Int32.ofNat i), .ref t])) rfl (by rw [hml]; rfl) c5 (argsL := [.ref t, .int (Int32.ofNat i)]) (rest := []) rfl rfl (by show 2 * 0 + 0 ≤ _; decide) (hb hbytes d12) (⟨rfl, hx.2.2.2.1.mv X4.warmed.alike hh4, (k2 i hi).1, s3.there X4.warmed.alike hh4, rf⟩)
    obtain ⟨rfl, q6⟩ := E6
    rw [chr8_lo8 hr.1 (k2 i hi).2] at g6
    exact ⟨T6, some (.int (f i)), _, _, _, X6, rfl, rfl, rfl, (fun h => by cases h), ⟨rfl, q6.trans hh4⟩, fun fs hl => Steps.trans g6 (X6.ireturnOut hexec hret (narrow_ch hr.1 hr.2) (Or.inr (Or.inr (Or.inr (Or.inl rfl)))) (hb hbytes d15) hl)⟩
  · exact absurd k0 (by decide)
theorem pays {l : Launch} {R : Room} {p : Program} {e : Env} {below : List Frame} {s : State} {sargs : Array Value} {len W : Nat} (x t : Addr) (V : Cell) (n : Nat) (f : Nat → Int32) (z : Int32) (fm : Value) (i : Nat) (htab : tab.before sargs s = true) (hfr : 4 ≤ R.frames) (hlo : W + 53 ≤ R.locals) :
    Back l R p e below s sargs yN len W (fun A₁ a₁ => A₁.cells + 0 ≤ R.cells ∧ A₁.slots + 0 ≤ R.slots ∧ P x t V n f z fm i a₁ A₁.U) (fun A₁ _ v₁ B₁ => E f i v₁ A₁.U B₁.U ∧ B₁.locs = A₁.locs ++ [] ∧ B₁.cells = A₁.cells + 0 ∧ B₁.slots = A₁.slots + 0) :=
  (law l x t V n f z fm i).pays htab hfr (by omega)
end ChN
end StrChars
namespace StrChars.Road
open Jvm Sem ClassFile Op Lib Jvm.Stand Jvm.Free Jvm.Free.XT
open Jvm.Lib.Cold (StaticIs)
/-- the words of String.charAt(int), the Latin-1 road alone -/
abbrev wordsChN : List Jvm.Cond := [.code ChN.yN ChN.yB 2 (some .char), .initialized ST, .fieldLink ST 9 ST "value" "[B", .fieldLink ST 38 ST "COMPACT_STRINGS" "Z", .fieldLink ST 15 ST "coder" "B", .code IsL.yN IsL.yB 1 (some .boolean), .methodLink ST 492 IsL.yN, .declares IsL.yN, .selects ST IsL.yN IsL.yN, .instanceMethod IsL.yN,
  .methodLink ST 495 LChA.yN, .static LChA.yN, .code LChA.yN LChA.yB 2 (some .char), .initialized "java/lang/StringLatin1", .methodLink "java/lang/StringLatin1" 9 JO.Str_checkIndex.yN, .static JO.Str_checkIndex.yN, .code JO.Str_checkIndex.yN JO.Str_checkIndex.yB 2 none,
  .fieldLink ST 1053 "jdk/internal/util/Preconditions" "SIOOBE_FORMATTER" "Ljava/util/function/BiFunction;", .methodLink ST 1059 JC.PreCheck.yN, .static JC.PreCheck.yN, .code JC.PreCheck.yN JC.PreCheck.yB 3 (some .int), .initialized "jdk/internal/util/Preconditions"]
theorem tabChN_of {a : Array Value} {s : State} (h : ∀ w ∈ wordsChN, w.before a s = true) : ChN.tab.before a s = true := by
  have hp : JC.PreCheck.tab.before a s = true := unparts (wk h (.code JC.PreCheck.yN JC.PreCheck.yB 3 (some .int))) (wks h (.initialized JC.PreCheck.yN.cls :: JC.PreCheck.site))
  have qk := consq hp h
  have hk : JO.Str_checkIndex.tab.before a s = true := unparts (wk qk (.code JO.Str_checkIndex.yN JO.Str_checkIndex.yB 2 none)) (wks qk (.initialized JO.Str_checkIndex.yN.cls :: JO.Str_checkIndex.site))
  have ql := consq hk h
  have hl : LChA.tab.before a s = true := unparts (wk ql (.code LChA.yN LChA.yB 2 (some .char))) (wks ql (.initialized LChA.yN.cls :: LChA.site))
  have hi : IsL.tab.before a s = true := unparts (wk h (.code IsL.yN IsL.yB 1 (some .boolean))) (wks h (.initialized IsL.yN.cls :: IsL.site))
  have q := consq hi (consq hl h)
  exact unparts (wk q (.code ChN.yN ChN.yB 2 (some .char))) (wks q (.initialized ChN.yN.cls :: ChN.site))
theorem movedChN {Z s : State} {a0 args : Array Value} (hZ : Z.Warmed39 s.vm) (hw : ∀ d ∈ wordsChN, d.before a0 Z = true) : ∀ d ∈ wordsChN, d.before args s = true := fun d hd => by
  have t : ∀ d ∈ wordsChN, (d.onTables && d.keepsFace) = true := by decide +kernel
  exact RoadKit.mv hZ (hw d hd) (t d hd)
/-- **charAt(i) OF A LATIN-1 STRING**, i < n: the char -/
theorem chN {p : Program} {l : Launch} {e : Env} {R : Room} {s : State} {args : Array Value} {below : List Frame} {len W : Nat} {Z : State} {a0 : Array Value} {h : Heap} (hZ : Z.Warmed39 s.vm) (hw : ∀ d ∈ wordsChN, d.before a0 Z = true) {kI : Nat} (wi : (Jvm.Cond.instantiable ST kI).before a0 Z = true)
    {x t : Addr} {kb : ClassId} {cs : List Int32} {N2 z : Int32} {vs : List Value} {fm : Value} {i : Nat} {j : Int32} (E : RoadKit.Exa Z h x ST) (V : RoadKit.Fld Z h x ST "value" "[B" (.ref t)) (C : RoadKit.Fld Z h x ST "coder" "B" (.int 0)) (K : RoadKit.Arv Z h t kb .byte N2 vs (.int 0)) (hc : CodA cs 0 N2 vs) (hb : ∀ c ∈ cs, ¬ c < 0 ∧ ¬ (65535 : Int32) < c)
    (S : RoadKit.Sta Z h ST "COMPACT_STRINGS" "Z" (.int z)) (hz : ¬ z = 0) (F : RoadKit.Sta Z h "jdk/internal/util/Preconditions" "SIOOBE_FORMATTER" "Ljava/util/function/BiFunction;" fm) (rf : fm.isRef = true) (l2 : cs.length ≤ 4000) (hi : i < cs.length) (hj : j = Int32.ofNat i) (hfr : 4 ≤ R.frames) (hlo : W + 53 ≤ R.locals) :
    Back l R p e below s args (⟨"java/lang/String", "charAt", "(I)C"⟩ : MethodName) len W (fun P a => a = #[.ref x, .int j] ∧ P.U.heap = h ∧ P.cells + 0 ≤ R.cells ∧ P.slots + 0 ≤ R.slots)
      (fun P _ v B => ∃ L, (v = some (.int (cs.getD i 0)) ∧ L = [] ∧ B.U.heap = h) ∧ B.locs = P.locs ++ L ∧ B.cells = P.cells + 0 ∧ B.slots = P.slots + 0) := by
  subst hj
  intro m meth c P g ig mk a X hg hsize hdg hW hn hp'
  obtain ⟨rfl, rfl, r1, r2⟩ := hp'
  have al : Z.vm.Alike P.U.vm := hZ.alike.trans X.warmed.alike
  obtain ⟨A, hx⟩ := txt_of wi al E V C K hc hb l2
  obtain ⟨v, B, X', ⟨⟨hv, hh⟩, hl, hk, hs⟩, st⟩ := ChN.pays x t A cs.length (fun j => cs.getD j 0) z fm i (tabChN_of (movedChN hZ hw)) hfr hlo m meth c P g ig mk _ X hg hsize hdg hW hn ⟨r1, r2, rfl, hx, hi, sta_is al S, hz, sta_is al F, rf⟩
  exact ⟨v, B, X', ⟨[], ⟨hv, rfl, hh⟩, hl, hk, hs⟩, st⟩
/-- what backV says of its String, as the contracts of this text ask it: cs's low bytes, coder 0 -/
theorem codOf {cs : List Int32} {n : Nat} (hn : cs.length = n) (hb : ∀ c ∈ cs, ¬ 255 < c) : CodA cs 0 (Int32.ofNat n) ((cs.map lo8).map Value.int) := Or.inl ⟨rfl, by rw [hn], by simp [List.map_map, Function.comp_def], hb⟩
end StrChars.Road
end Jvm.Pilot.@@N@@
namespace Jvm.Pilot.@@N@@
open Jvm Sem ClassFile Op Lib Jvm.Stand Jvm.Free Jvm.LawKit Jvm.RoadKit
section New
variable {p : Program} {l : Launch} {e : Env} {R : Room} {s : State} {m : MethodId} {args : Array Value} {below : List Frame} {meth : Method} {c : Code} {T : State} {locs : List Loc} {cells slots : Nat}
theorem retI (X : Stand p l e R s m args below meth c T locs cells slots) (hx : p.tables.exec = Jvm.exec) {pc : Nat} {Ls : Array Slot} {z : Int32} {rest : List Value} (hret : meth.sig.returnType = some .int) (hd : decode c.code pc = .ok (.ireturn, 1)) {fs : List Frame}
    (hl : ∀ (f : JFrame) (acts : List Action), f.method = m → f.locked = none → f.entered = [] → (doReturn e (T.setTop f) acts (some (.int z))).1 = T.setFrames fs) : Steps p.tables e below (T.setTop (mkF m pc Ls (.int z :: rest))) (T.setFrames fs) :=
  retOut X hx hret rfl (Or.inl ⟨rfl, Or.inl rfl, z, rfl⟩) hd hl
end New
end Jvm.Pilot.@@N@@
namespace Jvm.Pilot.@@N@@
open Jvm Jvm.ClassFile Sem Op Lib Jvm.Free Jvm.Stand Jvm.LawKit Jvm.RoadKit Bundle Jvm.Pilot.@@N@@.Jvm.D
theorem S.iload {tb : Tables} [Ours tb] {e : Env} {below : List Frame} {T t : State} {m : MethodId} {c : Code} {pc : Nat} {L : Array Slot} {S : List Value} (h : At T m c below) (hx : tb.exec = Jvm.exec) {k : Nat} {v : Int32} (hd : decode c.code pc = .ok (.iload k, 2)) (hl : L[k]? = some (.val (.int v))) (hr : Steps tb e below (T.setTop (mkF m (pc + 2) L (.int v :: S))) t) : Steps tb e below (T.setTop (mkF m pc L (S))) t := XS.iload h hx rfl hd hl hr
theorem S.iloadN {tb : Tables} [Ours tb] {e : Env} {below : List Frame} {T t : State} {m : MethodId} {c : Code} {pc : Nat} {L : Array Slot} {S : List Value} (h : At T m c below) (hx : tb.exec = Jvm.exec) {k : Fin 4} {v : Int32} (hd : decode c.code pc = .ok (.iload_n k, 1)) (hl : L[k.val]? = some (.val (.int v))) (hr : Steps tb e below (T.setTop (mkF m (pc + 1) L (.int v :: S))) t) : Steps tb e below (T.setTop (mkF m pc L (S))) t := XS.iloadN h hx rfl hd hl hr
theorem S.lload {tb : Tables} [Ours tb] {e : Env} {below : List Frame} {T t : State} {m : MethodId} {c : Code} {pc : Nat} {L : Array Slot} {S : List Value} (h : At T m c below) (hx : tb.exec = Jvm.exec) {k : Nat} {v : Int64} (hd : decode c.code pc = .ok (.lload k, 2)) (hl : L[k]? = some (.val (.long v))) (hr : Steps tb e below (T.setTop (mkF m (pc + 2) L (.long v :: S))) t) : Steps tb e below (T.setTop (mkF m pc L (S))) t := XS.lload h hx rfl hd hl hr
theorem S.lloadN {tb : Tables} [Ours tb] {e : Env} {below : List Frame} {T t : State} {m : MethodId} {c : Code} {pc : Nat} {L : Array Slot} {S : List Value} (h : At T m c below) (hx : tb.exec = Jvm.exec) {k : Fin 4} {v : Int64} (hd : decode c.code pc = .ok (.lload_n k, 1)) (hl : L[k.val]? = some (.val (.long v))) (hr : Steps tb e below (T.setTop (mkF m (pc + 1) L (.long v :: S))) t) : Steps tb e below (T.setTop (mkF m pc L (S))) t := XS.lloadN h hx rfl hd hl hr
theorem S.aload {tb : Tables} [Ours tb] {e : Env} {below : List Frame} {T t : State} {m : MethodId} {c : Code} {pc : Nat} {L : Array Slot} {S : List Value} (h : At T m c below) (hx : tb.exec = Jvm.exec) {k : Nat} {v : Value} (hd : decode c.code pc = .ok (.aload k, 2)) (hl : L[k]? = some (.val v)) (hv : v.isRef = true) (hr : Steps tb e below (T.setTop (mkF m (pc + 2) L (v :: S))) t) : Steps tb e below (T.setTop (mkF m pc L (S))) t := XS.aload h hx rfl hd hl hv hr
theorem S.aloadN {tb : Tables} [Ours tb] {e : Env} {below : List Frame} {T t : State} {m : MethodId} {c : Code} {pc : Nat} {L : Array Slot} {S : List Value} (h : At T m c below) (hx : tb.exec = Jvm.exec) {k : Fin 4} {v : Value} (hd : decode c.code pc = .ok (.aload_n k, 1)) (hl : L[k.val]? = some (.val v)) (hv : v.isRef = true) (hr : Steps tb e below (T.setTop (mkF m (pc + 1) L (v :: S))) t) : Steps tb e below (T.setTop (mkF m pc L (S))) t := XS.aloadN h hx rfl hd hl hv hr
theorem S.istore {tb : Tables} [Ours tb] {e : Env} {below : List Frame} {T t : State} {m : MethodId} {c : Code} {pc : Nat} {L : Array Slot} {S : List Value} (h : At T m c below) (hx : tb.exec = Jvm.exec) {k : Nat} {x : Int32} (hd : decode c.code pc = .ok (.istore k, 2)) (L' : Array Slot) (hl : storeLocals L k (.int x) = some L') (hr : Steps tb e below (T.setTop (mkF m (pc + 2) L' (S))) t) : Steps tb e below (T.setTop (mkF m pc L (.int x :: S))) t := XS.istore h hx rfl hd rfl hl hr
theorem S.istoreN {tb : Tables} [Ours tb] {e : Env} {below : List Frame} {T t : State} {m : MethodId} {c : Code} {pc : Nat} {L : Array Slot} {S : List Value} (h : At T m c below) (hx : tb.exec = Jvm.exec) {k : Fin 4} {x : Int32} (hd : decode c.code pc = .ok (.istore_n k, 1)) (L' : Array Slot) (hl : storeLocals L k.val (.int x) = some L') (hr : Steps tb e below (T.setTop (mkF m (pc + 1) L' (S))) t) : Steps tb e below (T.setTop (mkF m pc L (.int x :: S))) t := XS.istoreN h hx rfl hd rfl hl hr
theorem S.lstore {tb : Tables} [Ours tb] {e : Env} {below : List Frame} {T t : State} {m : MethodId} {c : Code} {pc : Nat} {L : Array Slot} {S : List Value} (h : At T m c below) (hx : tb.exec = Jvm.exec) {k : Nat} {x : Int64} (hd : decode c.code pc = .ok (.lstore k, 2)) (L' : Array Slot) (hl : storeLocals L k (.long x) = some L') (hr : Steps tb e below (T.setTop (mkF m (pc + 2) L' (S))) t) : Steps tb e below (T.setTop (mkF m pc L (.long x :: S))) t := XS.lstore h hx rfl hd rfl hl hr
theorem S.lstoreN {tb : Tables} [Ours tb] {e : Env} {below : List Frame} {T t : State} {m : MethodId} {c : Code} {pc : Nat} {L : Array Slot} {S : List Value} (h : At T m c below) (hx : tb.exec = Jvm.exec) {k : Fin 4} {x : Int64} (hd : decode c.code pc = .ok (.lstore_n k, 1)) (L' : Array Slot) (hl : storeLocals L k.val (.long x) = some L') (hr : Steps tb e below (T.setTop (mkF m (pc + 1) L' (S))) t) : Steps tb e below (T.setTop (mkF m pc L (.long x :: S))) t := XS.lstoreN h hx rfl hd rfl hl hr
theorem S.astore {tb : Tables} [Ours tb] {e : Env} {below : List Frame} {T t : State} {m : MethodId} {c : Code} {pc : Nat} {L : Array Slot} {S : List Value} (h : At T m c below) (hx : tb.exec = Jvm.exec) {k : Nat} {x : Value} (hd : decode c.code pc = .ok (.astore k, 2)) (hv : x.isRef = true) (L' : Array Slot) (hl : storeLocals L k x = some L') (hr : Steps tb e below (T.setTop (mkF m (pc + 2) L' (S))) t) : Steps tb e below (T.setTop (mkF m pc L (x :: S))) t := XS.astore h hx rfl hd rfl hv hl hr
theorem S.astoreN {tb : Tables} [Ours tb] {e : Env} {below : List Frame} {T t : State} {m : MethodId} {c : Code} {pc : Nat} {L : Array Slot} {S : List Value} (h : At T m c below) (hx : tb.exec = Jvm.exec) {k : Fin 4} {x : Value} (hd : decode c.code pc = .ok (.astore_n k, 1)) (hv : x.isRef = true) (L' : Array Slot) (hl : storeLocals L k.val x = some L') (hr : Steps tb e below (T.setTop (mkF m (pc + 1) L' (S))) t) : Steps tb e below (T.setTop (mkF m pc L (x :: S))) t := XS.astoreN h hx rfl hd rfl hv hl hr
theorem S.iconst {tb : Tables} [Ours tb] {e : Env} {below : List Frame} {T t : State} {m : MethodId} {c : Code} {pc : Nat} {L : Array Slot} {S : List Value} (h : At T m c below) (hx : tb.exec = Jvm.exec) {i : Int} (v : Int32) (hd : decode c.code pc = .ok (.iconst i, 1)) (hv : Int32.ofInt i = v) (hr : Steps tb e below (T.setTop (mkF m (pc + 1) L (.int v :: S))) t) : Steps tb e below (T.setTop (mkF m pc L (S))) t := XS.iconst h hx rfl hd (hv ▸ hr)
theorem S.bipush {tb : Tables} [Ours tb] {e : Env} {below : List Frame} {T t : State} {m : MethodId} {c : Code} {pc : Nat} {L : Array Slot} {S : List Value} (h : At T m c below) (hx : tb.exec = Jvm.exec) {i : Int} (v : Int32) (hd : decode c.code pc = .ok (.bipush i, 2)) (hv : (Int8.ofInt i).toInt32 = v) (hr : Steps tb e below (T.setTop (mkF m (pc + 2) L (.int v :: S))) t) : Steps tb e below (T.setTop (mkF m pc L (S))) t := XS.bipush h hx rfl hd (hv ▸ hr)
theorem S.sipush {tb : Tables} [Ours tb] {e : Env} {below : List Frame} {T t : State} {m : MethodId} {c : Code} {pc : Nat} {L : Array Slot} {S : List Value} (h : At T m c below) (hx : tb.exec = Jvm.exec) {i : Int} (v : Int32) (hd : decode c.code pc = .ok (.sipush i, 3)) (hv : (Int16.ofInt i).toInt32 = v) (hr : Steps tb e below (T.setTop (mkF m (pc + 3) L (.int v :: S))) t) : Steps tb e below (T.setTop (mkF m pc L (S))) t := XS.sipush h hx rfl hd (hv ▸ hr)
theorem S.lconst {tb : Tables} [Ours tb] {e : Env} {below : List Frame} {T t : State} {m : MethodId} {c : Code} {pc : Nat} {L : Array Slot} {S : List Value} (h : At T m c below) (hx : tb.exec = Jvm.exec) {k : Fin 2} (v : Int64) (hd : decode c.code pc = .ok (.lconst k, 1)) (hv : Int64.ofNat k = v) (hr : Steps tb e below (T.setTop (mkF m (pc + 1) L (.long v :: S))) t) : Steps tb e below (T.setTop (mkF m pc L (S))) t := XS.lconst h hx rfl hd (hv ▸ hr)
theorem S.aconstNull {tb : Tables} [Ours tb] {e : Env} {below : List Frame} {T t : State} {m : MethodId} {c : Code} {pc : Nat} {L : Array Slot} {S : List Value} (h : At T m c below) (hx : tb.exec = Jvm.exec)  (hd : decode c.code pc = .ok (.aconst_null, 1)) (hr : Steps tb e below (T.setTop (mkF m (pc + 1) L (.null :: S))) t) : Steps tb e below (T.setTop (mkF m pc L (S))) t := XS.aconstNull h hx rfl hd hr
theorem S.iadd {tb : Tables} [Ours tb] {e : Env} {below : List Frame} {T t : State} {m : MethodId} {c : Code} {pc : Nat} {L : Array Slot} {S : List Value} (h : At T m c below) (hx : tb.exec = Jvm.exec) {x y : Int32} (hd : decode c.code pc = .ok (.iadd, 1)) (hr : Steps tb e below (T.setTop (mkF m (pc + 1) L (.int (x + y) :: S))) t) : Steps tb e below (T.setTop (mkF m pc L (.int y :: .int x :: S))) t := XS.iadd h hx rfl hd rfl hr
theorem S.isub {tb : Tables} [Ours tb] {e : Env} {below : List Frame} {T t : State} {m : MethodId} {c : Code} {pc : Nat} {L : Array Slot} {S : List Value} (h : At T m c below) (hx : tb.exec = Jvm.exec) {x y : Int32} (hd : decode c.code pc = .ok (.isub, 1)) (hr : Steps tb e below (T.setTop (mkF m (pc + 1) L (.int (x - y) :: S))) t) : Steps tb e below (T.setTop (mkF m pc L (.int y :: .int x :: S))) t := XS.isub h hx rfl hd rfl hr
theorem S.imul {tb : Tables} [Ours tb] {e : Env} {below : List Frame} {T t : State} {m : MethodId} {c : Code} {pc : Nat} {L : Array Slot} {S : List Value} (h : At T m c below) (hx : tb.exec = Jvm.exec) {x y : Int32} (hd : decode c.code pc = .ok (.imul, 1)) (hr : Steps tb e below (T.setTop (mkF m (pc + 1) L (.int (x * y) :: S))) t) : Steps tb e below (T.setTop (mkF m pc L (.int y :: .int x :: S))) t := XS.imul h hx rfl hd rfl hr
theorem S.iand {tb : Tables} [Ours tb] {e : Env} {below : List Frame} {T t : State} {m : MethodId} {c : Code} {pc : Nat} {L : Array Slot} {S : List Value} (h : At T m c below) (hx : tb.exec = Jvm.exec) {x y : Int32} (hd : decode c.code pc = .ok (.iand, 1)) (hr : Steps tb e below (T.setTop (mkF m (pc + 1) L (.int (x &&& y) :: S))) t) : Steps tb e below (T.setTop (mkF m pc L (.int y :: .int x :: S))) t := XS.iand h hx rfl hd rfl hr
theorem S.ior {tb : Tables} [Ours tb] {e : Env} {below : List Frame} {T t : State} {m : MethodId} {c : Code} {pc : Nat} {L : Array Slot} {S : List Value} (h : At T m c below) (hx : tb.exec = Jvm.exec) {x y : Int32} (hd : decode c.code pc = .ok (.ior, 1)) (hr : Steps tb e below (T.setTop (mkF m (pc + 1) L (.int (x ||| y) :: S))) t) : Steps tb e below (T.setTop (mkF m pc L (.int y :: .int x :: S))) t := XS.ior h hx rfl hd rfl hr
theorem S.ixor {tb : Tables} [Ours tb] {e : Env} {below : List Frame} {T t : State} {m : MethodId} {c : Code} {pc : Nat} {L : Array Slot} {S : List Value} (h : At T m c below) (hx : tb.exec = Jvm.exec) {x y : Int32} (hd : decode c.code pc = .ok (.ixor, 1)) (hr : Steps tb e below (T.setTop (mkF m (pc + 1) L (.int (x ^^^ y) :: S))) t) : Steps tb e below (T.setTop (mkF m pc L (.int y :: .int x :: S))) t := XS.ixor h hx rfl hd rfl hr
theorem S.ladd {tb : Tables} [Ours tb] {e : Env} {below : List Frame} {T t : State} {m : MethodId} {c : Code} {pc : Nat} {L : Array Slot} {S : List Value} (h : At T m c below) (hx : tb.exec = Jvm.exec) {x y : Int64} (hd : decode c.code pc = .ok (.ladd, 1)) (hr : Steps tb e below (T.setTop (mkF m (pc + 1) L (.long (x + y) :: S))) t) : Steps tb e below (T.setTop (mkF m pc L (.long y :: .long x :: S))) t := XS.ladd h hx rfl hd rfl hr
theorem S.lsub {tb : Tables} [Ours tb] {e : Env} {below : List Frame} {T t : State} {m : MethodId} {c : Code} {pc : Nat} {L : Array Slot} {S : List Value} (h : At T m c below) (hx : tb.exec = Jvm.exec) {x y : Int64} (hd : decode c.code pc = .ok (.lsub, 1)) (hr : Steps tb e below (T.setTop (mkF m (pc + 1) L (.long (x - y) :: S))) t) : Steps tb e below (T.setTop (mkF m pc L (.long y :: .long x :: S))) t := XS.lsub h hx rfl hd rfl hr
theorem S.lmul {tb : Tables} [Ours tb] {e : Env} {below : List Frame} {T t : State} {m : MethodId} {c : Code} {pc : Nat} {L : Array Slot} {S : List Value} (h : At T m c below) (hx : tb.exec = Jvm.exec) {x y : Int64} (hd : decode c.code pc = .ok (.lmul, 1)) (hr : Steps tb e below (T.setTop (mkF m (pc + 1) L (.long (x * y) :: S))) t) : Steps tb e below (T.setTop (mkF m pc L (.long y :: .long x :: S))) t := XS.lmul h hx rfl hd rfl hr
theorem S.land {tb : Tables} [Ours tb] {e : Env} {below : List Frame} {T t : State} {m : MethodId} {c : Code} {pc : Nat} {L : Array Slot} {S : List Value} (h : At T m c below) (hx : tb.exec = Jvm.exec) {x y : Int64} (hd : decode c.code pc = .ok (.land, 1)) (hr : Steps tb e below (T.setTop (mkF m (pc + 1) L (.long (x &&& y) :: S))) t) : Steps tb e below (T.setTop (mkF m pc L (.long y :: .long x :: S))) t := XS.land h hx rfl hd rfl hr
theorem S.lor {tb : Tables} [Ours tb] {e : Env} {below : List Frame} {T t : State} {m : MethodId} {c : Code} {pc : Nat} {L : Array Slot} {S : List Value} (h : At T m c below) (hx : tb.exec = Jvm.exec) {x y : Int64} (hd : decode c.code pc = .ok (.lor, 1)) (hr : Steps tb e below (T.setTop (mkF m (pc + 1) L (.long (x ||| y) :: S))) t) : Steps tb e below (T.setTop (mkF m pc L (.long y :: .long x :: S))) t := XS.lor h hx rfl hd rfl hr
theorem S.lxor {tb : Tables} [Ours tb] {e : Env} {below : List Frame} {T t : State} {m : MethodId} {c : Code} {pc : Nat} {L : Array Slot} {S : List Value} (h : At T m c below) (hx : tb.exec = Jvm.exec) {x y : Int64} (hd : decode c.code pc = .ok (.lxor, 1)) (hr : Steps tb e below (T.setTop (mkF m (pc + 1) L (.long (x ^^^ y) :: S))) t) : Steps tb e below (T.setTop (mkF m pc L (.long y :: .long x :: S))) t := XS.lxor h hx rfl hd rfl hr
theorem S.iaddV {tb : Tables} [Ours tb] {e : Env} {below : List Frame} {T t : State} {m : MethodId} {c : Code} {pc : Nat} {L : Array Slot} {S : List Value} (h : At T m c below) (hx : tb.exec = Jvm.exec) {x y : Int32} (v : Int32) (hd : decode c.code pc = .ok (.iadd, 1)) (hv : x + y = v) (hr : Steps tb e below (T.setTop (mkF m (pc + 1) L (.int v :: S))) t) : Steps tb e below (T.setTop (mkF m pc L (.int y :: .int x :: S))) t := XS.iadd h hx rfl hd rfl (hv ▸ hr)
theorem S.isubV {tb : Tables} [Ours tb] {e : Env} {below : List Frame} {T t : State} {m : MethodId} {c : Code} {pc : Nat} {L : Array Slot} {S : List Value} (h : At T m c below) (hx : tb.exec = Jvm.exec) {x y : Int32} (v : Int32) (hd : decode c.code pc = .ok (.isub, 1)) (hv : x - y = v) (hr : Steps tb e below (T.setTop (mkF m (pc + 1) L (.int v :: S))) t) : Steps tb e below (T.setTop (mkF m pc L (.int y :: .int x :: S))) t := XS.isub h hx rfl hd rfl (hv ▸ hr)
theorem S.imulV {tb : Tables} [Ours tb] {e : Env} {below : List Frame} {T t : State} {m : MethodId} {c : Code} {pc : Nat} {L : Array Slot} {S : List Value} (h : At T m c below) (hx : tb.exec = Jvm.exec) {x y : Int32} (v : Int32) (hd : decode c.code pc = .ok (.imul, 1)) (hv : x * y = v) (hr : Steps tb e below (T.setTop (mkF m (pc + 1) L (.int v :: S))) t) : Steps tb e below (T.setTop (mkF m pc L (.int y :: .int x :: S))) t := XS.imul h hx rfl hd rfl (hv ▸ hr)
theorem S.ishl {tb : Tables} [Ours tb] {e : Env} {below : List Frame} {T t : State} {m : MethodId} {c : Code} {pc : Nat} {L : Array Slot} {S : List Value} (h : At T m c below) (hx : tb.exec = Jvm.exec) {x : Int32} {y : Int32} (hd : decode c.code pc = .ok (.ishl, 1)) (hr : Steps tb e below (T.setTop (mkF m (pc + 1) L (.int (x <<< (y &&& 31)) :: S))) t) : Steps tb e below (T.setTop (mkF m pc L (.int y :: .int x :: S))) t := XS.ishl h hx rfl hd rfl hr
theorem S.ishr {tb : Tables} [Ours tb] {e : Env} {below : List Frame} {T t : State} {m : MethodId} {c : Code} {pc : Nat} {L : Array Slot} {S : List Value} (h : At T m c below) (hx : tb.exec = Jvm.exec) {x : Int32} {y : Int32} (hd : decode c.code pc = .ok (.ishr, 1)) (hr : Steps tb e below (T.setTop (mkF m (pc + 1) L (.int (x >>> (y &&& 31)) :: S))) t) : Steps tb e below (T.setTop (mkF m pc L (.int y :: .int x :: S))) t := XS.ishr h hx rfl hd rfl hr
theorem S.iushr {tb : Tables} [Ours tb] {e : Env} {below : List Frame} {T t : State} {m : MethodId} {c : Code} {pc : Nat} {L : Array Slot} {S : List Value} (h : At T m c below) (hx : tb.exec = Jvm.exec) {x : Int32} {y : Int32} (hd : decode c.code pc = .ok (.iushr, 1)) (hr : Steps tb e below (T.setTop (mkF m (pc + 1) L (.int ((x.toUInt32 >>> (y &&& 31).toUInt32).toInt32) :: S))) t) : Steps tb e below (T.setTop (mkF m pc L (.int y :: .int x :: S))) t := XS.iushr h hx rfl hd rfl hr
theorem S.lshl {tb : Tables} [Ours tb] {e : Env} {below : List Frame} {T t : State} {m : MethodId} {c : Code} {pc : Nat} {L : Array Slot} {S : List Value} (h : At T m c below) (hx : tb.exec = Jvm.exec) {x : Int64} {y : Int32} (hd : decode c.code pc = .ok (.lshl, 1)) (hr : Steps tb e below (T.setTop (mkF m (pc + 1) L (.long (x <<< (y &&& 0x3f).toInt64) :: S))) t) : Steps tb e below (T.setTop (mkF m pc L (.int y :: .long x :: S))) t := XS.lshl h hx rfl hd rfl hr
theorem S.lshr {tb : Tables} [Ours tb] {e : Env} {below : List Frame} {T t : State} {m : MethodId} {c : Code} {pc : Nat} {L : Array Slot} {S : List Value} (h : At T m c below) (hx : tb.exec = Jvm.exec) {x : Int64} {y : Int32} (hd : decode c.code pc = .ok (.lshr, 1)) (hr : Steps tb e below (T.setTop (mkF m (pc + 1) L (.long (x >>> (y &&& 0x3f).toInt64) :: S))) t) : Steps tb e below (T.setTop (mkF m pc L (.int y :: .long x :: S))) t := XS.lshr h hx rfl hd rfl hr
theorem S.lushr {tb : Tables} [Ours tb] {e : Env} {below : List Frame} {T t : State} {m : MethodId} {c : Code} {pc : Nat} {L : Array Slot} {S : List Value} (h : At T m c below) (hx : tb.exec = Jvm.exec) {x : Int64} {y : Int32} (hd : decode c.code pc = .ok (.lushr, 1)) (hr : Steps tb e below (T.setTop (mkF m (pc + 1) L (.long ((x.toUInt64 >>> (y &&& 0x3f).toInt64.toUInt64).toInt64) :: S))) t) : Steps tb e below (T.setTop (mkF m pc L (.int y :: .long x :: S))) t := XS.lushr h hx rfl hd rfl hr
theorem S.i2c {tb : Tables} [Ours tb] {e : Env} {below : List Frame} {T t : State} {m : MethodId} {c : Code} {pc : Nat} {L : Array Slot} {S : List Value} (h : At T m c below) (hx : tb.exec = Jvm.exec) {x : Int32} (hd : decode c.code pc = .ok (.i2c, 1)) (hr : Steps tb e below (T.setTop (mkF m (pc + 1) L (.int (x.toUInt32.toUInt16.toUInt32.toInt32) :: S))) t) : Steps tb e below (T.setTop (mkF m pc L (.int x :: S))) t := XS.i2c h hx rfl hd rfl hr
theorem S.i2b {tb : Tables} [Ours tb] {e : Env} {below : List Frame} {T t : State} {m : MethodId} {c : Code} {pc : Nat} {L : Array Slot} {S : List Value} (h : At T m c below) (hx : tb.exec = Jvm.exec) {x : Int32} (hd : decode c.code pc = .ok (.i2b, 1)) (hr : Steps tb e below (T.setTop (mkF m (pc + 1) L (.int (x.toInt8.toInt32) :: S))) t) : Steps tb e below (T.setTop (mkF m pc L (.int x :: S))) t := XS.i2b h hx rfl hd rfl hr
theorem S.i2l {tb : Tables} [Ours tb] {e : Env} {below : List Frame} {T t : State} {m : MethodId} {c : Code} {pc : Nat} {L : Array Slot} {S : List Value} (h : At T m c below) (hx : tb.exec = Jvm.exec) {x : Int32} (hd : decode c.code pc = .ok (.i2l, 1)) (hr : Steps tb e below (T.setTop (mkF m (pc + 1) L (.long (x.toInt64) :: S))) t) : Steps tb e below (T.setTop (mkF m pc L (.int x :: S))) t := XS.i2l h hx rfl hd rfl hr
theorem S.l2i {tb : Tables} [Ours tb] {e : Env} {below : List Frame} {T t : State} {m : MethodId} {c : Code} {pc : Nat} {L : Array Slot} {S : List Value} (h : At T m c below) (hx : tb.exec = Jvm.exec) {x : Int64} (hd : decode c.code pc = .ok (.l2i, 1)) (hr : Steps tb e below (T.setTop (mkF m (pc + 1) L (.int (x.toInt32) :: S))) t) : Steps tb e below (T.setTop (mkF m pc L (.long x :: S))) t := XS.l2i h hx rfl hd rfl hr
theorem S.ineg {tb : Tables} [Ours tb] {e : Env} {below : List Frame} {T t : State} {m : MethodId} {c : Code} {pc : Nat} {L : Array Slot} {S : List Value} (h : At T m c below) (hx : tb.exec = Jvm.exec) {x : Int32} (hd : decode c.code pc = .ok (.ineg, 1)) (hr : Steps tb e below (T.setTop (mkF m (pc + 1) L (.int (-x) :: S))) t) : Steps tb e below (T.setTop (mkF m pc L (.int x :: S))) t := XS.ineg h hx rfl hd rfl hr
theorem S.i2cM {tb : Tables} [Ours tb] {e : Env} {below : List Frame} {T t : State} {m : MethodId} {c : Code} {pc : Nat} {L : Array Slot} {S : List Value} (h : At T m c below) (hx : tb.exec = Jvm.exec) {x : Int32} (hd : decode c.code pc = .ok (.i2c, 1)) (hr : Steps tb e below (T.setTop (mkF m (pc + 1) L (.int (x &&& 255) :: S))) t) : Steps tb e below (T.setTop (mkF m pc L (.int (x &&& 255) :: S))) t := XS.i2c h hx rfl hd rfl (by rw [i2c_mask]; exact hr)
theorem S.iinc {tb : Tables} [Ours tb] {e : Env} {below : List Frame} {T t : State} {m : MethodId} {c : Code} {pc : Nat} {L : Array Slot} {S : List Value} (h : At T m c below) (hx : tb.exec = Jvm.exec) {k : Nat} {d : Int} {x : Int32} (v : Int32) (hd : decode c.code pc = .ok (.iinc k d, 3)) (hl : L[k]? = some (.val (.int x))) (hv : x + Int32.ofInt d = v) (L' : Array Slot) (hl' : storeLocals L k (.int v) = some L') (hr : Steps tb e below (T.setTop (mkF m (pc + 3) L' (S))) t) : Steps tb e below (T.setTop (mkF m pc L (S))) t := XS.iinc h hx rfl hd hl (hv ▸ hl') hr
theorem S.dup {tb : Tables} [Ours tb] {e : Env} {below : List Frame} {T t : State} {m : MethodId} {c : Code} {pc : Nat} {L : Array Slot} {S : List Value} (h : At T m c below) (hx : tb.exec = Jvm.exec) {x : Value} (hd : decode c.code pc = .ok (.dup, 1)) (hc : x.category = 1) (hr : Steps tb e below (T.setTop (mkF m (pc + 1) L (x :: x :: S))) t) : Steps tb e below (T.setTop (mkF m pc L (x :: S))) t := XS.dup h hx rfl hd rfl hc hr
theorem S.pop {tb : Tables} [Ours tb] {e : Env} {below : List Frame} {T t : State} {m : MethodId} {c : Code} {pc : Nat} {L : Array Slot} {S : List Value} (h : At T m c below) (hx : tb.exec = Jvm.exec) {x : Value} (hd : decode c.code pc = .ok (.pop, 1)) (hc : x.category = 1) (hr : Steps tb e below (T.setTop (mkF m (pc + 1) L (S))) t) : Steps tb e below (T.setTop (mkF m pc L (x :: S))) t := XS.pop h hx rfl hd rfl hc hr
theorem S.lcmp {tb : Tables} [Ours tb] {e : Env} {below : List Frame} {T t : State} {m : MethodId} {c : Code} {pc : Nat} {L : Array Slot} {S : List Value} (h : At T m c below) (hx : tb.exec = Jvm.exec) {x y : Int64} (hd : decode c.code pc = .ok (.lcmp, 1)) (hr : Steps tb e below (T.setTop (mkF m (pc + 1) L (.int (if x > y then 1 else if x = y then 0 else -1) :: S))) t) : Steps tb e below (T.setTop (mkF m pc L (.long y :: .long x :: S))) t := XS.lcmp h hx rfl hd rfl hr
theorem S.goto {tb : Tables} [Ours tb] {e : Env} {below : List Frame} {T t : State} {m : MethodId} {c : Code} {pc : Nat} {L : Array Slot} {S : List Value} (h : At T m c below) (hx : tb.exec = Jvm.exec) {o : Int} (pc' : Nat) (hd : decode c.code pc = .ok (.goto o, 3)) (ho : 0 ≤ (pc : Int) + o) (hp : ((pc : Int) + o).toNat = pc') (hr : Steps tb e below (T.setTop (mkF m (pc') L (S))) t) : Steps tb e below (T.setTop (mkF m pc L (S))) t := XS.goto h hx rfl rfl hd ho hp hr
theorem S.ifYes {tb : Tables} [Ours tb] {e : Env} {below : List Frame} {T t : State} {m : MethodId} {c : Code} {pc : Nat} {L : Array Slot} {S : List Value} (h : At T m c below) (hx : tb.exec = Jvm.exec) {cd : ClassFile.Cond} {x : Int32} {o : Int} (pc' : Nat) (hd : decode c.code pc = .ok (.ifCond cd o, 3)) (hc : ifCond.holds cd x = true) (ho : 0 ≤ (pc : Int) + o) (hp : ((pc : Int) + o).toNat = pc') (hr : Steps tb e below (T.setTop (mkF m (pc') L (S))) t) : Steps tb e below (T.setTop (mkF m pc L (.int x :: S))) t := XS.ifYes h hx rfl rfl hd rfl hc ho hp hr
theorem S.ifNo {tb : Tables} [Ours tb] {e : Env} {below : List Frame} {T t : State} {m : MethodId} {c : Code} {pc : Nat} {L : Array Slot} {S : List Value} (h : At T m c below) (hx : tb.exec = Jvm.exec) {cd : ClassFile.Cond} {x : Int32} {o : Int} (hd : decode c.code pc = .ok (.ifCond cd o, 3)) (hc : ifCond.holds cd x = false) (hr : Steps tb e below (T.setTop (mkF m (pc + 3) L (S))) t) : Steps tb e below (T.setTop (mkF m pc L (.int x :: S))) t := XS.ifNo h hx rfl hd rfl hc hr
theorem S.icmpYes {tb : Tables} [Ours tb] {e : Env} {below : List Frame} {T t : State} {m : MethodId} {c : Code} {pc : Nat} {L : Array Slot} {S : List Value} (h : At T m c below) (hx : tb.exec = Jvm.exec) {cd : ClassFile.Cond} {x y : Int32} {o : Int} (pc' : Nat) (hd : decode c.code pc = .ok (.if_icmp cd o, 3)) (hc : if_icmp.holds cd x y = true) (ho : 0 ≤ (pc : Int) + o) (hp : ((pc : Int) + o).toNat = pc') (hr : Steps tb e below (T.setTop (mkF m (pc') L (S))) t) : Steps tb e below (T.setTop (mkF m pc L (.int y :: .int x :: S))) t := XS.icmpYes h hx rfl rfl hd rfl hc ho hp hr
theorem S.icmpNo {tb : Tables} [Ours tb] {e : Env} {below : List Frame} {T t : State} {m : MethodId} {c : Code} {pc : Nat} {L : Array Slot} {S : List Value} (h : At T m c below) (hx : tb.exec = Jvm.exec) {cd : ClassFile.Cond} {x y : Int32} {o : Int} (hd : decode c.code pc = .ok (.if_icmp cd o, 3)) (hc : if_icmp.holds cd x y = false) (hr : Steps tb e below (T.setTop (mkF m (pc + 3) L (S))) t) : Steps tb e below (T.setTop (mkF m pc L (.int y :: .int x :: S))) t := XS.icmpNo h hx rfl hd rfl hc hr
theorem S.ifnullYes {tb : Tables} [Ours tb] {e : Env} {below : List Frame} {T t : State} {m : MethodId} {c : Code} {pc : Nat} {L : Array Slot} {S : List Value} (h : At T m c below) (hx : tb.exec = Jvm.exec) {o : Int} (pc' : Nat) (hd : decode c.code pc = .ok (.ifnull o, 3)) (ho : 0 ≤ (pc : Int) + o) (hp : ((pc : Int) + o).toNat = pc') (hr : Steps tb e below (T.setTop (mkF m (pc') L (S))) t) : Steps tb e below (T.setTop (mkF m pc L (.null :: S))) t := XS.ifnullYes h hx rfl rfl hd rfl ho hp hr
theorem S.ifnullNo {tb : Tables} [Ours tb] {e : Env} {below : List Frame} {T t : State} {m : MethodId} {c : Code} {pc : Nat} {L : Array Slot} {S : List Value} (h : At T m c below) (hx : tb.exec = Jvm.exec) {o : Int} {b : Addr} (hd : decode c.code pc = .ok (.ifnull o, 3)) (hr : Steps tb e below (T.setTop (mkF m (pc + 3) L (S))) t) : Steps tb e below (T.setTop (mkF m pc L (.ref b :: S))) t := XS.ifnullNo h hx rfl hd rfl hr
theorem S.ifnonnullYes {tb : Tables} [Ours tb] {e : Env} {below : List Frame} {T t : State} {m : MethodId} {c : Code} {pc : Nat} {L : Array Slot} {S : List Value} (h : At T m c below) (hx : tb.exec = Jvm.exec) {o : Int} {b : Addr} (pc' : Nat) (hd : decode c.code pc = .ok (.ifnonnull o, 3)) (ho : 0 ≤ (pc : Int) + o) (hp : ((pc : Int) + o).toNat = pc') (hr : Steps tb e below (T.setTop (mkF m (pc') L (S))) t) : Steps tb e below (T.setTop (mkF m pc L (.ref b :: S))) t := XS.ifnonnullYes h hx rfl rfl hd rfl ho hp hr
theorem S.ifnonnullNo {tb : Tables} [Ours tb] {e : Env} {below : List Frame} {T t : State} {m : MethodId} {c : Code} {pc : Nat} {L : Array Slot} {S : List Value} (h : At T m c below) (hx : tb.exec = Jvm.exec) {o : Int} (hd : decode c.code pc = .ok (.ifnonnull o, 3)) (hr : Steps tb e below (T.setTop (mkF m (pc + 3) L (S))) t) : Steps tb e below (T.setTop (mkF m pc L (.null :: S))) t := XS.ifnonnullNo h hx rfl hd rfl hr
end Jvm.Pilot.@@N@@
namespace Jvm.Pilot.@@N@@
open Jvm Jvm.ClassFile Sem Op Lib Jvm.Free Jvm.Stand Jvm.LawKit Jvm.RoadKit Bundle Jvm.Pilot.@@N@@.Jvm.D
section OwnKit
variable {p : Program} {l : Launch} {e : Env} {R : Room} {s : State} {m : MethodId} {args : Array Value} {below : List Frame} {meth : Method} {c : Code} {Z : State} {a0 : Array Value} {EL : List (String × Nat)} {n0 : Nat} {own : String} {nw : Bool} {st : State} {vm0 : Vm} {h : Heap} {g g' : JFrame} {cells slots : Nat}
/-- where a walk stands: the heap h, the frame g, so many cells and slots made; nw: nothing interned since its start -/
def Wk (p : Program) (l : Launch) (e : Env) (R : Room) (s : State) (m : MethodId) (args : Array Value) (below : List Frame) (meth : Method) (c : Code) (Z : State) (a0 : Array Value) (EL : List (String × Nat)) (n0 : Nat) (own : String) (nw : Bool) (st : State) (vm0 : Vm) (h : Heap) (g : JFrame) (cells slots : Nat) : Prop :=
  ∃ (T : State) (locs : List Loc) (k0 : Nat), Stand p l e R (s.setVm vm0) m args below meth c T locs cells slots ∧ T.heap = h ∧ s.Since vm0 k0 ∧ k0 ≤ h.size ∧ Z.Warmed39 vm0 ∧ vm0.findClass own = some m.cls ∧ Fr n0 locs ∧ (nw = true → vm0 = s.vm) ∧ EW Z a0 EL ∧ CHr Z EL s.vm s.heap vm0 h ∧ p.tables.exec = Jvm.exec ∧ ∀ t, Steps p.tables e below (T.setTop g) t → Steps p.tables e below st t
theorem exlt {h : Heap} {a : Addr} {C : String} (E : Exa Z h a C) : h.size > a := E.lt
theorem arlt {h : Heap} {a : Addr} {k : ClassId} {ty : FieldType} {z : Int32} {vs : List Value} {d : Value} (V : Arv Z h a k ty z vs d) : h.size > a := V.lt
theorem nne {a b : Nat} (h : a < b ∨ b < a) : a ≠ b := by omega
theorem safe0 {vm : Vm} {h : Heap} {x : Addr} : Safe Z [] vm h x := fun ⟨_, hp, _⟩ => nomatch hp
theorem chv0 {vm : Vm} {h : Heap} : CHv Z [] vm h := fun _ hp => nomatch hp
theorem Wk.start {x : MethodName} {S : Spec} {code : ByteArray} {maxLocals : Nat} {ret : Option FieldType} {s₁ : State} (Bd : BodyLoose p l x S code maxLocals ret e s m args below meth c s₁) (hZ : Z.Warmed39 s.vm) (hh : s.heap = h) (hE : EW Z a0 EL) (hC : CHv Z EL s.vm h) (ef : entryFrame m args maxLocals = g) (R : Room) (hR : S.room = R) :
    Wk p l e R s m args below meth c Z a0 EL n0 x.cls nw (s₁.setTop (entryFrame m args maxLocals)) s.vm h g 0 0 := by
  subst hh hR
  exact ⟨s₁, [], s.heap.size, Stand.of_body Bd, by rw [Bd.state]; rfl, (State.WarmedH.refl s).since _, Nat.le_refl _, hZ, findClass_of_methodNamed Bd.named, Fr.nil _, fun _ => rfl, hE, CHr.refl hC, Bd.exec, fun t k => castTop ef k⟩
theorem Wk.hZ (w : Wk p l e R s m args below meth c Z a0 EL n0 own nw st vm0 h g cells slots) : Z.Warmed39 (s.setVm vm0).vm := by
  obtain ⟨T, locs, k0, X, eT, hS, hk, hZ, hown, N, hnw, hE, hC, hx, pre⟩ := w; exact hZ
theorem Wk.al (w : Wk p l e R s m args below meth c Z a0 EL n0 own nw st vm0 h g cells slots) : Z.vm.Alike vm0 := State.Warmed39.alike (s := Z) w.hZ
theorem Wk.chv (w : Wk p l e R s m args below meth c Z a0 EL n0 own nw st vm0 h g cells slots) : CHv Z EL vm0 h := by
  obtain ⟨T, locs, k0, X, eT, hS, hk, hZ, hown, N, hnw, hE, hC, hx, pre⟩ := w; exact hC.1
theorem Wk.pure (w : Wk p l e R s m args below meth c Z a0 EL n0 own nw st vm0 h g cells slots) (g' : JFrame)
    (k : ∀ {T : State} {locs : List Loc} {t : State}, Stand p l e R (s.setVm vm0) m args below meth c T locs cells slots → T.heap = h → Z.Warmed39 (s.setVm vm0).vm → (s.setVm vm0).vm.findClass own = some m.cls → Steps p.tables e below (T.setTop g') t → Steps p.tables e below (T.setTop g) t) :
    Wk p l e R s m args below meth c Z a0 EL n0 own nw st vm0 h g' cells slots := by
  obtain ⟨T, locs, k0, X, eT, hS, hk, hZ, hown, N, hnw, hE, hC, hx, pre⟩ := w
  exact ⟨T, locs, k0, X, eT, hS, hk, hZ, hown, N, hnw, hE, hC, hx, fun t q => pre t (k X eT hZ hown q)⟩
/-- a step that moves the tables alone -/
theorem Wk.same (w : Wk p l e R s m args below meth c Z a0 EL n0 own nw st vm0 h g cells slots) (g' : JFrame)
    (k : ∀ {T : State} {locs : List Loc}, Stand p l e R (s.setVm vm0) m args below meth c T locs cells slots → T.heap = h → Z.Warmed39 (s.setVm vm0).vm → (s.setVm vm0).vm.findClass own = some m.cls → ∃ T', Stand p l e R (s.setVm vm0) m args below meth c T' locs cells slots ∧ T'.heap = h ∧ ∀ t, Steps p.tables e below (T'.setTop g') t → Steps p.tables e below (T.setTop g) t) :
    Wk p l e R s m args below meth c Z a0 EL n0 own nw st vm0 h g' cells slots := by
  obtain ⟨T, locs, k0, X, eT, hS, hk, hZ, hown, N, hnw, hE, hC, hx, pre⟩ := w
  obtain ⟨T', X', e', q⟩ := k X eT hZ hown
  exact ⟨T', locs, k0, X', e', hS, hk, hZ, hown, N, hnw, hE, hC, hx, fun t z => pre t (q t z)⟩
theorem Wk.more (w : Wk p l e R s m args below meth c Z a0 EL n0 own nw st vm0 h g cells slots) {k n : Nat} (hc : cells ≤ k) (hn : slots ≤ n) : Wk p l e R s m args below meth c Z a0 EL n0 own nw st vm0 h g k n := by
  obtain ⟨T, locs, k0, X, eT, hS, hk, hZ, hown, N, hnw, hE, hC, hx, pre⟩ := w
  exact ⟨T, locs, k0, X.mono hc hn, eT, hS, hk, hZ, hown, N, hnw, hE, hC, hx, pre⟩
theorem Wk.newO (w : Wk p l e R s m args below meth c Z a0 EL n0 own nw st vm0 h g cells slots) (hx : p.tables.exec = Jvm.exec) {C : String} {index n : Nat} (w1 : (Cond.classLink own index C).before a0 Z = true) (w2 : (Cond.instantiable C n).before a0 Z = true) (w3 : (Cond.initialized C).before a0 Z = true)
    (hg : g.method = m) (hd : decode c.code g.pc = .ok (.new index, 3)) (hc : cells + 1 ≤ R.cells) (hl : slots + n ≤ R.slots) (g' : Addr → JFrame) (hg' : ∀ x, g' x = { g with pc := g.pc + 3, stack := .ref x :: g.stack }) :
    ∃ (x : Nat) (h' : Heap), x = h.size ∧ Ext h h' ∧ h'.size > x ∧ Exa Z h' x C ∧ (∀ {O nm d : String} {ty : FieldType}, Laid Z a0 C O nm d → parseFieldDescriptor d = some ty → Fld Z h' x O nm d (defaultValue ty)) ∧ Safe Z EL vm0 h' x ∧ Wk p l e R s m args below meth c Z a0 EL n0 own nw st vm0 h' (g' x) (cells + 1) (slots + n) := by
  obtain ⟨T, locs, k0, X, eT, hS, hk, hZ, hown, N, hnw, hE, hC, -, pre⟩ := w
  obtain ⟨T', h', X', e', E, A, D, -, st'⟩ := RoadKit.newO X hx hZ hown w1 w2 w3 eT hg hd hc hl
  exact ⟨h.size, h', rfl, E, A.lt, A, D, Safe.ext E hC.1 (Safe.new (Nat.le_refl _)), T', locs, k0, X', e', hS, Nat.le_trans hk E.1, hZ, hown, N, hnw, hE, hC.trans (CHr.ext E hC.1), hx, fun t k => pre t (st' t (hg' h.size ▸ k))⟩
theorem Wk.newP (w : Wk p l e R s m args below meth c Z a0 EL n0 own nw st vm0 h g cells slots) (hx : p.tables.exec = Jvm.exec) {aty : ArrayType} (w1 : (Cond.arrayClass (newarray.typeOf aty)).before a0 Z = true) (hg : g.method = m) (hd : decode c.code g.pc = .ok (.newarray aty, 2)) {n : Int32} {rest : List Value} (hs : g.stack = .int n :: rest)
    (hn : ¬ n < 0) (cap : Nat) (hcap : n.toNatClampNeg ≤ cap) (hb : cap * 8 ≤ 536870912) (hc : cells + 1 ≤ R.cells) (hl : slots + cap ≤ R.slots) (g' : Addr → JFrame) (hg' : ∀ x, g' x = { g with pc := g.pc + 2, stack := .ref x :: rest }) :
    ∃ (x : Nat) (h' : Heap) (k : ClassId), x = h.size ∧ Ext h h' ∧ h'.size > x ∧ Arv Z h' x k (newarray.typeOf aty) n [] (defaultValue (newarray.typeOf aty)) ∧ Safe Z EL vm0 h' x ∧ Wk p l e R s m args below meth c Z a0 EL n0 own nw st vm0 h' (g' x) (cells + 1) (slots + cap) := by
  obtain ⟨T, locs, k0, X, eT, hS, hk, hZ, hown, N, hnw, hE, hC, -, pre⟩ := w
  obtain ⟨T', h', k, X', e', E, A, st'⟩ := RoadKit.newP X hx hZ w1 eT hg hd hs hn hcap hb hc hl
  exact ⟨h.size, h', k, rfl, E, A.lt, Arv.new A hn, Safe.ext E hC.1 (Safe.new (Nat.le_refl _)), T', locs, k0, X', e', hS, Nat.le_trans hk E.1, hZ, hown, N, hnw, hE, hC.trans (CHr.ext E hC.1), hx, fun t q => pre t (st' t (hg' h.size ▸ q))⟩
theorem Wk.putF (w : Wk p l e R s m args below meth c Z a0 EL n0 own nw st vm0 h g cells slots) (hx : p.tables.exec = Jvm.exec) {R0 O n d host C : String} {index kk : Nat} {ty : FieldType} (w1 : (Cond.fieldLink own index R0 n d).before a0 Z = true ∨ (Cond.fieldLinkNest own index R0 n d host).before a0 Z = true) (via : Via Z R0 O n d)
    {a : Addr} {v old : Value} (F : Fld Z h a O n d old) (E : Exa Z h a C) (L : (Cond.lays C O n d).before a0 Z = true ∨ ((Cond.laysFinal C O n d).before a0 Z = true ∧ own = O ∧ meth.name = "<init>")) (wi : (Cond.instantiable C kk).before a0 Z = true)
    (hty : parseFieldDescriptor d = some ty) (hn : narrow ty v = v) (hf : fits ty v = true) (hg : g.method = m) {rest : List Value} (hs : g.stack = v :: .ref a :: rest) (hd : decode c.code g.pc = .ok (.putfield index, 3)) (na : n0 ≤ a) (sf : Safe Z EL vm0 h a) (g' : JFrame) (hg' : g' = { g with pc := g.pc + 3, stack := rest }) :
    ∃ h', Wr h h' a (RoadKit.slotOf Z O n d) v ∧ h'.size = h.size ∧ Fld Z h' a O n d v ∧ Wk p l e R s m args below meth c Z a0 EL n0 own nw st vm0 h' g' cells slots := by
  obtain ⟨T, locs, k0, X, eT, hS, hk, hZ, hown, N, hnw, hE, hC, -, pre⟩ := w
  obtain ⟨T', h', X', e', W, st'⟩ := RoadKit.putF X hx hZ hown w1 via eT F E L wi hty hn hf hg hs hd
  exact ⟨h', W, W.size, F.same W, T', _, k0, X', e', hS, by rw [W.size]; exact hk, hZ, hown, Fr.snoc X' N na, hnw, hE, hC.trans (CHr.wr W sf hC.1), hx, fun t q => pre t (st' t (hg' ▸ q))⟩
theorem Wk.putFN (w : Wk p l e R s m args below meth c Z a0 EL n0 own nw st vm0 h g cells slots) (hx : p.tables.exec = Jvm.exec) {R0 O n d C : String} {index kk : Nat} {ty : FieldType} (w1 : (Cond.fieldLink own index R0 n d).before a0 Z = true) (via : Via Z R0 O n d)
    {a : Addr} {v old : Value} (v' : Value) (F : Fld Z h a O n d old) (E : Exa Z h a C) (L : (Cond.lays C O n d).before a0 Z = true ∨ ((Cond.laysFinal C O n d).before a0 Z = true ∧ own = O ∧ meth.name = "<init>")) (wi : (Cond.instantiable C kk).before a0 Z = true)
    (hty : parseFieldDescriptor d = some ty) (hn : narrow ty v = v') (hf : fits ty v' = true) (hg : g.method = m) {rest : List Value} (hs : g.stack = v :: .ref a :: rest) (hd : decode c.code g.pc = .ok (.putfield index, 3)) (na : n0 ≤ a) (sf : Safe Z EL vm0 h a) (g' : JFrame) (hg' : g' = { g with pc := g.pc + 3, stack := rest }) :
    ∃ h', Wr h h' a (RoadKit.slotOf Z O n d) v' ∧ h'.size = h.size ∧ Fld Z h' a O n d v' ∧ Wk p l e R s m args below meth c Z a0 EL n0 own nw st vm0 h' g' cells slots := by
  obtain ⟨T, locs, k0, X, eT, hS, hk, hZ, hown, N, hnw, hE, hC, -, pre⟩ := w
  obtain ⟨T', h', X', e', W, st'⟩ := RoadKit.putFN X hx hZ hown w1 via eT F E L wi hty hn hf hg hs hd
  exact ⟨h', W, W.size, F.same W, T', _, k0, X', e', hS, by rw [W.size]; exact hk, hZ, hown, Fr.snoc X' N na, hnw, hE, hC.trans (CHr.wr W sf hC.1), hx, fun t q => pre t (st' t (hg' ▸ q))⟩
theorem Wk.stC (w : Wk p l e R s m args below meth c Z a0 EL n0 own nw st vm0 h g cells slots) (hx : p.tables.exec = Jvm.exec) {a : Addr} {k : ClassId} {z : Int32} {vs : List Value} {dv : Value} (V : Arv Z h a k .char z vs dv) {j x : Int32} (i : Nat) (hj : j.toNatClampNeg = i) (hi : i < vs.length) (hin : ¬ j < 0 ∧ j < z)
    (hg : g.method = m) {rest : List Value} (hs : g.stack = .int x :: .int j :: .ref a :: rest) (hd : decode c.code g.pc = .ok (.castore, 1)) (na : n0 ≤ a) (g' : JFrame) (hg' : g' = { g with pc := g.pc + 1, stack := rest }) :
    ∃ h', Wr h h' a j.toNatClampNeg (.int (nar .char x)) ∧ h'.size = h.size ∧ Arv Z h' a k .char z (vs.set i (.int (nar .char x))) dv ∧ Wk p l e R s m args below meth c Z a0 EL n0 own nw st vm0 h' g' cells slots := by
  obtain ⟨T, locs, k0, X, eT, hS, hk, hZ, hown, N, hnw, hE, hC, -, pre⟩ := w
  obtain ⟨cl, A, q, S, M, H, U⟩ := id V
  obtain ⟨T', h', X', e', W, st'⟩ := RoadKit.stC X hx hZ eT A (inb_of S hin) hg hs hd
  exact ⟨h', W, W.size, Arv.set A q S M H U (fits_nar_char _) W i hj hi, T', _, k0, X', e', hS, by rw [W.size]; exact hk, hZ, hown, Fr.snoc X' N na, hnw, hE, hC.trans (CHr.wr W (Safe.arv (State.Warmed39.alike (s := Z) hZ) V (by decide)) hC.1), hx, fun t q => pre t (st' t (hg' ▸ q))⟩
theorem Wk.stI (w : Wk p l e R s m args below meth c Z a0 EL n0 own nw st vm0 h g cells slots) (hx : p.tables.exec = Jvm.exec) {a : Addr} {k : ClassId} {z : Int32} {vs : List Value} {dv : Value} (V : Arv Z h a k .int z vs dv) {j x : Int32} (i : Nat) (hj : j.toNatClampNeg = i) (hi : i < vs.length) (hin : ¬ j < 0 ∧ j < z)
    (hg : g.method = m) {rest : List Value} (hs : g.stack = .int x :: .int j :: .ref a :: rest) (hd : decode c.code g.pc = .ok (.iastore, 1)) (na : n0 ≤ a) (g' : JFrame) (hg' : g' = { g with pc := g.pc + 1, stack := rest }) :
    ∃ h', Wr h h' a j.toNatClampNeg (.int x) ∧ h'.size = h.size ∧ Arv Z h' a k .int z (vs.set i (.int x)) dv ∧ Wk p l e R s m args below meth c Z a0 EL n0 own nw st vm0 h' g' cells slots := by
  obtain ⟨T, locs, k0, X, eT, hS, hk, hZ, hown, N, hnw, hE, hC, -, pre⟩ := w
  obtain ⟨cl, A, q, S, M, H, U⟩ := id V
  obtain ⟨T', h', X', e', W, st'⟩ := RoadKit.stI X hx hZ eT A (inb_of S hin) hg hs hd
  exact ⟨h', W, W.size, Arv.set A q S M H U rfl W i hj hi, T', _, k0, X', e', hS, by rw [W.size]; exact hk, hZ, hown, Fr.snoc X' N na, hnw, hE, hC.trans (CHr.wr W (Safe.arv (State.Warmed39.alike (s := Z) hZ) V (by decide)) hC.1), hx, fun t q => pre t (st' t (hg' ▸ q))⟩
theorem Wk.stB (w : Wk p l e R s m args below meth c Z a0 EL n0 own nw st vm0 h g cells slots) (hx : p.tables.exec = Jvm.exec) {a : Addr} {k : ClassId} {z : Int32} {vs : List Value} {dv : Value} (V : Arv Z h a k .byte z vs dv) (sf : Safe Z EL vm0 h a) {j x : Int32} (i : Nat) (hj : j.toNatClampNeg = i) (hi : i < vs.length) (hin : ¬ j < 0 ∧ j < z)
    (hg : g.method = m) {rest : List Value} (hs : g.stack = .int x :: .int j :: .ref a :: rest) (hd : decode c.code g.pc = .ok (.bastore, 1)) (na : n0 ≤ a) (g' : JFrame) (hg' : g' = { g with pc := g.pc + 1, stack := rest }) :
    ∃ h', Wr h h' a j.toNatClampNeg (.int x.toInt8.toInt32) ∧ h'.size = h.size ∧ Arv Z h' a k .byte z (vs.set i (.int x.toInt8.toInt32)) dv ∧ Wk p l e R s m args below meth c Z a0 EL n0 own nw st vm0 h' g' cells slots := by
  obtain ⟨T, locs, k0, X, eT, hS, hk, hZ, hown, N, hnw, hE, hC, -, pre⟩ := w
  obtain ⟨cl, A, q, S, M, H, U⟩ := id V
  obtain ⟨T', h', X', e', W, st'⟩ := RoadKit.stB X hx hZ eT A (inb_of S hin) hg hs hd
  exact ⟨h', W, W.size, Arv.set A q S M H U (fits_nar_byte _) W i hj hi, T', _, k0, X', e', hS, by rw [W.size]; exact hk, hZ, hown, Fr.snoc X' N na, hnw, hE, hC.trans (CHr.wr W sf hC.1), hx, fun t q => pre t (st' t (hg' ▸ q))⟩
/-! single steps that read an array -/
section Reads
variable {T : State} {locs : List Loc} {target : State}
theorem caV (X : Stand p l e R s m args below meth c T locs cells slots) (hx : p.tables.exec = Jvm.exec) (eT : T.heap = h) (hZ : Z.Warmed39 s.vm) {a : Addr} {k : ClassId} {z : Int32} {vs : List Value} {dv v : Value} (V : Arv Z h a k .char z vs dv) {j : Int32} (hin : ¬ j < 0 ∧ j < z) (hv : vs.getD j.toNatClampNeg dv = v)
    (hg : g.method = m) {rest : List Value} (hs : g.stack = .int j :: .ref a :: rest) (hd : decode c.code g.pc = .ok (.caload, 1)) (hr : Steps p.tables e below (T.setTop { g with pc := g.pc + 1, stack := v :: rest }) target) : Steps p.tables e below (T.setTop g) target := by
  obtain ⟨cl, A, q, S, M, H, U⟩ := V
  exact X.caload hx (by rw [eT]; exact A.1) (State.isArrayOf_alike hZ.alike A.2.1) A.2.2 (inb_of S hin) (H.at (inb_of S hin) hv) hg hs hd _ hr
theorem iaV (X : Stand p l e R s m args below meth c T locs cells slots) (hx : p.tables.exec = Jvm.exec) (eT : T.heap = h) (hZ : Z.Warmed39 s.vm) {a : Addr} {k : ClassId} {z : Int32} {vs : List Value} {dv v : Value} (V : Arv Z h a k .int z vs dv) {j : Int32} (hin : ¬ j < 0 ∧ j < z) (hv : vs.getD j.toNatClampNeg dv = v)
    (hg : g.method = m) {rest : List Value} (hs : g.stack = .int j :: .ref a :: rest) (hd : decode c.code g.pc = .ok (.iaload, 1)) (hr : Steps p.tables e below (T.setTop { g with pc := g.pc + 1, stack := v :: rest }) target) : Steps p.tables e below (T.setTop g) target := by
  obtain ⟨cl, A, q, S, M, H, U⟩ := V
  exact X.iaload hx (by rw [eT]; exact A.1) (State.isArrayOf_alike hZ.alike A.2.1) A.2.2 (inb_of S hin) (H.at (inb_of S hin) hv) hg hs hd _ hr
theorem baV (X : Stand p l e R s m args below meth c T locs cells slots) (hx : p.tables.exec = Jvm.exec) (eT : T.heap = h) (hZ : Z.Warmed39 s.vm) {a : Addr} {k : ClassId} {z : Int32} {vs : List Value} {dv v : Value} (V : Arv Z h a k .byte z vs dv) {j : Int32} (hin : ¬ j < 0 ∧ j < z) (hv : vs.getD j.toNatClampNeg dv = v)
    (hg : g.method = m) {rest : List Value} (hs : g.stack = .int j :: .ref a :: rest) (hd : decode c.code g.pc = .ok (.baload, 1)) (hr : Steps p.tables e below (T.setTop { g with pc := g.pc + 1, stack := v :: rest }) target) : Steps p.tables e below (T.setTop g) target := by
  obtain ⟨cl, A, q, S, M, H, U⟩ := V
  exact X.baloadBytes hx (by rw [eT]; exact A.1) (State.isArrayOf_alike hZ.alike A.2.1) A.2.2 (inb_of S hin) (H.at (inb_of S hin) hv) hg hs hd _ hr
theorem aaV (X : Stand p l e R s m args below meth c T locs cells slots) (hx : p.tables.exec = Jvm.exec) (eT : T.heap = h) (hZ : Z.Warmed39 s.vm) {a : Addr} {k : ClassId} {z : Int32} {vs : List Value} {dv v : Value} {ty : FieldType} (V : Arv Z h a k ty z vs dv) (hty : ty.isReference = true) {j : Int32} (hin : ¬ j < 0 ∧ j < z) (hv : vs.getD j.toNatClampNeg dv = v)
    (hg : g.method = m) {rest : List Value} (hs : g.stack = .int j :: .ref a :: rest) (hd : decode c.code g.pc = .ok (.aaload, 1)) (hr : Steps p.tables e below (T.setTop { g with pc := g.pc + 1, stack := v :: rest }) target) : Steps p.tables e below (T.setTop g) target := by
  obtain ⟨cl, A, q, S, M, H, U⟩ := V
  exact X.aaload hx (by rw [eT]; exact A.1) (State.isArrayOf_alike hZ.alike A.2.1) hty A.2.2 (inb_of S hin) (H.at (inb_of S hin) hv) hg hs hd _ hr
theorem alenV (X : Stand p l e R s m args below meth c T locs cells slots) (hx : p.tables.exec = Jvm.exec) (eT : T.heap = h) (hZ : Z.Warmed39 s.vm) {a : Addr} {k : ClassId} {z : Int32} {vs : List Value} {dv : Value} {ty : FieldType} (V : Arv Z h a k ty z vs dv)
    (hg : g.method = m) {rest : List Value} (hs : g.stack = .ref a :: rest) (hd : decode c.code g.pc = .ok (.arraylength, 1)) (hr : Steps p.tables e below (T.setTop { g with pc := g.pc + 1, stack := .int z :: rest }) target) : Steps p.tables e below (T.setTop g) target := by
  obtain ⟨cl, A, q, S, M, H, U⟩ := V
  exact X.arraylength hx (by rw [eT]; exact A.1) (State.isArrayOf_alike hZ.alike A.2.1) hg hs hd _ (by rw [len_of S M]; exact hr)
end Reads
/-! calls -/
/-- who pays a call: nothing interned -/
def Pay (l : Launch) (R : Room) (p : Program) (e : Env) (below : List Frame) (s : State) (args : Array Value) (y : MethodName) (W : Nat) (as' : List Value) (h : Heap) (kc ks n0 : Nat) (wr : List Addr) (Q : Option Value → Heap → Prop) : Prop :=
  Back l R p e below s args y 3 W (fun P a => a = as'.toArray ∧ P.U.heap = h ∧ P.cells + kc ≤ R.cells ∧ P.slots + ks ≤ R.slots) (fun P _ v B => ∃ L, (Q v B.U.heap ∧ Keep h B.U.heap wr ∧ Fr n0 L) ∧ B.locs = P.locs ++ L ∧ B.cells = P.cells + kc ∧ B.slots = P.slots + ks)
/-- a contract: nothing interned -/
def NMet (l : Launch) (Z : State) (y : MethodName) (bytes : ByteArray) (maxL : Nat) (ret : Option FieldType) (ws : List Jvm.Cond) (rm : Room) (as' : List Value) (h : Heap) (n0 : Nat) (wr : List Addr) (Q : Option Value → Heap → Prop) : Prop :=
  MetFree l y (head1 (Jvm.Cond.code y bytes maxL ret :: ws) rm) (fun a U => a = as'.toArray ∧ Z.Warmed39 U.vm ∧ U.heap = h) (fun _ _ _ _ _ => True) (fun _ U o U' => ∃ v L, o = .returned v ∧ (Q v U'.heap ∧ Keep h U'.heap wr ∧ Fr n0 L) ∧ FrameEnd U o U' L rm.cells rm.slots)
theorem NMet.pay {y : MethodName} {bytes : ByteArray} {maxL : Nat} {ret : Option FieldType} {rm : Room} {as' : List Value} {wr : List Addr} {Q : Option Value → Heap → Prop} {W : Nat} (M : NMet l Z y bytes maxL ret [] rm as' h n0 wr Q) (hZ : Z.Warmed39 s.vm) (wc : (Cond.code y bytes maxL ret).before a0 Z = true) (wz : (Cond.initialized y.cls).before a0 Z = true) (hf : rm.frames + 1 ≤ R.frames) (hl : W + (maxL + 11) + rm.locals ≤ R.locals) :
    Pay l R p e below s args y W as' h rm.cells rm.slots n0 wr Q := backOf (a0 := a0) (Q := fun v h' L => Q v h' ∧ Keep h h' wr ∧ Fr n0 L) M hZ wc wz hf hl
theorem Wk.callS (w : Wk p l e R s m args below meth c Z a0 EL n0 own nw st vm0 h g cells slots) (hx : p.tables.exec = Jvm.exec) {y : MethodName} {bytes : ByteArray} {maxL : Nat} {ret : Option FieldType} {index W kc ks : Nat} {as' : List Value} {wr : List Addr} {Q : Option Value → Heap → Prop}
    (w1 : (Cond.methodLink own index y).before a0 Z = true) (w2 : (Cond.static y).before a0 Z = true) (w3 : (Cond.initialized y.cls).before a0 Z = true) (w4 : (Cond.code y bytes maxL ret).before a0 Z = true) (hy : y.cls ≠ "java/lang/invoke/MethodHandle" ∧ y.cls ≠ "java/lang/invoke/VarHandle")
    (P : Pay l R p e below (s.setVm vm0) args y W as' h kc ks n0 wr Q) (hg : g.method = m) (hsize : g.locals.size = c.maxLocals) (rest : List Value) (hlen : ∀ sig, parseMethodDescriptor y.desc = some sig → as'.length = sig.parameters.length) (hstack : g.stack = as'.reverse ++ rest) (hW : 2 * g.monitorRoom + (rest.map fun v => v.category).sum ≤ W)
    (hd : decode c.code g.pc = .ok (.invokestatic index, 3)) (hc : cells + kc ≤ R.cells) (hl : slots + ks ≤ R.slots) (sf : ∀ x ∈ wr, Safe Z EL vm0 h x) (g' : Option Value → JFrame) (hg' : ∀ v, g' v = { g with pc := g.pc + 3, stack := v.toList ++ rest }) :
    ∃ v h', Q v h' ∧ Keep h h' wr ∧ h.size ≤ h'.size ∧ Wk p l e R s m args below meth c Z a0 EL n0 own nw st vm0 h' (g' v) (cells + kc) (slots + ks) := by
  obtain ⟨T, locs, k0, X, eT, hS, hk, hZ, hown, N, hnw, hE, hC, -, pre⟩ := w
  have hZ' : Z.Warmed39 (s.setVm vm0).vm := hZ
  obtain ⟨v, _, ⟨T', L', k', n'⟩, -, X', ⟨L, ⟨hQ, hK, hN⟩, l1, l2, l3⟩, st'⟩ := Jvm.LawKit.callS X hx (y := y) hown (mvT hZ' w1) (mvT hZ' w2) (mvT hZ' w3) (mvT hZ' w4) hy P hg hsize hlen hstack hW hd (fun _ _ => ⟨rfl, eT, hc, hl⟩)
  dsimp only [Pt.U, Pt.locs, Pt.cells, Pt.slots] at X' l1 l2 l3 st' hQ hK
  subst l1 l2 l3
  exact ⟨v, T'.heap, hQ, hK, hK.1, T', _, k0, X', rfl, hS, Nat.le_trans hk hK.1, hZ, hown, Fr.app N hN, hnw, hE, hC.trans (CHr.keep hK sf hC.1), hx, fun t k => pre t (st' t (hg' v ▸ k))⟩
theorem Wk.callI (w : Wk p l e R s m args below meth c Z a0 EL n0 own nw st vm0 h g cells slots) (hx : p.tables.exec = Jvm.exec) {y : MethodName} {bytes : ByteArray} {maxL : Nat} {index W kc ks : Nat} {a : Addr} {as' : List Value} {wr : List Addr} {Q : Option Value → Heap → Prop}
    (hy1 : y.name = "<init>") (w1 : (Cond.methodLink own index y).before a0 Z = true) (w2 : (Cond.instanceMethod y).before a0 Z = true) (w4 : (Cond.code y bytes maxL none).before a0 Z = true) (hy : y.cls ≠ "java/lang/invoke/MethodHandle" ∧ y.cls ≠ "java/lang/invoke/VarHandle")
    (P : Pay l R p e below (s.setVm vm0) args y W (.ref a :: as') h kc ks n0 wr Q) (hg : g.method = m) (hsize : g.locals.size = c.maxLocals) (rest : List Value) (hlen : ∀ sig, parseMethodDescriptor y.desc = some sig → as'.length = sig.parameters.length) (hstack : g.stack = as'.reverse ++ .ref a :: rest) (hW : 2 * g.monitorRoom + (rest.map fun v => v.category).sum ≤ W)
    (hd : decode c.code g.pc = .ok (.invokespecial index, 3)) (hc : cells + kc ≤ R.cells) (hl : slots + ks ≤ R.slots) (sf : ∀ x ∈ wr, Safe Z EL vm0 h x) (g' : Option Value → JFrame) (hg' : ∀ v, g' v = { g with pc := g.pc + 3, stack := v.toList ++ rest }) :
    ∃ v h', Q v h' ∧ Keep h h' wr ∧ h.size ≤ h'.size ∧ Wk p l e R s m args below meth c Z a0 EL n0 own nw st vm0 h' (g' v) (cells + kc) (slots + ks) := by
  obtain ⟨T, locs, k0, X, eT, hS, hk, hZ, hown, N, hnw, hE, hC, -, pre⟩ := w
  have hZ' : Z.Warmed39 (s.setVm vm0).vm := hZ
  obtain ⟨v, _, ⟨T', L', k', n'⟩, -, X', ⟨L, ⟨hQ, hK, hN⟩, l1, l2, l3⟩, st'⟩ := X.specialBack hx (y := y) hy1 hown (mvT hZ' w1) (mvT hZ' w2) (mvT hZ' w4) hy P hg hsize (Steps.refl _) hlen hstack hW hd (fun _ _ => ⟨rfl, eT, hc, hl⟩)
  dsimp only [Pt.U, Pt.locs, Pt.cells, Pt.slots] at X' l1 l2 l3 st' hQ hK
  subst l1 l2 l3
  exact ⟨v, T'.heap, hQ, hK, hK.1, T', _, k0, X', rfl, hS, Nat.le_trans hk hK.1, hZ, hown, Fr.app N hN, hnw, hE, hC.trans (CHr.keep hK sf hC.1), hx, fun t k => pre t (st'.trans (hg' v ▸ k))⟩
theorem Wk.callV (w : Wk p l e R s m args below meth c Z a0 EL n0 own nw st vm0 h g cells slots) (hx : p.tables.exec = Jvm.exec) {C : String} {y z : MethodName} {index W kc ks : Nat} {a : Addr} {as' : List Value} {wr : List Addr} {Q : Option Value → Heap → Prop}
    (w1 : (Cond.methodLink own index y).before a0 Z = true) (w2 : (Cond.declares y).before a0 Z = true) (w3 : (Cond.selects C y z).before a0 Z = true) (w4 : (Cond.instanceMethod z).before a0 Z = true) (nf : NotFace (s.setVm vm0) y) (hy : y.cls ≠ "java/lang/invoke/MethodHandle" ∧ y.cls ≠ "java/lang/invoke/VarHandle")
    (P : Pay l R p e below (s.setVm vm0) args z W (.ref a :: as') h kc ks n0 wr Q) (E : Exa Z h a C) (hg : g.method = m) (hsize : g.locals.size = c.maxLocals) (rest : List Value) (hlen : ∀ sig, parseMethodDescriptor y.desc = some sig → as'.length = sig.parameters.length) (hstack : g.stack = as'.reverse ++ .ref a :: rest) (hW : 2 * g.monitorRoom + (rest.map fun v => v.category).sum ≤ W)
    (hd : decode c.code g.pc = .ok (.invokevirtual index, 3)) (hc : cells + kc ≤ R.cells) (hl : slots + ks ≤ R.slots) (sf : ∀ x ∈ wr, Safe Z EL vm0 h x) (g' : Option Value → JFrame) (hg' : ∀ v, g' v = { g with pc := g.pc + 3, stack := v.toList ++ rest }) :
    ∃ v h', Q v h' ∧ Keep h h' wr ∧ h.size ≤ h'.size ∧ Wk p l e R s m args below meth c Z a0 EL n0 own nw st vm0 h' (g' v) (cells + kc) (slots + ks) := by
  obtain ⟨T, locs, k0, X, eT, hS, hk, hZ, hown, N, hnw, hE, hC, -, pre⟩ := w
  have hZ' : Z.Warmed39 (s.setVm vm0).vm := hZ
  obtain ⟨cB, kB, q1, -, q3⟩ := isOf (s := s.setVm vm0) hZ' eT E
  obtain ⟨v, _, ⟨T', L', k', n'⟩, -, X', ⟨L, ⟨hQ, hK, hN⟩, l1, l2, l3⟩, st'⟩ := X.virtualBack hx (y := y) (z := z) hown (mvT hZ' w1) (mvT hZ' w2) nf (mvT hZ' w3) (mvT hZ' w4) hy P q1 q3 hg hsize (Steps.refl _) hlen hstack hW hd (fun _ _ => ⟨rfl, eT, hc, hl⟩)
  dsimp only [Pt.U, Pt.locs, Pt.cells, Pt.slots] at X' l1 l2 l3 st' hQ hK
  subst l1 l2 l3
  exact ⟨v, T'.heap, hQ, hK, hK.1, T', _, k0, X', rfl, hS, Nat.le_trans hk hK.1, hZ, hown, Fr.app N hN, hnw, hE, hC.trans (CHr.keep hK sf hC.1), hx, fun t k => pre t (st'.trans (hg' v ▸ k))⟩
theorem sfNil {x : Addr} : x ∈ ([] : List Addr) → Safe Z EL vm0 h x := fun q => nomatch q
theorem sfOne {a : Addr} (sf : Safe Z EL vm0 h a) : ∀ x ∈ [a], Safe Z EL vm0 h x := fun x q => by cases List.mem_singleton.mp q; exact sf
theorem Wk.nf (w : Wk p l e R s m args below meth c Z a0 EL n0 own nw st vm0 h g cells slots) {C : String} {y : MethodName} (w3 : (Cond.selects C y y).before a0 Z = true) : NotFace (s.setVm vm0) y := notFace_of_selects (args := #[]) (mvT (s := s.setVm vm0) w.hZ w3)
/-! the end of a body -/
theorem Wk.out (w : Wk p l e R s m args below meth c Z a0 EL n0 own nw st vm0 h g cells slots) {v : Option Value} (hv : meth.sig.returnType = none → v = none) (hlk : meth.locks = false)
    (hret : ∀ {T : State} {locs : List Loc} {fs : List Frame}, Stand p l e R (s.setVm vm0) m args below meth c T locs cells slots → (∀ (f : JFrame) (acts : List Action), f.method = m → f.locked = none → f.entered = [] → (doReturn e (T.setTop f) acts v).1 = T.setFrames fs) → Steps p.tables e below (T.setTop g) (T.setFrames fs)) :
    ∃ s₂ L, Steps p.tables e below st s₂ ∧ s₂.status = .running ∧ Ended s₂ below (.returned v) ∧ s₂.heap = h ∧ Fr n0 L ∧ (nw = true → FrameEnd s (.returned v) s₂ L cells slots) ∧ ReturnedEndW s (.returned v) s₂ L cells slots ∧ CHr Z EL s.vm s.heap s₂.vm s₂.heap := by
  obtain ⟨T, locs, k0, X, eT, hS, hk, hZ, hown, N, hnw, hE, hC, hx, pre⟩ := w
  subst eT
  obtain ⟨fs, hr, h1, h2, hW, hs⟩ := X.leave hv hlk
  obtain ⟨b1, b2, b3⟩ := hS.ended (U := T.setFrames fs) hW hk hs
  refine ⟨T.setFrames fs, locs, pre _ (hret X hr), h1, h2, rfl, N, fun q => ?_, ⟨⟨v, rfl⟩, b1, b2, b3⟩, hC.trans (show CHr Z EL vm0 T.heap (T.setFrames fs).vm (T.setFrames fs).heap from CHv.at (T := T) X hZ hE hC.1)⟩
  have e0 := hnw q
  subst e0
  exact ⟨⟨v, rfl⟩, hW, hs⟩
theorem Wk.endN (w : Wk p l e R s m args below meth c Z a0 EL n0 own true st vm0 h g cells slots) {v : Option Value} {Q : Option Value → Heap → Prop} {wr : List Addr} {h0 : Heap} {kc ks : Nat} (hv : meth.sig.returnType = none → v = none) (hlk : meth.locks = false)
    (hret : ∀ {T : State} {locs : List Loc} {fs : List Frame}, Stand p l e R (s.setVm vm0) m args below meth c T locs cells slots → (∀ (f : JFrame) (acts : List Action), f.method = m → f.locked = none → f.entered = [] → (doReturn e (T.setTop f) acts v).1 = T.setFrames fs) → Steps p.tables e below (T.setTop g) (T.setFrames fs))
    (hc : cells ≤ kc) (hl : slots ≤ ks) (hQ : Q v h) (hK : Keep h0 h wr) :
    ∃ s₂ o, Steps p.tables e below st s₂ ∧ s₂.status = .running ∧ Ended s₂ below o ∧ ∃ v L, o = .returned v ∧ (Q v s₂.heap ∧ Keep h0 s₂.heap wr ∧ Fr n0 L) ∧ FrameEnd s o s₂ L kc ks := by
  obtain ⟨s₂, L, h1, h2, h3, h4, h5, h6, -, -⟩ := w.out hv hlk hret
  have F := h6 rfl
  exact ⟨s₂, _, h1, h2, h3, v, L, rfl, ⟨h4 ▸ hQ, h4 ▸ hK, h5⟩, F.1, F.2.1, F.2.2.mono hc hl⟩
def EndsN (p : Program) (e : Env) (below : List Frame) (st s : State) (n0 : Nat) (h0 : Heap) (wr : List Addr) (Q : Option Value → Heap → Prop) (kc ks : Nat) : Prop :=
  ∃ s₂ o, Steps p.tables e below st s₂ ∧ s₂.status = .running ∧ Ended s₂ below o ∧ ∃ v L, o = .returned v ∧ (Q v s₂.heap ∧ Keep h0 s₂.heap wr ∧ Fr n0 L) ∧ FrameEnd s o s₂ L kc ks
end OwnKit
end Jvm.Pilot.@@N@@
namespace Jvm.Pilot.@@N@@
open Jvm Jvm.ClassFile Sem Op Lib Jvm.Free Jvm.Stand Jvm.LawKit Jvm.RoadKit Bundle Jvm.Pilot.@@N@@.Jvm.D
section OwnWide
variable {p : Program} {l : Launch} {e : Env} {R : Room} {s : State} {m : MethodId} {args : Array Value} {below : List Frame} {meth : Method} {c : Code} {Z : State} {a0 : Array Value} {EL : List (String × Nat)} {n0 : Nat} {own : String} {nw : Bool} {st : State} {vm0 : Vm} {h : Heap} {g g' : JFrame} {cells slots : Nat}
theorem chs {vm1 : Vm} {h' : Heap} (A : CHr Z EL vm0 h vm1 h') {x : Nat} (hx : h.size > x) (S : Safe Z EL vm0 h x) : Safe Z EL vm1 h' x := A.safe hx S
/-- who pays a call that may intern -/
def PayW (l : Launch) (R : Room) (p : Program) (e : Env) (below : List Frame) (s : State) (args : Array Value) (y : MethodName) (W : Nat) (as' : List Value) (h : Heap) (kc ks n0 : Nat) (wr : List Addr) (Q : Option Value → Heap → Prop) (Z : State) (EL : List (String × Nat)) (vm0 : Vm) : Prop :=
  BackS l R p e below s args y 3 W (fun P a => a = as'.toArray ∧ P.U.heap = h ∧ P.cells + kc ≤ R.cells ∧ P.slots + ks ≤ R.slots) (fun P _ v B => ∃ L, (Q v B.U.heap ∧ Keep h B.U.heap wr ∧ Fr n0 L) ∧ B.locs = P.locs ++ L ∧ B.cells = P.cells + kc ∧ B.slots = P.slots + ks ∧ CHr Z EL vm0 h B.U.vm B.U.heap)
/-- a contract of a body that may intern -/
def WMet (l : Launch) (Z : State) (EL : List (String × Nat)) (y : MethodName) (bytes : ByteArray) (maxL : Nat) (ret : Option FieldType) (ws : List Jvm.Cond) (rm : Room) (as' : List Value) (h : Heap) (n0 : Nat) (sf : List Addr) (wr : List Addr) (Q : Option Value → Heap → Prop) : Prop :=
  MetFree l y (head1 (Jvm.Cond.code y bytes maxL ret :: ws) rm) (fun a U => a = as'.toArray ∧ Z.Warmed39 U.vm ∧ U.heap = h ∧ CHv Z EL U.vm h ∧ ∀ x ∈ sf, Safe Z EL U.vm h x) (fun _ _ _ _ _ => True) (fun _ U o U' => ∃ v L, o = .returned v ∧ (Q v U'.heap ∧ Keep h U'.heap wr ∧ Fr n0 L) ∧ CHr Z EL U.vm U.heap U'.vm U'.heap ∧ ReturnedEndW U o U' L rm.cells rm.slots)
theorem Wk.ew (w : Wk p l e R s m args below meth c Z a0 EL n0 own nw st vm0 h g cells slots) : EW Z a0 EL := by
  obtain ⟨T, locs, k0, X, eT, hS, hk, hZ, hown, N, hnw, hE, hC, hx, pre⟩ := w; exact hE
theorem WMet.pay {y : MethodName} {bytes : ByteArray} {maxL : Nat} {ret : Option FieldType} {rm : Room} {as' : List Value} {sf wr : List Addr} {Q : Option Value → Heap → Prop} {W : Nat} (M : WMet l Z EL y bytes maxL ret [] rm as' h n0 sf wr Q)
    (hw : Wk p l e R s m args below meth c Z a0 EL n0 own nw st vm0 h g cells slots) (wc : (Cond.code y bytes maxL ret).before a0 Z = true) (wz : (Cond.initialized y.cls).before a0 Z = true) (hf : rm.frames + 1 ≤ R.frames) (hl : W + (maxL + 11) + rm.locals ≤ R.locals) (hsf : ∀ x ∈ sf, h.size > x ∧ Safe Z EL vm0 h x) :
    PayW l R p e below (s.setVm vm0) args y W as' h rm.cells rm.slots n0 wr Q Z EL vm0 := by
  have hZ : Z.Warmed39 vm0 := hw.hZ
  have hEL := hw.ew
  have H := hw.chv
  refine BackS.of_freeW (bytes := bytes) (maxL := maxL) (ret := ret) (E := fun _ first o t L k n => k = rm.cells ∧ n = rm.slots ∧ (∃ v, o = .returned v ∧ (Q v t.heap ∧ Keep h t.heap wr ∧ Fr n0 L)) ∧ CHr Z EL first.vm first.heap t.vm t.heap) M hf hl ?_ ?_ ?_ ?_ ?_
  · intro m meth c A a Y hp
    have hU : Z.Warmed39 A.U.vm := wtrans (s := s.setVm vm0) hZ Y.warmed
    exact ⟨by show (Cond.and _ .tt).before a A.U = true; rw [Cond.before_and, mv hU wc]; rfl, mv hU wc, mv hU wz, hp.2.2.1, hp.2.2.2⟩
  · intro m meth c A a g mk Y hp
    have C := CHv.at Y hZ hEL H
    exact ⟨hp.1, wtrans (s := s.setVm vm0) hZ Y.warmed, hp.2.1, C.1, fun x hx => C.safe (hsf x hx).1 (hsf x hx).2⟩
  · exact fun _ _ _ _ _ _ _ _ _ => trivial
  · exact fun _ _ _ _ ⟨v, L, h1, h2, h3, h4⟩ => ⟨L, _, _, h4, rfl, rfl, ⟨v, h1, h2⟩, h3⟩
  · intro m meth c A a g mk v t L k n Y hp _ _ q
    obtain ⟨e1, e2, ⟨v', e3, e4⟩, e5⟩ := q
    cases e3; subst e1 e2
    refine ⟨L, e4, rfl, rfl, rfl, (CHv.at Y hZ hEL H).trans ?_⟩
    rw [← hp.2.1]; exact e5
theorem Wk.callSW (w : Wk p l e R s m args below meth c Z a0 EL n0 own false st vm0 h g cells slots) (hx : p.tables.exec = Jvm.exec) {y : MethodName} {bytes : ByteArray} {maxL : Nat} {ret : Option FieldType} {index W kc ks : Nat} {as' : List Value} {wr : List Addr} {Q : Option Value → Heap → Prop}
    (w1 : (Cond.methodLink own index y).before a0 Z = true) (w2 : (Cond.static y).before a0 Z = true) (w3 : (Cond.initialized y.cls).before a0 Z = true) (w4 : (Cond.code y bytes maxL ret).before a0 Z = true) (hy : y.cls ≠ "java/lang/invoke/MethodHandle" ∧ y.cls ≠ "java/lang/invoke/VarHandle")
    (P : PayW l R p e below (s.setVm vm0) args y W as' h kc ks n0 wr Q Z EL vm0) (hg : g.method = m) (hsize : g.locals.size = c.maxLocals) (rest : List Value) (hlen : ∀ sig, parseMethodDescriptor y.desc = some sig → as'.length = sig.parameters.length) (hstack : g.stack = as'.reverse ++ rest) (hW : 2 * g.monitorRoom + (rest.map fun v => v.category).sum ≤ W)
    (hd : decode c.code g.pc = .ok (.invokestatic index, 3)) (hc : cells + kc ≤ R.cells) (hl : slots + ks ≤ R.slots) (g' : Option Value → JFrame) (hg' : ∀ v, g' v = { g with pc := g.pc + 3, stack := v.toList ++ rest }) :
    ∃ v vm1 h', Q v h' ∧ Keep h h' wr ∧ h.size ≤ h'.size ∧ CHr Z EL vm0 h vm1 h' ∧ Wk p l e R s m args below meth c Z a0 EL n0 own false st vm1 h' (g' v) (cells + kc) (slots + ks) := by
  obtain ⟨T, locs, k0, X, eT, hS, hk, hZ, hown, N, hnw, hE, hC, -, pre⟩ := w
  have hZ' : Z.Warmed39 (s.setVm vm0).vm := hZ
  obtain ⟨v, _, ⟨T', L', k', n'⟩, -, X', hS', hgr, ⟨L, ⟨hQ, hK, hN⟩, l1, l2, l3, hC'⟩, st'⟩ := RoadKit.callSS X hx (y := y) hown (mvT hZ' w1) (mvT hZ' w2) (mvT hZ' w3) (mvT hZ' w4) hy P hg hsize hlen hstack hW hd (fun _ _ => ⟨rfl, eT, hc, hl⟩)
  dsimp only [Pt.U, Pt.locs, Pt.cells, Pt.slots] at X' l1 l2 l3 st' hQ hK hS' hgr hC'
  subst l1 l2 l3
  obtain ⟨X2, S2, Z2, O2⟩ := rebS (own := own) (n1 := T.heap.size) hS (by rw [eT]; exact hk) X' hS' hgr hZ' hown
  exact ⟨v, T'.vm, T'.heap, hQ, hK, hK.1, hC', T', _, T'.heap.size, X2, rfl, S2, Nat.le_refl _, Z2, O2, Fr.app N hN, (fun q => nomatch q), hE, hC.trans hC', hx, fun t k => pre t (st'.trans (hg' v ▸ k))⟩
theorem Wk.callIW (w : Wk p l e R s m args below meth c Z a0 EL n0 own false st vm0 h g cells slots) (hx : p.tables.exec = Jvm.exec) {y : MethodName} {bytes : ByteArray} {maxL : Nat} {index W kc ks : Nat} {a : Addr} {as' : List Value} {wr : List Addr} {Q : Option Value → Heap → Prop}
    (hy1 : y.name = "<init>") (w1 : (Cond.methodLink own index y).before a0 Z = true) (w2 : (Cond.instanceMethod y).before a0 Z = true) (w4 : (Cond.code y bytes maxL none).before a0 Z = true) (hy : y.cls ≠ "java/lang/invoke/MethodHandle" ∧ y.cls ≠ "java/lang/invoke/VarHandle")
    (P : PayW l R p e below (s.setVm vm0) args y W (.ref a :: as') h kc ks n0 wr Q Z EL vm0) (hg : g.method = m) (hsize : g.locals.size = c.maxLocals) (rest : List Value) (hlen : ∀ sig, parseMethodDescriptor y.desc = some sig → as'.length = sig.parameters.length) (hstack : g.stack = as'.reverse ++ .ref a :: rest) (hW : 2 * g.monitorRoom + (rest.map fun v => v.category).sum ≤ W)
    (hd : decode c.code g.pc = .ok (.invokespecial index, 3)) (hc : cells + kc ≤ R.cells) (hl : slots + ks ≤ R.slots) (g' : Option Value → JFrame) (hg' : ∀ v, g' v = { g with pc := g.pc + 3, stack := v.toList ++ rest }) :
    ∃ v vm1 h', Q v h' ∧ Keep h h' wr ∧ h.size ≤ h'.size ∧ CHr Z EL vm0 h vm1 h' ∧ Wk p l e R s m args below meth c Z a0 EL n0 own false st vm1 h' (g' v) (cells + kc) (slots + ks) := by
  obtain ⟨T, locs, k0, X, eT, hS, hk, hZ, hown, N, hnw, hE, hC, -, pre⟩ := w
  have hZ' : Z.Warmed39 (s.setVm vm0).vm := hZ
  obtain ⟨v, _, ⟨T', L', k', n'⟩, -, X', hS', hgr, ⟨L, ⟨hQ, hK, hN⟩, l1, l2, l3, hC'⟩, st'⟩ := X.specialBackS hx (y := y) hy1 hown (mvT hZ' w1) (mvT hZ' w2) (mvT hZ' w4) hy P hg hsize (Steps.refl _) hlen hstack hW hd (fun _ _ => ⟨rfl, eT, hc, hl⟩)
  dsimp only [Pt.U, Pt.locs, Pt.cells, Pt.slots] at X' l1 l2 l3 st' hQ hK hS' hgr hC'
  subst l1 l2 l3
  obtain ⟨X2, S2, Z2, O2⟩ := rebS (own := own) (n1 := T.heap.size) hS (by rw [eT]; exact hk) X' hS' hgr hZ' hown
  exact ⟨v, T'.vm, T'.heap, hQ, hK, hK.1, hC', T', _, T'.heap.size, X2, rfl, S2, Nat.le_refl _, Z2, O2, Fr.app N hN, (fun q => nomatch q), hE, hC.trans hC', hx, fun t k => pre t (st'.trans (hg' v ▸ k))⟩
theorem Wk.callVW (w : Wk p l e R s m args below meth c Z a0 EL n0 own false st vm0 h g cells slots) (hx : p.tables.exec = Jvm.exec) {C : String} {y z : MethodName} {index W kc ks : Nat} {a : Addr} {as' : List Value} {wr : List Addr} {Q : Option Value → Heap → Prop}
    (w1 : (Cond.methodLink own index y).before a0 Z = true) (w2 : (Cond.declares y).before a0 Z = true) (w3 : (Cond.selects C y z).before a0 Z = true) (w4 : (Cond.instanceMethod z).before a0 Z = true) (nf : NotFace (s.setVm vm0) y) (hy : y.cls ≠ "java/lang/invoke/MethodHandle" ∧ y.cls ≠ "java/lang/invoke/VarHandle")
    (P : PayW l R p e below (s.setVm vm0) args z W (.ref a :: as') h kc ks n0 wr Q Z EL vm0) (E : Exa Z h a C) (hg : g.method = m) (hsize : g.locals.size = c.maxLocals) (rest : List Value) (hlen : ∀ sig, parseMethodDescriptor y.desc = some sig → as'.length = sig.parameters.length) (hstack : g.stack = as'.reverse ++ .ref a :: rest) (hW : 2 * g.monitorRoom + (rest.map fun v => v.category).sum ≤ W)
    (hd : decode c.code g.pc = .ok (.invokevirtual index, 3)) (hc : cells + kc ≤ R.cells) (hl : slots + ks ≤ R.slots) (g' : Option Value → JFrame) (hg' : ∀ v, g' v = { g with pc := g.pc + 3, stack := v.toList ++ rest }) :
    ∃ v vm1 h', Q v h' ∧ Keep h h' wr ∧ h.size ≤ h'.size ∧ CHr Z EL vm0 h vm1 h' ∧ Wk p l e R s m args below meth c Z a0 EL n0 own false st vm1 h' (g' v) (cells + kc) (slots + ks) := by
  obtain ⟨T, locs, k0, X, eT, hS, hk, hZ, hown, N, hnw, hE, hC, -, pre⟩ := w
  have hZ' : Z.Warmed39 (s.setVm vm0).vm := hZ
  obtain ⟨cB, kB, q1, -, q3⟩ := isOf (s := s.setVm vm0) hZ' eT E
  obtain ⟨v, _, ⟨T', L', k', n'⟩, -, X', hS', hgr, ⟨L, ⟨hQ, hK, hN⟩, l1, l2, l3, hC'⟩, st'⟩ := X.virtualBackS hx (y := y) (z := z) hown (mvT hZ' w1) (mvT hZ' w2) nf (mvT hZ' w3) (mvT hZ' w4) hy P q1 q3 hg hsize (Steps.refl _) hlen hstack hW hd (fun _ _ => ⟨rfl, eT, hc, hl⟩)
  dsimp only [Pt.U, Pt.locs, Pt.cells, Pt.slots] at X' l1 l2 l3 st' hQ hK hS' hgr hC'
  subst l1 l2 l3
  obtain ⟨X2, S2, Z2, O2⟩ := rebS (own := own) (n1 := T.heap.size) hS (by rw [eT]; exact hk) X' hS' hgr hZ' hown
  exact ⟨v, T'.vm, T'.heap, hQ, hK, hK.1, hC', T', _, T'.heap.size, X2, rfl, S2, Nat.le_refl _, Z2, O2, Fr.app N hN, (fun q => nomatch q), hE, hC.trans hC', hx, fun t k => pre t (st'.trans (hg' v ▸ k))⟩
/-- ldc of a String constant whose text is read -/
theorem Wk.ldcCH (w : Wk p l e R s m args below meth c Z a0 EL n0 own false st vm0 h g cells slots) (hx : p.tables.exec = Jvm.exec) {text : String} {index : Nat} (w1 : (Cond.stringLink own index text).before a0 Z = true) (wS : ∀ a ∈ Bundle.stringAtoms, a.before a0 Z = true) (hmem : (own, index) ∈ EL)
    {vs : List Value} {z : Int32} (ht : (∀ c ∈ text.toList, c.toNat < 256) ∧ text.toList.map (fun c => Value.int (Jvm.Lit.byteI c.toNat.toUInt16)) = vs) (hz : ¬ z < 0) (hl : z.toNatClampNeg = vs.length)
    (hg : g.method = m) (hd : decode c.code g.pc = .ok (.ldc index, 2)) (n : Nat) (hn : 4 * text.toList.length ≤ n) (hbig : n ≤ 536870912) (hc : cells + 2 ≤ R.cells) (hl' : slots + (n + 4) ≤ R.slots) (g' : Addr → JFrame) (hg' : ∀ x, g' x = { g with pc := g.pc + 2, stack := .ref x :: g.stack }) :
    ∃ (a : Nat) (vm1 : Vm) (h' : Heap) (b : Nat) (k : ClassId), Ext h h' ∧ Exa Z h' a "java/lang/String" ∧ Fld Z h' a "java/lang/String" "coder" "B" (.int 0) ∧ Fld Z h' a "java/lang/String" "value" "[B" (.ref b) ∧ Arv Z h' b k .byte z vs (.int 0) ∧ h'.size > a ∧ h'.size > b ∧ CHr Z EL vm0 h vm1 h' ∧ (∀ x : Nat, Safe Z EL vm1 h' x → x ≠ a ∧ x ≠ b) ∧
      Wk p l e R s m args below meth c Z a0 EL n0 own false st vm1 h' (g' a) (cells + 2) (slots + (n + 4)) := by
  obtain ⟨T, locs, k0, X, eT, hS, hk, hZ, hown, N, hnw, hE, hC, -, pre⟩ := w
  obtain ⟨a, T', h', k1, b, k, X', e', E, hS', hk', hZ', hown', q1, q2, q3, q4, q5, q6, q7, -, q8, st'⟩ := RoadKit.ldcCH X hx hZ hown w1 wS eT hS hk hE hmem hC.1 ht hz hl hg hd hn hbig hc hl'
  exact ⟨a, T'.vm, h', b, k, E, q1, q2, q3, q4, q5, q6, q7, q8, T', locs, k1, X', e', hS', hk', hZ', hown', N, (fun q => nomatch q), hE, hC.trans q7, hx, fun t k => pre t (st' t (hg' a ▸ k))⟩
/-- ldc of a String constant, opaque -/
theorem Wk.ldcOH (w : Wk p l e R s m args below meth c Z a0 EL n0 own false st vm0 h g cells slots) (hx : p.tables.exec = Jvm.exec) {text : String} {index : Nat} (w1 : (Cond.stringLink own index text).before a0 Z = true) (wS : ∀ a ∈ Bundle.stringAtoms, a.before a0 Z = true)
    (hg : g.method = m) (hd : decode c.code g.pc = .ok (.ldc index, 2)) (n : Nat) (hn : 4 * text.toList.length ≤ n) (hbig : n ≤ 536870912) (hc : cells + 2 ≤ R.cells) (hl' : slots + (n + 4) ≤ R.slots) (g' : Addr → JFrame) (hg' : ∀ x, g' x = { g with pc := g.pc + 2, stack := .ref x :: g.stack }) :
    ∃ (a : Nat) (vm1 : Vm) (h' : Heap), Ext h h' ∧ CHr Z EL vm0 h vm1 h' ∧ Wk p l e R s m args below meth c Z a0 EL n0 own false st vm1 h' (g' a) (cells + 2) (slots + (n + 4)) := by
  obtain ⟨T, locs, k0, X, eT, hS, hk, hZ, hown, N, hnw, hE, hC, -, pre⟩ := w
  obtain ⟨a, T', h', k1, X', e', E, hS', hk', hZ', hown', q7, -, st'⟩ := RoadKit.ldcOH X hx hZ hown w1 wS eT hS hk hE hC.1 hg hd hn hbig hc hl'
  exact ⟨a, T'.vm, h', E, q7, T', locs, k1, X', e', hS', hk', hZ', hown', N, (fun q => nomatch q), hE, hC.trans q7, hx, fun t k => pre t (st' t (hg' a ▸ k))⟩
theorem Wk.endW (w : Wk p l e R s m args below meth c Z a0 EL n0 own nw st vm0 h g cells slots) {v : Option Value} {Q : Option Value → Heap → Prop} {wr : List Addr} {h0 : Heap} {kc ks : Nat} (hv : meth.sig.returnType = none → v = none) (hlk : meth.locks = false)
    (hret : ∀ {T : State} {locs : List Loc} {fs : List Frame}, Stand p l e R (s.setVm vm0) m args below meth c T locs cells slots → (∀ (f : JFrame) (acts : List Action), f.method = m → f.locked = none → f.entered = [] → (doReturn e (T.setTop f) acts v).1 = T.setFrames fs) → Steps p.tables e below (T.setTop g) (T.setFrames fs))
    (hc : cells ≤ kc) (hl : slots ≤ ks) (hQ : Q v h) (hK : Keep h0 h wr) :
    ∃ s₂ o, Steps p.tables e below st s₂ ∧ s₂.status = .running ∧ Ended s₂ below o ∧ ∃ v L, o = .returned v ∧ (Q v s₂.heap ∧ Keep h0 s₂.heap wr ∧ Fr n0 L) ∧ CHr Z EL s.vm s.heap s₂.vm s₂.heap ∧ ReturnedEndW s o s₂ L kc ks := by
  obtain ⟨s₂, L, h1, h2, h3, h4, h5, -, h6, h7⟩ := w.out hv hlk hret
  exact ⟨s₂, _, h1, h2, h3, v, L, rfl, ⟨h4 ▸ hQ, h4 ▸ hK, h5⟩, h7, h6.1, h6.2.1, h6.2.2.1, h6.2.2.2.mono hc hl⟩
def EndsW (p : Program) (e : Env) (below : List Frame) (st s : State) (Z : State) (EL : List (String × Nat)) (n0 : Nat) (h0 : Heap) (wr : List Addr) (Q : Option Value → Heap → Prop) (kc ks : Nat) : Prop :=
  ∃ s₂ o, Steps p.tables e below st s₂ ∧ s₂.status = .running ∧ Ended s₂ below o ∧ ∃ v L, o = .returned v ∧ (Q v s₂.heap ∧ Keep h0 s₂.heap wr ∧ Fr n0 L) ∧ CHr Z EL s.vm s.heap s₂.vm s₂.heap ∧ ReturnedEndW s o s₂ L kc ks
end OwnWide
end Jvm.Pilot.@@N@@
namespace Jvm.Pilot.@@N@@
open Jvm Jvm.ClassFile Sem Op Lib Jvm.Free Jvm.Stand Jvm.LawKit Jvm.RoadKit Bundle Jvm.Pilot.@@N@@.Jvm.D
section OwnStrB
variable {p : Program} {l : Launch} {e : Env} {R : Room} {s : State} {args : Array Value} {below : List Frame} {Z : State} {a0 : Array Value} {n0 : Nat} {h h' : Heap} {W : Nat} {x : Nat} {cs : List Int32} {b : Nat}
theorem up255 {c : Int32} (q : ¬ (255 : Int32) < c) : ¬ (65535 : Int32) < c := fun r => q (by rw [Int32.lt_iff_toInt_lt] at r ⊢; have e1 : (65535 : Int32).toInt = 65535 := rfl; have e2 : (255 : Int32).toInt = 255 := rfl; omega)
/-- the object x is a String of Latin-1 chars cs; it and its bytes lie below b -/
def Str (Z : State) (h : Heap) (x : Nat) (cs : List Int32) (b : Nat) : Prop := ∃ (t : Nat) (kb : ClassId), Exa Z h x "java/lang/String" ∧ Fld Z h x "java/lang/String" "value" "[B" (.ref t) ∧ Fld Z h x "java/lang/String" "coder" "B" (.int 0) ∧ Arv Z h t kb .byte (Int32.ofNat cs.length) ((cs.map (fun c => c.toInt8.toInt32)).map Value.int) (.int 0) ∧ (∀ c ∈ cs, ¬ c < 0 ∧ ¬ (255 : Int32) < c) ∧ cs.length ≤ 4000 ∧ b > x ∧ b > t
theorem Str.exa (F : Str Z h x cs b) : Exa Z h x "java/lang/String" := by obtain ⟨t, kb, E, r⟩ := F; exact E
theorem Str.lt (F : Str Z h x cs b) : b > x := by obtain ⟨t, kb, -, -, -, -, -, -, q, -⟩ := F; exact q
theorem Str.rng (F : Str Z h x cs b) : ∀ c ∈ cs, ¬ c < 0 ∧ ¬ (255 : Int32) < c := by obtain ⟨t, kb, -, -, -, -, q, -⟩ := F; exact q
theorem Str.len (F : Str Z h x cs b) : cs.length ≤ 4000 := by obtain ⟨t, kb, -, -, -, -, -, q, -⟩ := F; exact q
theorem Str.more (F : Str Z h x cs b) {b' : Nat} (q : b ≤ b') : Str Z h x cs b' := by
  obtain ⟨t, kb, E, V, C, K, r2, r3, r4, r5⟩ := F
  exact ⟨t, kb, E, V, C, K, r2, r3, Nat.lt_of_lt_of_le r4 q, Nat.lt_of_lt_of_le r5 q⟩
theorem Str.ext (F : Str Z h x cs b) (X : Ext h h') : Str Z h' x cs b := by
  obtain ⟨t, kb, E, V, C, K, r⟩ := F
  exact ⟨t, kb, E.ext X, V.ext X, C.ext X, K.ext X, r⟩
theorem Str.keep (F : Str Z h x cs b) {ws : List Addr} (X : Keep h h' ws) (q : ∀ y ∈ ws, b ≤ y) : Str Z h' x cs b := by
  obtain ⟨t, kb, E, V, C, K, r2, r3, r4, r5⟩ := F
  have nx : x ∉ ws := fun z => by have := q x z; omega
  have nt : t ∉ ws := fun z => by have := q t z; omega
  exact ⟨t, kb, E.keep X, V.keep X nx, C.keep X nx, K.keep X nt, r2, r3, r4, r5⟩
theorem Str.wr (F : Str Z h x cs b) {a : Addr} {sl : Nat} {v : Value} (X : Wr h h' a sl v) (q : b ≤ a) : Str Z h' x cs b := F.keep (Keep.of_wr X) (fun y hy => by cases List.mem_singleton.mp hy; exact q)
theorem Str.keepO (F : Str Z h x cs b) {y : Nat} (X : Keep h h' [y]) {C : String} {n : Nat} (E : Exa Z h y C) (hC : C ≠ "java/lang/String") (wi : (Jvm.Cond.instantiable C n).before a0 Z = true) : Str Z h' x cs b := by
  obtain ⟨t, kb, E', V, C', K, r2, r3, r4, r5⟩ := F
  have nx : x ∉ [y] := fun z => by cases List.mem_singleton.mp z; exact Exa.ne E E' hC rfl
  have nt : t ∉ [y] := fun z => by cases List.mem_singleton.mp z; exact Exa.neArv E K wi rfl
  exact ⟨t, kb, E'.keep X, V.keep X nx, C'.keep X nx, K.keep X nt, r2, r3, r4, r5⟩
theorem Str.of (E : Exa Z h x "java/lang/String") {t : Addr} {kb : ClassId} {z : Int32} {vs : List Value} (V : Fld Z h x "java/lang/String" "value" "[B" (.ref t)) (C : Fld Z h x "java/lang/String" "coder" "B" (.int 0)) (K : Arv Z h t kb .byte z vs (.int 0)) (hz : z = Int32.ofNat cs.length) (hv : vs = (cs.map (fun c => c.toInt8.toInt32)).map Value.int) (hp : ∀ c ∈ cs, ¬ c < 0 ∧ ¬ (255 : Int32) < c) (hl : cs.length ≤ 4000) (h1 : b > x) (h2 : b > t) : Str Z h x cs b :=
  ⟨t, kb, E, V, C, by subst hz hv; exact K, hp, hl, h1, h2⟩
end OwnStrB
end Jvm.Pilot.@@N@@
namespace Jvm.Pilot.@@N@@
open Jvm Jvm.ClassFile Sem Op Lib Jvm.Free Jvm.Stand Jvm.LawKit Jvm.RoadKit Bundle Jvm.Pilot.@@N@@.Jvm.D
section OwnStr
variable {p : Program} {l : Launch} {e : Env} {R : Room} {s : State} {args : Array Value} {below : List Frame} {Z : State} {a0 : Array Value} {n0 : Nat} {h h' : Heap} {W : Nat}
theorem nar_i2c (x : Int32) : nar .char (x.toUInt32.toUInt16.toUInt32.toInt32) = x.toUInt32.toUInt16.toUInt32.toInt32 := by simp only [nar, UInt32.toUInt32_toInt32, UInt16.toUInt16_toUInt32]
theorem nar_255 (x : Int32) : nar .char (x &&& (255 : Int32)) = x &&& (255 : Int32) := i2c_mask x
theorem and255_rng (x : Int32) : ¬ (x &&& (255 : Int32)) < 0 ∧ ¬ (255 : Int32) < (x &&& (255 : Int32)) := by
  have q := c_and x (255 : Int32) (by decide)
  have e1 : (255 : Int32).toInt = 255 := rfl
  have e2 : (0 : Int32).toInt = 0 := rfl
  simp only [Int32.lt_iff_toInt_lt, e1, e2] at q ⊢
  omega
theorem rng_ite {P : Prop} [Decidable P] {a b : Int32} (h1 : ¬ a < 0 ∧ ¬ (255 : Int32) < a) (h2 : ¬ b < 0 ∧ ¬ (255 : Int32) < b) : ¬ (if P then a else b) < 0 ∧ ¬ (255 : Int32) < (if P then a else b) := by split <;> assumption
theorem nar_rng {x : Int32} (h : ¬ x < 0 ∧ ¬ (255 : Int32) < x) : nar .char x = x := by
  have e : x = x &&& 255 := by
    apply Int32.toInt_inj.mp
    have q := c_mask x 255 8 (by decide) (by decide)
    simp only [Int32.lt_iff_toInt_lt, show (255 : Int32).toInt = 255 from rfl, show (0 : Int32).toInt = 0 from rfl] at h
    rw [q]; omega
  rw [e]; exact nar_255 x
/-- the JDK's statics that the sheet's sets name -/
def SetsOk (Z : State) : Prop := ∃ (G1 : Int32) (G3 : Value), Sta Z Z.heap "java/lang/String" "COMPACT_STRINGS" "Z" (.int G1) ∧ ¬ (G1 = (0 : Int32)) ∧ Sta Z Z.heap "jdk/internal/util/Preconditions" "SIOOBE_FORMATTER" "Ljava/util/function/BiFunction;" G3 ∧ G3.isRef = true
theorem payNew (hG : SetsOk Z) (hZ : Z.Warmed39 s.vm) (hws : ∀ d ∈ StrChars.Road.words, d.before a0 Z = true) (wi : (Jvm.Cond.instantiable "java/lang/String" 4).before a0 Z = true)
    {x b : Nat} {kC : ClassId} {d v0 c0 : Value} {N : Int32} (cs : List Int32) (n : Nat) (hx0 : n0 ≤ x) (E : Exa Z h x "java/lang/String") (V : Fld Z h x "java/lang/String" "value" "[B" v0) (C : Fld Z h x "java/lang/String" "coder" "B" c0) (K : Arv Z h b kC .char N (cs.map Value.int) d) (X0 : Old Z n0 h)
    (hn : cs.length = n) (hN : N = Int32.ofNat n) (l0 : 0 < n) (l2 : n ≤ 4000) (hp : ∀ c ∈ cs, ¬ c < 0 ∧ ¬ (255 : Int32) < c) (hfr : 4 ≤ R.frames) (hlo : W + 65 ≤ R.locals) :
    Pay l R p e below s args (⟨"java/lang/String", "<init>", "([C)V"⟩ : MethodName) W [.ref x, .ref b] h 1 n n0 [x] (fun v h' => v = none ∧ Str Z h' x cs h'.size) := by
  obtain ⟨G1, G3, S1, P1, -, -⟩ := hG
  refine Back.mono (StrChars.Road.backV (n0 := n0) (bs := cs.map (fun c => c.toInt8.toInt32)) hZ hws wi hx0 (by have := X0.1; have := X0.2.1; omega) E V C K (S1.ext X0.2) P1 hn hN l0 l2 hp rfl hfr hlo) (fun P a hp => hp) (fun P a v B hp' hq => ?_)
  obtain ⟨L, ⟨q1, q2, q3, q4, q5, t, kb, q6, q7, q8, q9, q10⟩, r1, r2, r3⟩ := hq
  exact ⟨L, ⟨⟨q1, Str.of q4 q9 q5 q10 (by rw [hN, hn]) rfl hp (by omega) q4.lt q10.lt⟩, q3, q2⟩, r1, r2, r3⟩
end OwnStr
end Jvm.Pilot.@@N@@
namespace Jvm.Pilot.@@N@@
open Jvm Jvm.ClassFile Sem Op Lib Jvm.Free Jvm.Stand Jvm.LawKit Jvm.RoadKit Bundle Jvm.Pilot.@@N@@.Jvm.D
section OwnPay
variable {p : Program} {l : Launch} {e : Env} {R : Room} {s : State} {args : Array Value} {below : List Frame} {Z : State} {a0 : Array Value} {n0 : Nat} {h h' : Heap} {W : Nat} {x : Nat} {cs : List Int32} {b : Nat}
theorem payLen (hG : SetsOk Z) (hZ : Z.Warmed39 s.vm) (hws : ∀ d ∈ StrChars.Road.wordsLen, d.before a0 Z = true) (wi : (Jvm.Cond.instantiable "java/lang/String" 4).before a0 Z = true) (F : Str Z h x cs b) (X0 : Old Z n0 h) (hfr : 2 ≤ R.frames) (hlo : W + 25 ≤ R.locals) :
    Pay l R p e below s args (⟨"java/lang/String", "length", "()I"⟩ : MethodName) W [.ref x] h 0 0 n0 [] (fun v h' => v = some (.int (Int32.ofNat cs.length)) ∧ h = h') := by
  obtain ⟨G1, G3, S1, P1, -, -⟩ := hG
  obtain ⟨t, kb, E, V, C, K, r2, r3, r4, r5⟩ := F
  have r1 := StrChars.Road.codOf (cs := cs) rfl (fun c hc => (r2 c hc).2)
  have r2' : ∀ c ∈ cs, ¬ c < 0 ∧ ¬ (65535 : Int32) < c := fun c hc => ⟨(r2 c hc).1, up255 (r2 c hc).2⟩
  refine Back.mono (StrChars.Road.lenW hZ hws wi E V C K r1 r2' (S1.ext X0.2) P1 r3 hfr hlo) (fun P a hp => hp) (fun P a v B hp hq => ?_)
  obtain ⟨L, ⟨q1, rfl, q3⟩, s1, s2, s3⟩ := hq
  exact ⟨[], ⟨⟨q1, q3.symm⟩, by rw [q3]; exact Keep.refl _ _, Fr.nil _⟩, s1, s2, s3⟩
theorem payCh (hG : SetsOk Z) (hZ : Z.Warmed39 s.vm) (hws : ∀ d ∈ StrChars.Road.wordsChN, d.before a0 Z = true) (wi : (Jvm.Cond.instantiable "java/lang/String" 4).before a0 Z = true) (F : Str Z h x cs b) (X0 : Old Z n0 h) (i : Nat) {j : Int32} (hi : i < cs.length) (hj : j = Int32.ofNat i) (hfr : 4 ≤ R.frames) (hlo : W + 53 ≤ R.locals) :
    Pay l R p e below s args (⟨"java/lang/String", "charAt", "(I)C"⟩ : MethodName) W [.ref x, .int j] h 0 0 n0 [] (fun v h' => v = some (.int (cs.getD i 0)) ∧ h = h') := by
  obtain ⟨G1, G3, S1, P1, S3, P3⟩ := hG
  obtain ⟨t, kb, E, V, C, K, r2, r3, r4, r5⟩ := F
  have r1 := StrChars.Road.codOf (cs := cs) rfl (fun c hc => (r2 c hc).2)
  have r2' : ∀ c ∈ cs, ¬ c < 0 ∧ ¬ (65535 : Int32) < c := fun c hc => ⟨(r2 c hc).1, up255 (r2 c hc).2⟩
  refine Back.mono (StrChars.Road.chN hZ hws wi E V C K r1 r2' (S1.ext X0.2) P1 (S3.ext X0.2) P3 r3 hi hj hfr hlo) (fun P a hp => hp) (fun P a v B hp hq => ?_)
  obtain ⟨L, ⟨q1, rfl, q3⟩, s1, s2, s3⟩ := hq
  exact ⟨[], ⟨⟨q1, q3.symm⟩, by rw [q3]; exact Keep.refl _ _, Fr.nil _⟩, s1, s2, s3⟩
theorem payEq (hG : SetsOk Z) (hZ : Z.Warmed39 s.vm) (hws : ∀ d ∈ StrChars.Road.wordsEq, d.before a0 Z = true) (wi : (Jvm.Cond.instantiable "java/lang/String" 4).before a0 Z = true) (F : Str Z h x cs b) {y : Nat} {ds : List Int32} {b' : Nat} (F' : Str Z h y ds b') (X0 : Old Z n0 h) (hfr : 2 ≤ R.frames) (hlo : W + 28 ≤ R.locals) :
    Pay l R p e below s args (⟨"java/lang/String", "equals", "(Ljava/lang/Object;)Z"⟩ : MethodName) W [.ref x, .ref y] h 0 0 n0 [] (fun v h' => v = some (.int (if cs = ds then 1 else 0)) ∧ h = h') := by
  obtain ⟨G1, G3, S1, P1, -, -⟩ := hG
  obtain ⟨t, kb, E, V, C, K, r2, r3, r4, r5⟩ := F
  have r1 := StrChars.Road.codOf (cs := cs) rfl (fun c hc => (r2 c hc).2)
  have r2' : ∀ c ∈ cs, ¬ c < 0 ∧ ¬ (65535 : Int32) < c := fun c hc => ⟨(r2 c hc).1, up255 (r2 c hc).2⟩
  obtain ⟨t', kb', E', V', C', K', u2, u3, u4, u5⟩ := F'
  have u1 := StrChars.Road.codOf (cs := ds) rfl (fun c hc => (u2 c hc).2)
  have u2' : ∀ c ∈ ds, ¬ c < 0 ∧ ¬ (65535 : Int32) < c := fun c hc => ⟨(u2 c hc).1, up255 (u2 c hc).2⟩
  refine Back.mono (StrChars.Road.eqW hZ hws wi E V C K r1 r2' r3 E' V' C' K' u1 u2' u3 (S1.ext X0.2) P1 hfr hlo) (fun P a hp => hp) (fun P a v B hp hq => ?_)
  obtain ⟨L, ⟨q1, rfl, q3⟩, s1, s2, s3⟩ := hq
  refine ⟨[], ⟨⟨?_, q3.symm⟩, by rw [q3]; exact Keep.refl _ _, Fr.nil _⟩, s1, s2, s3⟩
  rcases q1 with ⟨q, r⟩ | ⟨q, r⟩
  · rw [q, if_pos r]
  · rw [q, if_neg r]
end OwnPay
end Jvm.Pilot.@@N@@
namespace Jvm.Pilot.@@N@@
open Jvm Jvm.ClassFile Sem Op Lib Jvm.Free Jvm.Stand Jvm.LawKit Jvm.RoadKit Bundle Jvm.Pilot.@@N@@.Jvm.D
section OwnStart
variable {s : State} {args : Array Value} {cs : List Int32}
theorem cell_of_arr {sd : Addr} {SA : Cell} (h : s.arrayAt? sd = some SA) : s.heap[sd]? = some SA := by
  simp only [State.arrayAt?, Option.bind_eq_bind] at h
  cases q : s.heap[sd]? with
  | none => simp [q] at h
  | some x => simp only [q, Option.bind_some] at h; grind
/-- the words of a sheet on a String whose chars it names -/
theorem str_start {t : Term} {x : Addr} (hf : Fit s) (ev : t.eval args s none [] s = some (.ref x)) (ex : (Cond.exactly t "java/lang/String").value args s none s [] = some true) (ec : (Cond.eq (Term.field t "java/lang/String" "coder" "B") (.int 0)).value args s none s [] = some true)
    (ea : (Cond.arrayOf (Term.field t "java/lang/String" "value" "[B") .byte).value args s none s [] = some true) {z : Int32} (el : (Cond.eq (.length (Term.field t "java/lang/String" "value" "[B")) (.int z)).value args s none s [] = some true) (hz : z = Int32.ofNat cs.length) (hl : cs.length ≤ 4000)
    (ee : ∀ j, j < cs.length → (Cond.eq (.elem (Term.field t "java/lang/String" "value" "[B") (.int (Int32.ofNat j))) (.int (cs.getD j 0))).value args s none s [] = some true) (hb : cs.map (fun c => c.toInt8.toInt32) = cs) (hr : ∀ c ∈ cs, ¬ c < 0 ∧ ¬ (255 : Int32) < c) : Str s s.heap x cs s.heap.size := by
  have hcod := Cond.eq_int (Cond.before_iff.mpr ec) rfl
  have hlen := Cond.eq_int (Cond.before_iff.mpr el) rfl
  rw [fld_at ev] at hcod
  obtain ⟨sd, SA, hev, harrAt, -⟩ := Term.length_spec hlen
  have h31 := SBG.length_lt hev harrAt hlen
  obtain ⟨c, A⟩ := Arr.start hev ea
  have hcell := cell_of_arr harrAt
  obtain rfl : SA = c := Option.some.inj (hcell.symm.trans A.1)
  have hsz : SA.slots.size = cs.length := by
    have e0 : ∀ V : Term, V.eval args s none [] s = some (.ref sd) → (Term.length V).eval args s none [] s = some (.int (Int32.ofNat SA.slots.size)) := fun V q => by simp [Term.eval, q, harrAt, h31]
    have e := e0 _ hev
    have h2 : Int32.ofNat SA.slots.size = Int32.ofNat cs.length := by rw [hz] at hlen; simpa using Option.some.inj (e.symm.trans hlen)
    have := congrArg Int32.toInt h2
    rw [Int32.toInt_ofNat_small h31, Int32.toInt_ofNat_small (by omega)] at this; omega
  have hat : ∀ j, j < cs.length → SA.slots[j]? = some (.int (cs.getD j 0)) := fun j hj => by
    have e1 := Cond.eq_int (Cond.before_iff.mpr (ee j hj)) rfl
    rw [SBG.elem_at (ix := .int (Int32.ofNat j)) hev harrAt (by omega) h31 rfl] at e1; exact e1
  have ez : (Int32.ofNat cs.length).toInt = cs.length := Int32.toInt_ofNat_of_lt (by omega)
  have H : Has SA (cs.map Value.int) (.int 0) := fun j hj => by
    rw [hat j (by omega)]; simp [show j < cs.length by omega, List.getD_eq_getElem?_getD]
  have K : Arv s s.heap sd SA.cls .byte (Int32.ofNat cs.length) (cs.map Value.int) (.int 0) := by
    refine ⟨SA, A, rfl, ?_, ?_, H, fun j hj => ?_⟩
    · rw [hsz]; show cs.length = (Int32.ofNat cs.length).toInt.toNat; omega
    · rw [Int32.lt_iff_toInt_lt, ez]; show ¬ (cs.length : Int) < 0; omega
    · have e1 : (Nat.toInt32 j).toNatClampNeg = j := by simp only [Int32.toNatClampNeg, len_toInt (Nat.lt_trans hj h31)]; rfl
      exact elem_fits (j := Nat.toInt32 j) hf A (idx_in hj h31) (by rw [e1]; exact H j hj)
  have E := Exa.start ev ex
  rw [fld_at ev] at hev
  exact Str.of E (Fld.start hev) (Fld.start hcod) K rfl (by rw [hb]) hr hl E.lt K.lt
/-- an array whose length and components a sheet names -/
theorem arv_start {t : Term} {x : Addr} {ty : FieldType} {vs : List Value} {dv : Value} (hf : Fit s) (ev : t.eval args s none [] s = some (.ref x)) (ea : (Cond.arrayOf t ty).value args s none s [] = some true) {z : Int32} (el : (Cond.eq (.length t) (.int z)).value args s none s [] = some true) (hz : z = Int32.ofNat vs.length) (hl : vs.length ≤ 4000)
    (ee : ∀ j, j < vs.length → (Term.elem t (.int (Int32.ofNat j))).eval args s none [] s = some (vs.getD j dv)) : ∃ k, Arv s s.heap x k ty z vs dv := by
  have hlen := Cond.eq_int (Cond.before_iff.mpr el) rfl
  obtain ⟨sd, SA, hev, harrAt, -⟩ := Term.length_spec hlen
  obtain rfl : x = sd := by have := ev.symm.trans hev; simpa using this
  have h31 := SBG.length_lt hev harrAt hlen
  obtain ⟨c, A⟩ := Arr.start hev ea
  have hcell := cell_of_arr harrAt
  obtain rfl : SA = c := Option.some.inj (hcell.symm.trans A.1)
  subst hz
  have hsz : SA.slots.size = vs.length := by
    have e0 : ∀ V : Term, V.eval args s none [] s = some (.ref x) → (Term.length V).eval args s none [] s = some (.int (Int32.ofNat SA.slots.size)) := fun V q => by simp [Term.eval, q, harrAt, h31]
    have e := e0 _ hev
    have h2 : Int32.ofNat SA.slots.size = Int32.ofNat vs.length := by simpa using Option.some.inj (e.symm.trans hlen)
    have := congrArg Int32.toInt h2
    rw [Int32.toInt_ofNat_small h31, Int32.toInt_ofNat_small (by omega)] at this; omega
  have hat : ∀ j, j < vs.length → SA.slots[j]? = some (vs.getD j dv) := fun j hj => by
    have e1 := ee j hj
    rw [SBG.elem_at (ix := .int (Int32.ofNat j)) hev harrAt (by omega) h31 rfl] at e1; exact e1
  have ez : (Int32.ofNat vs.length).toInt = vs.length := Int32.toInt_ofNat_of_lt (by omega)
  have H : Has SA vs dv := fun j hj => by rw [hat j (by omega)]
  refine ⟨SA.cls, SA, A, rfl, ?_, ?_, H, fun j hj => ?_⟩
  · rw [hsz]; show vs.length = (Int32.ofNat vs.length).toInt.toNat; omega
  · rw [Int32.lt_iff_toInt_lt, ez]; show ¬ (vs.length : Int) < 0; omega
  · have e1 : (Nat.toInt32 j).toNatClampNeg = j := by simp only [Int32.toNatClampNeg, len_toInt (Nat.lt_trans hj h31)]; rfl
    exact elem_fits (j := Nat.toInt32 j) hf A (idx_in hj h31) (by rw [e1]; exact H j hj)
theorem eq_at {a b : Term} {v : Value} (h : (Cond.eq a b).value args s none s [] = some true) (hb : b.eval args s none [] s = some v) (hv : v.isRef = true) : a.eval args s none [] s = some v := Cond.eq_refs (Cond.before_iff.mpr h) hb hv
end OwnStart
end Jvm.Pilot.@@N@@
namespace Jvm.Pilot.@@N@@
open Jvm Jvm.ClassFile Sem Op Lib Jvm.Free Jvm.Stand Jvm.LawKit Jvm.RoadKit Bundle Jvm.Pilot.@@N@@.Jvm.D
theorem de2_0 : decode jdk_42_method_149_code 0 = .ok (.aload_n 0, 1) := by decide +kernel
theorem de2_1 : decode jdk_42_method_149_code 1 = .ok (.invokespecial 1, 3) := by decide +kernel
theorem de2_4 : decode jdk_42_method_149_code 4 = .ok (.iload_n 3, 1) := by decide +kernel
theorem de2_5 : decode jdk_42_method_149_code 5 = .ok (.ifCond .ne 22, 3) := by decide +kernel
theorem de2_8 : decode jdk_42_method_149_code 8 = .ok (.aload_n 0, 1) := by decide +kernel
theorem de2_9 : decode jdk_42_method_149_code 9 = .ok (.ldc 7, 2) := by decide +kernel
theorem de2_11 : decode jdk_42_method_149_code 11 = .ok (.getfield 9, 3) := by decide +kernel
theorem de2_14 : decode jdk_42_method_149_code 14 = .ok (.putfield 9, 3) := by decide +kernel
theorem de2_17 : decode jdk_42_method_149_code 17 = .ok (.aload_n 0, 1) := by decide +kernel
theorem de2_18 : decode jdk_42_method_149_code 18 = .ok (.ldc 7, 2) := by decide +kernel
theorem de2_20 : decode jdk_42_method_149_code 20 = .ok (.getfield 15, 3) := by decide +kernel
theorem de2_23 : decode jdk_42_method_149_code 23 = .ok (.putfield 15, 3) := by decide +kernel
theorem de2_26 : decode jdk_42_method_149_code 26 = .ok (.return_, 1) := by decide +kernel
theorem efe2 (m : MethodId) (x0 : Nat) (x1 : Nat) (x2 : Int32) (x3 : Int32) : entryFrame m #[(.ref x0), (.ref x1), (.int x2), (.int x3), .null] 6 = mkF m 0 #[.val (.ref x0), .val (.ref x1), .val (.int x2), .val (.int x3), .val .null, .unset] [] := by first | (simp [entryFrame, mkF, argsToLocals, Value.category, maxLocals]; done) | rfl
theorem pn_0 : plainFor (⟨"java/lang/String", "<init>", "([CIILjava/lang/Void;)V"⟩ : MethodName) = true := by first | decide +kernel | (apply plainFor_of_name; simp [plainName, overriddenIn]; done)
set_option maxRecDepth 65536 in
set_option maxHeartbeats 40000000 in
theorem rme2 (l : Launch) (Z : State) (a0 : Array Value) (hw : ∀ d ∈ tables_1, d.before a0 Z = true) (hE : EW Z a0 consts_1) (x b : Nat) (h0 : Heap) (n0 : Nat) (Z0 : n0 ≤ h0.size) (gx : n0 ≤ x) (E0 : Exa Z h0 x "java/lang/String") (F01 : Fld Z h0 x "java/lang/String" "value" "[B" .null) (F02 : Fld Z h0 x "java/lang/String" "coder" "B" (.int (0 : Int32))) :
    WMet l Z consts_1 (⟨"java/lang/String", "<init>", "([CIILjava/lang/Void;)V"⟩ : MethodName) jdk_42_method_149_code 6 none [] ({ frames := 1, cells := 4, slots := 8, locals := 12 } : Room) [(.ref x), (.ref b), (.int (0 : Int32)), (.int (0 : Int32)), .null] h0 n0 [x] [x] (fun v h => v = none ∧ Str Z h x [] h.size) := by
  refine MetFree.of_bodySF pn_0 hisR ?_
  intro p e s m args below meth c s₁ Bd hml0 hP hK
  obtain ⟨rfl, hZ, hh, hC, hSf⟩ := hP
  have hx := Bd.exec
  have hby := Bd.bytes
  have hml : c.maxLocals = 6 := hml0
  have hnm := (name_of_methodNamed Bd.named Bd.method).1
  have w0 := Wk.start (a0 := a0) (EL := consts_1) (n0 := n0) (nw := false) Bd hZ hh hE hC (efe2 m x b (0 : Int32) (0 : Int32)) ({ frames := 1, cells := 4, slots := 8, locals := 12 } : Room) rfl
  have K0 : Keep h0 h0 [x] := Keep.refl _ _
  have lt_x := exlt E0
  have hS : ∀ d ∈ Bundle.stringAtoms, d.before a0 Z = true := fun d hd => hw d ((by decide +kernel : ∀ d ∈ Bundle.stringAtoms, d ∈ tables_1) d hd)
  have w1 := w0.pure (mkF m 1 #[.val (.ref x), .val (.ref b), .val (.int (0 : Int32)), .val (.int (0 : Int32)), .val .null, .unset] [(.ref x)]) (fun X eT hZ hown k => by
      show Steps _ _ _ (State.setTop _ (mkF m 0 #[.val (.ref x), .val (.ref b), .val (.int (0 : Int32)), .val (.int (0 : Int32)), .val .null, .unset] [])) _
      refine S.aloadN X.here hx (hb hby de2_0) rfl rfl ?_
      exact k)
  have w2 := w1.same (mkF m 4 #[.val (.ref x), .val (.ref b), .val (.int (0 : Int32)), .val (.int (0 : Int32)), .val .null, .unset] []) (fun X eT hZ hown => initO X hx hZ hown (hw _ (List.mem_of_getElem? (i := 60) rfl)) (hw _ (List.mem_of_getElem? (i := 61) rfl)) (hw _ (List.mem_of_getElem? (i := 62) rfl)) eT (g := (mkF m 1 #[.val (.ref x), .val (.ref b), .val (.int (0 : Int32)), .val (.int (0 : Int32)), .val .null, .unset] [(.ref x)])) rfl (by rw [hml]; rfl) rfl (hb hby de2_1) (by decide) (W := 0) (by show 2 * 0 + _ ≤ _; exact Nat.le_of_eq rfl) (by decide))
  have w3 := w2.pure (mkF m 9 #[.val (.ref x), .val (.ref b), .val (.int (0 : Int32)), .val (.int (0 : Int32)), .val .null, .unset] [(.ref x)]) (fun X eT hZ hown k => by
      show Steps _ _ _ (State.setTop _ (mkF m 4 #[.val (.ref x), .val (.ref b), .val (.int (0 : Int32)), .val (.int (0 : Int32)), .val .null, .unset] [])) _
      refine S.iloadN X.here hx (hb hby de2_4) rfl ?_
      refine S.ifNo X.here hx (hb hby de2_5) (by decide) ?_
      refine S.aloadN X.here hx (hb hby de2_8) rfl rfl ?_
      exact k)
  obtain ⟨b4, vm4, h4, t4, k4, E4, A4, F4c, F4v, V4, l4, m4, C4, N4, w4⟩ := w3.ldcCH hx (text := "") (hw _ (List.mem_of_getElem? (i := 93) rfl)) hS (List.mem_of_getElem? (i := 2) rfl) (vs := []) (z := (0 : Int32)) ⟨by decide, by decide⟩ (by decide) (by decide) rfl (hb hby de2_9) 0 (by decide) (by decide) (by decide) (by decide) (fun xq => (mkF m 11 #[.val (.ref x), .val (.ref b), .val (.int (0 : Int32)), .val (.int (0 : Int32)), .val .null, .unset] (.ref xq :: [(.ref x)]))) (fun _ => rfl)
  have z4 := E4.1
  have K5 : Keep h0 h4 [x] := K0.ext E4
  have F6 := chs C4 (by omega) (hSf _ (List.mem_of_getElem? (i := 0) rfl))
  have N4_x := N4 x F6
  have S4 : Str Z h4 b4 [] h4.size := Str.of A4 F4v F4c V4 rfl rfl (fun _ q => nomatch q) (by decide) l4 m4
  have w7 := w4.same (mkF m 14 #[.val (.ref x), .val (.ref b), .val (.int (0 : Int32)), .val (.int (0 : Int32)), .val .null, .unset] [(.ref t4), (.ref x)]) (fun X eT hZ hown => getF X hx hZ hown (host := "") (Or.inl (hw _ (List.mem_of_getElem? (i := 13) rfl))) Via.refl eT F4v (g := (mkF m 11 #[.val (.ref x), .val (.ref b), .val (.int (0 : Int32)), .val (.int (0 : Int32)), .val .null, .unset] [(.ref b4), (.ref x)])) rfl rfl (hb hby de2_11))
  have F8 := F01.ext E4
  have F9 := E0.ext E4
  obtain ⟨h10, W10, z10, F10, w10⟩ := w7.putF hx (host := "") (Or.inl (hw _ (List.mem_of_getElem? (i := 13) rfl))) Via.refl F8 F9 (Or.inr ⟨(hw _ (List.mem_of_getElem? (i := 4) rfl)), rfl, hnm⟩) (hw _ (List.mem_of_getElem? (i := 2) rfl)) (ty := (.array .byte)) (by decide) rfl rfl rfl rfl (hb hby de2_14) (by omega) F6 (mkF m 17 #[.val (.ref x), .val (.ref b), .val (.int (0 : Int32)), .val (.int (0 : Int32)), .val .null, .unset] []) rfl
  have K11 : Keep h0 h10 [x] := K5.wr W10 (Or.inl (List.mem_of_getElem? (i := 0) rfl))
  have w12 := w10.pure (mkF m 18 #[.val (.ref x), .val (.ref b), .val (.int (0 : Int32)), .val (.int (0 : Int32)), .val .null, .unset] [(.ref x)]) (fun X eT hZ hown k => by
      show Steps _ _ _ (State.setTop _ (mkF m 17 #[.val (.ref x), .val (.ref b), .val (.int (0 : Int32)), .val (.int (0 : Int32)), .val .null, .unset] [])) _
      refine S.aloadN X.here hx (hb hby de2_17) rfl rfl ?_
      exact k)
  obtain ⟨b13, vm13, h13, t13, k13, E13, A13, F13c, F13v, V13, l13, m13, C13, N13, w13⟩ := w12.ldcCH hx (text := "") (hw _ (List.mem_of_getElem? (i := 93) rfl)) hS (List.mem_of_getElem? (i := 2) rfl) (vs := []) (z := (0 : Int32)) ⟨by decide, by decide⟩ (by decide) (by decide) rfl (hb hby de2_18) 0 (by decide) (by decide) (by decide) (by decide) (fun xq => (mkF m 20 #[.val (.ref x), .val (.ref b), .val (.int (0 : Int32)), .val (.int (0 : Int32)), .val .null, .unset] (.ref xq :: [(.ref x)]))) (fun _ => rfl)
  have z13 := E13.1
  have K14 : Keep h0 h13 [x] := K11.ext E13
  have F15 := Safe.wr W10 F6 w7.chv F6
  have F16 := chs C13 (by omega) F15
  have N13_x := N13 x F16
  have S13 : Str Z h13 b13 [] h13.size := Str.of A13 F13v F13c V13 rfl rfl (fun _ q => nomatch q) (by decide) l13 m13
  have w17 := w13.same (mkF m 23 #[.val (.ref x), .val (.ref b), .val (.int (0 : Int32)), .val (.int (0 : Int32)), .val .null, .unset] [(.int (0 : Int32)), (.ref x)]) (fun X eT hZ hown => getF X hx hZ hown (host := "") (Or.inl (hw _ (List.mem_of_getElem? (i := 20) rfl))) Via.refl eT F13c (g := (mkF m 20 #[.val (.ref x), .val (.ref b), .val (.int (0 : Int32)), .val (.int (0 : Int32)), .val .null, .unset] [(.ref b13), (.ref x)])) rfl rfl (hb hby de2_20))
  have F18 := F02.ext E4
  have F19 := F18.other W10 (Or.inr (slot_ne (Or.inr (hw _ (List.mem_of_getElem? (i := 5) rfl))) (Or.inr (hw _ (List.mem_of_getElem? (i := 4) rfl))) (by decide) (t := .byte) (t' := (.array .byte)) (by decide) (by decide)))
  have F20 := F19.ext E13
  have F21 := F9.wr W10
  have F22 := F21.ext E13
  obtain ⟨h23, W23, z23, F23, w23⟩ := w17.putFN hx (hw _ (List.mem_of_getElem? (i := 20) rfl)) Via.refl (.int (0 : Int32)) F20 F22 (Or.inr ⟨(hw _ (List.mem_of_getElem? (i := 5) rfl)), rfl, hnm⟩) (hw _ (List.mem_of_getElem? (i := 2) rfl)) (ty := .byte) (by decide) rfl rfl rfl rfl (hb hby de2_23) (by omega) F16 (mkF m 26 #[.val (.ref x), .val (.ref b), .val (.int (0 : Int32)), .val (.int (0 : Int32)), .val .null, .unset] []) rfl
  have K24 : Keep h0 h23 [x] := K14.wr W23 (Or.inl (List.mem_of_getElem? (i := 0) rfl))
  have F25 := F22.wr W23
  have F26 := F10.ext E13
  have F27 := F26.other W23 (Or.inr (slot_ne (Or.inr (hw _ (List.mem_of_getElem? (i := 4) rfl))) (Or.inr (hw _ (List.mem_of_getElem? (i := 5) rfl))) (by decide) (t := (.array .byte)) (t' := .byte) (by decide) (by decide)))
  have F28 := V4.other W10 (nne (by omega))
  have F29 := F28.ext E13
  have F30 := F29.other W23 (nne (by omega))
  exact w23.endW (v := none) (Q := (fun v h => v = none ∧ Str Z h x [] h.size)) (wr := [x]) (h0 := h0) (fun _ => rfl) Bd.notSynchronized (fun X hr => X.returnOut hx Bd.returns (hb hby de2_26) hr) (by decide) (by decide) ⟨rfl, Str.of F25 F27 F23 F30 rfl rfl (fun _ q => nomatch q) (Nat.le_of_ble_eq_true rfl) (exlt F25) (arlt F30)⟩ K24
theorem pd_0 : parseMethodDescriptor "([CIILjava/lang/Void;)V" = some ⟨[(.array .char), .int, .int, (.object "java/lang/Void")], none⟩ := by decide +kernel
theorem de1_0 : decode jdk_42_method_3_code 0 = .ok (.aload_n 0, 1) := by decide +kernel
theorem de1_1 : decode jdk_42_method_3_code 1 = .ok (.aload_n 1, 1) := by decide +kernel
theorem de1_2 : decode jdk_42_method_3_code 2 = .ok (.iconst 0, 1) := by decide +kernel
theorem de1_3 : decode jdk_42_method_3_code 3 = .ok (.aload_n 1, 1) := by decide +kernel
theorem de1_4 : decode jdk_42_method_3_code 4 = .ok (.arraylength, 1) := by decide +kernel
theorem de1_5 : decode jdk_42_method_3_code 5 = .ok (.aconst_null, 1) := by decide +kernel
theorem de1_6 : decode jdk_42_method_3_code 6 = .ok (.invokespecial 27, 3) := by decide +kernel
theorem de1_9 : decode jdk_42_method_3_code 9 = .ok (.return_, 1) := by decide +kernel
theorem efe1 (m : MethodId) (x0 : Nat) (x1 : Nat) : entryFrame m #[(.ref x0), (.ref x1)] 2 = mkF m 0 #[.val (.ref x0), .val (.ref x1)] [] := by first | (simp [entryFrame, mkF, argsToLocals, Value.category, maxLocals]; done) | rfl
theorem pn_1 : plainFor (⟨"java/lang/String", "<init>", "([C)V"⟩ : MethodName) = true := by first | decide +kernel | (apply plainFor_of_name; simp [plainName, overriddenIn]; done)
set_option maxRecDepth 65536 in
set_option maxHeartbeats 40000000 in
theorem rme1 (l : Launch) (Z : State) (a0 : Array Value) (hw : ∀ d ∈ tables_1, d.before a0 Z = true) (hE : EW Z a0 consts_1) (x b : Nat) (k : ClassId) (h0 : Heap) (n0 : Nat) (Z0 : n0 ≤ h0.size) (gx : n0 ≤ x) (E0 : Exa Z h0 x "java/lang/String") (F01 : Fld Z h0 x "java/lang/String" "value" "[B" .null) (F02 : Fld Z h0 x "java/lang/String" "coder" "B" (.int (0 : Int32))) (V0 : Arv Z h0 b k .char (0 : Int32) [] (.int (0 : Int32))) :
    WMet l Z consts_1 (⟨"java/lang/String", "<init>", "([C)V"⟩ : MethodName) jdk_42_method_3_code 2 none [] ({ frames := 2, cells := 4, slots := 8, locals := 29 } : Room) [(.ref x), (.ref b)] h0 n0 [x] [x] (fun v h => v = none ∧ Str Z h x [] h.size) := by
  refine MetFree.of_bodySF pn_1 hisR ?_
  intro p e s m args below meth c s₁ Bd hml0 hP hK
  obtain ⟨rfl, hZ, hh, hC, hSf⟩ := hP
  have hx := Bd.exec
  have hby := Bd.bytes
  have hml : c.maxLocals = 2 := hml0
  have hnm := (name_of_methodNamed Bd.named Bd.method).1
  have w0 := Wk.start (a0 := a0) (EL := consts_1) (n0 := n0) (nw := false) Bd hZ hh hE hC (efe1 m x b) ({ frames := 2, cells := 4, slots := 8, locals := 29 } : Room) rfl
  have K0 : Keep h0 h0 [x] := Keep.refl _ _
  have lt_x := exlt E0
  have lt_b := arlt V0
  have w1 := w0.pure (mkF m 6 #[.val (.ref x), .val (.ref b)] [.null, (.int (0 : Int32)), (.int (0 : Int32)), (.ref b), (.ref x)]) (fun X eT hZ hown k => by
      show Steps _ _ _ (State.setTop _ (mkF m 0 #[.val (.ref x), .val (.ref b)] [])) _
      refine S.aloadN X.here hx (hb hby de1_0) rfl rfl ?_
      refine S.aloadN X.here hx (hb hby de1_1) rfl rfl ?_
      refine S.iconst X.here hx (0 : Int32) (hb hby de1_2) rfl ?_
      refine S.aloadN X.here hx (hb hby de1_3) rfl rfl ?_
      refine alenV X hx eT hZ V0 rfl rfl (hb hby de1_4) ?_
      show Steps _ _ _ (State.setTop _ (mkF m 5 #[.val (.ref x), .val (.ref b)] [(.int (0 : Int32)), (.int (0 : Int32)), (.ref b), (.ref x)])) _
      refine S.aconstNull X.here hx (hb hby de1_5) ?_
      exact k)
  obtain ⟨v2, vm2, h2, Q2, K2, z2, C2, w2⟩ := w1.callIW hx (y := (⟨"java/lang/String", "<init>", "([CIILjava/lang/Void;)V"⟩ : MethodName)) (W := 0) rfl (hw _ (List.mem_of_getElem? (i := 56) rfl)) (hw _ (List.mem_of_getElem? (i := 57) rfl)) (hw _ (List.mem_of_getElem? (i := 59) rfl)) (by decide) ((rme2 l Z a0 hw hE x b h0 n0 (by omega) (by omega) E0 F01 F02).pay w1 (hw _ (List.mem_of_getElem? (i := 59) rfl)) (hw _ (List.mem_of_getElem? (i := 1) rfl)) (by decide) (by decide) (allS ⟨by omega, (hSf _ (List.mem_of_getElem? (i := 0) rfl))⟩ all0)) rfl (by rw [hml]; rfl) [] (lenOf pd_0 rfl) rfl (by show 2 * 0 + _ ≤ _; exact Nat.le_of_eq rfl) (hb hby de1_6) (by decide) (by decide)  (fun rv => (mkF m 9 #[.val (.ref x), .val (.ref b)] (rv.toList ++ []))) (fun _ => rfl)
  obtain ⟨rfl, G2⟩ := Q2
  have K3 : Keep h0 h2 [x] := K0.trans K2 (allS (Or.inl (List.mem_of_getElem? (i := 0) rfl)) (fun _ q => nomatch q))
  have lt_x := G2.lt
  exact w2.endW (v := none) (Q := (fun v h => v = none ∧ Str Z h x [] h.size)) (wr := [x]) (h0 := h0) (fun _ => rfl) Bd.notSynchronized (fun X hr => X.returnOut hx Bd.returns (hb hby de1_9) hr) (by decide) (by decide) ⟨rfl, G2⟩ K3
def own_alloc (p0 : Int32) : Nat := if p0 = (1 : Int32) then 1 else if p0 = (2 : Int32) then 2 else if p0 = (3 : Int32) then 3 else if p0 = (7 : Int32) then 7 else if p0 = (8 : Int32) then 8 else if p0 = (9 : Int32) then 9 else if p0 = (10 : Int32) then 10 else if p0 = (11 : Int32) then 11 else 0
theorem own_alloc_le (p0 : Int32) : own_alloc p0 ≤ 11 := by
  unfold own_alloc
  repeat' split
  all_goals decide
theorem dal_0 : decode method_3_code 0 = .ok (.iload_n 0, 1) := by decide +kernel
theorem dal_1 : decode method_3_code 1 = .ok (.iconst 1, 1) := by decide +kernel
theorem dal_2 : decode method_3_code 2 = .ok (.if_icmp .ne 7, 3) := by decide +kernel
theorem dal_5 : decode method_3_code 5 = .ok (.iconst 1, 1) := by decide +kernel
theorem dal_6 : decode method_3_code 6 = .ok (.newarray .char, 2) := by decide +kernel
theorem dal_8 : decode method_3_code 8 = .ok (.areturn, 1) := by decide +kernel
theorem dal_9 : decode method_3_code 9 = .ok (.iload_n 0, 1) := by decide +kernel
theorem dal_10 : decode method_3_code 10 = .ok (.iconst 2, 1) := by decide +kernel
theorem dal_11 : decode method_3_code 11 = .ok (.if_icmp .ne 7, 3) := by decide +kernel
theorem dal_14 : decode method_3_code 14 = .ok (.iconst 2, 1) := by decide +kernel
theorem dal_15 : decode method_3_code 15 = .ok (.newarray .char, 2) := by decide +kernel
theorem dal_17 : decode method_3_code 17 = .ok (.areturn, 1) := by decide +kernel
theorem dal_18 : decode method_3_code 18 = .ok (.iload_n 0, 1) := by decide +kernel
theorem dal_19 : decode method_3_code 19 = .ok (.iconst 3, 1) := by decide +kernel
theorem dal_20 : decode method_3_code 20 = .ok (.if_icmp .ne 7, 3) := by decide +kernel
theorem dal_23 : decode method_3_code 23 = .ok (.iconst 3, 1) := by decide +kernel
theorem dal_24 : decode method_3_code 24 = .ok (.newarray .char, 2) := by decide +kernel
theorem dal_26 : decode method_3_code 26 = .ok (.areturn, 1) := by decide +kernel
theorem dal_27 : decode method_3_code 27 = .ok (.iload_n 0, 1) := by decide +kernel
theorem dal_28 : decode method_3_code 28 = .ok (.bipush 7, 2) := by decide +kernel
theorem dal_30 : decode method_3_code 30 = .ok (.if_icmp .ne 8, 3) := by decide +kernel
theorem dal_33 : decode method_3_code 33 = .ok (.bipush 7, 2) := by decide +kernel
theorem dal_35 : decode method_3_code 35 = .ok (.newarray .char, 2) := by decide +kernel
theorem dal_37 : decode method_3_code 37 = .ok (.areturn, 1) := by decide +kernel
theorem dal_38 : decode method_3_code 38 = .ok (.iload_n 0, 1) := by decide +kernel
theorem dal_39 : decode method_3_code 39 = .ok (.bipush 8, 2) := by decide +kernel
theorem dal_41 : decode method_3_code 41 = .ok (.if_icmp .ne 8, 3) := by decide +kernel
theorem dal_44 : decode method_3_code 44 = .ok (.bipush 8, 2) := by decide +kernel
theorem dal_46 : decode method_3_code 46 = .ok (.newarray .char, 2) := by decide +kernel
theorem dal_48 : decode method_3_code 48 = .ok (.areturn, 1) := by decide +kernel
theorem dal_49 : decode method_3_code 49 = .ok (.iload_n 0, 1) := by decide +kernel
theorem dal_50 : decode method_3_code 50 = .ok (.bipush 9, 2) := by decide +kernel
theorem dal_52 : decode method_3_code 52 = .ok (.if_icmp .ne 8, 3) := by decide +kernel
theorem dal_55 : decode method_3_code 55 = .ok (.bipush 9, 2) := by decide +kernel
theorem dal_57 : decode method_3_code 57 = .ok (.newarray .char, 2) := by decide +kernel
theorem dal_59 : decode method_3_code 59 = .ok (.areturn, 1) := by decide +kernel
theorem dal_60 : decode method_3_code 60 = .ok (.iload_n 0, 1) := by decide +kernel
theorem dal_61 : decode method_3_code 61 = .ok (.bipush 10, 2) := by decide +kernel
theorem dal_63 : decode method_3_code 63 = .ok (.if_icmp .ne 8, 3) := by decide +kernel
theorem dal_66 : decode method_3_code 66 = .ok (.bipush 10, 2) := by decide +kernel
theorem dal_68 : decode method_3_code 68 = .ok (.newarray .char, 2) := by decide +kernel
theorem dal_70 : decode method_3_code 70 = .ok (.areturn, 1) := by decide +kernel
theorem dal_71 : decode method_3_code 71 = .ok (.iload_n 0, 1) := by decide +kernel
theorem dal_72 : decode method_3_code 72 = .ok (.bipush 11, 2) := by decide +kernel
theorem dal_74 : decode method_3_code 74 = .ok (.if_icmp .ne 8, 3) := by decide +kernel
theorem dal_77 : decode method_3_code 77 = .ok (.bipush 11, 2) := by decide +kernel
theorem dal_79 : decode method_3_code 79 = .ok (.newarray .char, 2) := by decide +kernel
theorem dal_81 : decode method_3_code 81 = .ok (.areturn, 1) := by decide +kernel
theorem dal_82 : decode method_3_code 82 = .ok (.iconst 0, 1) := by decide +kernel
theorem dal_83 : decode method_3_code 83 = .ok (.newarray .char, 2) := by decide +kernel
theorem dal_85 : decode method_3_code 85 = .ok (.areturn, 1) := by decide +kernel
theorem efal (m : MethodId) (x0 : Int32) : entryFrame m #[(.int x0)] 1 = mkF m 0 #[.val (.int x0)] [] := by first | (simp [entryFrame, mkF, argsToLocals, Value.category, maxLocals]; done) | rfl
theorem pn_2 : plainFor (⟨"com/example/bylaw/bylaw/GranteeIsReservedGroupPinLaw", "alloc", "(I)[C"⟩ : MethodName) = true := by first | decide +kernel | (apply plainFor_of_name; simp [plainName, overriddenIn]; done)
set_option maxRecDepth 65536 in
set_option maxHeartbeats 40000000 in
theorem rmal (l : Launch) (Z : State) (a0 : Array Value) (hw : ∀ d ∈ tables_1, d.before a0 Z = true) (p0 : Int32) (h0 : Heap) (n0 : Nat) (Z0 : n0 ≤ h0.size)  :
    NMet l Z (⟨"com/example/bylaw/bylaw/GranteeIsReservedGroupPinLaw", "alloc", "(I)[C"⟩ : MethodName) method_3_code 1 (some (.array .char)) [] ({ frames := 0, cells := 1, slots := 11, locals := 0 } : Room) [(.int p0)] h0 n0 [] (fun v h => ∃ a k, v = some (.ref a) ∧ h0.size ≤ a ∧ Arv Z h a k .char (Int32.ofNat (own_alloc p0)) ((List.replicate (own_alloc p0) (0 : Int32)).map Value.int) (.int (0 : Int32))) := by
  refine MetFree.of_bodySF pn_2 hisR ?_
  intro p e s m args below meth c s₁ Bd hml0 hP hK
  obtain ⟨rfl, hZ, hh⟩ := hP
  have hx := Bd.exec
  have hby := Bd.bytes
  have hml : c.maxLocals = 1 := hml0
  have hnm := (name_of_methodNamed Bd.named Bd.method).1
  have w0 := Wk.start (a0 := a0) (EL := []) (n0 := n0) (nw := true) Bd hZ hh EW.nil chv0 (efal m p0) ({ frames := 0, cells := 1, slots := 11, locals := 0 } : Room) rfl
  have K0 : Keep h0 h0 [] := Keep.refl _ _
  have w1 := w0.pure (mkF m 2 #[.val (.int p0)] [(.int (1 : Int32)), (.int p0)]) (fun X eT hZ hown k => by
      show Steps _ _ _ (State.setTop _ (mkF m 0 #[.val (.int p0)] [])) _
      refine S.iloadN X.here hx (hb hby dal_0) rfl ?_
      refine S.iconst X.here hx (1 : Int32) (hb hby dal_1) rfl ?_
      exact k)
  by_cases hc2 : p0 = (1 : Int32)
  · have w3 := w1.pure (mkF m 6 #[.val (.int p0)] [(.int (1 : Int32))]) (fun X eT hZ hown k => by
        show Steps _ _ _ (State.setTop _ (mkF m 2 #[.val (.int p0)] [(.int (1 : Int32)), (.int p0)])) _
        refine S.icmpNo X.here hx (hb hby dal_2) (teq hc2).2 ?_
        refine S.iconst X.here hx (1 : Int32) (hb hby dal_5) rfl ?_
        exact k)
    obtain ⟨b4, h4, k4, g4, E4, l4, A4, y4, w4⟩ := w3.newP hx (hw _ (List.mem_of_getElem? (i := 26) rfl)) rfl (hb hby dal_6) rfl (by decide) 1 (by decide) (by decide) (by decide) (by decide) (fun xq => (mkF m 8 #[.val (.int p0)] (.ref xq :: []))) (fun _ => rfl)
    have z4 := E4.1
    have K5 : Keep h0 h4 [] := K0.ext E4
    have V4 : Arv Z h4 b4 k4 .char (1 : Int32) [(.int (0 : Int32))] (.int (0 : Int32)) := A4.pad (pad_rep [] (.int (0 : Int32)) 1)
    exact w4.endN (v := some (.ref b4)) (Q := (fun v h => ∃ a k, v = some (.ref a) ∧ h0.size ≤ a ∧ Arv Z h a k .char (Int32.ofNat (own_alloc p0)) ((List.replicate (own_alloc p0) (0 : Int32)).map Value.int) (.int (0 : Int32)))) (wr := []) (h0 := h0) (fun h => by rw [Bd.returns] at h; cases h) Bd.notSynchronized (fun X hr => X.areturnOut hx rfl Bd.returns rfl (hb hby dal_8) hr) (by decide) (by decide) ⟨b4, k4, rfl, by omega, by rw [show own_alloc p0 = 1 from by simp only [own_alloc, if_pos hc2]]; exact V4⟩ K5
  · have w6 := w1.pure (mkF m 11 #[.val (.int p0)] [(.int (2 : Int32)), (.int p0)]) (fun X eT hZ hown k => by
        show Steps _ _ _ (State.setTop _ (mkF m 2 #[.val (.int p0)] [(.int (1 : Int32)), (.int p0)])) _
        refine S.icmpYes X.here hx 9 (hb hby dal_2) (feq hc2).2 (by decide) (by decide) ?_
        refine S.iloadN X.here hx (hb hby dal_9) rfl ?_
        refine S.iconst X.here hx (2 : Int32) (hb hby dal_10) rfl ?_
        exact k)
    by_cases hc7 : p0 = (2 : Int32)
    · have w8 := w6.pure (mkF m 15 #[.val (.int p0)] [(.int (2 : Int32))]) (fun X eT hZ hown k => by
          show Steps _ _ _ (State.setTop _ (mkF m 11 #[.val (.int p0)] [(.int (2 : Int32)), (.int p0)])) _
          refine S.icmpNo X.here hx (hb hby dal_11) (teq hc7).2 ?_
          refine S.iconst X.here hx (2 : Int32) (hb hby dal_14) rfl ?_
          exact k)
      obtain ⟨b9, h9, k9, g9, E9, l9, A9, y9, w9⟩ := w8.newP hx (hw _ (List.mem_of_getElem? (i := 26) rfl)) rfl (hb hby dal_15) rfl (by decide) 2 (by decide) (by decide) (by decide) (by decide) (fun xq => (mkF m 17 #[.val (.int p0)] (.ref xq :: []))) (fun _ => rfl)
      have z9 := E9.1
      have K10 : Keep h0 h9 [] := K0.ext E9
      have V9 : Arv Z h9 b9 k9 .char (2 : Int32) [(.int (0 : Int32)), (.int (0 : Int32))] (.int (0 : Int32)) := A9.pad (pad_rep [] (.int (0 : Int32)) 2)
      exact w9.endN (v := some (.ref b9)) (Q := (fun v h => ∃ a k, v = some (.ref a) ∧ h0.size ≤ a ∧ Arv Z h a k .char (Int32.ofNat (own_alloc p0)) ((List.replicate (own_alloc p0) (0 : Int32)).map Value.int) (.int (0 : Int32)))) (wr := []) (h0 := h0) (fun h => by rw [Bd.returns] at h; cases h) Bd.notSynchronized (fun X hr => X.areturnOut hx rfl Bd.returns rfl (hb hby dal_17) hr) (by decide) (by decide) ⟨b9, k9, rfl, by omega, by rw [show own_alloc p0 = 2 from by simp only [own_alloc, if_neg hc2, if_pos hc7]]; exact V9⟩ K10
    · have w11 := w6.pure (mkF m 20 #[.val (.int p0)] [(.int (3 : Int32)), (.int p0)]) (fun X eT hZ hown k => by
          show Steps _ _ _ (State.setTop _ (mkF m 11 #[.val (.int p0)] [(.int (2 : Int32)), (.int p0)])) _
          refine S.icmpYes X.here hx 18 (hb hby dal_11) (feq hc7).2 (by decide) (by decide) ?_
          refine S.iloadN X.here hx (hb hby dal_18) rfl ?_
          refine S.iconst X.here hx (3 : Int32) (hb hby dal_19) rfl ?_
          exact k)
      by_cases hc12 : p0 = (3 : Int32)
      · have w13 := w11.pure (mkF m 24 #[.val (.int p0)] [(.int (3 : Int32))]) (fun X eT hZ hown k => by
            show Steps _ _ _ (State.setTop _ (mkF m 20 #[.val (.int p0)] [(.int (3 : Int32)), (.int p0)])) _
            refine S.icmpNo X.here hx (hb hby dal_20) (teq hc12).2 ?_
            refine S.iconst X.here hx (3 : Int32) (hb hby dal_23) rfl ?_
            exact k)
        obtain ⟨b14, h14, k14, g14, E14, l14, A14, y14, w14⟩ := w13.newP hx (hw _ (List.mem_of_getElem? (i := 26) rfl)) rfl (hb hby dal_24) rfl (by decide) 3 (by decide) (by decide) (by decide) (by decide) (fun xq => (mkF m 26 #[.val (.int p0)] (.ref xq :: []))) (fun _ => rfl)
        have z14 := E14.1
        have K15 : Keep h0 h14 [] := K0.ext E14
        have V14 : Arv Z h14 b14 k14 .char (3 : Int32) [(.int (0 : Int32)), (.int (0 : Int32)), (.int (0 : Int32))] (.int (0 : Int32)) := A14.pad (pad_rep [] (.int (0 : Int32)) 3)
        exact w14.endN (v := some (.ref b14)) (Q := (fun v h => ∃ a k, v = some (.ref a) ∧ h0.size ≤ a ∧ Arv Z h a k .char (Int32.ofNat (own_alloc p0)) ((List.replicate (own_alloc p0) (0 : Int32)).map Value.int) (.int (0 : Int32)))) (wr := []) (h0 := h0) (fun h => by rw [Bd.returns] at h; cases h) Bd.notSynchronized (fun X hr => X.areturnOut hx rfl Bd.returns rfl (hb hby dal_26) hr) (by decide) (by decide) ⟨b14, k14, rfl, by omega, by rw [show own_alloc p0 = 3 from by simp only [own_alloc, if_neg hc2, if_neg hc7, if_pos hc12]]; exact V14⟩ K15
      · have w16 := w11.pure (mkF m 30 #[.val (.int p0)] [(.int (7 : Int32)), (.int p0)]) (fun X eT hZ hown k => by
            show Steps _ _ _ (State.setTop _ (mkF m 20 #[.val (.int p0)] [(.int (3 : Int32)), (.int p0)])) _
            refine S.icmpYes X.here hx 27 (hb hby dal_20) (feq hc12).2 (by decide) (by decide) ?_
            refine S.iloadN X.here hx (hb hby dal_27) rfl ?_
            refine S.bipush X.here hx (7 : Int32) (hb hby dal_28) rfl ?_
            exact k)
        by_cases hc17 : p0 = (7 : Int32)
        · have w18 := w16.pure (mkF m 35 #[.val (.int p0)] [(.int (7 : Int32))]) (fun X eT hZ hown k => by
              show Steps _ _ _ (State.setTop _ (mkF m 30 #[.val (.int p0)] [(.int (7 : Int32)), (.int p0)])) _
              refine S.icmpNo X.here hx (hb hby dal_30) (teq hc17).2 ?_
              refine S.bipush X.here hx (7 : Int32) (hb hby dal_33) rfl ?_
              exact k)
          obtain ⟨b19, h19, k19, g19, E19, l19, A19, y19, w19⟩ := w18.newP hx (hw _ (List.mem_of_getElem? (i := 26) rfl)) rfl (hb hby dal_35) rfl (by decide) 7 (by decide) (by decide) (by decide) (by decide) (fun xq => (mkF m 37 #[.val (.int p0)] (.ref xq :: []))) (fun _ => rfl)
          have z19 := E19.1
          have K20 : Keep h0 h19 [] := K0.ext E19
          have V19 : Arv Z h19 b19 k19 .char (7 : Int32) [(.int (0 : Int32)), (.int (0 : Int32)), (.int (0 : Int32)), (.int (0 : Int32)), (.int (0 : Int32)), (.int (0 : Int32)), (.int (0 : Int32))] (.int (0 : Int32)) := A19.pad (pad_rep [] (.int (0 : Int32)) 7)
          exact w19.endN (v := some (.ref b19)) (Q := (fun v h => ∃ a k, v = some (.ref a) ∧ h0.size ≤ a ∧ Arv Z h a k .char (Int32.ofNat (own_alloc p0)) ((List.replicate (own_alloc p0) (0 : Int32)).map Value.int) (.int (0 : Int32)))) (wr := []) (h0 := h0) (fun h => by rw [Bd.returns] at h; cases h) Bd.notSynchronized (fun X hr => X.areturnOut hx rfl Bd.returns rfl (hb hby dal_37) hr) (by decide) (by decide) ⟨b19, k19, rfl, by omega, by rw [show own_alloc p0 = 7 from by simp only [own_alloc, if_neg hc2, if_neg hc7, if_neg hc12, if_pos hc17]]; exact V19⟩ K20
        · have w21 := w16.pure (mkF m 41 #[.val (.int p0)] [(.int (8 : Int32)), (.int p0)]) (fun X eT hZ hown k => by
              show Steps _ _ _ (State.setTop _ (mkF m 30 #[.val (.int p0)] [(.int (7 : Int32)), (.int p0)])) _
              refine S.icmpYes X.here hx 38 (hb hby dal_30) (feq hc17).2 (by decide) (by decide) ?_
              refine S.iloadN X.here hx (hb hby dal_38) rfl ?_
              refine S.bipush X.here hx (8 : Int32) (hb hby dal_39) rfl ?_
              exact k)
          by_cases hc22 : p0 = (8 : Int32)
          · have w23 := w21.pure (mkF m 46 #[.val (.int p0)] [(.int (8 : Int32))]) (fun X eT hZ hown k => by
                show Steps _ _ _ (State.setTop _ (mkF m 41 #[.val (.int p0)] [(.int (8 : Int32)), (.int p0)])) _
                refine S.icmpNo X.here hx (hb hby dal_41) (teq hc22).2 ?_
                refine S.bipush X.here hx (8 : Int32) (hb hby dal_44) rfl ?_
                exact k)
            obtain ⟨b24, h24, k24, g24, E24, l24, A24, y24, w24⟩ := w23.newP hx (hw _ (List.mem_of_getElem? (i := 26) rfl)) rfl (hb hby dal_46) rfl (by decide) 8 (by decide) (by decide) (by decide) (by decide) (fun xq => (mkF m 48 #[.val (.int p0)] (.ref xq :: []))) (fun _ => rfl)
            have z24 := E24.1
            have K25 : Keep h0 h24 [] := K0.ext E24
            have V24 : Arv Z h24 b24 k24 .char (8 : Int32) [(.int (0 : Int32)), (.int (0 : Int32)), (.int (0 : Int32)), (.int (0 : Int32)), (.int (0 : Int32)), (.int (0 : Int32)), (.int (0 : Int32)), (.int (0 : Int32))] (.int (0 : Int32)) := A24.pad (pad_rep [] (.int (0 : Int32)) 8)
            exact w24.endN (v := some (.ref b24)) (Q := (fun v h => ∃ a k, v = some (.ref a) ∧ h0.size ≤ a ∧ Arv Z h a k .char (Int32.ofNat (own_alloc p0)) ((List.replicate (own_alloc p0) (0 : Int32)).map Value.int) (.int (0 : Int32)))) (wr := []) (h0 := h0) (fun h => by rw [Bd.returns] at h; cases h) Bd.notSynchronized (fun X hr => X.areturnOut hx rfl Bd.returns rfl (hb hby dal_48) hr) (by decide) (by decide) ⟨b24, k24, rfl, by omega, by rw [show own_alloc p0 = 8 from by simp only [own_alloc, if_neg hc2, if_neg hc7, if_neg hc12, if_neg hc17, if_pos hc22]]; exact V24⟩ K25
          · have w26 := w21.pure (mkF m 52 #[.val (.int p0)] [(.int (9 : Int32)), (.int p0)]) (fun X eT hZ hown k => by
                show Steps _ _ _ (State.setTop _ (mkF m 41 #[.val (.int p0)] [(.int (8 : Int32)), (.int p0)])) _
                refine S.icmpYes X.here hx 49 (hb hby dal_41) (feq hc22).2 (by decide) (by decide) ?_
                refine S.iloadN X.here hx (hb hby dal_49) rfl ?_
                refine S.bipush X.here hx (9 : Int32) (hb hby dal_50) rfl ?_
                exact k)
            by_cases hc27 : p0 = (9 : Int32)
            · have w28 := w26.pure (mkF m 57 #[.val (.int p0)] [(.int (9 : Int32))]) (fun X eT hZ hown k => by
                  show Steps _ _ _ (State.setTop _ (mkF m 52 #[.val (.int p0)] [(.int (9 : Int32)), (.int p0)])) _
                  refine S.icmpNo X.here hx (hb hby dal_52) (teq hc27).2 ?_
                  refine S.bipush X.here hx (9 : Int32) (hb hby dal_55) rfl ?_
                  exact k)
              obtain ⟨b29, h29, k29, g29, E29, l29, A29, y29, w29⟩ := w28.newP hx (hw _ (List.mem_of_getElem? (i := 26) rfl)) rfl (hb hby dal_57) rfl (by decide) 9 (by decide) (by decide) (by decide) (by decide) (fun xq => (mkF m 59 #[.val (.int p0)] (.ref xq :: []))) (fun _ => rfl)
              have z29 := E29.1
              have K30 : Keep h0 h29 [] := K0.ext E29
              have V29 : Arv Z h29 b29 k29 .char (9 : Int32) [(.int (0 : Int32)), (.int (0 : Int32)), (.int (0 : Int32)), (.int (0 : Int32)), (.int (0 : Int32)), (.int (0 : Int32)), (.int (0 : Int32)), (.int (0 : Int32)), (.int (0 : Int32))] (.int (0 : Int32)) := A29.pad (pad_rep [] (.int (0 : Int32)) 9)
              exact w29.endN (v := some (.ref b29)) (Q := (fun v h => ∃ a k, v = some (.ref a) ∧ h0.size ≤ a ∧ Arv Z h a k .char (Int32.ofNat (own_alloc p0)) ((List.replicate (own_alloc p0) (0 : Int32)).map Value.int) (.int (0 : Int32)))) (wr := []) (h0 := h0) (fun h => by rw [Bd.returns] at h; cases h) Bd.notSynchronized (fun X hr => X.areturnOut hx rfl Bd.returns rfl (hb hby dal_59) hr) (by decide) (by decide) ⟨b29, k29, rfl, by omega, by rw [show own_alloc p0 = 9 from by simp only [own_alloc, if_neg hc2, if_neg hc7, if_neg hc12, if_neg hc17, if_neg hc22, if_pos hc27]]; exact V29⟩ K30
            · have w31 := w26.pure (mkF m 63 #[.val (.int p0)] [(.int (10 : Int32)), (.int p0)]) (fun X eT hZ hown k => by
                  show Steps _ _ _ (State.setTop _ (mkF m 52 #[.val (.int p0)] [(.int (9 : Int32)), (.int p0)])) _
                  refine S.icmpYes X.here hx 60 (hb hby dal_52) (feq hc27).2 (by decide) (by decide) ?_
                  refine S.iloadN X.here hx (hb hby dal_60) rfl ?_
                  refine S.bipush X.here hx (10 : Int32) (hb hby dal_61) rfl ?_
                  exact k)
              by_cases hc32 : p0 = (10 : Int32)
              · have w33 := w31.pure (mkF m 68 #[.val (.int p0)] [(.int (10 : Int32))]) (fun X eT hZ hown k => by
                    show Steps _ _ _ (State.setTop _ (mkF m 63 #[.val (.int p0)] [(.int (10 : Int32)), (.int p0)])) _
                    refine S.icmpNo X.here hx (hb hby dal_63) (teq hc32).2 ?_
                    refine S.bipush X.here hx (10 : Int32) (hb hby dal_66) rfl ?_
                    exact k)
                obtain ⟨b34, h34, k34, g34, E34, l34, A34, y34, w34⟩ := w33.newP hx (hw _ (List.mem_of_getElem? (i := 26) rfl)) rfl (hb hby dal_68) rfl (by decide) 10 (by decide) (by decide) (by decide) (by decide) (fun xq => (mkF m 70 #[.val (.int p0)] (.ref xq :: []))) (fun _ => rfl)
                have z34 := E34.1
                have K35 : Keep h0 h34 [] := K0.ext E34
                have V34 : Arv Z h34 b34 k34 .char (10 : Int32) [(.int (0 : Int32)), (.int (0 : Int32)), (.int (0 : Int32)), (.int (0 : Int32)), (.int (0 : Int32)), (.int (0 : Int32)), (.int (0 : Int32)), (.int (0 : Int32)), (.int (0 : Int32)), (.int (0 : Int32))] (.int (0 : Int32)) := A34.pad (pad_rep [] (.int (0 : Int32)) 10)
                exact w34.endN (v := some (.ref b34)) (Q := (fun v h => ∃ a k, v = some (.ref a) ∧ h0.size ≤ a ∧ Arv Z h a k .char (Int32.ofNat (own_alloc p0)) ((List.replicate (own_alloc p0) (0 : Int32)).map Value.int) (.int (0 : Int32)))) (wr := []) (h0 := h0) (fun h => by rw [Bd.returns] at h; cases h) Bd.notSynchronized (fun X hr => X.areturnOut hx rfl Bd.returns rfl (hb hby dal_70) hr) (by decide) (by decide) ⟨b34, k34, rfl, by omega, by rw [show own_alloc p0 = 10 from by simp only [own_alloc, if_neg hc2, if_neg hc7, if_neg hc12, if_neg hc17, if_neg hc22, if_neg hc27, if_pos hc32]]; exact V34⟩ K35
              · have w36 := w31.pure (mkF m 74 #[.val (.int p0)] [(.int (11 : Int32)), (.int p0)]) (fun X eT hZ hown k => by
                    show Steps _ _ _ (State.setTop _ (mkF m 63 #[.val (.int p0)] [(.int (10 : Int32)), (.int p0)])) _
                    refine S.icmpYes X.here hx 71 (hb hby dal_63) (feq hc32).2 (by decide) (by decide) ?_
                    refine S.iloadN X.here hx (hb hby dal_71) rfl ?_
                    refine S.bipush X.here hx (11 : Int32) (hb hby dal_72) rfl ?_
                    exact k)
                by_cases hc37 : p0 = (11 : Int32)
                · have w38 := w36.pure (mkF m 79 #[.val (.int p0)] [(.int (11 : Int32))]) (fun X eT hZ hown k => by
                      show Steps _ _ _ (State.setTop _ (mkF m 74 #[.val (.int p0)] [(.int (11 : Int32)), (.int p0)])) _
                      refine S.icmpNo X.here hx (hb hby dal_74) (teq hc37).2 ?_
                      refine S.bipush X.here hx (11 : Int32) (hb hby dal_77) rfl ?_
                      exact k)
                  obtain ⟨b39, h39, k39, g39, E39, l39, A39, y39, w39⟩ := w38.newP hx (hw _ (List.mem_of_getElem? (i := 26) rfl)) rfl (hb hby dal_79) rfl (by decide) 11 (by decide) (by decide) (by decide) (by decide) (fun xq => (mkF m 81 #[.val (.int p0)] (.ref xq :: []))) (fun _ => rfl)
                  have z39 := E39.1
                  have K40 : Keep h0 h39 [] := K0.ext E39
                  have V39 : Arv Z h39 b39 k39 .char (11 : Int32) [(.int (0 : Int32)), (.int (0 : Int32)), (.int (0 : Int32)), (.int (0 : Int32)), (.int (0 : Int32)), (.int (0 : Int32)), (.int (0 : Int32)), (.int (0 : Int32)), (.int (0 : Int32)), (.int (0 : Int32)), (.int (0 : Int32))] (.int (0 : Int32)) := A39.pad (pad_rep [] (.int (0 : Int32)) 11)
                  exact w39.endN (v := some (.ref b39)) (Q := (fun v h => ∃ a k, v = some (.ref a) ∧ h0.size ≤ a ∧ Arv Z h a k .char (Int32.ofNat (own_alloc p0)) ((List.replicate (own_alloc p0) (0 : Int32)).map Value.int) (.int (0 : Int32)))) (wr := []) (h0 := h0) (fun h => by rw [Bd.returns] at h; cases h) Bd.notSynchronized (fun X hr => X.areturnOut hx rfl Bd.returns rfl (hb hby dal_81) hr) (by decide) (by decide) ⟨b39, k39, rfl, by omega, by rw [show own_alloc p0 = 11 from by simp only [own_alloc, if_neg hc2, if_neg hc7, if_neg hc12, if_neg hc17, if_neg hc22, if_neg hc27, if_neg hc32, if_pos hc37]]; exact V39⟩ K40
                · have w41 := w36.pure (mkF m 83 #[.val (.int p0)] [(.int (0 : Int32))]) (fun X eT hZ hown k => by
                      show Steps _ _ _ (State.setTop _ (mkF m 74 #[.val (.int p0)] [(.int (11 : Int32)), (.int p0)])) _
                      refine S.icmpYes X.here hx 82 (hb hby dal_74) (feq hc37).2 (by decide) (by decide) ?_
                      refine S.iconst X.here hx (0 : Int32) (hb hby dal_82) rfl ?_
                      exact k)
                  obtain ⟨b42, h42, k42, g42, E42, l42, A42, y42, w42⟩ := w41.newP hx (hw _ (List.mem_of_getElem? (i := 26) rfl)) rfl (hb hby dal_83) rfl (by decide) 0 (by decide) (by decide) (by decide) (by decide) (fun xq => (mkF m 85 #[.val (.int p0)] (.ref xq :: []))) (fun _ => rfl)
                  have z42 := E42.1
                  have K43 : Keep h0 h42 [] := K0.ext E42
                  have V42 : Arv Z h42 b42 k42 .char (0 : Int32) [] (.int (0 : Int32)) := A42.pad (pad_rep [] (.int (0 : Int32)) 0)
                  exact w42.endN (v := some (.ref b42)) (Q := (fun v h => ∃ a k, v = some (.ref a) ∧ h0.size ≤ a ∧ Arv Z h a k .char (Int32.ofNat (own_alloc p0)) ((List.replicate (own_alloc p0) (0 : Int32)).map Value.int) (.int (0 : Int32)))) (wr := []) (h0 := h0) (fun h => by rw [Bd.returns] at h; cases h) Bd.notSynchronized (fun X hr => X.areturnOut hx rfl Bd.returns rfl (hb hby dal_85) hr) (by decide) (by decide) ⟨b42, k42, rfl, by omega, by rw [show own_alloc p0 = 0 from by simp only [own_alloc, if_neg hc2, if_neg hc7, if_neg hc12, if_neg hc17, if_neg hc22, if_neg hc27, if_neg hc32, if_neg hc37]]; exact V42⟩ K43
def own_setv (bs : List Int32) (j p dc cc : Int32) : Int32 := if j = p then dc else if j < Int32.ofNat bs.length then bs.getD j.toNatClampNeg 0 else cc
theorem own_setv_rng {bs : List Int32} {j p dc cc : Int32} (hb : ∀ c ∈ bs, ¬ c < 0 ∧ ¬ (255 : Int32) < c) (hd : ¬ dc < 0 ∧ ¬ (255 : Int32) < dc) (hc : ¬ cc < 0 ∧ ¬ (255 : Int32) < cc) : ¬ own_setv bs j p dc cc < 0 ∧ ¬ (255 : Int32) < own_setv bs j p dc cc := by
  unfold own_setv
  split
  · exact hd
  · split
    · rw [List.getD_eq_getElem?_getD]
      cases q : bs[j.toNatClampNeg]? with
      | none => decide
      | some c => exact hb c (List.mem_of_getElem? q)
    · exact hc
theorem own_idx {j : Int32} {n : Nat} (h0 : ¬ j < 0) (h1 : j < Int32.ofNat n) (hn : n ≤ 4000) : j.toNatClampNeg < n ∧ j = Int32.ofNat j.toNatClampNeg := by
  have e : (Int32.ofNat n).toInt = n := Int32.toInt_ofNat_of_lt (by omega)
  simp only [Int32.lt_iff_toInt_lt, e, show (0 : Int32).toInt = 0 from rfl] at h0 h1
  have q : j.toNatClampNeg = j.toInt.toNat := rfl
  refine ⟨by omega, Int32.toInt_inj.mp ?_⟩
  rw [Int32.toInt_ofNat_of_lt (by omega)]; omega
theorem own_getD_rng {bs : List Int32} (hb : ∀ c ∈ bs, ¬ c < 0 ∧ ¬ (255 : Int32) < c) (i : Nat) : ¬ bs.getD i 0 < 0 ∧ ¬ (255 : Int32) < bs.getD i 0 := by
  rw [List.getD_eq_getElem?_getD]
  cases q : bs[i]? with
  | none => decide
  | some c => exact hb c (List.mem_of_getElem? q)
def own_st (bs : List Int32) (p dc cc : Int32) (cs : List Int32) (j : Int32) : List Int32 := if j < Int32.ofNat cs.length then cs.set j.toNatClampNeg (own_setv bs j p dc cc) else cs
theorem own_st_len (bs : List Int32) (p dc cc : Int32) (cs : List Int32) (j : Int32) : (own_st bs p dc cc cs j).length = cs.length := by
  unfold own_st; split
  · rw [List.length_set]
  · rfl
theorem own_st_rng {bs : List Int32} {p dc cc : Int32} {cs : List Int32} {j : Int32} (hb : ∀ c ∈ bs, ¬ c < 0 ∧ ¬ (255 : Int32) < c) (hd : ¬ dc < 0 ∧ ¬ (255 : Int32) < dc) (hc : ¬ cc < 0 ∧ ¬ (255 : Int32) < cc) (hs : ∀ c ∈ cs, ¬ c < 0 ∧ ¬ (255 : Int32) < c) : ∀ c ∈ own_st bs p dc cc cs j, ¬ c < 0 ∧ ¬ (255 : Int32) < c := by
  intro c q
  unfold own_st at q; split at q
  · rcases List.mem_or_eq_of_mem_set q with q | rfl
    · exact hs c q
    · exact own_setv_rng hb hd hc
  · exact hs c q
theorem pd_1 : parseMethodDescriptor "()I" = some ⟨[], some .int⟩ := by decide +kernel
theorem pd_2 : parseMethodDescriptor "(I)C" = some ⟨[.int], some .char⟩ := by decide +kernel
theorem dst_0 : decode method_4_code 0 = .ok (.iload_n 1, 1) := by decide +kernel
theorem dst_1 : decode method_4_code 1 = .ok (.aload_n 0, 1) := by decide +kernel
theorem dst_2 : decode method_4_code 2 = .ok (.arraylength, 1) := by decide +kernel
theorem dst_3 : decode method_4_code 3 = .ok (.if_icmp .ge 34, 3) := by decide +kernel
theorem dst_6 : decode method_4_code 6 = .ok (.aload_n 0, 1) := by decide +kernel
theorem dst_7 : decode method_4_code 7 = .ok (.iload_n 1, 1) := by decide +kernel
theorem dst_8 : decode method_4_code 8 = .ok (.iload_n 1, 1) := by decide +kernel
theorem dst_9 : decode method_4_code 9 = .ok (.iload_n 3, 1) := by decide +kernel
theorem dst_10 : decode method_4_code 10 = .ok (.if_icmp .ne 8, 3) := by decide +kernel
theorem dst_13 : decode method_4_code 13 = .ok (.iload 4, 2) := by decide +kernel
theorem dst_15 : decode method_4_code 15 = .ok (.goto 21, 3) := by decide +kernel
theorem dst_18 : decode method_4_code 18 = .ok (.iload_n 1, 1) := by decide +kernel
theorem dst_19 : decode method_4_code 19 = .ok (.aload_n 2, 1) := by decide +kernel
theorem dst_20 : decode method_4_code 20 = .ok (.invokevirtual 11, 3) := by decide +kernel
theorem dst_23 : decode method_4_code 23 = .ok (.if_icmp .ge 11, 3) := by decide +kernel
theorem dst_26 : decode method_4_code 26 = .ok (.aload_n 2, 1) := by decide +kernel
theorem dst_27 : decode method_4_code 27 = .ok (.iload_n 1, 1) := by decide +kernel
theorem dst_28 : decode method_4_code 28 = .ok (.invokevirtual 31, 3) := by decide +kernel
theorem dst_31 : decode method_4_code 31 = .ok (.goto 5, 3) := by decide +kernel
theorem dst_34 : decode method_4_code 34 = .ok (.iload 5, 2) := by decide +kernel
theorem dst_36 : decode method_4_code 36 = .ok (.castore, 1) := by decide +kernel
theorem dst_37 : decode method_4_code 37 = .ok (.return_, 1) := by decide +kernel
theorem efst (m : MethodId) (x0 : Nat) (x1 : Int32) (x2 : Nat) (x3 : Int32) (x4 : Int32) (x5 : Int32) : entryFrame m #[(.ref x0), (.int x1), (.ref x2), (.int x3), (.int x4), (.int x5)] 6 = mkF m 0 #[.val (.ref x0), .val (.int x1), .val (.ref x2), .val (.int x3), .val (.int x4), .val (.int x5)] [] := by first | (simp [entryFrame, mkF, argsToLocals, Value.category, maxLocals]; done) | rfl
theorem pn_3 : plainFor (⟨"com/example/bylaw/bylaw/GranteeIsReservedGroupPinLaw", "set", "([CILjava/lang/String;ICC)V"⟩ : MethodName) = true := by first | decide +kernel | (apply plainFor_of_name; simp [plainName, overriddenIn]; done)
set_option maxRecDepth 65536 in
set_option maxHeartbeats 40000000 in
theorem rmst (l : Launch) (Z : State) (a0 : Array Value) (hw : ∀ d ∈ tables_1, d.before a0 Z = true) (a : Nat) (k : ClassId) (cs : List Int32) (j : Int32) (x : Nat) (bs : List Int32) (b : Nat) (pq dc cc : Int32) (h0 : Heap) (n0 : Nat) (Z0 : n0 ≤ h0.size) (hG : SetsOk Z) (X0 : Old Z n0 h0) (Sx : Str Z h0 x bs b) (V0 : Arv Z h0 a k .char (Int32.ofNat cs.length) (cs.map Value.int) (.int (0 : Int32))) (ga : n0 ≤ a) (hj0 : ¬ j < 0) (hcl : cs.length ≤ 4000) (hdc : ¬ dc < 0 ∧ ¬ (255 : Int32) < dc) (hcc : ¬ cc < 0 ∧ ¬ (255 : Int32) < cc) :
    NMet l Z (⟨"com/example/bylaw/bylaw/GranteeIsReservedGroupPinLaw", "set", "([CILjava/lang/String;ICC)V"⟩ : MethodName) method_4_code 6 none [] ({ frames := 4, cells := 0, slots := 0, locals := 55 } : Room) [(.ref a), (.int j), (.ref x), (.int pq), (.int dc), (.int cc)] h0 n0 [a] (fun v h => v = none ∧ Arv Z h a k .char (Int32.ofNat (own_st bs pq dc cc cs j).length) ((own_st bs pq dc cc cs j).map Value.int) (.int (0 : Int32))) := by
  refine MetFree.of_bodySF pn_3 hisR ?_
  intro p e s m args below meth c s₁ Bd hml0 hP hK
  obtain ⟨rfl, hZ, hh⟩ := hP
  have hx := Bd.exec
  have hby := Bd.bytes
  have hml : c.maxLocals = 6 := hml0
  have hnm := (name_of_methodNamed Bd.named Bd.method).1
  have w0 := Wk.start (a0 := a0) (EL := []) (n0 := n0) (nw := true) Bd hZ hh EW.nil chv0 (efst m a j x pq dc cc) ({ frames := 4, cells := 0, slots := 0, locals := 55 } : Room) rfl
  have K0 : Keep h0 h0 [a] := Keep.refl _ _
  have lt_Sx := Sx.lt
  have lt_V0 := arlt V0
  have hq_lenW : ∀ d ∈ StrChars.Road.wordsLen, d.before a0 Z = true := fun d hd => hw d ((by decide +kernel : ∀ d ∈ StrChars.Road.wordsLen, d ∈ tables_1) d hd)
  have hq_chN : ∀ d ∈ StrChars.Road.wordsChN, d.before a0 Z = true := fun d hd => hw d ((by decide +kernel : ∀ d ∈ StrChars.Road.wordsChN, d ∈ tables_1) d hd)
  have w1 := w0.pure (mkF m 3 #[.val (.ref a), .val (.int j), .val (.ref x), .val (.int pq), .val (.int dc), .val (.int cc)] [(.int (Int32.ofNat cs.length)), (.int j)]) (fun X eT hZ hown k => by
      show Steps _ _ _ (State.setTop _ (mkF m 0 #[.val (.ref a), .val (.int j), .val (.ref x), .val (.int pq), .val (.int dc), .val (.int cc)] [])) _
      refine S.iloadN X.here hx (hb hby dst_0) rfl ?_
      refine S.aloadN X.here hx (hb hby dst_1) rfl rfl ?_
      refine alenV X hx eT hZ V0 rfl rfl (hb hby dst_2) ?_
      show Steps _ _ _ (State.setTop _ (mkF m 3 #[.val (.ref a), .val (.int j), .val (.ref x), .val (.int pq), .val (.int dc), .val (.int cc)] [(.int (Int32.ofNat cs.length)), (.int j)])) _
      exact k)
  by_cases hc2 : j < (Int32.ofNat cs.length)
  · have w3 := w1.pure (mkF m 10 #[.val (.ref a), .val (.int j), .val (.ref x), .val (.int pq), .val (.int dc), .val (.int cc)] [(.int pq), (.int j), (.int j), (.ref a)]) (fun X eT hZ hown k => by
        show Steps _ _ _ (State.setTop _ (mkF m 3 #[.val (.ref a), .val (.int j), .val (.ref x), .val (.int pq), .val (.int dc), .val (.int cc)] [(.int (Int32.ofNat cs.length)), (.int j)])) _
        refine S.icmpNo X.here hx (hb hby dst_3) (tlt hc2).2.1 ?_
        refine S.aloadN X.here hx (hb hby dst_6) rfl rfl ?_
        refine S.iloadN X.here hx (hb hby dst_7) rfl ?_
        refine S.iloadN X.here hx (hb hby dst_8) rfl ?_
        refine S.iloadN X.here hx (hb hby dst_9) rfl ?_
        exact k)
    by_cases hc4 : j = pq
    · have w5 := w3.pure (mkF m 36 #[.val (.ref a), .val (.int j), .val (.ref x), .val (.int pq), .val (.int dc), .val (.int cc)] [(.int dc), (.int j), (.ref a)]) (fun X eT hZ hown k => by
          show Steps _ _ _ (State.setTop _ (mkF m 10 #[.val (.ref a), .val (.int j), .val (.ref x), .val (.int pq), .val (.int dc), .val (.int cc)] [(.int pq), (.int j), (.int j), (.ref a)])) _
          refine S.icmpNo X.here hx (hb hby dst_10) (teq hc4).2 ?_
          refine S.iload X.here hx (hb hby dst_13) rfl ?_
          refine S.goto X.here hx 36 (hb hby dst_15) (by decide) (by decide) ?_
          exact k)
      obtain ⟨h6, W6, z6, V6, w6⟩ := w5.stC hx V0 j.toNatClampNeg rfl (by rw [List.length_map]; exact (own_idx hj0 hc2 hcl).1) ⟨hj0, hc2⟩ rfl rfl (hb hby dst_36) (by omega) (mkF m 37 #[.val (.ref a), .val (.int j), .val (.ref x), .val (.int pq), .val (.int dc), .val (.int cc)] []) rfl
      rw [nar_rng hdc] at V6
      have K7 : Keep h0 h6 [a] := K0.wr W6 (Or.inl (List.mem_of_getElem? (i := 0) rfl))
      exact w6.endN (v := none) (Q := (fun v h => v = none ∧ Arv Z h a k .char (Int32.ofNat (own_st bs pq dc cc cs j).length) ((own_st bs pq dc cc cs j).map Value.int) (.int (0 : Int32)))) (wr := [a]) (h0 := h0) (fun _ => rfl) Bd.notSynchronized (fun X hr => X.returnOut hx Bd.returns (hb hby dst_37) hr) (by decide) (by decide) ⟨rfl, by rw [show own_st bs pq dc cc cs j = cs.set j.toNatClampNeg dc from (if_pos hc2).trans (by rw [show own_setv bs j pq dc cc = dc from by simp only [own_setv, if_pos hc4]]), List.map_set, List.length_set]; exact V6⟩ K7
    · have w8 := w3.pure (mkF m 20 #[.val (.ref a), .val (.int j), .val (.ref x), .val (.int pq), .val (.int dc), .val (.int cc)] [(.ref x), (.int j), (.int j), (.ref a)]) (fun X eT hZ hown k => by
          show Steps _ _ _ (State.setTop _ (mkF m 10 #[.val (.ref a), .val (.int j), .val (.ref x), .val (.int pq), .val (.int dc), .val (.int cc)] [(.int pq), (.int j), (.int j), (.ref a)])) _
          refine S.icmpYes X.here hx 18 (hb hby dst_10) (feq hc4).2 (by decide) (by decide) ?_
          refine S.iloadN X.here hx (hb hby dst_18) rfl ?_
          refine S.aloadN X.here hx (hb hby dst_19) rfl rfl ?_
          exact k)
      obtain ⟨v9, h9, Q9, K9, z9, w9⟩ := w8.callV hx (C := "java/lang/String") (y := (⟨"java/lang/String", "length", "()I"⟩ : MethodName)) (z := (⟨"java/lang/String", "length", "()I"⟩ : MethodName)) (W := 3) (hw _ (List.mem_of_getElem? (i := 8) rfl)) (hw _ (List.mem_of_getElem? (i := 9) rfl)) (hw _ (List.mem_of_getElem? (i := 11) rfl)) (hw _ (List.mem_of_getElem? (i := 10) rfl)) (w8.nf (hw _ (List.mem_of_getElem? (i := 11) rfl))) (by decide) (payLen hG w8.hZ hq_lenW (hw _ (List.mem_of_getElem? (i := 2) rfl)) Sx X0 (by decide) (by decide)) Sx.exa rfl (by rw [hml]; rfl) [(.int j), (.int j), (.ref a)] (lenOf pd_1 rfl) rfl (by show 2 * 0 + _ ≤ _; exact Nat.le_of_eq rfl) (hb hby dst_20) (by decide) (by decide) (fun _ q => nomatch q) (fun rv => (mkF m 23 #[.val (.ref a), .val (.int j), .val (.ref x), .val (.int pq), .val (.int dc), .val (.int cc)] (rv.toList ++ [(.int j), (.int j), (.ref a)]))) (fun _ => rfl)
      obtain ⟨rfl, rfl⟩ := Q9
      by_cases hc10 : j < (Int32.ofNat bs.length)
      · have w11 := w9.pure (mkF m 28 #[.val (.ref a), .val (.int j), .val (.ref x), .val (.int pq), .val (.int dc), .val (.int cc)] [(.int j), (.ref x), (.int j), (.ref a)]) (fun X eT hZ hown k => by
            show Steps _ _ _ (State.setTop _ (mkF m 23 #[.val (.ref a), .val (.int j), .val (.ref x), .val (.int pq), .val (.int dc), .val (.int cc)] [(.int (Int32.ofNat bs.length)), (.int j), (.int j), (.ref a)])) _
            refine S.icmpNo X.here hx (hb hby dst_23) (tlt hc10).2.1 ?_
            refine S.aloadN X.here hx (hb hby dst_26) rfl rfl ?_
            refine S.iloadN X.here hx (hb hby dst_27) rfl ?_
            exact k)
        obtain ⟨v12, h12, Q12, K12, z12, w12⟩ := w11.callV hx (C := "java/lang/String") (y := (⟨"java/lang/String", "charAt", "(I)C"⟩ : MethodName)) (z := (⟨"java/lang/String", "charAt", "(I)C"⟩ : MethodName)) (W := 2) (hw _ (List.mem_of_getElem? (i := 30) rfl)) (hw _ (List.mem_of_getElem? (i := 31) rfl)) (hw _ (List.mem_of_getElem? (i := 33) rfl)) (hw _ (List.mem_of_getElem? (i := 32) rfl)) (w11.nf (hw _ (List.mem_of_getElem? (i := 33) rfl))) (by decide) (payCh hG w11.hZ hq_chN (hw _ (List.mem_of_getElem? (i := 2) rfl)) Sx X0 j.toNatClampNeg (own_idx hj0 hc10 Sx.len).1 (own_idx hj0 hc10 Sx.len).2 (by decide) (by decide)) Sx.exa rfl (by rw [hml]; rfl) [(.int j), (.ref a)] (lenOf pd_2 rfl) rfl (by show 2 * 0 + _ ≤ _; exact Nat.le_of_eq rfl) (hb hby dst_28) (by decide) (by decide) (fun _ q => nomatch q) (fun rv => (mkF m 31 #[.val (.ref a), .val (.int j), .val (.ref x), .val (.int pq), .val (.int dc), .val (.int cc)] (rv.toList ++ [(.int j), (.ref a)]))) (fun _ => rfl)
        obtain ⟨rfl, rfl⟩ := Q12
        have w13 := w12.pure (mkF m 36 #[.val (.ref a), .val (.int j), .val (.ref x), .val (.int pq), .val (.int dc), .val (.int cc)] [(.int (bs.getD j.toNatClampNeg 0)), (.int j), (.ref a)]) (fun X eT hZ hown k => by
            show Steps _ _ _ (State.setTop _ (mkF m 31 #[.val (.ref a), .val (.int j), .val (.ref x), .val (.int pq), .val (.int dc), .val (.int cc)] [(.int (bs.getD j.toNatClampNeg 0)), (.int j), (.ref a)])) _
            refine S.goto X.here hx 36 (hb hby dst_31) (by decide) (by decide) ?_
            exact k)
        obtain ⟨h14, W14, z14, V14, w14⟩ := w13.stC hx V0 j.toNatClampNeg rfl (by rw [List.length_map]; exact (own_idx hj0 hc2 hcl).1) ⟨hj0, hc2⟩ rfl rfl (hb hby dst_36) (by omega) (mkF m 37 #[.val (.ref a), .val (.int j), .val (.ref x), .val (.int pq), .val (.int dc), .val (.int cc)] []) rfl
        rw [nar_rng (own_getD_rng Sx.rng _)] at V14
        have K15 : Keep h0 h14 [a] := K0.wr W14 (Or.inl (List.mem_of_getElem? (i := 0) rfl))
        exact w14.endN (v := none) (Q := (fun v h => v = none ∧ Arv Z h a k .char (Int32.ofNat (own_st bs pq dc cc cs j).length) ((own_st bs pq dc cc cs j).map Value.int) (.int (0 : Int32)))) (wr := [a]) (h0 := h0) (fun _ => rfl) Bd.notSynchronized (fun X hr => X.returnOut hx Bd.returns (hb hby dst_37) hr) (by decide) (by decide) ⟨rfl, by rw [show own_st bs pq dc cc cs j = cs.set j.toNatClampNeg (bs.getD j.toNatClampNeg 0) from (if_pos hc2).trans (by rw [show own_setv bs j pq dc cc = (bs.getD j.toNatClampNeg 0) from by simp only [own_setv, if_neg hc4, if_pos hc10]]), List.map_set, List.length_set]; exact V14⟩ K15
      · have w16 := w9.pure (mkF m 36 #[.val (.ref a), .val (.int j), .val (.ref x), .val (.int pq), .val (.int dc), .val (.int cc)] [(.int cc), (.int j), (.ref a)]) (fun X eT hZ hown k => by
            show Steps _ _ _ (State.setTop _ (mkF m 23 #[.val (.ref a), .val (.int j), .val (.ref x), .val (.int pq), .val (.int dc), .val (.int cc)] [(.int (Int32.ofNat bs.length)), (.int j), (.int j), (.ref a)])) _
            refine S.icmpYes X.here hx 34 (hb hby dst_23) (flt hc10).2.1 (by decide) (by decide) ?_
            refine S.iload X.here hx (hb hby dst_34) rfl ?_
            exact k)
        obtain ⟨h17, W17, z17, V17, w17⟩ := w16.stC hx V0 j.toNatClampNeg rfl (by rw [List.length_map]; exact (own_idx hj0 hc2 hcl).1) ⟨hj0, hc2⟩ rfl rfl (hb hby dst_36) (by omega) (mkF m 37 #[.val (.ref a), .val (.int j), .val (.ref x), .val (.int pq), .val (.int dc), .val (.int cc)] []) rfl
        rw [nar_rng hcc] at V17
        have K18 : Keep h0 h17 [a] := K0.wr W17 (Or.inl (List.mem_of_getElem? (i := 0) rfl))
        exact w17.endN (v := none) (Q := (fun v h => v = none ∧ Arv Z h a k .char (Int32.ofNat (own_st bs pq dc cc cs j).length) ((own_st bs pq dc cc cs j).map Value.int) (.int (0 : Int32)))) (wr := [a]) (h0 := h0) (fun _ => rfl) Bd.notSynchronized (fun X hr => X.returnOut hx Bd.returns (hb hby dst_37) hr) (by decide) (by decide) ⟨rfl, by rw [show own_st bs pq dc cc cs j = cs.set j.toNatClampNeg cc from (if_pos hc2).trans (by rw [show own_setv bs j pq dc cc = cc from by simp only [own_setv, if_neg hc4, if_neg hc10]]), List.map_set, List.length_set]; exact V17⟩ K18
  · have w19 := w1.pure (mkF m 37 #[.val (.ref a), .val (.int j), .val (.ref x), .val (.int pq), .val (.int dc), .val (.int cc)] []) (fun X eT hZ hown k => by
        show Steps _ _ _ (State.setTop _ (mkF m 3 #[.val (.ref a), .val (.int j), .val (.ref x), .val (.int pq), .val (.int dc), .val (.int cc)] [(.int (Int32.ofNat cs.length)), (.int j)])) _
        refine S.icmpYes X.here hx 37 (hb hby dst_3) (flt hc2).2.1 (by decide) (by decide) ?_
        exact k)
    exact w19.endN (v := none) (Q := (fun v h => v = none ∧ Arv Z h a k .char (Int32.ofNat (own_st bs pq dc cc cs j).length) ((own_st bs pq dc cc cs j).map Value.int) (.int (0 : Int32)))) (wr := [a]) (h0 := h0) (fun _ => rfl) Bd.notSynchronized (fun X hr => X.returnOut hx Bd.returns (hb hby dst_37) hr) (by decide) (by decide) ⟨rfl, by rw [show own_st bs pq dc cc cs j = cs from if_neg hc2]; exact V0⟩ K0
def own_ev : List Int32 := [(101 : Int32), (118 : Int32), (101 : Int32), (114 : Int32), (121 : Int32), (111 : Int32), (110 : Int32), (101 : Int32)]
def own_an : List Int32 := [(97 : Int32), (110 : Int32), (111 : Int32), (110 : Int32), (121 : Int32), (109 : Int32), (111 : Int32), (117 : Int32), (115 : Int32)]
def own_res (cs : List Int32) : Int32 := if cs = own_ev then (1 : Int32) else if cs = own_an then (1 : Int32) else (0 : Int32)
theorem pd_3 : parseMethodDescriptor "(Ljava/lang/Object;)Z" = some ⟨[(.object "java/lang/Object")], some .boolean⟩ := by decide +kernel
theorem d16_0 : decode prog_6_method_7_code 0 = .ok (.aload_n 0, 1) := by decide +kernel
theorem d16_1 : decode prog_6_method_7_code 1 = .ok (.getstatic 45, 3) := by decide +kernel
theorem d16_4 : decode prog_6_method_7_code 4 = .ok (.getfield 22, 3) := by decide +kernel
theorem d16_7 : decode prog_6_method_7_code 7 = .ok (.invokevirtual 49, 3) := by decide +kernel
theorem d16_10 : decode prog_6_method_7_code 10 = .ok (.ifCond .ne 16, 3) := by decide +kernel
theorem d16_13 : decode prog_6_method_7_code 13 = .ok (.aload_n 0, 1) := by decide +kernel
theorem d16_14 : decode prog_6_method_7_code 14 = .ok (.getstatic 55, 3) := by decide +kernel
theorem d16_17 : decode prog_6_method_7_code 17 = .ok (.getfield 22, 3) := by decide +kernel
theorem d16_20 : decode prog_6_method_7_code 20 = .ok (.invokevirtual 49, 3) := by decide +kernel
theorem d16_23 : decode prog_6_method_7_code 23 = .ok (.ifCond .eq 7, 3) := by decide +kernel
theorem d16_26 : decode prog_6_method_7_code 26 = .ok (.iconst 1, 1) := by decide +kernel
theorem d16_27 : decode prog_6_method_7_code 27 = .ok (.goto 4, 3) := by decide +kernel
theorem d16_30 : decode prog_6_method_7_code 30 = .ok (.iconst 0, 1) := by decide +kernel
theorem d16_31 : decode prog_6_method_7_code 31 = .ok (.ireturn, 1) := by decide +kernel
theorem ef16 (m : MethodId) (x0 : Nat) : entryFrame m #[(.ref x0)] 1 = mkF m 0 #[.val (.ref x0)] [] := by first | (simp [entryFrame, mkF, argsToLocals, Value.category, maxLocals]; done) | rfl
theorem pn_4 : plainFor (⟨"com/example/bylaw/bylaw/Grantee", "isReservedGroup", "(Ljava/lang/String;)Z"⟩ : MethodName) = true := by first | decide +kernel | (apply plainFor_of_name; simp [plainName, overriddenIn]; done)
set_option maxRecDepth 65536 in
set_option maxHeartbeats 40000000 in
theorem rm16 (l : Launch) (Z : State) (a0 : Array Value) (hw : ∀ d ∈ tables_1, d.before a0 Z = true) (x oe xe on xn : Nat) (cs : List Int32) (b : Nat) (h0 : Heap) (n0 : Nat) (Z0 : n0 ≤ h0.size) (hG : SetsOk Z) (X0 : Old Z n0 h0) (SOe : Sta Z Z.heap "com/example/bylaw/bylaw/Grantee" "EVERYONE" "Lcom/example/bylaw/bylaw/Grantee;" (.ref oe)) (FOe : Fld Z h0 oe "com/example/bylaw/bylaw/Grantee" "name" "Ljava/lang/String;" (.ref xe)) (SSe : Str Z h0 xe own_ev n0) (SOn : Sta Z Z.heap "com/example/bylaw/bylaw/Grantee" "ANONYMOUS" "Lcom/example/bylaw/bylaw/Grantee;" (.ref on)) (FOn : Fld Z h0 on "com/example/bylaw/bylaw/Grantee" "name" "Ljava/lang/String;" (.ref xn)) (SSn : Str Z h0 xn own_an n0) (Sx : Str Z h0 x cs b) :
    NMet l Z (⟨"com/example/bylaw/bylaw/Grantee", "isReservedGroup", "(Ljava/lang/String;)Z"⟩ : MethodName) prog_6_method_7_code 1 (some .boolean) [] ({ frames := 2, cells := 0, slots := 0, locals := 28 } : Room) [(.ref x)] h0 n0 [] (fun v h => v = some (.int (own_res cs)) ∧ h0 = h) := by
  refine MetFree.of_bodySF pn_4 hisR ?_
  intro p e s m args below meth c s₁ Bd hml0 hP hK
  obtain ⟨rfl, hZ, hh⟩ := hP
  have hx := Bd.exec
  have hby := Bd.bytes
  have hml : c.maxLocals = 1 := hml0
  have hnm := (name_of_methodNamed Bd.named Bd.method).1
  have w0 := Wk.start (a0 := a0) (EL := []) (n0 := n0) (nw := true) Bd hZ hh EW.nil chv0 (ef16 m x) ({ frames := 2, cells := 0, slots := 0, locals := 28 } : Room) rfl
  have K0 : Keep h0 h0 [] := Keep.refl _ _
  have lt_FOe : h0.size > oe := Fld.lt FOe
  have lt_SSe := SSe.lt
  have lt_FOn : h0.size > on := Fld.lt FOn
  have lt_SSn := SSn.lt
  have lt_Sx := Sx.lt
  have hq_eqW : ∀ d ∈ StrChars.Road.wordsEq, d.before a0 Z = true := fun d hd => hw d ((by decide +kernel : ∀ d ∈ StrChars.Road.wordsEq, d ∈ tables_1) d hd)
  have w1 := w0.pure (mkF m 1 #[.val (.ref x)] [(.ref x)]) (fun X eT hZ hown k => by
      show Steps _ _ _ (State.setTop _ (mkF m 0 #[.val (.ref x)] [])) _
      refine S.aloadN X.here hx (hb hby d16_0) rfl rfl ?_
      exact k)
  have w2 := w1.same (mkF m 4 #[.val (.ref x)] [(.ref oe), (.ref x)]) (fun X eT hZ hown => getS (host := "") X hx hZ hown (hw _ (List.mem_of_getElem? (i := 77) rfl)) Via.refl eT (SOe.ext X0.2) (g := (mkF m 1 #[.val (.ref x)] [(.ref x)])) rfl (hb hby d16_1))
  have w3 := w2.same (mkF m 7 #[.val (.ref x)] [(.ref xe), (.ref x)]) (fun X eT hZ hown => getF X hx hZ hown (host := "") (Or.inl (hw _ (List.mem_of_getElem? (i := 79) rfl))) Via.refl eT FOe (g := (mkF m 4 #[.val (.ref x)] [(.ref oe), (.ref x)])) rfl rfl (hb hby d16_4))
  obtain ⟨v4, h4, Q4, K4, z4, w4⟩ := w3.callV hx (C := "java/lang/String") (y := (⟨"java/lang/String", "equals", "(Ljava/lang/Object;)Z"⟩ : MethodName)) (z := (⟨"java/lang/String", "equals", "(Ljava/lang/Object;)Z"⟩ : MethodName)) (W := 0) (hw _ (List.mem_of_getElem? (i := 81) rfl)) (hw _ (List.mem_of_getElem? (i := 82) rfl)) (hw _ (List.mem_of_getElem? (i := 84) rfl)) (hw _ (List.mem_of_getElem? (i := 83) rfl)) (w3.nf (hw _ (List.mem_of_getElem? (i := 84) rfl))) (by decide) (payEq hG w3.hZ hq_eqW (hw _ (List.mem_of_getElem? (i := 2) rfl)) Sx SSe X0 (by decide) (by decide)) Sx.exa rfl (by rw [hml]; rfl) [] (lenOf pd_3 rfl) rfl (by show 2 * 0 + _ ≤ _; exact Nat.le_of_eq rfl) (hb hby d16_7) (by decide) (by decide) (fun _ q => nomatch q) (fun rv => (mkF m 10 #[.val (.ref x)] (rv.toList ++ []))) (fun _ => rfl)
  obtain ⟨rfl, rfl⟩ := Q4
  by_cases hc5 : (if cs = own_ev then (1 : Int32) else (0 : Int32)) = (0 : Int32)
  · have w6 := w4.pure (mkF m 14 #[.val (.ref x)] [(.ref x)]) (fun X eT hZ hown k => by
        show Steps _ _ _ (State.setTop _ (mkF m 10 #[.val (.ref x)] [(.int (if cs = own_ev then (1 : Int32) else (0 : Int32)))])) _
        refine S.ifNo X.here hx (hb hby d16_10) ((if0 _ _).trans (teq hc5).2) ?_
        refine S.aloadN X.here hx (hb hby d16_13) rfl rfl ?_
        exact k)
    have w7 := w6.same (mkF m 17 #[.val (.ref x)] [(.ref on), (.ref x)]) (fun X eT hZ hown => getS (host := "") X hx hZ hown (hw _ (List.mem_of_getElem? (i := 90) rfl)) Via.refl eT (SOn.ext X0.2) (g := (mkF m 14 #[.val (.ref x)] [(.ref x)])) rfl (hb hby d16_14))
    have w8 := w7.same (mkF m 20 #[.val (.ref x)] [(.ref xn), (.ref x)]) (fun X eT hZ hown => getF X hx hZ hown (host := "") (Or.inl (hw _ (List.mem_of_getElem? (i := 79) rfl))) Via.refl eT FOn (g := (mkF m 17 #[.val (.ref x)] [(.ref on), (.ref x)])) rfl rfl (hb hby d16_17))
    obtain ⟨v9, h9, Q9, K9, z9, w9⟩ := w8.callV hx (C := "java/lang/String") (y := (⟨"java/lang/String", "equals", "(Ljava/lang/Object;)Z"⟩ : MethodName)) (z := (⟨"java/lang/String", "equals", "(Ljava/lang/Object;)Z"⟩ : MethodName)) (W := 0) (hw _ (List.mem_of_getElem? (i := 81) rfl)) (hw _ (List.mem_of_getElem? (i := 82) rfl)) (hw _ (List.mem_of_getElem? (i := 84) rfl)) (hw _ (List.mem_of_getElem? (i := 83) rfl)) (w8.nf (hw _ (List.mem_of_getElem? (i := 84) rfl))) (by decide) (payEq hG w8.hZ hq_eqW (hw _ (List.mem_of_getElem? (i := 2) rfl)) Sx SSn X0 (by decide) (by decide)) Sx.exa rfl (by rw [hml]; rfl) [] (lenOf pd_3 rfl) rfl (by show 2 * 0 + _ ≤ _; exact Nat.le_of_eq rfl) (hb hby d16_20) (by decide) (by decide) (fun _ q => nomatch q) (fun rv => (mkF m 23 #[.val (.ref x)] (rv.toList ++ []))) (fun _ => rfl)
    obtain ⟨rfl, rfl⟩ := Q9
    by_cases hc10 : (if cs = own_an then (1 : Int32) else (0 : Int32)) = (0 : Int32)
    · have w11 := w9.pure (mkF m 31 #[.val (.ref x)] [(.int (0 : Int32))]) (fun X eT hZ hown k => by
          show Steps _ _ _ (State.setTop _ (mkF m 23 #[.val (.ref x)] [(.int (if cs = own_an then (1 : Int32) else (0 : Int32)))])) _
          refine S.ifYes X.here hx 30 (hb hby d16_23) ((if0 _ _).trans (teq hc10).1) (by decide) (by decide) ?_
          refine S.iconst X.here hx (0 : Int32) (hb hby d16_30) rfl ?_
          exact k)
      exact w11.endN (v := some (.int (0 : Int32))) (Q := (fun v h => v = some (.int (own_res cs)) ∧ h0 = h)) (wr := []) (h0 := h0) (fun h => by rw [Bd.returns] at h; cases h) Bd.notSynchronized (fun X hr => retN X hx (t := .boolean) Bd.returns (by simp) (hb hby d16_31) hr) (by decide) (by decide) ⟨by unfold own_res; simp_all, rfl⟩ K0
    · have w12 := w9.pure (mkF m 31 #[.val (.ref x)] [(.int (1 : Int32))]) (fun X eT hZ hown k => by
          show Steps _ _ _ (State.setTop _ (mkF m 23 #[.val (.ref x)] [(.int (if cs = own_an then (1 : Int32) else (0 : Int32)))])) _
          refine S.ifNo X.here hx (hb hby d16_23) ((if0 _ _).trans (feq hc10).1) ?_
          refine S.iconst X.here hx (1 : Int32) (hb hby d16_26) rfl ?_
          refine S.goto X.here hx 31 (hb hby d16_27) (by decide) (by decide) ?_
          exact k)
      exact w12.endN (v := some (.int (1 : Int32))) (Q := (fun v h => v = some (.int (own_res cs)) ∧ h0 = h)) (wr := []) (h0 := h0) (fun h => by rw [Bd.returns] at h; cases h) Bd.notSynchronized (fun X hr => retN X hx (t := .boolean) Bd.returns (by simp) (hb hby d16_31) hr) (by decide) (by decide) ⟨by unfold own_res; simp_all, rfl⟩ K0
  · have w13 := w4.pure (mkF m 31 #[.val (.ref x)] [(.int (1 : Int32))]) (fun X eT hZ hown k => by
        show Steps _ _ _ (State.setTop _ (mkF m 10 #[.val (.ref x)] [(.int (if cs = own_ev then (1 : Int32) else (0 : Int32)))])) _
        refine S.ifYes X.here hx 26 (hb hby d16_10) ((if0 _ _).trans (feq hc5).2) (by decide) (by decide) ?_
        refine S.iconst X.here hx (1 : Int32) (hb hby d16_26) rfl ?_
        refine S.goto X.here hx 31 (hb hby d16_27) (by decide) (by decide) ?_
        exact k)
    exact w13.endN (v := some (.int (1 : Int32))) (Q := (fun v h => v = some (.int (own_res cs)) ∧ h0 = h)) (wr := []) (h0 := h0) (fun h => by rw [Bd.returns] at h; cases h) Bd.notSynchronized (fun X hr => retN X hx (t := .boolean) Bd.returns (by simp) (hb hby d16_31) hr) (by decide) (by decide) ⟨by unfold own_res; simp_all, rfl⟩ K0
theorem own_and7 (n : Int32) : (n &&& (7 : Int32)) = 0 ∨ (n &&& (7 : Int32)) = 1 ∨ (n &&& (7 : Int32)) = 2 ∨ (n &&& (7 : Int32)) = 3 ∨ (n &&& (7 : Int32)) = 4 ∨ (n &&& (7 : Int32)) = 5 ∨ (n &&& (7 : Int32)) = 6 ∨ (n &&& (7 : Int32)) = 7 := by
  have q := c_and n (7 : Int32) (by decide)
  simp only [← Int32.toInt_inj, show (7 : Int32).toInt = 7 from rfl, show (6 : Int32).toInt = 6 from rfl, show (5 : Int32).toInt = 5 from rfl, show (4 : Int32).toInt = 4 from rfl, show (3 : Int32).toInt = 3 from rfl, show (2 : Int32).toInt = 2 from rfl, show (1 : Int32).toInt = 1 from rfl, show (0 : Int32).toInt = 0 from rfl] at q ⊢
  omega
def own_p (n : Int32) : Int32 := (n &&& (2147483647 : Int32)) % (12 : Int32)
theorem own_p12 (n : Int32) : own_p n = 0 ∨ own_p n = 1 ∨ own_p n = 2 ∨ own_p n = 3 ∨ own_p n = 4 ∨ own_p n = 5 ∨ own_p n = 6 ∨ own_p n = 7 ∨ own_p n = 8 ∨ own_p n = 9 ∨ own_p n = 10 ∨ own_p n = 11 := by
  have q := c_and n (2147483647 : Int32) (by decide)
  have r := (c_irem (n &&& (2147483647 : Int32)) (12 : Int32) 12 rfl).1 q.1
  simp only [← Int32.toInt_inj, own_p, show (11 : Int32).toInt = 11 from rfl, show (10 : Int32).toInt = 10 from rfl, show (9 : Int32).toInt = 9 from rfl, show (8 : Int32).toInt = 8 from rfl, show (7 : Int32).toInt = 7 from rfl, show (6 : Int32).toInt = 6 from rfl, show (5 : Int32).toInt = 5 from rfl, show (4 : Int32).toInt = 4 from rfl, show (3 : Int32).toInt = 3 from rfl, show (2 : Int32).toInt = 2 from rfl, show (1 : Int32).toInt = 1 from rfl, show (0 : Int32).toInt = 0 from rfl]
  omega
theorem own_p_nn (n : Int32) : ¬ own_p n < 0 := by
  rcases own_p12 n with e | e | e | e | e | e | e | e | e | e | e | e <;> rw [e] <;> decide
def own_k (n : Int32) : Int32 := (((n.toUInt32 >>> ((1 : Int32) &&& 31).toUInt32).toInt32) &&& (7 : Int32))
def own_name (bs : List Int32) (n : Nat) (p dc cc : Int32) : List Int32 := (own_st bs p dc cc (own_st bs p dc cc (own_st bs p dc cc (own_st bs p dc cc (own_st bs p dc cc (own_st bs p dc cc (own_st bs p dc cc (own_st bs p dc cc (own_st bs p dc cc (own_st bs p dc cc (own_st bs p dc cc (List.replicate n (0 : Int32)) (0 : Int32)) (1 : Int32)) (2 : Int32)) (3 : Int32)) (4 : Int32)) (5 : Int32)) (6 : Int32)) (7 : Int32)) (8 : Int32)) (9 : Int32)) (10 : Int32))
set_option maxRecDepth 10000 in
theorem own_name_0 (bs : List Int32) (p dc cc : Int32) : own_name bs 0 p dc cc = [] := by
  have s0 : own_st bs p dc cc [] (0 : Int32) = [] := if_neg (of_decide_eq_false rfl)
  have s1 : own_st bs p dc cc [] (1 : Int32) = [] := if_neg (of_decide_eq_false rfl)
  have s2 : own_st bs p dc cc [] (2 : Int32) = [] := if_neg (of_decide_eq_false rfl)
  have s3 : own_st bs p dc cc [] (3 : Int32) = [] := if_neg (of_decide_eq_false rfl)
  have s4 : own_st bs p dc cc [] (4 : Int32) = [] := if_neg (of_decide_eq_false rfl)
  have s5 : own_st bs p dc cc [] (5 : Int32) = [] := if_neg (of_decide_eq_false rfl)
  have s6 : own_st bs p dc cc [] (6 : Int32) = [] := if_neg (of_decide_eq_false rfl)
  have s7 : own_st bs p dc cc [] (7 : Int32) = [] := if_neg (of_decide_eq_false rfl)
  have s8 : own_st bs p dc cc [] (8 : Int32) = [] := if_neg (of_decide_eq_false rfl)
  have s9 : own_st bs p dc cc [] (9 : Int32) = [] := if_neg (of_decide_eq_false rfl)
  have s10 : own_st bs p dc cc [] (10 : Int32) = [] := if_neg (of_decide_eq_false rfl)
  unfold own_name
  rw [show List.replicate 0 (0 : Int32) = [] from rfl, s0, s1, s2, s3, s4, s5, s6, s7, s8, s9, s10]
set_option maxRecDepth 10000 in
theorem own_name_1 (bs : List Int32) (p dc cc : Int32) : own_name bs 1 p dc cc = [own_setv bs (0 : Int32) p dc cc] := by
  have s0 : own_st bs p dc cc [(0 : Int32)] (0 : Int32) = [own_setv bs (0 : Int32) p dc cc] := if_pos (of_decide_eq_true rfl)
  have s1 : own_st bs p dc cc [own_setv bs (0 : Int32) p dc cc] (1 : Int32) = [own_setv bs (0 : Int32) p dc cc] := if_neg (of_decide_eq_false rfl)
  have s2 : own_st bs p dc cc [own_setv bs (0 : Int32) p dc cc] (2 : Int32) = [own_setv bs (0 : Int32) p dc cc] := if_neg (of_decide_eq_false rfl)
  have s3 : own_st bs p dc cc [own_setv bs (0 : Int32) p dc cc] (3 : Int32) = [own_setv bs (0 : Int32) p dc cc] := if_neg (of_decide_eq_false rfl)
  have s4 : own_st bs p dc cc [own_setv bs (0 : Int32) p dc cc] (4 : Int32) = [own_setv bs (0 : Int32) p dc cc] := if_neg (of_decide_eq_false rfl)
  have s5 : own_st bs p dc cc [own_setv bs (0 : Int32) p dc cc] (5 : Int32) = [own_setv bs (0 : Int32) p dc cc] := if_neg (of_decide_eq_false rfl)
  have s6 : own_st bs p dc cc [own_setv bs (0 : Int32) p dc cc] (6 : Int32) = [own_setv bs (0 : Int32) p dc cc] := if_neg (of_decide_eq_false rfl)
  have s7 : own_st bs p dc cc [own_setv bs (0 : Int32) p dc cc] (7 : Int32) = [own_setv bs (0 : Int32) p dc cc] := if_neg (of_decide_eq_false rfl)
  have s8 : own_st bs p dc cc [own_setv bs (0 : Int32) p dc cc] (8 : Int32) = [own_setv bs (0 : Int32) p dc cc] := if_neg (of_decide_eq_false rfl)
  have s9 : own_st bs p dc cc [own_setv bs (0 : Int32) p dc cc] (9 : Int32) = [own_setv bs (0 : Int32) p dc cc] := if_neg (of_decide_eq_false rfl)
  have s10 : own_st bs p dc cc [own_setv bs (0 : Int32) p dc cc] (10 : Int32) = [own_setv bs (0 : Int32) p dc cc] := if_neg (of_decide_eq_false rfl)
  unfold own_name
  rw [show List.replicate 1 (0 : Int32) = [(0 : Int32)] from rfl, s0, s1, s2, s3, s4, s5, s6, s7, s8, s9, s10]
set_option maxRecDepth 10000 in
theorem own_name_2 (bs : List Int32) (p dc cc : Int32) : own_name bs 2 p dc cc = [own_setv bs (0 : Int32) p dc cc, own_setv bs (1 : Int32) p dc cc] := by
  have s0 : own_st bs p dc cc [(0 : Int32), (0 : Int32)] (0 : Int32) = [own_setv bs (0 : Int32) p dc cc, (0 : Int32)] := if_pos (of_decide_eq_true rfl)
  have s1 : own_st bs p dc cc [own_setv bs (0 : Int32) p dc cc, (0 : Int32)] (1 : Int32) = [own_setv bs (0 : Int32) p dc cc, own_setv bs (1 : Int32) p dc cc] := if_pos (of_decide_eq_true rfl)
  have s2 : own_st bs p dc cc [own_setv bs (0 : Int32) p dc cc, own_setv bs (1 : Int32) p dc cc] (2 : Int32) = [own_setv bs (0 : Int32) p dc cc, own_setv bs (1 : Int32) p dc cc] := if_neg (of_decide_eq_false rfl)
  have s3 : own_st bs p dc cc [own_setv bs (0 : Int32) p dc cc, own_setv bs (1 : Int32) p dc cc] (3 : Int32) = [own_setv bs (0 : Int32) p dc cc, own_setv bs (1 : Int32) p dc cc] := if_neg (of_decide_eq_false rfl)
  have s4 : own_st bs p dc cc [own_setv bs (0 : Int32) p dc cc, own_setv bs (1 : Int32) p dc cc] (4 : Int32) = [own_setv bs (0 : Int32) p dc cc, own_setv bs (1 : Int32) p dc cc] := if_neg (of_decide_eq_false rfl)
  have s5 : own_st bs p dc cc [own_setv bs (0 : Int32) p dc cc, own_setv bs (1 : Int32) p dc cc] (5 : Int32) = [own_setv bs (0 : Int32) p dc cc, own_setv bs (1 : Int32) p dc cc] := if_neg (of_decide_eq_false rfl)
  have s6 : own_st bs p dc cc [own_setv bs (0 : Int32) p dc cc, own_setv bs (1 : Int32) p dc cc] (6 : Int32) = [own_setv bs (0 : Int32) p dc cc, own_setv bs (1 : Int32) p dc cc] := if_neg (of_decide_eq_false rfl)
  have s7 : own_st bs p dc cc [own_setv bs (0 : Int32) p dc cc, own_setv bs (1 : Int32) p dc cc] (7 : Int32) = [own_setv bs (0 : Int32) p dc cc, own_setv bs (1 : Int32) p dc cc] := if_neg (of_decide_eq_false rfl)
  have s8 : own_st bs p dc cc [own_setv bs (0 : Int32) p dc cc, own_setv bs (1 : Int32) p dc cc] (8 : Int32) = [own_setv bs (0 : Int32) p dc cc, own_setv bs (1 : Int32) p dc cc] := if_neg (of_decide_eq_false rfl)
  have s9 : own_st bs p dc cc [own_setv bs (0 : Int32) p dc cc, own_setv bs (1 : Int32) p dc cc] (9 : Int32) = [own_setv bs (0 : Int32) p dc cc, own_setv bs (1 : Int32) p dc cc] := if_neg (of_decide_eq_false rfl)
  have s10 : own_st bs p dc cc [own_setv bs (0 : Int32) p dc cc, own_setv bs (1 : Int32) p dc cc] (10 : Int32) = [own_setv bs (0 : Int32) p dc cc, own_setv bs (1 : Int32) p dc cc] := if_neg (of_decide_eq_false rfl)
  unfold own_name
  rw [show List.replicate 2 (0 : Int32) = [(0 : Int32), (0 : Int32)] from rfl, s0, s1, s2, s3, s4, s5, s6, s7, s8, s9, s10]
set_option maxRecDepth 10000 in
theorem own_name_3 (bs : List Int32) (p dc cc : Int32) : own_name bs 3 p dc cc = [own_setv bs (0 : Int32) p dc cc, own_setv bs (1 : Int32) p dc cc, own_setv bs (2 : Int32) p dc cc] := by
  have s0 : own_st bs p dc cc [(0 : Int32), (0 : Int32), (0 : Int32)] (0 : Int32) = [own_setv bs (0 : Int32) p dc cc, (0 : Int32), (0 : Int32)] := if_pos (of_decide_eq_true rfl)
  have s1 : own_st bs p dc cc [own_setv bs (0 : Int32) p dc cc, (0 : Int32), (0 : Int32)] (1 : Int32) = [own_setv bs (0 : Int32) p dc cc, own_setv bs (1 : Int32) p dc cc, (0 : Int32)] := if_pos (of_decide_eq_true rfl)
  have s2 : own_st bs p dc cc [own_setv bs (0 : Int32) p dc cc, own_setv bs (1 : Int32) p dc cc, (0 : Int32)] (2 : Int32) = [own_setv bs (0 : Int32) p dc cc, own_setv bs (1 : Int32) p dc cc, own_setv bs (2 : Int32) p dc cc] := if_pos (of_decide_eq_true rfl)
  have s3 : own_st bs p dc cc [own_setv bs (0 : Int32) p dc cc, own_setv bs (1 : Int32) p dc cc, own_setv bs (2 : Int32) p dc cc] (3 : Int32) = [own_setv bs (0 : Int32) p dc cc, own_setv bs (1 : Int32) p dc cc, own_setv bs (2 : Int32) p dc cc] := if_neg (of_decide_eq_false rfl)
  have s4 : own_st bs p dc cc [own_setv bs (0 : Int32) p dc cc, own_setv bs (1 : Int32) p dc cc, own_setv bs (2 : Int32) p dc cc] (4 : Int32) = [own_setv bs (0 : Int32) p dc cc, own_setv bs (1 : Int32) p dc cc, own_setv bs (2 : Int32) p dc cc] := if_neg (of_decide_eq_false rfl)
  have s5 : own_st bs p dc cc [own_setv bs (0 : Int32) p dc cc, own_setv bs (1 : Int32) p dc cc, own_setv bs (2 : Int32) p dc cc] (5 : Int32) = [own_setv bs (0 : Int32) p dc cc, own_setv bs (1 : Int32) p dc cc, own_setv bs (2 : Int32) p dc cc] := if_neg (of_decide_eq_false rfl)
  have s6 : own_st bs p dc cc [own_setv bs (0 : Int32) p dc cc, own_setv bs (1 : Int32) p dc cc, own_setv bs (2 : Int32) p dc cc] (6 : Int32) = [own_setv bs (0 : Int32) p dc cc, own_setv bs (1 : Int32) p dc cc, own_setv bs (2 : Int32) p dc cc] := if_neg (of_decide_eq_false rfl)
  have s7 : own_st bs p dc cc [own_setv bs (0 : Int32) p dc cc, own_setv bs (1 : Int32) p dc cc, own_setv bs (2 : Int32) p dc cc] (7 : Int32) = [own_setv bs (0 : Int32) p dc cc, own_setv bs (1 : Int32) p dc cc, own_setv bs (2 : Int32) p dc cc] := if_neg (of_decide_eq_false rfl)
  have s8 : own_st bs p dc cc [own_setv bs (0 : Int32) p dc cc, own_setv bs (1 : Int32) p dc cc, own_setv bs (2 : Int32) p dc cc] (8 : Int32) = [own_setv bs (0 : Int32) p dc cc, own_setv bs (1 : Int32) p dc cc, own_setv bs (2 : Int32) p dc cc] := if_neg (of_decide_eq_false rfl)
  have s9 : own_st bs p dc cc [own_setv bs (0 : Int32) p dc cc, own_setv bs (1 : Int32) p dc cc, own_setv bs (2 : Int32) p dc cc] (9 : Int32) = [own_setv bs (0 : Int32) p dc cc, own_setv bs (1 : Int32) p dc cc, own_setv bs (2 : Int32) p dc cc] := if_neg (of_decide_eq_false rfl)
  have s10 : own_st bs p dc cc [own_setv bs (0 : Int32) p dc cc, own_setv bs (1 : Int32) p dc cc, own_setv bs (2 : Int32) p dc cc] (10 : Int32) = [own_setv bs (0 : Int32) p dc cc, own_setv bs (1 : Int32) p dc cc, own_setv bs (2 : Int32) p dc cc] := if_neg (of_decide_eq_false rfl)
  unfold own_name
  rw [show List.replicate 3 (0 : Int32) = [(0 : Int32), (0 : Int32), (0 : Int32)] from rfl, s0, s1, s2, s3, s4, s5, s6, s7, s8, s9, s10]
set_option maxRecDepth 10000 in
theorem own_name_7 (bs : List Int32) (p dc cc : Int32) : own_name bs 7 p dc cc = [own_setv bs (0 : Int32) p dc cc, own_setv bs (1 : Int32) p dc cc, own_setv bs (2 : Int32) p dc cc, own_setv bs (3 : Int32) p dc cc, own_setv bs (4 : Int32) p dc cc, own_setv bs (5 : Int32) p dc cc, own_setv bs (6 : Int32) p dc cc] := by
  have s0 : own_st bs p dc cc [(0 : Int32), (0 : Int32), (0 : Int32), (0 : Int32), (0 : Int32), (0 : Int32), (0 : Int32)] (0 : Int32) = [own_setv bs (0 : Int32) p dc cc, (0 : Int32), (0 : Int32), (0 : Int32), (0 : Int32), (0 : Int32), (0 : Int32)] := if_pos (of_decide_eq_true rfl)
  have s1 : own_st bs p dc cc [own_setv bs (0 : Int32) p dc cc, (0 : Int32), (0 : Int32), (0 : Int32), (0 : Int32), (0 : Int32), (0 : Int32)] (1 : Int32) = [own_setv bs (0 : Int32) p dc cc, own_setv bs (1 : Int32) p dc cc, (0 : Int32), (0 : Int32), (0 : Int32), (0 : Int32), (0 : Int32)] := if_pos (of_decide_eq_true rfl)
  have s2 : own_st bs p dc cc [own_setv bs (0 : Int32) p dc cc, own_setv bs (1 : Int32) p dc cc, (0 : Int32), (0 : Int32), (0 : Int32), (0 : Int32), (0 : Int32)] (2 : Int32) = [own_setv bs (0 : Int32) p dc cc, own_setv bs (1 : Int32) p dc cc, own_setv bs (2 : Int32) p dc cc, (0 : Int32), (0 : Int32), (0 : Int32), (0 : Int32)] := if_pos (of_decide_eq_true rfl)
  have s3 : own_st bs p dc cc [own_setv bs (0 : Int32) p dc cc, own_setv bs (1 : Int32) p dc cc, own_setv bs (2 : Int32) p dc cc, (0 : Int32), (0 : Int32), (0 : Int32), (0 : Int32)] (3 : Int32) = [own_setv bs (0 : Int32) p dc cc, own_setv bs (1 : Int32) p dc cc, own_setv bs (2 : Int32) p dc cc, own_setv bs (3 : Int32) p dc cc, (0 : Int32), (0 : Int32), (0 : Int32)] := if_pos (of_decide_eq_true rfl)
  have s4 : own_st bs p dc cc [own_setv bs (0 : Int32) p dc cc, own_setv bs (1 : Int32) p dc cc, own_setv bs (2 : Int32) p dc cc, own_setv bs (3 : Int32) p dc cc, (0 : Int32), (0 : Int32), (0 : Int32)] (4 : Int32) = [own_setv bs (0 : Int32) p dc cc, own_setv bs (1 : Int32) p dc cc, own_setv bs (2 : Int32) p dc cc, own_setv bs (3 : Int32) p dc cc, own_setv bs (4 : Int32) p dc cc, (0 : Int32), (0 : Int32)] := if_pos (of_decide_eq_true rfl)
  have s5 : own_st bs p dc cc [own_setv bs (0 : Int32) p dc cc, own_setv bs (1 : Int32) p dc cc, own_setv bs (2 : Int32) p dc cc, own_setv bs (3 : Int32) p dc cc, own_setv bs (4 : Int32) p dc cc, (0 : Int32), (0 : Int32)] (5 : Int32) = [own_setv bs (0 : Int32) p dc cc, own_setv bs (1 : Int32) p dc cc, own_setv bs (2 : Int32) p dc cc, own_setv bs (3 : Int32) p dc cc, own_setv bs (4 : Int32) p dc cc, own_setv bs (5 : Int32) p dc cc, (0 : Int32)] := if_pos (of_decide_eq_true rfl)
  have s6 : own_st bs p dc cc [own_setv bs (0 : Int32) p dc cc, own_setv bs (1 : Int32) p dc cc, own_setv bs (2 : Int32) p dc cc, own_setv bs (3 : Int32) p dc cc, own_setv bs (4 : Int32) p dc cc, own_setv bs (5 : Int32) p dc cc, (0 : Int32)] (6 : Int32) = [own_setv bs (0 : Int32) p dc cc, own_setv bs (1 : Int32) p dc cc, own_setv bs (2 : Int32) p dc cc, own_setv bs (3 : Int32) p dc cc, own_setv bs (4 : Int32) p dc cc, own_setv bs (5 : Int32) p dc cc, own_setv bs (6 : Int32) p dc cc] := if_pos (of_decide_eq_true rfl)
  have s7 : own_st bs p dc cc [own_setv bs (0 : Int32) p dc cc, own_setv bs (1 : Int32) p dc cc, own_setv bs (2 : Int32) p dc cc, own_setv bs (3 : Int32) p dc cc, own_setv bs (4 : Int32) p dc cc, own_setv bs (5 : Int32) p dc cc, own_setv bs (6 : Int32) p dc cc] (7 : Int32) = [own_setv bs (0 : Int32) p dc cc, own_setv bs (1 : Int32) p dc cc, own_setv bs (2 : Int32) p dc cc, own_setv bs (3 : Int32) p dc cc, own_setv bs (4 : Int32) p dc cc, own_setv bs (5 : Int32) p dc cc, own_setv bs (6 : Int32) p dc cc] := if_neg (of_decide_eq_false rfl)
  have s8 : own_st bs p dc cc [own_setv bs (0 : Int32) p dc cc, own_setv bs (1 : Int32) p dc cc, own_setv bs (2 : Int32) p dc cc, own_setv bs (3 : Int32) p dc cc, own_setv bs (4 : Int32) p dc cc, own_setv bs (5 : Int32) p dc cc, own_setv bs (6 : Int32) p dc cc] (8 : Int32) = [own_setv bs (0 : Int32) p dc cc, own_setv bs (1 : Int32) p dc cc, own_setv bs (2 : Int32) p dc cc, own_setv bs (3 : Int32) p dc cc, own_setv bs (4 : Int32) p dc cc, own_setv bs (5 : Int32) p dc cc, own_setv bs (6 : Int32) p dc cc] := if_neg (of_decide_eq_false rfl)
  have s9 : own_st bs p dc cc [own_setv bs (0 : Int32) p dc cc, own_setv bs (1 : Int32) p dc cc, own_setv bs (2 : Int32) p dc cc, own_setv bs (3 : Int32) p dc cc, own_setv bs (4 : Int32) p dc cc, own_setv bs (5 : Int32) p dc cc, own_setv bs (6 : Int32) p dc cc] (9 : Int32) = [own_setv bs (0 : Int32) p dc cc, own_setv bs (1 : Int32) p dc cc, own_setv bs (2 : Int32) p dc cc, own_setv bs (3 : Int32) p dc cc, own_setv bs (4 : Int32) p dc cc, own_setv bs (5 : Int32) p dc cc, own_setv bs (6 : Int32) p dc cc] := if_neg (of_decide_eq_false rfl)
  have s10 : own_st bs p dc cc [own_setv bs (0 : Int32) p dc cc, own_setv bs (1 : Int32) p dc cc, own_setv bs (2 : Int32) p dc cc, own_setv bs (3 : Int32) p dc cc, own_setv bs (4 : Int32) p dc cc, own_setv bs (5 : Int32) p dc cc, own_setv bs (6 : Int32) p dc cc] (10 : Int32) = [own_setv bs (0 : Int32) p dc cc, own_setv bs (1 : Int32) p dc cc, own_setv bs (2 : Int32) p dc cc, own_setv bs (3 : Int32) p dc cc, own_setv bs (4 : Int32) p dc cc, own_setv bs (5 : Int32) p dc cc, own_setv bs (6 : Int32) p dc cc] := if_neg (of_decide_eq_false rfl)
  unfold own_name
  rw [show List.replicate 7 (0 : Int32) = [(0 : Int32), (0 : Int32), (0 : Int32), (0 : Int32), (0 : Int32), (0 : Int32), (0 : Int32)] from rfl, s0, s1, s2, s3, s4, s5, s6, s7, s8, s9, s10]
set_option maxRecDepth 10000 in
theorem own_name_8 (bs : List Int32) (p dc cc : Int32) : own_name bs 8 p dc cc = [own_setv bs (0 : Int32) p dc cc, own_setv bs (1 : Int32) p dc cc, own_setv bs (2 : Int32) p dc cc, own_setv bs (3 : Int32) p dc cc, own_setv bs (4 : Int32) p dc cc, own_setv bs (5 : Int32) p dc cc, own_setv bs (6 : Int32) p dc cc, own_setv bs (7 : Int32) p dc cc] := by
  have s0 : own_st bs p dc cc [(0 : Int32), (0 : Int32), (0 : Int32), (0 : Int32), (0 : Int32), (0 : Int32), (0 : Int32), (0 : Int32)] (0 : Int32) = [own_setv bs (0 : Int32) p dc cc, (0 : Int32), (0 : Int32), (0 : Int32), (0 : Int32), (0 : Int32), (0 : Int32), (0 : Int32)] := if_pos (of_decide_eq_true rfl)
  have s1 : own_st bs p dc cc [own_setv bs (0 : Int32) p dc cc, (0 : Int32), (0 : Int32), (0 : Int32), (0 : Int32), (0 : Int32), (0 : Int32), (0 : Int32)] (1 : Int32) = [own_setv bs (0 : Int32) p dc cc, own_setv bs (1 : Int32) p dc cc, (0 : Int32), (0 : Int32), (0 : Int32), (0 : Int32), (0 : Int32), (0 : Int32)] := if_pos (of_decide_eq_true rfl)
  have s2 : own_st bs p dc cc [own_setv bs (0 : Int32) p dc cc, own_setv bs (1 : Int32) p dc cc, (0 : Int32), (0 : Int32), (0 : Int32), (0 : Int32), (0 : Int32), (0 : Int32)] (2 : Int32) = [own_setv bs (0 : Int32) p dc cc, own_setv bs (1 : Int32) p dc cc, own_setv bs (2 : Int32) p dc cc, (0 : Int32), (0 : Int32), (0 : Int32), (0 : Int32), (0 : Int32)] := if_pos (of_decide_eq_true rfl)
  have s3 : own_st bs p dc cc [own_setv bs (0 : Int32) p dc cc, own_setv bs (1 : Int32) p dc cc, own_setv bs (2 : Int32) p dc cc, (0 : Int32), (0 : Int32), (0 : Int32), (0 : Int32), (0 : Int32)] (3 : Int32) = [own_setv bs (0 : Int32) p dc cc, own_setv bs (1 : Int32) p dc cc, own_setv bs (2 : Int32) p dc cc, own_setv bs (3 : Int32) p dc cc, (0 : Int32), (0 : Int32), (0 : Int32), (0 : Int32)] := if_pos (of_decide_eq_true rfl)
  have s4 : own_st bs p dc cc [own_setv bs (0 : Int32) p dc cc, own_setv bs (1 : Int32) p dc cc, own_setv bs (2 : Int32) p dc cc, own_setv bs (3 : Int32) p dc cc, (0 : Int32), (0 : Int32), (0 : Int32), (0 : Int32)] (4 : Int32) = [own_setv bs (0 : Int32) p dc cc, own_setv bs (1 : Int32) p dc cc, own_setv bs (2 : Int32) p dc cc, own_setv bs (3 : Int32) p dc cc, own_setv bs (4 : Int32) p dc cc, (0 : Int32), (0 : Int32), (0 : Int32)] := if_pos (of_decide_eq_true rfl)
  have s5 : own_st bs p dc cc [own_setv bs (0 : Int32) p dc cc, own_setv bs (1 : Int32) p dc cc, own_setv bs (2 : Int32) p dc cc, own_setv bs (3 : Int32) p dc cc, own_setv bs (4 : Int32) p dc cc, (0 : Int32), (0 : Int32), (0 : Int32)] (5 : Int32) = [own_setv bs (0 : Int32) p dc cc, own_setv bs (1 : Int32) p dc cc, own_setv bs (2 : Int32) p dc cc, own_setv bs (3 : Int32) p dc cc, own_setv bs (4 : Int32) p dc cc, own_setv bs (5 : Int32) p dc cc, (0 : Int32), (0 : Int32)] := if_pos (of_decide_eq_true rfl)
  have s6 : own_st bs p dc cc [own_setv bs (0 : Int32) p dc cc, own_setv bs (1 : Int32) p dc cc, own_setv bs (2 : Int32) p dc cc, own_setv bs (3 : Int32) p dc cc, own_setv bs (4 : Int32) p dc cc, own_setv bs (5 : Int32) p dc cc, (0 : Int32), (0 : Int32)] (6 : Int32) = [own_setv bs (0 : Int32) p dc cc, own_setv bs (1 : Int32) p dc cc, own_setv bs (2 : Int32) p dc cc, own_setv bs (3 : Int32) p dc cc, own_setv bs (4 : Int32) p dc cc, own_setv bs (5 : Int32) p dc cc, own_setv bs (6 : Int32) p dc cc, (0 : Int32)] := if_pos (of_decide_eq_true rfl)
  have s7 : own_st bs p dc cc [own_setv bs (0 : Int32) p dc cc, own_setv bs (1 : Int32) p dc cc, own_setv bs (2 : Int32) p dc cc, own_setv bs (3 : Int32) p dc cc, own_setv bs (4 : Int32) p dc cc, own_setv bs (5 : Int32) p dc cc, own_setv bs (6 : Int32) p dc cc, (0 : Int32)] (7 : Int32) = [own_setv bs (0 : Int32) p dc cc, own_setv bs (1 : Int32) p dc cc, own_setv bs (2 : Int32) p dc cc, own_setv bs (3 : Int32) p dc cc, own_setv bs (4 : Int32) p dc cc, own_setv bs (5 : Int32) p dc cc, own_setv bs (6 : Int32) p dc cc, own_setv bs (7 : Int32) p dc cc] := if_pos (of_decide_eq_true rfl)
  have s8 : own_st bs p dc cc [own_setv bs (0 : Int32) p dc cc, own_setv bs (1 : Int32) p dc cc, own_setv bs (2 : Int32) p dc cc, own_setv bs (3 : Int32) p dc cc, own_setv bs (4 : Int32) p dc cc, own_setv bs (5 : Int32) p dc cc, own_setv bs (6 : Int32) p dc cc, own_setv bs (7 : Int32) p dc cc] (8 : Int32) = [own_setv bs (0 : Int32) p dc cc, own_setv bs (1 : Int32) p dc cc, own_setv bs (2 : Int32) p dc cc, own_setv bs (3 : Int32) p dc cc, own_setv bs (4 : Int32) p dc cc, own_setv bs (5 : Int32) p dc cc, own_setv bs (6 : Int32) p dc cc, own_setv bs (7 : Int32) p dc cc] := if_neg (of_decide_eq_false rfl)
  have s9 : own_st bs p dc cc [own_setv bs (0 : Int32) p dc cc, own_setv bs (1 : Int32) p dc cc, own_setv bs (2 : Int32) p dc cc, own_setv bs (3 : Int32) p dc cc, own_setv bs (4 : Int32) p dc cc, own_setv bs (5 : Int32) p dc cc, own_setv bs (6 : Int32) p dc cc, own_setv bs (7 : Int32) p dc cc] (9 : Int32) = [own_setv bs (0 : Int32) p dc cc, own_setv bs (1 : Int32) p dc cc, own_setv bs (2 : Int32) p dc cc, own_setv bs (3 : Int32) p dc cc, own_setv bs (4 : Int32) p dc cc, own_setv bs (5 : Int32) p dc cc, own_setv bs (6 : Int32) p dc cc, own_setv bs (7 : Int32) p dc cc] := if_neg (of_decide_eq_false rfl)
  have s10 : own_st bs p dc cc [own_setv bs (0 : Int32) p dc cc, own_setv bs (1 : Int32) p dc cc, own_setv bs (2 : Int32) p dc cc, own_setv bs (3 : Int32) p dc cc, own_setv bs (4 : Int32) p dc cc, own_setv bs (5 : Int32) p dc cc, own_setv bs (6 : Int32) p dc cc, own_setv bs (7 : Int32) p dc cc] (10 : Int32) = [own_setv bs (0 : Int32) p dc cc, own_setv bs (1 : Int32) p dc cc, own_setv bs (2 : Int32) p dc cc, own_setv bs (3 : Int32) p dc cc, own_setv bs (4 : Int32) p dc cc, own_setv bs (5 : Int32) p dc cc, own_setv bs (6 : Int32) p dc cc, own_setv bs (7 : Int32) p dc cc] := if_neg (of_decide_eq_false rfl)
  unfold own_name
  rw [show List.replicate 8 (0 : Int32) = [(0 : Int32), (0 : Int32), (0 : Int32), (0 : Int32), (0 : Int32), (0 : Int32), (0 : Int32), (0 : Int32)] from rfl, s0, s1, s2, s3, s4, s5, s6, s7, s8, s9, s10]
set_option maxRecDepth 10000 in
theorem own_name_9 (bs : List Int32) (p dc cc : Int32) : own_name bs 9 p dc cc = [own_setv bs (0 : Int32) p dc cc, own_setv bs (1 : Int32) p dc cc, own_setv bs (2 : Int32) p dc cc, own_setv bs (3 : Int32) p dc cc, own_setv bs (4 : Int32) p dc cc, own_setv bs (5 : Int32) p dc cc, own_setv bs (6 : Int32) p dc cc, own_setv bs (7 : Int32) p dc cc, own_setv bs (8 : Int32) p dc cc] := by
  have s0 : own_st bs p dc cc [(0 : Int32), (0 : Int32), (0 : Int32), (0 : Int32), (0 : Int32), (0 : Int32), (0 : Int32), (0 : Int32), (0 : Int32)] (0 : Int32) = [own_setv bs (0 : Int32) p dc cc, (0 : Int32), (0 : Int32), (0 : Int32), (0 : Int32), (0 : Int32), (0 : Int32), (0 : Int32), (0 : Int32)] := if_pos (of_decide_eq_true rfl)
  have s1 : own_st bs p dc cc [own_setv bs (0 : Int32) p dc cc, (0 : Int32), (0 : Int32), (0 : Int32), (0 : Int32), (0 : Int32), (0 : Int32), (0 : Int32), (0 : Int32)] (1 : Int32) = [own_setv bs (0 : Int32) p dc cc, own_setv bs (1 : Int32) p dc cc, (0 : Int32), (0 : Int32), (0 : Int32), (0 : Int32), (0 : Int32), (0 : Int32), (0 : Int32)] := if_pos (of_decide_eq_true rfl)
  have s2 : own_st bs p dc cc [own_setv bs (0 : Int32) p dc cc, own_setv bs (1 : Int32) p dc cc, (0 : Int32), (0 : Int32), (0 : Int32), (0 : Int32), (0 : Int32), (0 : Int32), (0 : Int32)] (2 : Int32) = [own_setv bs (0 : Int32) p dc cc, own_setv bs (1 : Int32) p dc cc, own_setv bs (2 : Int32) p dc cc, (0 : Int32), (0 : Int32), (0 : Int32), (0 : Int32), (0 : Int32), (0 : Int32)] := if_pos (of_decide_eq_true rfl)
  have s3 : own_st bs p dc cc [own_setv bs (0 : Int32) p dc cc, own_setv bs (1 : Int32) p dc cc, own_setv bs (2 : Int32) p dc cc, (0 : Int32), (0 : Int32), (0 : Int32), (0 : Int32), (0 : Int32), (0 : Int32)] (3 : Int32) = [own_setv bs (0 : Int32) p dc cc, own_setv bs (1 : Int32) p dc cc, own_setv bs (2 : Int32) p dc cc, own_setv bs (3 : Int32) p dc cc, (0 : Int32), (0 : Int32), (0 : Int32), (0 : Int32), (0 : Int32)] := if_pos (of_decide_eq_true rfl)
  have s4 : own_st bs p dc cc [own_setv bs (0 : Int32) p dc cc, own_setv bs (1 : Int32) p dc cc, own_setv bs (2 : Int32) p dc cc, own_setv bs (3 : Int32) p dc cc, (0 : Int32), (0 : Int32), (0 : Int32), (0 : Int32), (0 : Int32)] (4 : Int32) = [own_setv bs (0 : Int32) p dc cc, own_setv bs (1 : Int32) p dc cc, own_setv bs (2 : Int32) p dc cc, own_setv bs (3 : Int32) p dc cc, own_setv bs (4 : Int32) p dc cc, (0 : Int32), (0 : Int32), (0 : Int32), (0 : Int32)] := if_pos (of_decide_eq_true rfl)
  have s5 : own_st bs p dc cc [own_setv bs (0 : Int32) p dc cc, own_setv bs (1 : Int32) p dc cc, own_setv bs (2 : Int32) p dc cc, own_setv bs (3 : Int32) p dc cc, own_setv bs (4 : Int32) p dc cc, (0 : Int32), (0 : Int32), (0 : Int32), (0 : Int32)] (5 : Int32) = [own_setv bs (0 : Int32) p dc cc, own_setv bs (1 : Int32) p dc cc, own_setv bs (2 : Int32) p dc cc, own_setv bs (3 : Int32) p dc cc, own_setv bs (4 : Int32) p dc cc, own_setv bs (5 : Int32) p dc cc, (0 : Int32), (0 : Int32), (0 : Int32)] := if_pos (of_decide_eq_true rfl)
  have s6 : own_st bs p dc cc [own_setv bs (0 : Int32) p dc cc, own_setv bs (1 : Int32) p dc cc, own_setv bs (2 : Int32) p dc cc, own_setv bs (3 : Int32) p dc cc, own_setv bs (4 : Int32) p dc cc, own_setv bs (5 : Int32) p dc cc, (0 : Int32), (0 : Int32), (0 : Int32)] (6 : Int32) = [own_setv bs (0 : Int32) p dc cc, own_setv bs (1 : Int32) p dc cc, own_setv bs (2 : Int32) p dc cc, own_setv bs (3 : Int32) p dc cc, own_setv bs (4 : Int32) p dc cc, own_setv bs (5 : Int32) p dc cc, own_setv bs (6 : Int32) p dc cc, (0 : Int32), (0 : Int32)] := if_pos (of_decide_eq_true rfl)
  have s7 : own_st bs p dc cc [own_setv bs (0 : Int32) p dc cc, own_setv bs (1 : Int32) p dc cc, own_setv bs (2 : Int32) p dc cc, own_setv bs (3 : Int32) p dc cc, own_setv bs (4 : Int32) p dc cc, own_setv bs (5 : Int32) p dc cc, own_setv bs (6 : Int32) p dc cc, (0 : Int32), (0 : Int32)] (7 : Int32) = [own_setv bs (0 : Int32) p dc cc, own_setv bs (1 : Int32) p dc cc, own_setv bs (2 : Int32) p dc cc, own_setv bs (3 : Int32) p dc cc, own_setv bs (4 : Int32) p dc cc, own_setv bs (5 : Int32) p dc cc, own_setv bs (6 : Int32) p dc cc, own_setv bs (7 : Int32) p dc cc, (0 : Int32)] := if_pos (of_decide_eq_true rfl)
  have s8 : own_st bs p dc cc [own_setv bs (0 : Int32) p dc cc, own_setv bs (1 : Int32) p dc cc, own_setv bs (2 : Int32) p dc cc, own_setv bs (3 : Int32) p dc cc, own_setv bs (4 : Int32) p dc cc, own_setv bs (5 : Int32) p dc cc, own_setv bs (6 : Int32) p dc cc, own_setv bs (7 : Int32) p dc cc, (0 : Int32)] (8 : Int32) = [own_setv bs (0 : Int32) p dc cc, own_setv bs (1 : Int32) p dc cc, own_setv bs (2 : Int32) p dc cc, own_setv bs (3 : Int32) p dc cc, own_setv bs (4 : Int32) p dc cc, own_setv bs (5 : Int32) p dc cc, own_setv bs (6 : Int32) p dc cc, own_setv bs (7 : Int32) p dc cc, own_setv bs (8 : Int32) p dc cc] := if_pos (of_decide_eq_true rfl)
  have s9 : own_st bs p dc cc [own_setv bs (0 : Int32) p dc cc, own_setv bs (1 : Int32) p dc cc, own_setv bs (2 : Int32) p dc cc, own_setv bs (3 : Int32) p dc cc, own_setv bs (4 : Int32) p dc cc, own_setv bs (5 : Int32) p dc cc, own_setv bs (6 : Int32) p dc cc, own_setv bs (7 : Int32) p dc cc, own_setv bs (8 : Int32) p dc cc] (9 : Int32) = [own_setv bs (0 : Int32) p dc cc, own_setv bs (1 : Int32) p dc cc, own_setv bs (2 : Int32) p dc cc, own_setv bs (3 : Int32) p dc cc, own_setv bs (4 : Int32) p dc cc, own_setv bs (5 : Int32) p dc cc, own_setv bs (6 : Int32) p dc cc, own_setv bs (7 : Int32) p dc cc, own_setv bs (8 : Int32) p dc cc] := if_neg (of_decide_eq_false rfl)
  have s10 : own_st bs p dc cc [own_setv bs (0 : Int32) p dc cc, own_setv bs (1 : Int32) p dc cc, own_setv bs (2 : Int32) p dc cc, own_setv bs (3 : Int32) p dc cc, own_setv bs (4 : Int32) p dc cc, own_setv bs (5 : Int32) p dc cc, own_setv bs (6 : Int32) p dc cc, own_setv bs (7 : Int32) p dc cc, own_setv bs (8 : Int32) p dc cc] (10 : Int32) = [own_setv bs (0 : Int32) p dc cc, own_setv bs (1 : Int32) p dc cc, own_setv bs (2 : Int32) p dc cc, own_setv bs (3 : Int32) p dc cc, own_setv bs (4 : Int32) p dc cc, own_setv bs (5 : Int32) p dc cc, own_setv bs (6 : Int32) p dc cc, own_setv bs (7 : Int32) p dc cc, own_setv bs (8 : Int32) p dc cc] := if_neg (of_decide_eq_false rfl)
  unfold own_name
  rw [show List.replicate 9 (0 : Int32) = [(0 : Int32), (0 : Int32), (0 : Int32), (0 : Int32), (0 : Int32), (0 : Int32), (0 : Int32), (0 : Int32), (0 : Int32)] from rfl, s0, s1, s2, s3, s4, s5, s6, s7, s8, s9, s10]
set_option maxRecDepth 10000 in
theorem own_name_10 (bs : List Int32) (p dc cc : Int32) : own_name bs 10 p dc cc = [own_setv bs (0 : Int32) p dc cc, own_setv bs (1 : Int32) p dc cc, own_setv bs (2 : Int32) p dc cc, own_setv bs (3 : Int32) p dc cc, own_setv bs (4 : Int32) p dc cc, own_setv bs (5 : Int32) p dc cc, own_setv bs (6 : Int32) p dc cc, own_setv bs (7 : Int32) p dc cc, own_setv bs (8 : Int32) p dc cc, own_setv bs (9 : Int32) p dc cc] := by
  have s0 : own_st bs p dc cc [(0 : Int32), (0 : Int32), (0 : Int32), (0 : Int32), (0 : Int32), (0 : Int32), (0 : Int32), (0 : Int32), (0 : Int32), (0 : Int32)] (0 : Int32) = [own_setv bs (0 : Int32) p dc cc, (0 : Int32), (0 : Int32), (0 : Int32), (0 : Int32), (0 : Int32), (0 : Int32), (0 : Int32), (0 : Int32), (0 : Int32)] := if_pos (of_decide_eq_true rfl)
  have s1 : own_st bs p dc cc [own_setv bs (0 : Int32) p dc cc, (0 : Int32), (0 : Int32), (0 : Int32), (0 : Int32), (0 : Int32), (0 : Int32), (0 : Int32), (0 : Int32), (0 : Int32)] (1 : Int32) = [own_setv bs (0 : Int32) p dc cc, own_setv bs (1 : Int32) p dc cc, (0 : Int32), (0 : Int32), (0 : Int32), (0 : Int32), (0 : Int32), (0 : Int32), (0 : Int32), (0 : Int32)] := if_pos (of_decide_eq_true rfl)
  have s2 : own_st bs p dc cc [own_setv bs (0 : Int32) p dc cc, own_setv bs (1 : Int32) p dc cc, (0 : Int32), (0 : Int32), (0 : Int32), (0 : Int32), (0 : Int32), (0 : Int32), (0 : Int32), (0 : Int32)] (2 : Int32) = [own_setv bs (0 : Int32) p dc cc, own_setv bs (1 : Int32) p dc cc, own_setv bs (2 : Int32) p dc cc, (0 : Int32), (0 : Int32), (0 : Int32), (0 : Int32), (0 : Int32), (0 : Int32), (0 : Int32)] := if_pos (of_decide_eq_true rfl)
  have s3 : own_st bs p dc cc [own_setv bs (0 : Int32) p dc cc, own_setv bs (1 : Int32) p dc cc, own_setv bs (2 : Int32) p dc cc, (0 : Int32), (0 : Int32), (0 : Int32), (0 : Int32), (0 : Int32), (0 : Int32), (0 : Int32)] (3 : Int32) = [own_setv bs (0 : Int32) p dc cc, own_setv bs (1 : Int32) p dc cc, own_setv bs (2 : Int32) p dc cc, own_setv bs (3 : Int32) p dc cc, (0 : Int32), (0 : Int32), (0 : Int32), (0 : Int32), (0 : Int32), (0 : Int32)] := if_pos (of_decide_eq_true rfl)
  have s4 : own_st bs p dc cc [own_setv bs (0 : Int32) p dc cc, own_setv bs (1 : Int32) p dc cc, own_setv bs (2 : Int32) p dc cc, own_setv bs (3 : Int32) p dc cc, (0 : Int32), (0 : Int32), (0 : Int32), (0 : Int32), (0 : Int32), (0 : Int32)] (4 : Int32) = [own_setv bs (0 : Int32) p dc cc, own_setv bs (1 : Int32) p dc cc, own_setv bs (2 : Int32) p dc cc, own_setv bs (3 : Int32) p dc cc, own_setv bs (4 : Int32) p dc cc, (0 : Int32), (0 : Int32), (0 : Int32), (0 : Int32), (0 : Int32)] := if_pos (of_decide_eq_true rfl)
  have s5 : own_st bs p dc cc [own_setv bs (0 : Int32) p dc cc, own_setv bs (1 : Int32) p dc cc, own_setv bs (2 : Int32) p dc cc, own_setv bs (3 : Int32) p dc cc, own_setv bs (4 : Int32) p dc cc, (0 : Int32), (0 : Int32), (0 : Int32), (0 : Int32), (0 : Int32)] (5 : Int32) = [own_setv bs (0 : Int32) p dc cc, own_setv bs (1 : Int32) p dc cc, own_setv bs (2 : Int32) p dc cc, own_setv bs (3 : Int32) p dc cc, own_setv bs (4 : Int32) p dc cc, own_setv bs (5 : Int32) p dc cc, (0 : Int32), (0 : Int32), (0 : Int32), (0 : Int32)] := if_pos (of_decide_eq_true rfl)
  have s6 : own_st bs p dc cc [own_setv bs (0 : Int32) p dc cc, own_setv bs (1 : Int32) p dc cc, own_setv bs (2 : Int32) p dc cc, own_setv bs (3 : Int32) p dc cc, own_setv bs (4 : Int32) p dc cc, own_setv bs (5 : Int32) p dc cc, (0 : Int32), (0 : Int32), (0 : Int32), (0 : Int32)] (6 : Int32) = [own_setv bs (0 : Int32) p dc cc, own_setv bs (1 : Int32) p dc cc, own_setv bs (2 : Int32) p dc cc, own_setv bs (3 : Int32) p dc cc, own_setv bs (4 : Int32) p dc cc, own_setv bs (5 : Int32) p dc cc, own_setv bs (6 : Int32) p dc cc, (0 : Int32), (0 : Int32), (0 : Int32)] := if_pos (of_decide_eq_true rfl)
  have s7 : own_st bs p dc cc [own_setv bs (0 : Int32) p dc cc, own_setv bs (1 : Int32) p dc cc, own_setv bs (2 : Int32) p dc cc, own_setv bs (3 : Int32) p dc cc, own_setv bs (4 : Int32) p dc cc, own_setv bs (5 : Int32) p dc cc, own_setv bs (6 : Int32) p dc cc, (0 : Int32), (0 : Int32), (0 : Int32)] (7 : Int32) = [own_setv bs (0 : Int32) p dc cc, own_setv bs (1 : Int32) p dc cc, own_setv bs (2 : Int32) p dc cc, own_setv bs (3 : Int32) p dc cc, own_setv bs (4 : Int32) p dc cc, own_setv bs (5 : Int32) p dc cc, own_setv bs (6 : Int32) p dc cc, own_setv bs (7 : Int32) p dc cc, (0 : Int32), (0 : Int32)] := if_pos (of_decide_eq_true rfl)
  have s8 : own_st bs p dc cc [own_setv bs (0 : Int32) p dc cc, own_setv bs (1 : Int32) p dc cc, own_setv bs (2 : Int32) p dc cc, own_setv bs (3 : Int32) p dc cc, own_setv bs (4 : Int32) p dc cc, own_setv bs (5 : Int32) p dc cc, own_setv bs (6 : Int32) p dc cc, own_setv bs (7 : Int32) p dc cc, (0 : Int32), (0 : Int32)] (8 : Int32) = [own_setv bs (0 : Int32) p dc cc, own_setv bs (1 : Int32) p dc cc, own_setv bs (2 : Int32) p dc cc, own_setv bs (3 : Int32) p dc cc, own_setv bs (4 : Int32) p dc cc, own_setv bs (5 : Int32) p dc cc, own_setv bs (6 : Int32) p dc cc, own_setv bs (7 : Int32) p dc cc, own_setv bs (8 : Int32) p dc cc, (0 : Int32)] := if_pos (of_decide_eq_true rfl)
  have s9 : own_st bs p dc cc [own_setv bs (0 : Int32) p dc cc, own_setv bs (1 : Int32) p dc cc, own_setv bs (2 : Int32) p dc cc, own_setv bs (3 : Int32) p dc cc, own_setv bs (4 : Int32) p dc cc, own_setv bs (5 : Int32) p dc cc, own_setv bs (6 : Int32) p dc cc, own_setv bs (7 : Int32) p dc cc, own_setv bs (8 : Int32) p dc cc, (0 : Int32)] (9 : Int32) = [own_setv bs (0 : Int32) p dc cc, own_setv bs (1 : Int32) p dc cc, own_setv bs (2 : Int32) p dc cc, own_setv bs (3 : Int32) p dc cc, own_setv bs (4 : Int32) p dc cc, own_setv bs (5 : Int32) p dc cc, own_setv bs (6 : Int32) p dc cc, own_setv bs (7 : Int32) p dc cc, own_setv bs (8 : Int32) p dc cc, own_setv bs (9 : Int32) p dc cc] := if_pos (of_decide_eq_true rfl)
  have s10 : own_st bs p dc cc [own_setv bs (0 : Int32) p dc cc, own_setv bs (1 : Int32) p dc cc, own_setv bs (2 : Int32) p dc cc, own_setv bs (3 : Int32) p dc cc, own_setv bs (4 : Int32) p dc cc, own_setv bs (5 : Int32) p dc cc, own_setv bs (6 : Int32) p dc cc, own_setv bs (7 : Int32) p dc cc, own_setv bs (8 : Int32) p dc cc, own_setv bs (9 : Int32) p dc cc] (10 : Int32) = [own_setv bs (0 : Int32) p dc cc, own_setv bs (1 : Int32) p dc cc, own_setv bs (2 : Int32) p dc cc, own_setv bs (3 : Int32) p dc cc, own_setv bs (4 : Int32) p dc cc, own_setv bs (5 : Int32) p dc cc, own_setv bs (6 : Int32) p dc cc, own_setv bs (7 : Int32) p dc cc, own_setv bs (8 : Int32) p dc cc, own_setv bs (9 : Int32) p dc cc] := if_neg (of_decide_eq_false rfl)
  unfold own_name
  rw [show List.replicate 10 (0 : Int32) = [(0 : Int32), (0 : Int32), (0 : Int32), (0 : Int32), (0 : Int32), (0 : Int32), (0 : Int32), (0 : Int32), (0 : Int32), (0 : Int32)] from rfl, s0, s1, s2, s3, s4, s5, s6, s7, s8, s9, s10]
set_option maxRecDepth 10000 in
theorem own_name_11 (bs : List Int32) (p dc cc : Int32) : own_name bs 11 p dc cc = [own_setv bs (0 : Int32) p dc cc, own_setv bs (1 : Int32) p dc cc, own_setv bs (2 : Int32) p dc cc, own_setv bs (3 : Int32) p dc cc, own_setv bs (4 : Int32) p dc cc, own_setv bs (5 : Int32) p dc cc, own_setv bs (6 : Int32) p dc cc, own_setv bs (7 : Int32) p dc cc, own_setv bs (8 : Int32) p dc cc, own_setv bs (9 : Int32) p dc cc, own_setv bs (10 : Int32) p dc cc] := by
  have s0 : own_st bs p dc cc [(0 : Int32), (0 : Int32), (0 : Int32), (0 : Int32), (0 : Int32), (0 : Int32), (0 : Int32), (0 : Int32), (0 : Int32), (0 : Int32), (0 : Int32)] (0 : Int32) = [own_setv bs (0 : Int32) p dc cc, (0 : Int32), (0 : Int32), (0 : Int32), (0 : Int32), (0 : Int32), (0 : Int32), (0 : Int32), (0 : Int32), (0 : Int32), (0 : Int32)] := if_pos (of_decide_eq_true rfl)
  have s1 : own_st bs p dc cc [own_setv bs (0 : Int32) p dc cc, (0 : Int32), (0 : Int32), (0 : Int32), (0 : Int32), (0 : Int32), (0 : Int32), (0 : Int32), (0 : Int32), (0 : Int32), (0 : Int32)] (1 : Int32) = [own_setv bs (0 : Int32) p dc cc, own_setv bs (1 : Int32) p dc cc, (0 : Int32), (0 : Int32), (0 : Int32), (0 : Int32), (0 : Int32), (0 : Int32), (0 : Int32), (0 : Int32), (0 : Int32)] := if_pos (of_decide_eq_true rfl)
  have s2 : own_st bs p dc cc [own_setv bs (0 : Int32) p dc cc, own_setv bs (1 : Int32) p dc cc, (0 : Int32), (0 : Int32), (0 : Int32), (0 : Int32), (0 : Int32), (0 : Int32), (0 : Int32), (0 : Int32), (0 : Int32)] (2 : Int32) = [own_setv bs (0 : Int32) p dc cc, own_setv bs (1 : Int32) p dc cc, own_setv bs (2 : Int32) p dc cc, (0 : Int32), (0 : Int32), (0 : Int32), (0 : Int32), (0 : Int32), (0 : Int32), (0 : Int32), (0 : Int32)] := if_pos (of_decide_eq_true rfl)
  have s3 : own_st bs p dc cc [own_setv bs (0 : Int32) p dc cc, own_setv bs (1 : Int32) p dc cc, own_setv bs (2 : Int32) p dc cc, (0 : Int32), (0 : Int32), (0 : Int32), (0 : Int32), (0 : Int32), (0 : Int32), (0 : Int32), (0 : Int32)] (3 : Int32) = [own_setv bs (0 : Int32) p dc cc, own_setv bs (1 : Int32) p dc cc, own_setv bs (2 : Int32) p dc cc, own_setv bs (3 : Int32) p dc cc, (0 : Int32), (0 : Int32), (0 : Int32), (0 : Int32), (0 : Int32), (0 : Int32), (0 : Int32)] := if_pos (of_decide_eq_true rfl)
  have s4 : own_st bs p dc cc [own_setv bs (0 : Int32) p dc cc, own_setv bs (1 : Int32) p dc cc, own_setv bs (2 : Int32) p dc cc, own_setv bs (3 : Int32) p dc cc, (0 : Int32), (0 : Int32), (0 : Int32), (0 : Int32), (0 : Int32), (0 : Int32), (0 : Int32)] (4 : Int32) = [own_setv bs (0 : Int32) p dc cc, own_setv bs (1 : Int32) p dc cc, own_setv bs (2 : Int32) p dc cc, own_setv bs (3 : Int32) p dc cc, own_setv bs (4 : Int32) p dc cc, (0 : Int32), (0 : Int32), (0 : Int32), (0 : Int32), (0 : Int32), (0 : Int32)] := if_pos (of_decide_eq_true rfl)
  have s5 : own_st bs p dc cc [own_setv bs (0 : Int32) p dc cc, own_setv bs (1 : Int32) p dc cc, own_setv bs (2 : Int32) p dc cc, own_setv bs (3 : Int32) p dc cc, own_setv bs (4 : Int32) p dc cc, (0 : Int32), (0 : Int32), (0 : Int32), (0 : Int32), (0 : Int32), (0 : Int32)] (5 : Int32) = [own_setv bs (0 : Int32) p dc cc, own_setv bs (1 : Int32) p dc cc, own_setv bs (2 : Int32) p dc cc, own_setv bs (3 : Int32) p dc cc, own_setv bs (4 : Int32) p dc cc, own_setv bs (5 : Int32) p dc cc, (0 : Int32), (0 : Int32), (0 : Int32), (0 : Int32), (0 : Int32)] := if_pos (of_decide_eq_true rfl)
  have s6 : own_st bs p dc cc [own_setv bs (0 : Int32) p dc cc, own_setv bs (1 : Int32) p dc cc, own_setv bs (2 : Int32) p dc cc, own_setv bs (3 : Int32) p dc cc, own_setv bs (4 : Int32) p dc cc, own_setv bs (5 : Int32) p dc cc, (0 : Int32), (0 : Int32), (0 : Int32), (0 : Int32), (0 : Int32)] (6 : Int32) = [own_setv bs (0 : Int32) p dc cc, own_setv bs (1 : Int32) p dc cc, own_setv bs (2 : Int32) p dc cc, own_setv bs (3 : Int32) p dc cc, own_setv bs (4 : Int32) p dc cc, own_setv bs (5 : Int32) p dc cc, own_setv bs (6 : Int32) p dc cc, (0 : Int32), (0 : Int32), (0 : Int32), (0 : Int32)] := if_pos (of_decide_eq_true rfl)
  have s7 : own_st bs p dc cc [own_setv bs (0 : Int32) p dc cc, own_setv bs (1 : Int32) p dc cc, own_setv bs (2 : Int32) p dc cc, own_setv bs (3 : Int32) p dc cc, own_setv bs (4 : Int32) p dc cc, own_setv bs (5 : Int32) p dc cc, own_setv bs (6 : Int32) p dc cc, (0 : Int32), (0 : Int32), (0 : Int32), (0 : Int32)] (7 : Int32) = [own_setv bs (0 : Int32) p dc cc, own_setv bs (1 : Int32) p dc cc, own_setv bs (2 : Int32) p dc cc, own_setv bs (3 : Int32) p dc cc, own_setv bs (4 : Int32) p dc cc, own_setv bs (5 : Int32) p dc cc, own_setv bs (6 : Int32) p dc cc, own_setv bs (7 : Int32) p dc cc, (0 : Int32), (0 : Int32), (0 : Int32)] := if_pos (of_decide_eq_true rfl)
  have s8 : own_st bs p dc cc [own_setv bs (0 : Int32) p dc cc, own_setv bs (1 : Int32) p dc cc, own_setv bs (2 : Int32) p dc cc, own_setv bs (3 : Int32) p dc cc, own_setv bs (4 : Int32) p dc cc, own_setv bs (5 : Int32) p dc cc, own_setv bs (6 : Int32) p dc cc, own_setv bs (7 : Int32) p dc cc, (0 : Int32), (0 : Int32), (0 : Int32)] (8 : Int32) = [own_setv bs (0 : Int32) p dc cc, own_setv bs (1 : Int32) p dc cc, own_setv bs (2 : Int32) p dc cc, own_setv bs (3 : Int32) p dc cc, own_setv bs (4 : Int32) p dc cc, own_setv bs (5 : Int32) p dc cc, own_setv bs (6 : Int32) p dc cc, own_setv bs (7 : Int32) p dc cc, own_setv bs (8 : Int32) p dc cc, (0 : Int32), (0 : Int32)] := if_pos (of_decide_eq_true rfl)
  have s9 : own_st bs p dc cc [own_setv bs (0 : Int32) p dc cc, own_setv bs (1 : Int32) p dc cc, own_setv bs (2 : Int32) p dc cc, own_setv bs (3 : Int32) p dc cc, own_setv bs (4 : Int32) p dc cc, own_setv bs (5 : Int32) p dc cc, own_setv bs (6 : Int32) p dc cc, own_setv bs (7 : Int32) p dc cc, own_setv bs (8 : Int32) p dc cc, (0 : Int32), (0 : Int32)] (9 : Int32) = [own_setv bs (0 : Int32) p dc cc, own_setv bs (1 : Int32) p dc cc, own_setv bs (2 : Int32) p dc cc, own_setv bs (3 : Int32) p dc cc, own_setv bs (4 : Int32) p dc cc, own_setv bs (5 : Int32) p dc cc, own_setv bs (6 : Int32) p dc cc, own_setv bs (7 : Int32) p dc cc, own_setv bs (8 : Int32) p dc cc, own_setv bs (9 : Int32) p dc cc, (0 : Int32)] := if_pos (of_decide_eq_true rfl)
  have s10 : own_st bs p dc cc [own_setv bs (0 : Int32) p dc cc, own_setv bs (1 : Int32) p dc cc, own_setv bs (2 : Int32) p dc cc, own_setv bs (3 : Int32) p dc cc, own_setv bs (4 : Int32) p dc cc, own_setv bs (5 : Int32) p dc cc, own_setv bs (6 : Int32) p dc cc, own_setv bs (7 : Int32) p dc cc, own_setv bs (8 : Int32) p dc cc, own_setv bs (9 : Int32) p dc cc, (0 : Int32)] (10 : Int32) = [own_setv bs (0 : Int32) p dc cc, own_setv bs (1 : Int32) p dc cc, own_setv bs (2 : Int32) p dc cc, own_setv bs (3 : Int32) p dc cc, own_setv bs (4 : Int32) p dc cc, own_setv bs (5 : Int32) p dc cc, own_setv bs (6 : Int32) p dc cc, own_setv bs (7 : Int32) p dc cc, own_setv bs (8 : Int32) p dc cc, own_setv bs (9 : Int32) p dc cc, own_setv bs (10 : Int32) p dc cc] := if_pos (of_decide_eq_true rfl)
  unfold own_name
  rw [show List.replicate 11 (0 : Int32) = [(0 : Int32), (0 : Int32), (0 : Int32), (0 : Int32), (0 : Int32), (0 : Int32), (0 : Int32), (0 : Int32), (0 : Int32), (0 : Int32), (0 : Int32)] from rfl, s0, s1, s2, s3, s4, s5, s6, s7, s8, s9, s10]
set_option maxRecDepth 10000 in
set_option maxHeartbeats 4000000 in
theorem own_fA (B : List Int32) (n : Nat) (p d c : Int32) (hn : n = 0 ∨ n = 1 ∨ n = 2 ∨ n = 3 ∨ n = 7 ∨ n = 10 ∨ n = 11) : own_res (own_name B n p d c) = 0 := by
  rcases hn with rfl | rfl | rfl | rfl | rfl | rfl | rfl
  · rw [own_name_0]; simp [own_res, own_ev, own_an]
  · rw [own_name_1]; simp [own_res, own_ev, own_an]
  · rw [own_name_2]; simp [own_res, own_ev, own_an]
  · rw [own_name_3]; simp [own_res, own_ev, own_an]
  · rw [own_name_7]; simp [own_res, own_ev, own_an]
  · rw [own_name_10]; simp [own_res, own_ev, own_an]
  · rw [own_name_11]; simp [own_res, own_ev, own_an]
set_option maxRecDepth 10000 in
set_option maxHeartbeats 4000000 in
theorem own_fE9 (p d c : Int32) (hp : p = 0 ∨ p = 1 ∨ p = 2 ∨ p = 3 ∨ p = 4 ∨ p = 5 ∨ p = 6 ∨ p = 7 ∨ p = 8 ∨ p = 9 ∨ p = 10 ∨ p = 11) : own_res (own_name own_ev 9 p d c) = 0 := by
  rw [own_name_9]
  rcases hp with rfl | rfl | rfl | rfl | rfl | rfl | rfl | rfl | rfl | rfl | rfl | rfl <;> simp [own_res, own_ev, own_an, own_setv]
set_option maxRecDepth 10000 in
set_option maxHeartbeats 4000000 in
theorem own_fN8 (p d c : Int32) (hp : p = 0 ∨ p = 1 ∨ p = 2 ∨ p = 3 ∨ p = 4 ∨ p = 5 ∨ p = 6 ∨ p = 7 ∨ p = 8 ∨ p = 9 ∨ p = 10 ∨ p = 11) : own_res (own_name own_an 8 p d c) = 0 := by
  rw [own_name_8]
  rcases hp with rfl | rfl | rfl | rfl | rfl | rfl | rfl | rfl | rfl | rfl | rfl | rfl <;> simp [own_res, own_ev, own_an, own_setv]
set_option maxRecDepth 10000 in
set_option maxHeartbeats 4000000 in
theorem own_fE8 (p d c : Int32) (hp : p = 0 ∨ p = 1 ∨ p = 2 ∨ p = 3 ∨ p = 4 ∨ p = 5 ∨ p = 6 ∨ p = 7 ∨ p = 8 ∨ p = 9 ∨ p = 10 ∨ p = 11) : own_res (own_name own_ev 8 p d c) = if p < 8 then (if d = own_ev.getD p.toNatClampNeg 0 then 1 else 0) else 1 := by
  rw [own_name_8]
  rcases hp with rfl | rfl | rfl | rfl | rfl | rfl | rfl | rfl | rfl | rfl | rfl | rfl <;> simp [own_res, own_ev, own_an, own_setv]
set_option maxRecDepth 10000 in
set_option maxHeartbeats 4000000 in
theorem own_fN9 (p d c : Int32) (hp : p = 0 ∨ p = 1 ∨ p = 2 ∨ p = 3 ∨ p = 4 ∨ p = 5 ∨ p = 6 ∨ p = 7 ∨ p = 8 ∨ p = 9 ∨ p = 10 ∨ p = 11) : own_res (own_name own_an 9 p d c) = if p < 9 then (if d = own_an.getD p.toNatClampNeg 0 then 1 else 0) else 1 := by
  rw [own_name_9]
  rcases hp with rfl | rfl | rfl | rfl | rfl | rfl | rfl | rfl | rfl | rfl | rfl | rfl <;> simp [own_res, own_ev, own_an, own_setv]
theorem own_k8 (n : Int32) : own_k n = 0 ∨ own_k n = 1 ∨ own_k n = 2 ∨ own_k n = 3 ∨ own_k n = 4 ∨ own_k n = 5 ∨ own_k n = 6 ∨ own_k n = 7 := own_and7 _
set_option maxRecDepth 10000 in
set_option maxHeartbeats 4000000 in
theorem own_nE (ln p d c : Int32) (hp : p = 0 ∨ p = 1 ∨ p = 2 ∨ p = 3 ∨ p = 4 ∨ p = 5 ∨ p = 6 ∨ p = 7 ∨ p = 8 ∨ p = 9 ∨ p = 10 ∨ p = 11) (q : ¬ ln = (8 : Int32)) : own_res (own_name own_ev (own_alloc ln) p d c) = 0 := by
  unfold own_alloc
  repeat' split
  all_goals first | exact own_fA _ _ _ _ _ (by decide) | exact own_fE9 _ _ _ hp | exact absurd (by assumption) q
set_option maxRecDepth 10000 in
set_option maxHeartbeats 4000000 in
theorem own_nN (ln p d c : Int32) (hp : p = 0 ∨ p = 1 ∨ p = 2 ∨ p = 3 ∨ p = 4 ∨ p = 5 ∨ p = 6 ∨ p = 7 ∨ p = 8 ∨ p = 9 ∨ p = 10 ∨ p = 11) (q : ¬ ln = (9 : Int32)) : own_res (own_name own_an (own_alloc ln) p d c) = 0 := by
  unfold own_alloc
  repeat' split
  all_goals first | exact own_fA _ _ _ _ _ (by decide) | exact own_fN8 _ _ _ hp | exact absurd (by assumption) q
theorem pd_4 : parseMethodDescriptor "(Ljava/lang/String;)Z" = some ⟨[(.object "java/lang/String")], some .boolean⟩ := by decide +kernel
set_option maxRecDepth 65536 in
set_option maxHeartbeats 40000000 in
theorem ptCE (l : Launch) (Z : State) (a0 : Array Value) (hw : ∀ d ∈ tables_1, d.before a0 Z = true) (hE : EW Z a0 consts_1) {p : Program} {e : Env} {s s₁ st : State} {m : MethodId} {args : Array Value} {below : List Frame} {meth : Method} {c : Code} {Sp : Spec} (Bd : BodyLoose p l x Sp code maxLocals ret e s m args below meth c s₁) (hml : c.maxLocals = 15) (p0 p1 p2 p3 la kk ln dc cc : Int32) (xa a xs : Nat) (cs : List Int32) (oe xe on xn : Nat) (h0 : Heap) (n0 : Nat) (Z0 : n0 ≤ h0.size) {h1 : Heap} {vm1 : Vm}
    (w0 : Wk p l e room_1 s m args below meth c Z a0 consts_1 n0 x.cls false st vm1 h1 (mkF m 264 #[.val (.int p0), .val (.int p1), .val (.int p2), .val (.int p3), .val (.int la), .val (.ref xa), .val (.int (8 : Int32)), .val (.int kk), .val (.int ln), .val (.int (own_p p1)), .val (.int dc), .val (.int cc), .val (.ref a), .unset, .unset] [(.ref xs)]) 10 120) (K0 : Keep h0 h1 []) (Z1 : h0.size ≤ h1.size) (hG : SetsOk Z) (X1 : Old Z n0 h1) (SOe : Sta Z Z.heap "com/example/bylaw/bylaw/Grantee" "EVERYONE" "Lcom/example/bylaw/bylaw/Grantee;" (.ref oe)) (FOe : Fld Z h1 oe "com/example/bylaw/bylaw/Grantee" "name" "Ljava/lang/String;" (.ref xe)) (SSe : Str Z h1 xe own_ev n0) (SOn : Sta Z Z.heap "com/example/bylaw/bylaw/Grantee" "ANONYMOUS" "Lcom/example/bylaw/bylaw/Grantee;" (.ref on)) (FOn : Fld Z h1 on "com/example/bylaw/bylaw/Grantee" "name" "Ljava/lang/String;" (.ref xn)) (SSn : Str Z h1 xn own_an n0) (Sx : Str Z h1 xa own_ev h1.size) (Sn : Str Z h1 xs cs h1.size) (ec : cs = own_name own_ev (own_alloc ln) (own_p p1) dc cc) :
    EndsW p e below st s Z consts_1 n0 h0 [] (fun v h => v = some (.int 1)) room_1.cells room_1.slots := by
  have hx := Bd.exec
  have hby := Bd.bytes
  have hnm := (name_of_methodNamed Bd.named Bd.method).1
  have lt_FOe : h1.size > oe := Fld.lt FOe
  have lt_SSe := SSe.lt
  have lt_FOn : h1.size > on := Fld.lt FOn
  have lt_SSn := SSn.lt
  have lt_Sx := Sx.lt
  have lt_Sn := Sn.lt
  have hq_chN : ∀ d ∈ StrChars.Road.wordsChN, d.before a0 Z = true := fun d hd => hw d ((by decide +kernel : ∀ d ∈ StrChars.Road.wordsChN, d ∈ tables_1) d hd)
  have w1 := w0.pure (mkF m 270 #[.val (.int p0), .val (.int p1), .val (.int p2), .val (.int p3), .val (.int la), .val (.ref xa), .val (.int (8 : Int32)), .val (.int kk), .val (.int ln), .val (.int (own_p p1)), .val (.int dc), .val (.int cc), .val (.ref a), .val (.ref xs), .unset] [(.int (8 : Int32)), (.int ln)]) (fun X eT hZ hown k => by
      show Steps _ _ _ (State.setTop _ (mkF m 264 #[.val (.int p0), .val (.int p1), .val (.int p2), .val (.int p3), .val (.int la), .val (.ref xa), .val (.int (8 : Int32)), .val (.int kk), .val (.int ln), .val (.int (own_p p1)), .val (.int dc), .val (.int cc), .val (.ref a), .unset, .unset] [(.ref xs)])) _
      refine S.astore X.here hx (hb hby at_264) rfl #[.val (.int p0), .val (.int p1), .val (.int p2), .val (.int p3), .val (.int la), .val (.ref xa), .val (.int (8 : Int32)), .val (.int kk), .val (.int ln), .val (.int (own_p p1)), .val (.int dc), .val (.int cc), .val (.ref a), .val (.ref xs), .unset] rfl ?_
      refine S.iload X.here hx (hb hby at_266) rfl ?_
      refine S.iload X.here hx (hb hby at_268) rfl ?_
      exact k)
  by_cases hc2 : ln = (8 : Int32)
  · have w3 := w1.pure (mkF m 277 #[.val (.int p0), .val (.int p1), .val (.int p2), .val (.int p3), .val (.int la), .val (.ref xa), .val (.int (8 : Int32)), .val (.int kk), .val (.int ln), .val (.int (own_p p1)), .val (.int dc), .val (.int cc), .val (.ref a), .val (.ref xs), .unset] [(.int (8 : Int32)), (.int (own_p p1))]) (fun X eT hZ hown k => by
        show Steps _ _ _ (State.setTop _ (mkF m 270 #[.val (.int p0), .val (.int p1), .val (.int p2), .val (.int p3), .val (.int la), .val (.ref xa), .val (.int (8 : Int32)), .val (.int kk), .val (.int ln), .val (.int (own_p p1)), .val (.int dc), .val (.int cc), .val (.ref a), .val (.ref xs), .unset] [(.int (8 : Int32)), (.int ln)])) _
        refine S.icmpNo X.here hx (hb hby at_270) (teq hc2).2 ?_
        refine S.iload X.here hx (hb hby at_273) rfl ?_
        refine S.iload X.here hx (hb hby at_275) rfl ?_
        exact k)
    by_cases hc4 : (own_p p1) < (8 : Int32)
    · have w5 := w3.pure (mkF m 286 #[.val (.int p0), .val (.int p1), .val (.int p2), .val (.int p3), .val (.int la), .val (.ref xa), .val (.int (8 : Int32)), .val (.int kk), .val (.int ln), .val (.int (own_p p1)), .val (.int dc), .val (.int cc), .val (.ref a), .val (.ref xs), .unset] [(.int (own_p p1)), (.ref xa), (.int dc)]) (fun X eT hZ hown k => by
          show Steps _ _ _ (State.setTop _ (mkF m 277 #[.val (.int p0), .val (.int p1), .val (.int p2), .val (.int p3), .val (.int la), .val (.ref xa), .val (.int (8 : Int32)), .val (.int kk), .val (.int ln), .val (.int (own_p p1)), .val (.int dc), .val (.int cc), .val (.ref a), .val (.ref xs), .unset] [(.int (8 : Int32)), (.int (own_p p1))])) _
          refine S.icmpNo X.here hx (hb hby at_277) (tlt hc4).2.1 ?_
          refine S.iload X.here hx (hb hby at_280) rfl ?_
          refine S.aload X.here hx (hb hby at_282) rfl rfl ?_
          refine S.iload X.here hx (hb hby at_284) rfl ?_
          exact k)
      obtain ⟨v6, h6, Q6, K6, z6, w6⟩ := w5.callV hx (C := "java/lang/String") (y := (⟨"java/lang/String", "charAt", "(I)C"⟩ : MethodName)) (z := (⟨"java/lang/String", "charAt", "(I)C"⟩ : MethodName)) (W := 1) (hw _ (List.mem_of_getElem? (i := 30) rfl)) (hw _ (List.mem_of_getElem? (i := 31) rfl)) (hw _ (List.mem_of_getElem? (i := 33) rfl)) (hw _ (List.mem_of_getElem? (i := 32) rfl)) (w5.nf (hw _ (List.mem_of_getElem? (i := 33) rfl))) (by decide) (payCh hG w5.hZ hq_chN (hw _ (List.mem_of_getElem? (i := 2) rfl)) Sx X1 (own_p p1).toNatClampNeg (own_idx (n := 8) (own_p_nn _) hc4 (by decide)).1 (own_idx (n := 8) (own_p_nn _) hc4 (by decide)).2 (by decide) (by decide)) Sx.exa rfl (by rw [hml]; rfl) [(.int dc)] (lenOf pd_2 rfl) rfl (by show 2 * 0 + _ ≤ _; exact Nat.le_of_eq rfl) (hb hby at_286) (by decide) (by decide) (fun _ q => nomatch q) (fun rv => (mkF m 289 #[.val (.int p0), .val (.int p1), .val (.int p2), .val (.int p3), .val (.int la), .val (.ref xa), .val (.int (8 : Int32)), .val (.int kk), .val (.int ln), .val (.int (own_p p1)), .val (.int dc), .val (.int cc), .val (.ref a), .val (.ref xs), .unset] (rv.toList ++ [(.int dc)]))) (fun _ => rfl)
      obtain ⟨rfl, rfl⟩ := Q6
      by_cases hc7 : dc = (own_ev.getD (own_p p1).toNatClampNeg 0)
      · have w8 := w6.pure (mkF m 301 #[.val (.int p0), .val (.int p1), .val (.int p2), .val (.int p3), .val (.int la), .val (.ref xa), .val (.int (8 : Int32)), .val (.int kk), .val (.int ln), .val (.int (own_p p1)), .val (.int dc), .val (.int cc), .val (.ref a), .val (.ref xs), .val (.int (1 : Int32))] [(.ref xs)]) (fun X eT hZ hown k => by
            show Steps _ _ _ (State.setTop _ (mkF m 289 #[.val (.int p0), .val (.int p1), .val (.int p2), .val (.int p3), .val (.int la), .val (.ref xa), .val (.int (8 : Int32)), .val (.int kk), .val (.int ln), .val (.int (own_p p1)), .val (.int dc), .val (.int cc), .val (.ref a), .val (.ref xs), .unset] [(.int (own_ev.getD (own_p p1).toNatClampNeg 0)), (.int dc)])) _
            refine S.icmpNo X.here hx (hb hby at_289) (teq hc7).2 ?_
            refine S.iconst X.here hx (1 : Int32) (hb hby at_292) rfl ?_
            refine S.goto X.here hx 297 (hb hby at_293) (by decide) (by decide) ?_
            refine S.istore X.here hx (hb hby at_297) #[.val (.int p0), .val (.int p1), .val (.int p2), .val (.int p3), .val (.int la), .val (.ref xa), .val (.int (8 : Int32)), .val (.int kk), .val (.int ln), .val (.int (own_p p1)), .val (.int dc), .val (.int cc), .val (.ref a), .val (.ref xs), .val (.int (1 : Int32))] rfl ?_
            refine S.aload X.here hx (hb hby at_299) rfl rfl ?_
            exact k)
        obtain ⟨v9, h9, Q9, K9, z9, w9⟩ := w8.callS hx (y := (⟨"com/example/bylaw/bylaw/Grantee", "isReservedGroup", "(Ljava/lang/String;)Z"⟩ : MethodName)) (W := 0) (hw _ (List.mem_of_getElem? (i := 73) rfl)) (hw _ (List.mem_of_getElem? (i := 74) rfl)) (hw _ (List.mem_of_getElem? (i := 75) rfl)) (hw _ (List.mem_of_getElem? (i := 76) rfl)) (by decide) ((rm16 l Z a0 hw xs oe xe on xn cs _ h1 n0 (by omega) hG X1 SOe FOe SSe SOn FOn SSn Sn).pay w8.hZ (hw _ (List.mem_of_getElem? (i := 76) rfl)) (hw _ (List.mem_of_getElem? (i := 75) rfl)) (by decide) (by decide)) rfl (by rw [hml]; rfl) [] (lenOf pd_4 rfl) rfl (by show 2 * 0 + _ ≤ _; exact Nat.le_of_eq rfl) (hb hby at_301) (by decide) (by decide) (fun _ q => nomatch q) (fun rv => (mkF m 304 #[.val (.int p0), .val (.int p1), .val (.int p2), .val (.int p3), .val (.int la), .val (.ref xa), .val (.int (8 : Int32)), .val (.int kk), .val (.int ln), .val (.int (own_p p1)), .val (.int dc), .val (.int cc), .val (.ref a), .val (.ref xs), .val (.int (1 : Int32))] (rv.toList ++ []))) (fun _ => rfl)
        obtain ⟨rfl, rfl⟩ := Q9
        have w10 := w9.pure (mkF m 314 #[.val (.int p0), .val (.int p1), .val (.int p2), .val (.int p3), .val (.int la), .val (.ref xa), .val (.int (8 : Int32)), .val (.int kk), .val (.int ln), .val (.int (own_p p1)), .val (.int dc), .val (.int cc), .val (.ref a), .val (.ref xs), .val (.int (1 : Int32))] [(.int (1 : Int32))]) (fun X eT hZ hown k => by
            show Steps _ _ _ (State.setTop _ (mkF m 304 #[.val (.int p0), .val (.int p1), .val (.int p2), .val (.int p3), .val (.int la), .val (.ref xa), .val (.int (8 : Int32)), .val (.int kk), .val (.int ln), .val (.int (own_p p1)), .val (.int dc), .val (.int cc), .val (.ref a), .val (.ref xs), .val (.int (1 : Int32))] [(.int (own_res cs))])) _
            refine S.iload X.here hx (hb hby at_304) rfl ?_
            refine S.icmpNo X.here hx (hb hby at_306) (teq (by rw [ec, hc2, show own_alloc (8 : Int32) = 8 from rfl, own_fE8 _ _ _ (own_p12 _), if_pos hc4, if_pos hc7])).2 ?_
            refine S.iconst X.here hx (1 : Int32) (hb hby at_309) rfl ?_
            refine S.goto X.here hx 314 (hb hby at_310) (by decide) (by decide) ?_
            exact k)
        exact w10.endW (v := some (.int (1 : Int32))) (Q := (fun v h => v = some (.int 1))) (wr := []) (h0 := h0) (fun h => by rw [Bd.returns] at h; cases h) Bd.notSynchronized (fun X hr => retN X hx (t := .boolean) Bd.returns (by simp) (hb hby at_314) hr) (by decide) (by decide) rfl K0
      · have w11 := w6.pure (mkF m 301 #[.val (.int p0), .val (.int p1), .val (.int p2), .val (.int p3), .val (.int la), .val (.ref xa), .val (.int (8 : Int32)), .val (.int kk), .val (.int ln), .val (.int (own_p p1)), .val (.int dc), .val (.int cc), .val (.ref a), .val (.ref xs), .val (.int (0 : Int32))] [(.ref xs)]) (fun X eT hZ hown k => by
            show Steps _ _ _ (State.setTop _ (mkF m 289 #[.val (.int p0), .val (.int p1), .val (.int p2), .val (.int p3), .val (.int la), .val (.ref xa), .val (.int (8 : Int32)), .val (.int kk), .val (.int ln), .val (.int (own_p p1)), .val (.int dc), .val (.int cc), .val (.ref a), .val (.ref xs), .unset] [(.int (own_ev.getD (own_p p1).toNatClampNeg 0)), (.int dc)])) _
            refine S.icmpYes X.here hx 296 (hb hby at_289) (feq hc7).2 (by decide) (by decide) ?_
            refine S.iconst X.here hx (0 : Int32) (hb hby at_296) rfl ?_
            refine S.istore X.here hx (hb hby at_297) #[.val (.int p0), .val (.int p1), .val (.int p2), .val (.int p3), .val (.int la), .val (.ref xa), .val (.int (8 : Int32)), .val (.int kk), .val (.int ln), .val (.int (own_p p1)), .val (.int dc), .val (.int cc), .val (.ref a), .val (.ref xs), .val (.int (0 : Int32))] rfl ?_
            refine S.aload X.here hx (hb hby at_299) rfl rfl ?_
            exact k)
        obtain ⟨v12, h12, Q12, K12, z12, w12⟩ := w11.callS hx (y := (⟨"com/example/bylaw/bylaw/Grantee", "isReservedGroup", "(Ljava/lang/String;)Z"⟩ : MethodName)) (W := 0) (hw _ (List.mem_of_getElem? (i := 73) rfl)) (hw _ (List.mem_of_getElem? (i := 74) rfl)) (hw _ (List.mem_of_getElem? (i := 75) rfl)) (hw _ (List.mem_of_getElem? (i := 76) rfl)) (by decide) ((rm16 l Z a0 hw xs oe xe on xn cs _ h1 n0 (by omega) hG X1 SOe FOe SSe SOn FOn SSn Sn).pay w11.hZ (hw _ (List.mem_of_getElem? (i := 76) rfl)) (hw _ (List.mem_of_getElem? (i := 75) rfl)) (by decide) (by decide)) rfl (by rw [hml]; rfl) [] (lenOf pd_4 rfl) rfl (by show 2 * 0 + _ ≤ _; exact Nat.le_of_eq rfl) (hb hby at_301) (by decide) (by decide) (fun _ q => nomatch q) (fun rv => (mkF m 304 #[.val (.int p0), .val (.int p1), .val (.int p2), .val (.int p3), .val (.int la), .val (.ref xa), .val (.int (8 : Int32)), .val (.int kk), .val (.int ln), .val (.int (own_p p1)), .val (.int dc), .val (.int cc), .val (.ref a), .val (.ref xs), .val (.int (0 : Int32))] (rv.toList ++ []))) (fun _ => rfl)
        obtain ⟨rfl, rfl⟩ := Q12
        have w13 := w12.pure (mkF m 314 #[.val (.int p0), .val (.int p1), .val (.int p2), .val (.int p3), .val (.int la), .val (.ref xa), .val (.int (8 : Int32)), .val (.int kk), .val (.int ln), .val (.int (own_p p1)), .val (.int dc), .val (.int cc), .val (.ref a), .val (.ref xs), .val (.int (0 : Int32))] [(.int (1 : Int32))]) (fun X eT hZ hown k => by
            show Steps _ _ _ (State.setTop _ (mkF m 304 #[.val (.int p0), .val (.int p1), .val (.int p2), .val (.int p3), .val (.int la), .val (.ref xa), .val (.int (8 : Int32)), .val (.int kk), .val (.int ln), .val (.int (own_p p1)), .val (.int dc), .val (.int cc), .val (.ref a), .val (.ref xs), .val (.int (0 : Int32))] [(.int (own_res cs))])) _
            refine S.iload X.here hx (hb hby at_304) rfl ?_
            refine S.icmpNo X.here hx (hb hby at_306) (teq (by rw [ec, hc2, show own_alloc (8 : Int32) = 8 from rfl, own_fE8 _ _ _ (own_p12 _), if_pos hc4, if_neg hc7])).2 ?_
            refine S.iconst X.here hx (1 : Int32) (hb hby at_309) rfl ?_
            refine S.goto X.here hx 314 (hb hby at_310) (by decide) (by decide) ?_
            exact k)
        exact w13.endW (v := some (.int (1 : Int32))) (Q := (fun v h => v = some (.int 1))) (wr := []) (h0 := h0) (fun h => by rw [Bd.returns] at h; cases h) Bd.notSynchronized (fun X hr => retN X hx (t := .boolean) Bd.returns (by simp) (hb hby at_314) hr) (by decide) (by decide) rfl K0
    · have w14 := w3.pure (mkF m 301 #[.val (.int p0), .val (.int p1), .val (.int p2), .val (.int p3), .val (.int la), .val (.ref xa), .val (.int (8 : Int32)), .val (.int kk), .val (.int ln), .val (.int (own_p p1)), .val (.int dc), .val (.int cc), .val (.ref a), .val (.ref xs), .val (.int (1 : Int32))] [(.ref xs)]) (fun X eT hZ hown k => by
          show Steps _ _ _ (State.setTop _ (mkF m 277 #[.val (.int p0), .val (.int p1), .val (.int p2), .val (.int p3), .val (.int la), .val (.ref xa), .val (.int (8 : Int32)), .val (.int kk), .val (.int ln), .val (.int (own_p p1)), .val (.int dc), .val (.int cc), .val (.ref a), .val (.ref xs), .unset] [(.int (8 : Int32)), (.int (own_p p1))])) _
          refine S.icmpYes X.here hx 292 (hb hby at_277) (flt hc4).2.1 (by decide) (by decide) ?_
          refine S.iconst X.here hx (1 : Int32) (hb hby at_292) rfl ?_
          refine S.goto X.here hx 297 (hb hby at_293) (by decide) (by decide) ?_
          refine S.istore X.here hx (hb hby at_297) #[.val (.int p0), .val (.int p1), .val (.int p2), .val (.int p3), .val (.int la), .val (.ref xa), .val (.int (8 : Int32)), .val (.int kk), .val (.int ln), .val (.int (own_p p1)), .val (.int dc), .val (.int cc), .val (.ref a), .val (.ref xs), .val (.int (1 : Int32))] rfl ?_
          refine S.aload X.here hx (hb hby at_299) rfl rfl ?_
          exact k)
      obtain ⟨v15, h15, Q15, K15, z15, w15⟩ := w14.callS hx (y := (⟨"com/example/bylaw/bylaw/Grantee", "isReservedGroup", "(Ljava/lang/String;)Z"⟩ : MethodName)) (W := 0) (hw _ (List.mem_of_getElem? (i := 73) rfl)) (hw _ (List.mem_of_getElem? (i := 74) rfl)) (hw _ (List.mem_of_getElem? (i := 75) rfl)) (hw _ (List.mem_of_getElem? (i := 76) rfl)) (by decide) ((rm16 l Z a0 hw xs oe xe on xn cs _ h1 n0 (by omega) hG X1 SOe FOe SSe SOn FOn SSn Sn).pay w14.hZ (hw _ (List.mem_of_getElem? (i := 76) rfl)) (hw _ (List.mem_of_getElem? (i := 75) rfl)) (by decide) (by decide)) rfl (by rw [hml]; rfl) [] (lenOf pd_4 rfl) rfl (by show 2 * 0 + _ ≤ _; exact Nat.le_of_eq rfl) (hb hby at_301) (by decide) (by decide) (fun _ q => nomatch q) (fun rv => (mkF m 304 #[.val (.int p0), .val (.int p1), .val (.int p2), .val (.int p3), .val (.int la), .val (.ref xa), .val (.int (8 : Int32)), .val (.int kk), .val (.int ln), .val (.int (own_p p1)), .val (.int dc), .val (.int cc), .val (.ref a), .val (.ref xs), .val (.int (1 : Int32))] (rv.toList ++ []))) (fun _ => rfl)
      obtain ⟨rfl, rfl⟩ := Q15
      have w16 := w15.pure (mkF m 314 #[.val (.int p0), .val (.int p1), .val (.int p2), .val (.int p3), .val (.int la), .val (.ref xa), .val (.int (8 : Int32)), .val (.int kk), .val (.int ln), .val (.int (own_p p1)), .val (.int dc), .val (.int cc), .val (.ref a), .val (.ref xs), .val (.int (1 : Int32))] [(.int (1 : Int32))]) (fun X eT hZ hown k => by
          show Steps _ _ _ (State.setTop _ (mkF m 304 #[.val (.int p0), .val (.int p1), .val (.int p2), .val (.int p3), .val (.int la), .val (.ref xa), .val (.int (8 : Int32)), .val (.int kk), .val (.int ln), .val (.int (own_p p1)), .val (.int dc), .val (.int cc), .val (.ref a), .val (.ref xs), .val (.int (1 : Int32))] [(.int (own_res cs))])) _
          refine S.iload X.here hx (hb hby at_304) rfl ?_
          refine S.icmpNo X.here hx (hb hby at_306) (teq (by rw [ec, hc2, show own_alloc (8 : Int32) = 8 from rfl, own_fE8 _ _ _ (own_p12 _), if_neg hc4])).2 ?_
          refine S.iconst X.here hx (1 : Int32) (hb hby at_309) rfl ?_
          refine S.goto X.here hx 314 (hb hby at_310) (by decide) (by decide) ?_
          exact k)
      exact w16.endW (v := some (.int (1 : Int32))) (Q := (fun v h => v = some (.int 1))) (wr := []) (h0 := h0) (fun h => by rw [Bd.returns] at h; cases h) Bd.notSynchronized (fun X hr => retN X hx (t := .boolean) Bd.returns (by simp) (hb hby at_314) hr) (by decide) (by decide) rfl K0
  · have w17 := w1.pure (mkF m 301 #[.val (.int p0), .val (.int p1), .val (.int p2), .val (.int p3), .val (.int la), .val (.ref xa), .val (.int (8 : Int32)), .val (.int kk), .val (.int ln), .val (.int (own_p p1)), .val (.int dc), .val (.int cc), .val (.ref a), .val (.ref xs), .val (.int (0 : Int32))] [(.ref xs)]) (fun X eT hZ hown k => by
        show Steps _ _ _ (State.setTop _ (mkF m 270 #[.val (.int p0), .val (.int p1), .val (.int p2), .val (.int p3), .val (.int la), .val (.ref xa), .val (.int (8 : Int32)), .val (.int kk), .val (.int ln), .val (.int (own_p p1)), .val (.int dc), .val (.int cc), .val (.ref a), .val (.ref xs), .unset] [(.int (8 : Int32)), (.int ln)])) _
        refine S.icmpYes X.here hx 296 (hb hby at_270) (feq hc2).2 (by decide) (by decide) ?_
        refine S.iconst X.here hx (0 : Int32) (hb hby at_296) rfl ?_
        refine S.istore X.here hx (hb hby at_297) #[.val (.int p0), .val (.int p1), .val (.int p2), .val (.int p3), .val (.int la), .val (.ref xa), .val (.int (8 : Int32)), .val (.int kk), .val (.int ln), .val (.int (own_p p1)), .val (.int dc), .val (.int cc), .val (.ref a), .val (.ref xs), .val (.int (0 : Int32))] rfl ?_
        refine S.aload X.here hx (hb hby at_299) rfl rfl ?_
        exact k)
    obtain ⟨v18, h18, Q18, K18, z18, w18⟩ := w17.callS hx (y := (⟨"com/example/bylaw/bylaw/Grantee", "isReservedGroup", "(Ljava/lang/String;)Z"⟩ : MethodName)) (W := 0) (hw _ (List.mem_of_getElem? (i := 73) rfl)) (hw _ (List.mem_of_getElem? (i := 74) rfl)) (hw _ (List.mem_of_getElem? (i := 75) rfl)) (hw _ (List.mem_of_getElem? (i := 76) rfl)) (by decide) ((rm16 l Z a0 hw xs oe xe on xn cs _ h1 n0 (by omega) hG X1 SOe FOe SSe SOn FOn SSn Sn).pay w17.hZ (hw _ (List.mem_of_getElem? (i := 76) rfl)) (hw _ (List.mem_of_getElem? (i := 75) rfl)) (by decide) (by decide)) rfl (by rw [hml]; rfl) [] (lenOf pd_4 rfl) rfl (by show 2 * 0 + _ ≤ _; exact Nat.le_of_eq rfl) (hb hby at_301) (by decide) (by decide) (fun _ q => nomatch q) (fun rv => (mkF m 304 #[.val (.int p0), .val (.int p1), .val (.int p2), .val (.int p3), .val (.int la), .val (.ref xa), .val (.int (8 : Int32)), .val (.int kk), .val (.int ln), .val (.int (own_p p1)), .val (.int dc), .val (.int cc), .val (.ref a), .val (.ref xs), .val (.int (0 : Int32))] (rv.toList ++ []))) (fun _ => rfl)
    obtain ⟨rfl, rfl⟩ := Q18
    have w19 := w18.pure (mkF m 314 #[.val (.int p0), .val (.int p1), .val (.int p2), .val (.int p3), .val (.int la), .val (.ref xa), .val (.int (8 : Int32)), .val (.int kk), .val (.int ln), .val (.int (own_p p1)), .val (.int dc), .val (.int cc), .val (.ref a), .val (.ref xs), .val (.int (0 : Int32))] [(.int (1 : Int32))]) (fun X eT hZ hown k => by
        show Steps _ _ _ (State.setTop _ (mkF m 304 #[.val (.int p0), .val (.int p1), .val (.int p2), .val (.int p3), .val (.int la), .val (.ref xa), .val (.int (8 : Int32)), .val (.int kk), .val (.int ln), .val (.int (own_p p1)), .val (.int dc), .val (.int cc), .val (.ref a), .val (.ref xs), .val (.int (0 : Int32))] [(.int (own_res cs))])) _
        refine S.iload X.here hx (hb hby at_304) rfl ?_
        refine S.icmpNo X.here hx (hb hby at_306) (teq (by rw [ec]; exact own_nE _ _ _ _ (own_p12 _) hc2)).2 ?_
        refine S.iconst X.here hx (1 : Int32) (hb hby at_309) rfl ?_
        refine S.goto X.here hx 314 (hb hby at_310) (by decide) (by decide) ?_
        exact k)
    exact w19.endW (v := some (.int (1 : Int32))) (Q := (fun v h => v = some (.int 1))) (wr := []) (h0 := h0) (fun h => by rw [Bd.returns] at h; cases h) Bd.notSynchronized (fun X hr => retN X hx (t := .boolean) Bd.returns (by simp) (hb hby at_314) hr) (by decide) (by decide) rfl K0
theorem pd_5 : parseMethodDescriptor "(I)[C" = some ⟨[.int], some (.array .char)⟩ := by decide +kernel
theorem pd_6 : parseMethodDescriptor "([CILjava/lang/String;ICC)V" = some ⟨[(.array .char), .int, (.object "java/lang/String"), .int, .char, .char], none⟩ := by decide +kernel
theorem pd_7 : parseMethodDescriptor "([C)V" = some ⟨[(.array .char)], none⟩ := by decide +kernel
set_option maxRecDepth 65536 in
set_option maxHeartbeats 40000000 in
theorem ptBE (l : Launch) (Z : State) (a0 : Array Value) (hw : ∀ d ∈ tables_1, d.before a0 Z = true) (hE : EW Z a0 consts_1) {p : Program} {e : Env} {s s₁ st : State} {m : MethodId} {args : Array Value} {below : List Frame} {meth : Method} {c : Code} {Sp : Spec} (Bd : BodyLoose p l x Sp code maxLocals ret e s m args below meth c s₁) (hml : c.maxLocals = 15) (p0 p1 p2 p3 la kk ln dc cc : Int32) (xa : Nat) (oe xe on xn : Nat) (h0 : Heap) (n0 : Nat) (Z0 : n0 ≤ h0.size) {h1 : Heap} {vm1 : Vm}
    (w0 : Wk p l e room_1 s m args below meth c Z a0 consts_1 n0 x.cls false st vm1 h1 (mkF m 89 #[.val (.int p0), .val (.int p1), .val (.int p2), .val (.int p3), .val (.int la), .val (.ref xa), .val (.int (8 : Int32)), .val (.int kk), .val (.int ln), .val (.int (own_p p1)), .val (.int dc), .val (.int cc), .unset, .unset, .unset] []) 3 50) (K0 : Keep h0 h1 []) (Z1 : h0.size ≤ h1.size) (hG : SetsOk Z) (X1 : Old Z n0 h1) (SOe : Sta Z Z.heap "com/example/bylaw/bylaw/Grantee" "EVERYONE" "Lcom/example/bylaw/bylaw/Grantee;" (.ref oe)) (FOe : Fld Z h1 oe "com/example/bylaw/bylaw/Grantee" "name" "Ljava/lang/String;" (.ref xe)) (SSe : Str Z h1 xe own_ev n0) (SOn : Sta Z Z.heap "com/example/bylaw/bylaw/Grantee" "ANONYMOUS" "Lcom/example/bylaw/bylaw/Grantee;" (.ref on)) (FOn : Fld Z h1 on "com/example/bylaw/bylaw/Grantee" "name" "Ljava/lang/String;" (.ref xn)) (SSn : Str Z h1 xn own_an n0) (Sx : Str Z h1 xa own_ev h1.size) (hdc : ¬ dc < 0 ∧ ¬ (255 : Int32) < dc) (hcc : ¬ cc < 0 ∧ ¬ (255 : Int32) < cc) :
    EndsW p e below st s Z consts_1 n0 h0 [] (fun v h => v = some (.int 1)) room_1.cells room_1.slots := by
  have hx := Bd.exec
  have hby := Bd.bytes
  have hnm := (name_of_methodNamed Bd.named Bd.method).1
  have lt_FOe : h1.size > oe := Fld.lt FOe
  have lt_SSe := SSe.lt
  have lt_FOn : h1.size > on := Fld.lt FOn
  have lt_SSn := SSn.lt
  have lt_Sx := Sx.lt
  have hq_backV : ∀ d ∈ StrChars.Road.words, d.before a0 Z = true := fun d hd => hw d ((by decide +kernel : ∀ d ∈ StrChars.Road.words, d ∈ tables_1) d hd)
  have w1 := w0.pure (mkF m 91 #[.val (.int p0), .val (.int p1), .val (.int p2), .val (.int p3), .val (.int la), .val (.ref xa), .val (.int (8 : Int32)), .val (.int kk), .val (.int ln), .val (.int (own_p p1)), .val (.int dc), .val (.int cc), .unset, .unset, .unset] [(.int ln)]) (fun X eT hZ hown k => by
      show Steps _ _ _ (State.setTop _ (mkF m 89 #[.val (.int p0), .val (.int p1), .val (.int p2), .val (.int p3), .val (.int la), .val (.ref xa), .val (.int (8 : Int32)), .val (.int kk), .val (.int ln), .val (.int (own_p p1)), .val (.int dc), .val (.int cc), .unset, .unset, .unset] [])) _
      refine S.iload X.here hx (hb hby at_89) rfl ?_
      exact k)
  obtain ⟨v2, h2, Q2, K2, z2, w2⟩ := w1.callS hx (y := (⟨"com/example/bylaw/bylaw/GranteeIsReservedGroupPinLaw", "alloc", "(I)[C"⟩ : MethodName)) (W := 0) (hw _ (List.mem_of_getElem? (i := 22) rfl)) (hw _ (List.mem_of_getElem? (i := 23) rfl)) (hw _ (List.mem_of_getElem? (i := 24) rfl)) (hw _ (List.mem_of_getElem? (i := 25) rfl)) (by decide) ((rmal l Z a0 hw ln h1 n0 (by omega) ).pay w1.hZ (hw _ (List.mem_of_getElem? (i := 25) rfl)) (hw _ (List.mem_of_getElem? (i := 24) rfl)) (by decide) (by decide)) rfl (by rw [hml]; rfl) [] (lenOf pd_5 rfl) rfl (by show 2 * 0 + _ ≤ _; exact Nat.le_of_eq rfl) (hb hby at_91) (by decide) (by decide) (fun _ q => nomatch q) (fun rv => (mkF m 94 #[.val (.int p0), .val (.int p1), .val (.int p2), .val (.int p3), .val (.int la), .val (.ref xa), .val (.int (8 : Int32)), .val (.int kk), .val (.int ln), .val (.int (own_p p1)), .val (.int dc), .val (.int cc), .unset, .unset, .unset] (rv.toList ++ []))) (fun _ => rfl)
  obtain ⟨x2, k2, rfl, gx2, V2⟩ := Q2
  have K3 : Keep h0 h2 [] := K0.trans K2 (fun _ q => nomatch q)
  have lt_x2 := arlt V2
  have w4 := w2.pure (mkF m 107 #[.val (.int p0), .val (.int p1), .val (.int p2), .val (.int p3), .val (.int la), .val (.ref xa), .val (.int (8 : Int32)), .val (.int kk), .val (.int ln), .val (.int (own_p p1)), .val (.int dc), .val (.int cc), .val (.ref x2), .unset, .unset] [(.int cc), (.int dc), (.int (own_p p1)), (.ref xa), (.int (0 : Int32)), (.ref x2)]) (fun X eT hZ hown k => by
      show Steps _ _ _ (State.setTop _ (mkF m 94 #[.val (.int p0), .val (.int p1), .val (.int p2), .val (.int p3), .val (.int la), .val (.ref xa), .val (.int (8 : Int32)), .val (.int kk), .val (.int ln), .val (.int (own_p p1)), .val (.int dc), .val (.int cc), .unset, .unset, .unset] [(.ref x2)])) _
      refine S.astore X.here hx (hb hby at_94) rfl #[.val (.int p0), .val (.int p1), .val (.int p2), .val (.int p3), .val (.int la), .val (.ref xa), .val (.int (8 : Int32)), .val (.int kk), .val (.int ln), .val (.int (own_p p1)), .val (.int dc), .val (.int cc), .val (.ref x2), .unset, .unset] rfl ?_
      refine S.aload X.here hx (hb hby at_96) rfl rfl ?_
      refine S.iconst X.here hx (0 : Int32) (hb hby at_98) rfl ?_
      refine S.aload X.here hx (hb hby at_99) rfl rfl ?_
      refine S.iload X.here hx (hb hby at_101) rfl ?_
      refine S.iload X.here hx (hb hby at_103) rfl ?_
      refine S.iload X.here hx (hb hby at_105) rfl ?_
      exact k)
  obtain ⟨cs5, ec5⟩ : ∃ z, z = List.replicate (own_alloc ln) (0 : Int32) := ⟨_, rfl⟩
  have cl5 : cs5.length ≤ 11 := by rw [ec5, List.length_replicate]; exact own_alloc_le _
  have rg5 : ∀ c ∈ cs5, ¬ c < 0 ∧ ¬ (255 : Int32) < c := fun c q => by rw [ec5] at q; rw [List.eq_of_mem_replicate q]; decide
  have VV5 : Arv Z h2 x2 k2 .char (Int32.ofNat cs5.length) (cs5.map Value.int) (.int (0 : Int32)) := by rw [ec5, List.length_replicate]; exact V2
  have F6 := X1.keep K2 all0
  have F7 := Sx.keep K2 all0
  obtain ⟨v8, h8, Q8, K8, z8, w8⟩ := w4.callS hx (y := (⟨"com/example/bylaw/bylaw/GranteeIsReservedGroupPinLaw", "set", "([CILjava/lang/String;ICC)V"⟩ : MethodName)) (W := 0) (hw _ (List.mem_of_getElem? (i := 27) rfl)) (hw _ (List.mem_of_getElem? (i := 28) rfl)) (hw _ (List.mem_of_getElem? (i := 24) rfl)) (hw _ (List.mem_of_getElem? (i := 29) rfl)) (by decide) ((rmst l Z a0 hw x2 k2 cs5 (0 : Int32) xa own_ev _ (own_p p1) dc cc h2 n0 (by omega) hG F6 F7 VV5 (by omega) (by decide) (by omega) hdc hcc).pay w4.hZ (hw _ (List.mem_of_getElem? (i := 29) rfl)) (hw _ (List.mem_of_getElem? (i := 24) rfl)) (by decide) (by decide)) rfl (by rw [hml]; rfl) [] (lenOf pd_6 rfl) rfl (by show 2 * 0 + _ ≤ _; exact Nat.le_of_eq rfl) (hb hby at_107) (by decide) (by decide) (sfS (Safe.arv w4.al VV5 (by decide)) sf0) (fun rv => (mkF m 110 #[.val (.int p0), .val (.int p1), .val (.int p2), .val (.int p3), .val (.int la), .val (.ref xa), .val (.int (8 : Int32)), .val (.int kk), .val (.int ln), .val (.int (own_p p1)), .val (.int dc), .val (.int cc), .val (.ref x2), .unset, .unset] (rv.toList ++ []))) (fun _ => rfl)
  obtain ⟨rfl, V8⟩ := Q8
  have K9 : Keep h0 h8 [] := K3.trans K8 (allS (Or.inr (by omega)) (fun _ q => nomatch q))
  obtain ⟨cs8, ec8⟩ : ∃ z, z = own_st own_ev (own_p p1) dc cc cs5 (0 : Int32) := ⟨_, rfl⟩
  rw [← ec8] at V8
  have cl8 : cs8.length ≤ 11 := by rw [ec8, own_st_len]; exact cl5
  have rg8 : ∀ c ∈ cs8, ¬ c < 0 ∧ ¬ (255 : Int32) < c := by rw [ec8]; exact own_st_rng (by decide) hdc hcc rg5
  have w10 := w8.pure (mkF m 121 #[.val (.int p0), .val (.int p1), .val (.int p2), .val (.int p3), .val (.int la), .val (.ref xa), .val (.int (8 : Int32)), .val (.int kk), .val (.int ln), .val (.int (own_p p1)), .val (.int dc), .val (.int cc), .val (.ref x2), .unset, .unset] [(.int cc), (.int dc), (.int (own_p p1)), (.ref xa), (.int (1 : Int32)), (.ref x2)]) (fun X eT hZ hown k => by
      show Steps _ _ _ (State.setTop _ (mkF m 110 #[.val (.int p0), .val (.int p1), .val (.int p2), .val (.int p3), .val (.int la), .val (.ref xa), .val (.int (8 : Int32)), .val (.int kk), .val (.int ln), .val (.int (own_p p1)), .val (.int dc), .val (.int cc), .val (.ref x2), .unset, .unset] [])) _
      refine S.aload X.here hx (hb hby at_110) rfl rfl ?_
      refine S.iconst X.here hx (1 : Int32) (hb hby at_112) rfl ?_
      refine S.aload X.here hx (hb hby at_113) rfl rfl ?_
      refine S.iload X.here hx (hb hby at_115) rfl ?_
      refine S.iload X.here hx (hb hby at_117) rfl ?_
      refine S.iload X.here hx (hb hby at_119) rfl ?_
      exact k)
  have F11 := F6.keep K8 (allS (by omega) all0)
  have F12 := F7.keep K8 (allS (by omega) all0)
  obtain ⟨v13, h13, Q13, K13, z13, w13⟩ := w10.callS hx (y := (⟨"com/example/bylaw/bylaw/GranteeIsReservedGroupPinLaw", "set", "([CILjava/lang/String;ICC)V"⟩ : MethodName)) (W := 0) (hw _ (List.mem_of_getElem? (i := 27) rfl)) (hw _ (List.mem_of_getElem? (i := 28) rfl)) (hw _ (List.mem_of_getElem? (i := 24) rfl)) (hw _ (List.mem_of_getElem? (i := 29) rfl)) (by decide) ((rmst l Z a0 hw x2 k2 cs8 (1 : Int32) xa own_ev _ (own_p p1) dc cc h8 n0 (by omega) hG F11 F12 V8 (by omega) (by decide) (by omega) hdc hcc).pay w10.hZ (hw _ (List.mem_of_getElem? (i := 29) rfl)) (hw _ (List.mem_of_getElem? (i := 24) rfl)) (by decide) (by decide)) rfl (by rw [hml]; rfl) [] (lenOf pd_6 rfl) rfl (by show 2 * 0 + _ ≤ _; exact Nat.le_of_eq rfl) (hb hby at_121) (by decide) (by decide) (sfS (Safe.arv w10.al V8 (by decide)) sf0) (fun rv => (mkF m 124 #[.val (.int p0), .val (.int p1), .val (.int p2), .val (.int p3), .val (.int la), .val (.ref xa), .val (.int (8 : Int32)), .val (.int kk), .val (.int ln), .val (.int (own_p p1)), .val (.int dc), .val (.int cc), .val (.ref x2), .unset, .unset] (rv.toList ++ []))) (fun _ => rfl)
  obtain ⟨rfl, V13⟩ := Q13
  have K14 : Keep h0 h13 [] := K9.trans K13 (allS (Or.inr (by omega)) (fun _ q => nomatch q))
  obtain ⟨cs13, ec13⟩ : ∃ z, z = own_st own_ev (own_p p1) dc cc cs8 (1 : Int32) := ⟨_, rfl⟩
  rw [← ec13] at V13
  have cl13 : cs13.length ≤ 11 := by rw [ec13, own_st_len]; exact cl8
  have rg13 : ∀ c ∈ cs13, ¬ c < 0 ∧ ¬ (255 : Int32) < c := by rw [ec13]; exact own_st_rng (by decide) hdc hcc rg8
  have w15 := w13.pure (mkF m 135 #[.val (.int p0), .val (.int p1), .val (.int p2), .val (.int p3), .val (.int la), .val (.ref xa), .val (.int (8 : Int32)), .val (.int kk), .val (.int ln), .val (.int (own_p p1)), .val (.int dc), .val (.int cc), .val (.ref x2), .unset, .unset] [(.int cc), (.int dc), (.int (own_p p1)), (.ref xa), (.int (2 : Int32)), (.ref x2)]) (fun X eT hZ hown k => by
      show Steps _ _ _ (State.setTop _ (mkF m 124 #[.val (.int p0), .val (.int p1), .val (.int p2), .val (.int p3), .val (.int la), .val (.ref xa), .val (.int (8 : Int32)), .val (.int kk), .val (.int ln), .val (.int (own_p p1)), .val (.int dc), .val (.int cc), .val (.ref x2), .unset, .unset] [])) _
      refine S.aload X.here hx (hb hby at_124) rfl rfl ?_
      refine S.iconst X.here hx (2 : Int32) (hb hby at_126) rfl ?_
      refine S.aload X.here hx (hb hby at_127) rfl rfl ?_
      refine S.iload X.here hx (hb hby at_129) rfl ?_
      refine S.iload X.here hx (hb hby at_131) rfl ?_
      refine S.iload X.here hx (hb hby at_133) rfl ?_
      exact k)
  have F16 := F11.keep K13 (allS (by omega) all0)
  have F17 := F12.keep K13 (allS (by omega) all0)
  obtain ⟨v18, h18, Q18, K18, z18, w18⟩ := w15.callS hx (y := (⟨"com/example/bylaw/bylaw/GranteeIsReservedGroupPinLaw", "set", "([CILjava/lang/String;ICC)V"⟩ : MethodName)) (W := 0) (hw _ (List.mem_of_getElem? (i := 27) rfl)) (hw _ (List.mem_of_getElem? (i := 28) rfl)) (hw _ (List.mem_of_getElem? (i := 24) rfl)) (hw _ (List.mem_of_getElem? (i := 29) rfl)) (by decide) ((rmst l Z a0 hw x2 k2 cs13 (2 : Int32) xa own_ev _ (own_p p1) dc cc h13 n0 (by omega) hG F16 F17 V13 (by omega) (by decide) (by omega) hdc hcc).pay w15.hZ (hw _ (List.mem_of_getElem? (i := 29) rfl)) (hw _ (List.mem_of_getElem? (i := 24) rfl)) (by decide) (by decide)) rfl (by rw [hml]; rfl) [] (lenOf pd_6 rfl) rfl (by show 2 * 0 + _ ≤ _; exact Nat.le_of_eq rfl) (hb hby at_135) (by decide) (by decide) (sfS (Safe.arv w15.al V13 (by decide)) sf0) (fun rv => (mkF m 138 #[.val (.int p0), .val (.int p1), .val (.int p2), .val (.int p3), .val (.int la), .val (.ref xa), .val (.int (8 : Int32)), .val (.int kk), .val (.int ln), .val (.int (own_p p1)), .val (.int dc), .val (.int cc), .val (.ref x2), .unset, .unset] (rv.toList ++ []))) (fun _ => rfl)
  obtain ⟨rfl, V18⟩ := Q18
  have K19 : Keep h0 h18 [] := K14.trans K18 (allS (Or.inr (by omega)) (fun _ q => nomatch q))
  obtain ⟨cs18, ec18⟩ : ∃ z, z = own_st own_ev (own_p p1) dc cc cs13 (2 : Int32) := ⟨_, rfl⟩
  rw [← ec18] at V18
  have cl18 : cs18.length ≤ 11 := by rw [ec18, own_st_len]; exact cl13
  have rg18 : ∀ c ∈ cs18, ¬ c < 0 ∧ ¬ (255 : Int32) < c := by rw [ec18]; exact own_st_rng (by decide) hdc hcc rg13
  have w20 := w18.pure (mkF m 149 #[.val (.int p0), .val (.int p1), .val (.int p2), .val (.int p3), .val (.int la), .val (.ref xa), .val (.int (8 : Int32)), .val (.int kk), .val (.int ln), .val (.int (own_p p1)), .val (.int dc), .val (.int cc), .val (.ref x2), .unset, .unset] [(.int cc), (.int dc), (.int (own_p p1)), (.ref xa), (.int (3 : Int32)), (.ref x2)]) (fun X eT hZ hown k => by
      show Steps _ _ _ (State.setTop _ (mkF m 138 #[.val (.int p0), .val (.int p1), .val (.int p2), .val (.int p3), .val (.int la), .val (.ref xa), .val (.int (8 : Int32)), .val (.int kk), .val (.int ln), .val (.int (own_p p1)), .val (.int dc), .val (.int cc), .val (.ref x2), .unset, .unset] [])) _
      refine S.aload X.here hx (hb hby at_138) rfl rfl ?_
      refine S.iconst X.here hx (3 : Int32) (hb hby at_140) rfl ?_
      refine S.aload X.here hx (hb hby at_141) rfl rfl ?_
      refine S.iload X.here hx (hb hby at_143) rfl ?_
      refine S.iload X.here hx (hb hby at_145) rfl ?_
      refine S.iload X.here hx (hb hby at_147) rfl ?_
      exact k)
  have F21 := F16.keep K18 (allS (by omega) all0)
  have F22 := F17.keep K18 (allS (by omega) all0)
  obtain ⟨v23, h23, Q23, K23, z23, w23⟩ := w20.callS hx (y := (⟨"com/example/bylaw/bylaw/GranteeIsReservedGroupPinLaw", "set", "([CILjava/lang/String;ICC)V"⟩ : MethodName)) (W := 0) (hw _ (List.mem_of_getElem? (i := 27) rfl)) (hw _ (List.mem_of_getElem? (i := 28) rfl)) (hw _ (List.mem_of_getElem? (i := 24) rfl)) (hw _ (List.mem_of_getElem? (i := 29) rfl)) (by decide) ((rmst l Z a0 hw x2 k2 cs18 (3 : Int32) xa own_ev _ (own_p p1) dc cc h18 n0 (by omega) hG F21 F22 V18 (by omega) (by decide) (by omega) hdc hcc).pay w20.hZ (hw _ (List.mem_of_getElem? (i := 29) rfl)) (hw _ (List.mem_of_getElem? (i := 24) rfl)) (by decide) (by decide)) rfl (by rw [hml]; rfl) [] (lenOf pd_6 rfl) rfl (by show 2 * 0 + _ ≤ _; exact Nat.le_of_eq rfl) (hb hby at_149) (by decide) (by decide) (sfS (Safe.arv w20.al V18 (by decide)) sf0) (fun rv => (mkF m 152 #[.val (.int p0), .val (.int p1), .val (.int p2), .val (.int p3), .val (.int la), .val (.ref xa), .val (.int (8 : Int32)), .val (.int kk), .val (.int ln), .val (.int (own_p p1)), .val (.int dc), .val (.int cc), .val (.ref x2), .unset, .unset] (rv.toList ++ []))) (fun _ => rfl)
  obtain ⟨rfl, V23⟩ := Q23
  have K24 : Keep h0 h23 [] := K19.trans K23 (allS (Or.inr (by omega)) (fun _ q => nomatch q))
  obtain ⟨cs23, ec23⟩ : ∃ z, z = own_st own_ev (own_p p1) dc cc cs18 (3 : Int32) := ⟨_, rfl⟩
  rw [← ec23] at V23
  have cl23 : cs23.length ≤ 11 := by rw [ec23, own_st_len]; exact cl18
  have rg23 : ∀ c ∈ cs23, ¬ c < 0 ∧ ¬ (255 : Int32) < c := by rw [ec23]; exact own_st_rng (by decide) hdc hcc rg18
  have w25 := w23.pure (mkF m 163 #[.val (.int p0), .val (.int p1), .val (.int p2), .val (.int p3), .val (.int la), .val (.ref xa), .val (.int (8 : Int32)), .val (.int kk), .val (.int ln), .val (.int (own_p p1)), .val (.int dc), .val (.int cc), .val (.ref x2), .unset, .unset] [(.int cc), (.int dc), (.int (own_p p1)), (.ref xa), (.int (4 : Int32)), (.ref x2)]) (fun X eT hZ hown k => by
      show Steps _ _ _ (State.setTop _ (mkF m 152 #[.val (.int p0), .val (.int p1), .val (.int p2), .val (.int p3), .val (.int la), .val (.ref xa), .val (.int (8 : Int32)), .val (.int kk), .val (.int ln), .val (.int (own_p p1)), .val (.int dc), .val (.int cc), .val (.ref x2), .unset, .unset] [])) _
      refine S.aload X.here hx (hb hby at_152) rfl rfl ?_
      refine S.iconst X.here hx (4 : Int32) (hb hby at_154) rfl ?_
      refine S.aload X.here hx (hb hby at_155) rfl rfl ?_
      refine S.iload X.here hx (hb hby at_157) rfl ?_
      refine S.iload X.here hx (hb hby at_159) rfl ?_
      refine S.iload X.here hx (hb hby at_161) rfl ?_
      exact k)
  have F26 := F21.keep K23 (allS (by omega) all0)
  have F27 := F22.keep K23 (allS (by omega) all0)
  obtain ⟨v28, h28, Q28, K28, z28, w28⟩ := w25.callS hx (y := (⟨"com/example/bylaw/bylaw/GranteeIsReservedGroupPinLaw", "set", "([CILjava/lang/String;ICC)V"⟩ : MethodName)) (W := 0) (hw _ (List.mem_of_getElem? (i := 27) rfl)) (hw _ (List.mem_of_getElem? (i := 28) rfl)) (hw _ (List.mem_of_getElem? (i := 24) rfl)) (hw _ (List.mem_of_getElem? (i := 29) rfl)) (by decide) ((rmst l Z a0 hw x2 k2 cs23 (4 : Int32) xa own_ev _ (own_p p1) dc cc h23 n0 (by omega) hG F26 F27 V23 (by omega) (by decide) (by omega) hdc hcc).pay w25.hZ (hw _ (List.mem_of_getElem? (i := 29) rfl)) (hw _ (List.mem_of_getElem? (i := 24) rfl)) (by decide) (by decide)) rfl (by rw [hml]; rfl) [] (lenOf pd_6 rfl) rfl (by show 2 * 0 + _ ≤ _; exact Nat.le_of_eq rfl) (hb hby at_163) (by decide) (by decide) (sfS (Safe.arv w25.al V23 (by decide)) sf0) (fun rv => (mkF m 166 #[.val (.int p0), .val (.int p1), .val (.int p2), .val (.int p3), .val (.int la), .val (.ref xa), .val (.int (8 : Int32)), .val (.int kk), .val (.int ln), .val (.int (own_p p1)), .val (.int dc), .val (.int cc), .val (.ref x2), .unset, .unset] (rv.toList ++ []))) (fun _ => rfl)
  obtain ⟨rfl, V28⟩ := Q28
  have K29 : Keep h0 h28 [] := K24.trans K28 (allS (Or.inr (by omega)) (fun _ q => nomatch q))
  obtain ⟨cs28, ec28⟩ : ∃ z, z = own_st own_ev (own_p p1) dc cc cs23 (4 : Int32) := ⟨_, rfl⟩
  rw [← ec28] at V28
  have cl28 : cs28.length ≤ 11 := by rw [ec28, own_st_len]; exact cl23
  have rg28 : ∀ c ∈ cs28, ¬ c < 0 ∧ ¬ (255 : Int32) < c := by rw [ec28]; exact own_st_rng (by decide) hdc hcc rg23
  have w30 := w28.pure (mkF m 177 #[.val (.int p0), .val (.int p1), .val (.int p2), .val (.int p3), .val (.int la), .val (.ref xa), .val (.int (8 : Int32)), .val (.int kk), .val (.int ln), .val (.int (own_p p1)), .val (.int dc), .val (.int cc), .val (.ref x2), .unset, .unset] [(.int cc), (.int dc), (.int (own_p p1)), (.ref xa), (.int (5 : Int32)), (.ref x2)]) (fun X eT hZ hown k => by
      show Steps _ _ _ (State.setTop _ (mkF m 166 #[.val (.int p0), .val (.int p1), .val (.int p2), .val (.int p3), .val (.int la), .val (.ref xa), .val (.int (8 : Int32)), .val (.int kk), .val (.int ln), .val (.int (own_p p1)), .val (.int dc), .val (.int cc), .val (.ref x2), .unset, .unset] [])) _
      refine S.aload X.here hx (hb hby at_166) rfl rfl ?_
      refine S.iconst X.here hx (5 : Int32) (hb hby at_168) rfl ?_
      refine S.aload X.here hx (hb hby at_169) rfl rfl ?_
      refine S.iload X.here hx (hb hby at_171) rfl ?_
      refine S.iload X.here hx (hb hby at_173) rfl ?_
      refine S.iload X.here hx (hb hby at_175) rfl ?_
      exact k)
  have F31 := F26.keep K28 (allS (by omega) all0)
  have F32 := F27.keep K28 (allS (by omega) all0)
  obtain ⟨v33, h33, Q33, K33, z33, w33⟩ := w30.callS hx (y := (⟨"com/example/bylaw/bylaw/GranteeIsReservedGroupPinLaw", "set", "([CILjava/lang/String;ICC)V"⟩ : MethodName)) (W := 0) (hw _ (List.mem_of_getElem? (i := 27) rfl)) (hw _ (List.mem_of_getElem? (i := 28) rfl)) (hw _ (List.mem_of_getElem? (i := 24) rfl)) (hw _ (List.mem_of_getElem? (i := 29) rfl)) (by decide) ((rmst l Z a0 hw x2 k2 cs28 (5 : Int32) xa own_ev _ (own_p p1) dc cc h28 n0 (by omega) hG F31 F32 V28 (by omega) (by decide) (by omega) hdc hcc).pay w30.hZ (hw _ (List.mem_of_getElem? (i := 29) rfl)) (hw _ (List.mem_of_getElem? (i := 24) rfl)) (by decide) (by decide)) rfl (by rw [hml]; rfl) [] (lenOf pd_6 rfl) rfl (by show 2 * 0 + _ ≤ _; exact Nat.le_of_eq rfl) (hb hby at_177) (by decide) (by decide) (sfS (Safe.arv w30.al V28 (by decide)) sf0) (fun rv => (mkF m 180 #[.val (.int p0), .val (.int p1), .val (.int p2), .val (.int p3), .val (.int la), .val (.ref xa), .val (.int (8 : Int32)), .val (.int kk), .val (.int ln), .val (.int (own_p p1)), .val (.int dc), .val (.int cc), .val (.ref x2), .unset, .unset] (rv.toList ++ []))) (fun _ => rfl)
  obtain ⟨rfl, V33⟩ := Q33
  have K34 : Keep h0 h33 [] := K29.trans K33 (allS (Or.inr (by omega)) (fun _ q => nomatch q))
  obtain ⟨cs33, ec33⟩ : ∃ z, z = own_st own_ev (own_p p1) dc cc cs28 (5 : Int32) := ⟨_, rfl⟩
  rw [← ec33] at V33
  have cl33 : cs33.length ≤ 11 := by rw [ec33, own_st_len]; exact cl28
  have rg33 : ∀ c ∈ cs33, ¬ c < 0 ∧ ¬ (255 : Int32) < c := by rw [ec33]; exact own_st_rng (by decide) hdc hcc rg28
  have w35 := w33.pure (mkF m 192 #[.val (.int p0), .val (.int p1), .val (.int p2), .val (.int p3), .val (.int la), .val (.ref xa), .val (.int (8 : Int32)), .val (.int kk), .val (.int ln), .val (.int (own_p p1)), .val (.int dc), .val (.int cc), .val (.ref x2), .unset, .unset] [(.int cc), (.int dc), (.int (own_p p1)), (.ref xa), (.int (6 : Int32)), (.ref x2)]) (fun X eT hZ hown k => by
      show Steps _ _ _ (State.setTop _ (mkF m 180 #[.val (.int p0), .val (.int p1), .val (.int p2), .val (.int p3), .val (.int la), .val (.ref xa), .val (.int (8 : Int32)), .val (.int kk), .val (.int ln), .val (.int (own_p p1)), .val (.int dc), .val (.int cc), .val (.ref x2), .unset, .unset] [])) _
      refine S.aload X.here hx (hb hby at_180) rfl rfl ?_
      refine S.bipush X.here hx (6 : Int32) (hb hby at_182) rfl ?_
      refine S.aload X.here hx (hb hby at_184) rfl rfl ?_
      refine S.iload X.here hx (hb hby at_186) rfl ?_
      refine S.iload X.here hx (hb hby at_188) rfl ?_
      refine S.iload X.here hx (hb hby at_190) rfl ?_
      exact k)
  have F36 := F31.keep K33 (allS (by omega) all0)
  have F37 := F32.keep K33 (allS (by omega) all0)
  obtain ⟨v38, h38, Q38, K38, z38, w38⟩ := w35.callS hx (y := (⟨"com/example/bylaw/bylaw/GranteeIsReservedGroupPinLaw", "set", "([CILjava/lang/String;ICC)V"⟩ : MethodName)) (W := 0) (hw _ (List.mem_of_getElem? (i := 27) rfl)) (hw _ (List.mem_of_getElem? (i := 28) rfl)) (hw _ (List.mem_of_getElem? (i := 24) rfl)) (hw _ (List.mem_of_getElem? (i := 29) rfl)) (by decide) ((rmst l Z a0 hw x2 k2 cs33 (6 : Int32) xa own_ev _ (own_p p1) dc cc h33 n0 (by omega) hG F36 F37 V33 (by omega) (by decide) (by omega) hdc hcc).pay w35.hZ (hw _ (List.mem_of_getElem? (i := 29) rfl)) (hw _ (List.mem_of_getElem? (i := 24) rfl)) (by decide) (by decide)) rfl (by rw [hml]; rfl) [] (lenOf pd_6 rfl) rfl (by show 2 * 0 + _ ≤ _; exact Nat.le_of_eq rfl) (hb hby at_192) (by decide) (by decide) (sfS (Safe.arv w35.al V33 (by decide)) sf0) (fun rv => (mkF m 195 #[.val (.int p0), .val (.int p1), .val (.int p2), .val (.int p3), .val (.int la), .val (.ref xa), .val (.int (8 : Int32)), .val (.int kk), .val (.int ln), .val (.int (own_p p1)), .val (.int dc), .val (.int cc), .val (.ref x2), .unset, .unset] (rv.toList ++ []))) (fun _ => rfl)
  obtain ⟨rfl, V38⟩ := Q38
  have K39 : Keep h0 h38 [] := K34.trans K38 (allS (Or.inr (by omega)) (fun _ q => nomatch q))
  obtain ⟨cs38, ec38⟩ : ∃ z, z = own_st own_ev (own_p p1) dc cc cs33 (6 : Int32) := ⟨_, rfl⟩
  rw [← ec38] at V38
  have cl38 : cs38.length ≤ 11 := by rw [ec38, own_st_len]; exact cl33
  have rg38 : ∀ c ∈ cs38, ¬ c < 0 ∧ ¬ (255 : Int32) < c := by rw [ec38]; exact own_st_rng (by decide) hdc hcc rg33
  have w40 := w38.pure (mkF m 207 #[.val (.int p0), .val (.int p1), .val (.int p2), .val (.int p3), .val (.int la), .val (.ref xa), .val (.int (8 : Int32)), .val (.int kk), .val (.int ln), .val (.int (own_p p1)), .val (.int dc), .val (.int cc), .val (.ref x2), .unset, .unset] [(.int cc), (.int dc), (.int (own_p p1)), (.ref xa), (.int (7 : Int32)), (.ref x2)]) (fun X eT hZ hown k => by
      show Steps _ _ _ (State.setTop _ (mkF m 195 #[.val (.int p0), .val (.int p1), .val (.int p2), .val (.int p3), .val (.int la), .val (.ref xa), .val (.int (8 : Int32)), .val (.int kk), .val (.int ln), .val (.int (own_p p1)), .val (.int dc), .val (.int cc), .val (.ref x2), .unset, .unset] [])) _
      refine S.aload X.here hx (hb hby at_195) rfl rfl ?_
      refine S.bipush X.here hx (7 : Int32) (hb hby at_197) rfl ?_
      refine S.aload X.here hx (hb hby at_199) rfl rfl ?_
      refine S.iload X.here hx (hb hby at_201) rfl ?_
      refine S.iload X.here hx (hb hby at_203) rfl ?_
      refine S.iload X.here hx (hb hby at_205) rfl ?_
      exact k)
  have F41 := F36.keep K38 (allS (by omega) all0)
  have F42 := F37.keep K38 (allS (by omega) all0)
  obtain ⟨v43, h43, Q43, K43, z43, w43⟩ := w40.callS hx (y := (⟨"com/example/bylaw/bylaw/GranteeIsReservedGroupPinLaw", "set", "([CILjava/lang/String;ICC)V"⟩ : MethodName)) (W := 0) (hw _ (List.mem_of_getElem? (i := 27) rfl)) (hw _ (List.mem_of_getElem? (i := 28) rfl)) (hw _ (List.mem_of_getElem? (i := 24) rfl)) (hw _ (List.mem_of_getElem? (i := 29) rfl)) (by decide) ((rmst l Z a0 hw x2 k2 cs38 (7 : Int32) xa own_ev _ (own_p p1) dc cc h38 n0 (by omega) hG F41 F42 V38 (by omega) (by decide) (by omega) hdc hcc).pay w40.hZ (hw _ (List.mem_of_getElem? (i := 29) rfl)) (hw _ (List.mem_of_getElem? (i := 24) rfl)) (by decide) (by decide)) rfl (by rw [hml]; rfl) [] (lenOf pd_6 rfl) rfl (by show 2 * 0 + _ ≤ _; exact Nat.le_of_eq rfl) (hb hby at_207) (by decide) (by decide) (sfS (Safe.arv w40.al V38 (by decide)) sf0) (fun rv => (mkF m 210 #[.val (.int p0), .val (.int p1), .val (.int p2), .val (.int p3), .val (.int la), .val (.ref xa), .val (.int (8 : Int32)), .val (.int kk), .val (.int ln), .val (.int (own_p p1)), .val (.int dc), .val (.int cc), .val (.ref x2), .unset, .unset] (rv.toList ++ []))) (fun _ => rfl)
  obtain ⟨rfl, V43⟩ := Q43
  have K44 : Keep h0 h43 [] := K39.trans K43 (allS (Or.inr (by omega)) (fun _ q => nomatch q))
  obtain ⟨cs43, ec43⟩ : ∃ z, z = own_st own_ev (own_p p1) dc cc cs38 (7 : Int32) := ⟨_, rfl⟩
  rw [← ec43] at V43
  have cl43 : cs43.length ≤ 11 := by rw [ec43, own_st_len]; exact cl38
  have rg43 : ∀ c ∈ cs43, ¬ c < 0 ∧ ¬ (255 : Int32) < c := by rw [ec43]; exact own_st_rng (by decide) hdc hcc rg38
  have w45 := w43.pure (mkF m 222 #[.val (.int p0), .val (.int p1), .val (.int p2), .val (.int p3), .val (.int la), .val (.ref xa), .val (.int (8 : Int32)), .val (.int kk), .val (.int ln), .val (.int (own_p p1)), .val (.int dc), .val (.int cc), .val (.ref x2), .unset, .unset] [(.int cc), (.int dc), (.int (own_p p1)), (.ref xa), (.int (8 : Int32)), (.ref x2)]) (fun X eT hZ hown k => by
      show Steps _ _ _ (State.setTop _ (mkF m 210 #[.val (.int p0), .val (.int p1), .val (.int p2), .val (.int p3), .val (.int la), .val (.ref xa), .val (.int (8 : Int32)), .val (.int kk), .val (.int ln), .val (.int (own_p p1)), .val (.int dc), .val (.int cc), .val (.ref x2), .unset, .unset] [])) _
      refine S.aload X.here hx (hb hby at_210) rfl rfl ?_
      refine S.bipush X.here hx (8 : Int32) (hb hby at_212) rfl ?_
      refine S.aload X.here hx (hb hby at_214) rfl rfl ?_
      refine S.iload X.here hx (hb hby at_216) rfl ?_
      refine S.iload X.here hx (hb hby at_218) rfl ?_
      refine S.iload X.here hx (hb hby at_220) rfl ?_
      exact k)
  have F46 := F41.keep K43 (allS (by omega) all0)
  have F47 := F42.keep K43 (allS (by omega) all0)
  obtain ⟨v48, h48, Q48, K48, z48, w48⟩ := w45.callS hx (y := (⟨"com/example/bylaw/bylaw/GranteeIsReservedGroupPinLaw", "set", "([CILjava/lang/String;ICC)V"⟩ : MethodName)) (W := 0) (hw _ (List.mem_of_getElem? (i := 27) rfl)) (hw _ (List.mem_of_getElem? (i := 28) rfl)) (hw _ (List.mem_of_getElem? (i := 24) rfl)) (hw _ (List.mem_of_getElem? (i := 29) rfl)) (by decide) ((rmst l Z a0 hw x2 k2 cs43 (8 : Int32) xa own_ev _ (own_p p1) dc cc h43 n0 (by omega) hG F46 F47 V43 (by omega) (by decide) (by omega) hdc hcc).pay w45.hZ (hw _ (List.mem_of_getElem? (i := 29) rfl)) (hw _ (List.mem_of_getElem? (i := 24) rfl)) (by decide) (by decide)) rfl (by rw [hml]; rfl) [] (lenOf pd_6 rfl) rfl (by show 2 * 0 + _ ≤ _; exact Nat.le_of_eq rfl) (hb hby at_222) (by decide) (by decide) (sfS (Safe.arv w45.al V43 (by decide)) sf0) (fun rv => (mkF m 225 #[.val (.int p0), .val (.int p1), .val (.int p2), .val (.int p3), .val (.int la), .val (.ref xa), .val (.int (8 : Int32)), .val (.int kk), .val (.int ln), .val (.int (own_p p1)), .val (.int dc), .val (.int cc), .val (.ref x2), .unset, .unset] (rv.toList ++ []))) (fun _ => rfl)
  obtain ⟨rfl, V48⟩ := Q48
  have K49 : Keep h0 h48 [] := K44.trans K48 (allS (Or.inr (by omega)) (fun _ q => nomatch q))
  obtain ⟨cs48, ec48⟩ : ∃ z, z = own_st own_ev (own_p p1) dc cc cs43 (8 : Int32) := ⟨_, rfl⟩
  rw [← ec48] at V48
  have cl48 : cs48.length ≤ 11 := by rw [ec48, own_st_len]; exact cl43
  have rg48 : ∀ c ∈ cs48, ¬ c < 0 ∧ ¬ (255 : Int32) < c := by rw [ec48]; exact own_st_rng (by decide) hdc hcc rg43
  have w50 := w48.pure (mkF m 237 #[.val (.int p0), .val (.int p1), .val (.int p2), .val (.int p3), .val (.int la), .val (.ref xa), .val (.int (8 : Int32)), .val (.int kk), .val (.int ln), .val (.int (own_p p1)), .val (.int dc), .val (.int cc), .val (.ref x2), .unset, .unset] [(.int cc), (.int dc), (.int (own_p p1)), (.ref xa), (.int (9 : Int32)), (.ref x2)]) (fun X eT hZ hown k => by
      show Steps _ _ _ (State.setTop _ (mkF m 225 #[.val (.int p0), .val (.int p1), .val (.int p2), .val (.int p3), .val (.int la), .val (.ref xa), .val (.int (8 : Int32)), .val (.int kk), .val (.int ln), .val (.int (own_p p1)), .val (.int dc), .val (.int cc), .val (.ref x2), .unset, .unset] [])) _
      refine S.aload X.here hx (hb hby at_225) rfl rfl ?_
      refine S.bipush X.here hx (9 : Int32) (hb hby at_227) rfl ?_
      refine S.aload X.here hx (hb hby at_229) rfl rfl ?_
      refine S.iload X.here hx (hb hby at_231) rfl ?_
      refine S.iload X.here hx (hb hby at_233) rfl ?_
      refine S.iload X.here hx (hb hby at_235) rfl ?_
      exact k)
  have F51 := F46.keep K48 (allS (by omega) all0)
  have F52 := F47.keep K48 (allS (by omega) all0)
  obtain ⟨v53, h53, Q53, K53, z53, w53⟩ := w50.callS hx (y := (⟨"com/example/bylaw/bylaw/GranteeIsReservedGroupPinLaw", "set", "([CILjava/lang/String;ICC)V"⟩ : MethodName)) (W := 0) (hw _ (List.mem_of_getElem? (i := 27) rfl)) (hw _ (List.mem_of_getElem? (i := 28) rfl)) (hw _ (List.mem_of_getElem? (i := 24) rfl)) (hw _ (List.mem_of_getElem? (i := 29) rfl)) (by decide) ((rmst l Z a0 hw x2 k2 cs48 (9 : Int32) xa own_ev _ (own_p p1) dc cc h48 n0 (by omega) hG F51 F52 V48 (by omega) (by decide) (by omega) hdc hcc).pay w50.hZ (hw _ (List.mem_of_getElem? (i := 29) rfl)) (hw _ (List.mem_of_getElem? (i := 24) rfl)) (by decide) (by decide)) rfl (by rw [hml]; rfl) [] (lenOf pd_6 rfl) rfl (by show 2 * 0 + _ ≤ _; exact Nat.le_of_eq rfl) (hb hby at_237) (by decide) (by decide) (sfS (Safe.arv w50.al V48 (by decide)) sf0) (fun rv => (mkF m 240 #[.val (.int p0), .val (.int p1), .val (.int p2), .val (.int p3), .val (.int la), .val (.ref xa), .val (.int (8 : Int32)), .val (.int kk), .val (.int ln), .val (.int (own_p p1)), .val (.int dc), .val (.int cc), .val (.ref x2), .unset, .unset] (rv.toList ++ []))) (fun _ => rfl)
  obtain ⟨rfl, V53⟩ := Q53
  have K54 : Keep h0 h53 [] := K49.trans K53 (allS (Or.inr (by omega)) (fun _ q => nomatch q))
  obtain ⟨cs53, ec53⟩ : ∃ z, z = own_st own_ev (own_p p1) dc cc cs48 (9 : Int32) := ⟨_, rfl⟩
  rw [← ec53] at V53
  have cl53 : cs53.length ≤ 11 := by rw [ec53, own_st_len]; exact cl48
  have rg53 : ∀ c ∈ cs53, ¬ c < 0 ∧ ¬ (255 : Int32) < c := by rw [ec53]; exact own_st_rng (by decide) hdc hcc rg48
  have w55 := w53.pure (mkF m 252 #[.val (.int p0), .val (.int p1), .val (.int p2), .val (.int p3), .val (.int la), .val (.ref xa), .val (.int (8 : Int32)), .val (.int kk), .val (.int ln), .val (.int (own_p p1)), .val (.int dc), .val (.int cc), .val (.ref x2), .unset, .unset] [(.int cc), (.int dc), (.int (own_p p1)), (.ref xa), (.int (10 : Int32)), (.ref x2)]) (fun X eT hZ hown k => by
      show Steps _ _ _ (State.setTop _ (mkF m 240 #[.val (.int p0), .val (.int p1), .val (.int p2), .val (.int p3), .val (.int la), .val (.ref xa), .val (.int (8 : Int32)), .val (.int kk), .val (.int ln), .val (.int (own_p p1)), .val (.int dc), .val (.int cc), .val (.ref x2), .unset, .unset] [])) _
      refine S.aload X.here hx (hb hby at_240) rfl rfl ?_
      refine S.bipush X.here hx (10 : Int32) (hb hby at_242) rfl ?_
      refine S.aload X.here hx (hb hby at_244) rfl rfl ?_
      refine S.iload X.here hx (hb hby at_246) rfl ?_
      refine S.iload X.here hx (hb hby at_248) rfl ?_
      refine S.iload X.here hx (hb hby at_250) rfl ?_
      exact k)
  have F56 := F51.keep K53 (allS (by omega) all0)
  have F57 := F52.keep K53 (allS (by omega) all0)
  obtain ⟨v58, h58, Q58, K58, z58, w58⟩ := w55.callS hx (y := (⟨"com/example/bylaw/bylaw/GranteeIsReservedGroupPinLaw", "set", "([CILjava/lang/String;ICC)V"⟩ : MethodName)) (W := 0) (hw _ (List.mem_of_getElem? (i := 27) rfl)) (hw _ (List.mem_of_getElem? (i := 28) rfl)) (hw _ (List.mem_of_getElem? (i := 24) rfl)) (hw _ (List.mem_of_getElem? (i := 29) rfl)) (by decide) ((rmst l Z a0 hw x2 k2 cs53 (10 : Int32) xa own_ev _ (own_p p1) dc cc h53 n0 (by omega) hG F56 F57 V53 (by omega) (by decide) (by omega) hdc hcc).pay w55.hZ (hw _ (List.mem_of_getElem? (i := 29) rfl)) (hw _ (List.mem_of_getElem? (i := 24) rfl)) (by decide) (by decide)) rfl (by rw [hml]; rfl) [] (lenOf pd_6 rfl) rfl (by show 2 * 0 + _ ≤ _; exact Nat.le_of_eq rfl) (hb hby at_252) (by decide) (by decide) (sfS (Safe.arv w55.al V53 (by decide)) sf0) (fun rv => (mkF m 255 #[.val (.int p0), .val (.int p1), .val (.int p2), .val (.int p3), .val (.int la), .val (.ref xa), .val (.int (8 : Int32)), .val (.int kk), .val (.int ln), .val (.int (own_p p1)), .val (.int dc), .val (.int cc), .val (.ref x2), .unset, .unset] (rv.toList ++ []))) (fun _ => rfl)
  obtain ⟨rfl, V58⟩ := Q58
  have K59 : Keep h0 h58 [] := K54.trans K58 (allS (Or.inr (by omega)) (fun _ q => nomatch q))
  obtain ⟨cs58, ec58⟩ : ∃ z, z = own_st own_ev (own_p p1) dc cc cs53 (10 : Int32) := ⟨_, rfl⟩
  rw [← ec58] at V58
  have cl58 : cs58.length ≤ 11 := by rw [ec58, own_st_len]; exact cl53
  have rg58 : ∀ c ∈ cs58, ¬ c < 0 ∧ ¬ (255 : Int32) < c := by rw [ec58]; exact own_st_rng (by decide) hdc hcc rg53
  obtain ⟨b60, h60, g60, E60, l60, A60, D60, y60, w60⟩ := w58.newO hx (hw _ (List.mem_of_getElem? (i := 52) rfl)) (hw _ (List.mem_of_getElem? (i := 2) rfl)) (hw _ (List.mem_of_getElem? (i := 1) rfl)) rfl (hb hby at_255) (by decide) (by decide) (fun xq => (mkF m 258 #[.val (.int p0), .val (.int p1), .val (.int p2), .val (.int p3), .val (.int la), .val (.ref xa), .val (.int (8 : Int32)), .val (.int kk), .val (.int ln), .val (.int (own_p p1)), .val (.int dc), .val (.int cc), .val (.ref x2), .unset, .unset] (.ref xq :: []))) (fun _ => rfl)
  have z60 := E60.1
  have K61 : Keep h0 h60 [] := K59.ext E60
  have D60_4 : Fld Z h60 b60 "java/lang/String" "value" "[B" .null := D60 (Or.inr (hw _ (List.mem_of_getElem? (i := 4) rfl))) (ty := (.array .byte)) (by decide)
  have D60_5 : Fld Z h60 b60 "java/lang/String" "coder" "B" (.int (0 : Int32)) := D60 (Or.inr (hw _ (List.mem_of_getElem? (i := 5) rfl))) (ty := .byte) (by decide)
  have w62 := w60.pure (mkF m 261 #[.val (.int p0), .val (.int p1), .val (.int p2), .val (.int p3), .val (.int la), .val (.ref xa), .val (.int (8 : Int32)), .val (.int kk), .val (.int ln), .val (.int (own_p p1)), .val (.int dc), .val (.int cc), .val (.ref x2), .unset, .unset] [(.ref x2), (.ref b60), (.ref b60)]) (fun X eT hZ hown k => by
      show Steps _ _ _ (State.setTop _ (mkF m 258 #[.val (.int p0), .val (.int p1), .val (.int p2), .val (.int p3), .val (.int la), .val (.ref xa), .val (.int (8 : Int32)), .val (.int kk), .val (.int ln), .val (.int (own_p p1)), .val (.int dc), .val (.int cc), .val (.ref x2), .unset, .unset] [(.ref b60)])) _
      refine S.dup X.here hx (hb hby at_258) rfl ?_
      refine S.aload X.here hx (hb hby at_259) rfl rfl ?_
      exact k)
  have F64 := V58.ext E60
  have w63 := w62.more (k := 5) (n := 65) (by decide) (by decide)
  rcases Nat.eq_zero_or_pos cs58.length with hz63 | hz63
  · have ez63 := List.length_eq_zero_iff.mp hz63
    have VZ63 : Arv Z h60 x2 k2 .char (0 : Int32) [] (.int (0 : Int32)) := by rw [ez63] at F64; exact F64
    obtain ⟨v65, vm65, h65, Q65, K65, z65, C65, w65⟩ := w63.callIW hx (y := (⟨"java/lang/String", "<init>", "([C)V"⟩ : MethodName)) (W := 1) rfl (hw _ (List.mem_of_getElem? (i := 53) rfl)) (hw _ (List.mem_of_getElem? (i := 54) rfl)) (hw _ (List.mem_of_getElem? (i := 55) rfl)) (by decide) ((rme1 l Z a0 hw hE b60 x2 k2 h60 n0 (by omega) (by omega) A60 D60_4 D60_5 VZ63).pay w63 (hw _ (List.mem_of_getElem? (i := 55) rfl)) (hw _ (List.mem_of_getElem? (i := 1) rfl)) (by decide) (by decide) (allS ⟨by omega, y60⟩ all0)) rfl (by rw [hml]; rfl) [(.ref b60)] (lenOf pd_7 rfl) rfl (by show 2 * 0 + _ ≤ _; exact Nat.le_of_eq rfl) (hb hby at_261) (by decide) (by decide)  (fun rv => (mkF m 264 #[.val (.int p0), .val (.int p1), .val (.int p2), .val (.int p3), .val (.int la), .val (.ref xa), .val (.int (8 : Int32)), .val (.int kk), .val (.int ln), .val (.int (own_p p1)), .val (.int dc), .val (.int cc), .val (.ref x2), .unset, .unset] (rv.toList ++ [(.ref b60)]))) (fun _ => rfl)
    obtain ⟨rfl, G65⟩ := Q65
    have K66 : Keep h0 h65 [] := K61.trans K65 (allS (Or.inr (by omega)) (fun _ q => nomatch q))
    have lt_b60 := G65.lt
    have SZ67 : Str Z h65 b60 cs58 h65.size := by rw [ez63]; exact G65
    have F68 := F56.keep K58 (allS (by omega) all0)
    have F69 := F68.ext E60
    have F70 := F69.keep K65 (allS (by omega) all0)
    have F71 := FOe.keep K2 nin0
    have F72 := F71.keep K8 (ninS (nne (by omega)) nin0)
    have F73 := F72.keep K13 (ninS (nne (by omega)) nin0)
    have F74 := F73.keep K18 (ninS (nne (by omega)) nin0)
    have F75 := F74.keep K23 (ninS (nne (by omega)) nin0)
    have F76 := F75.keep K28 (ninS (nne (by omega)) nin0)
    have F77 := F76.keep K33 (ninS (nne (by omega)) nin0)
    have F78 := F77.keep K38 (ninS (nne (by omega)) nin0)
    have F79 := F78.keep K43 (ninS (nne (by omega)) nin0)
    have F80 := F79.keep K48 (ninS (nne (by omega)) nin0)
    have F81 := F80.keep K53 (ninS (nne (by omega)) nin0)
    have F82 := F81.keep K58 (ninS (nne (by omega)) nin0)
    have F83 := F82.ext E60
    have F84 := F83.keep K65 (ninS (nne (by omega)) nin0)
    have F85 := SSe.keep K2 all0
    have F86 := F85.keep K8 (allS (by omega) all0)
    have F87 := F86.keep K13 (allS (by omega) all0)
    have F88 := F87.keep K18 (allS (by omega) all0)
    have F89 := F88.keep K23 (allS (by omega) all0)
    have F90 := F89.keep K28 (allS (by omega) all0)
    have F91 := F90.keep K33 (allS (by omega) all0)
    have F92 := F91.keep K38 (allS (by omega) all0)
    have F93 := F92.keep K43 (allS (by omega) all0)
    have F94 := F93.keep K48 (allS (by omega) all0)
    have F95 := F94.keep K53 (allS (by omega) all0)
    have F96 := F95.keep K58 (allS (by omega) all0)
    have F97 := F96.ext E60
    have F98 := F97.keep K65 (allS (by omega) all0)
    have F99 := FOn.keep K2 nin0
    have F100 := F99.keep K8 (ninS (nne (by omega)) nin0)
    have F101 := F100.keep K13 (ninS (nne (by omega)) nin0)
    have F102 := F101.keep K18 (ninS (nne (by omega)) nin0)
    have F103 := F102.keep K23 (ninS (nne (by omega)) nin0)
    have F104 := F103.keep K28 (ninS (nne (by omega)) nin0)
    have F105 := F104.keep K33 (ninS (nne (by omega)) nin0)
    have F106 := F105.keep K38 (ninS (nne (by omega)) nin0)
    have F107 := F106.keep K43 (ninS (nne (by omega)) nin0)
    have F108 := F107.keep K48 (ninS (nne (by omega)) nin0)
    have F109 := F108.keep K53 (ninS (nne (by omega)) nin0)
    have F110 := F109.keep K58 (ninS (nne (by omega)) nin0)
    have F111 := F110.ext E60
    have F112 := F111.keep K65 (ninS (nne (by omega)) nin0)
    have F113 := SSn.keep K2 all0
    have F114 := F113.keep K8 (allS (by omega) all0)
    have F115 := F114.keep K13 (allS (by omega) all0)
    have F116 := F115.keep K18 (allS (by omega) all0)
    have F117 := F116.keep K23 (allS (by omega) all0)
    have F118 := F117.keep K28 (allS (by omega) all0)
    have F119 := F118.keep K33 (allS (by omega) all0)
    have F120 := F119.keep K38 (allS (by omega) all0)
    have F121 := F120.keep K43 (allS (by omega) all0)
    have F122 := F121.keep K48 (allS (by omega) all0)
    have F123 := F122.keep K53 (allS (by omega) all0)
    have F124 := F123.keep K58 (allS (by omega) all0)
    have F125 := F124.ext E60
    have F126 := F125.keep K65 (allS (by omega) all0)
    have F127 := F57.keep K58 (allS (by omega) all0)
    have F128 := F127.ext E60
    have F129 := F128.keep K65 (allS (by omega) all0)
    exact ptCE l Z a0 hw hE Bd hml p0 p1 p2 p3 la kk ln dc cc xa x2 b60 cs58 oe xe on xn h0 n0 Z0 (w65.more (k := 10) (n := 120) (by decide) (by decide)) K66 (by omega) hG F70 SOe F84 F98 SOn F112 F126 (F129.more (by omega)) (SZ67.more (by omega)) (by rw [ec58, ec53, ec48, ec43, ec38, ec33, ec28, ec23, ec18, ec13, ec8, ec5]; rfl)
  · have F130 := F56.keep K58 (allS (by omega) all0)
    have F131 := F130.ext E60
    obtain ⟨v132, h132, Q132, K132, z132, w132⟩ := w63.callI hx (y := (⟨"java/lang/String", "<init>", "([C)V"⟩ : MethodName)) (W := 1) rfl (hw _ (List.mem_of_getElem? (i := 53) rfl)) (hw _ (List.mem_of_getElem? (i := 54) rfl)) (hw _ (List.mem_of_getElem? (i := 55) rfl)) (by decide) (payNew hG w63.hZ hq_backV (hw _ (List.mem_of_getElem? (i := 2) rfl)) cs58 cs58.length (by omega) A60 D60_4 D60_5 F64 F131 rfl rfl hz63 (by omega) rg58 (by decide) (by decide)) rfl (by rw [hml]; rfl) [(.ref b60)] (lenOf pd_7 rfl) rfl (by show 2 * 0 + _ ≤ _; exact Nat.le_of_eq rfl) (hb hby at_261) (by decide) (Nat.le_trans (by omega : 65 + cs58.length ≤ 76) (by decide)) (sfS y60 sf0) (fun rv => (mkF m 264 #[.val (.int p0), .val (.int p1), .val (.int p2), .val (.int p3), .val (.int la), .val (.ref xa), .val (.int (8 : Int32)), .val (.int kk), .val (.int ln), .val (.int (own_p p1)), .val (.int dc), .val (.int cc), .val (.ref x2), .unset, .unset] (rv.toList ++ [(.ref b60)]))) (fun _ => rfl)
    obtain ⟨rfl, G132⟩ := Q132
    have K133 : Keep h0 h132 [] := K61.trans K132 (allS (Or.inr (by omega)) (fun _ q => nomatch q))
    have lt_b60 := G132.lt
    have w132m := w132.more (k := 6) (n := 76) (by decide) (by omega)
    have F134 := F131.keep K132 (allS (by omega) all0)
    have F135 := FOe.keep K2 nin0
    have F136 := F135.keep K8 (ninS (nne (by omega)) nin0)
    have F137 := F136.keep K13 (ninS (nne (by omega)) nin0)
    have F138 := F137.keep K18 (ninS (nne (by omega)) nin0)
    have F139 := F138.keep K23 (ninS (nne (by omega)) nin0)
    have F140 := F139.keep K28 (ninS (nne (by omega)) nin0)
    have F141 := F140.keep K33 (ninS (nne (by omega)) nin0)
    have F142 := F141.keep K38 (ninS (nne (by omega)) nin0)
    have F143 := F142.keep K43 (ninS (nne (by omega)) nin0)
    have F144 := F143.keep K48 (ninS (nne (by omega)) nin0)
    have F145 := F144.keep K53 (ninS (nne (by omega)) nin0)
    have F146 := F145.keep K58 (ninS (nne (by omega)) nin0)
    have F147 := F146.ext E60
    have F148 := F147.keep K132 (ninS (nne (by omega)) nin0)
    have F149 := SSe.keep K2 all0
    have F150 := F149.keep K8 (allS (by omega) all0)
    have F151 := F150.keep K13 (allS (by omega) all0)
    have F152 := F151.keep K18 (allS (by omega) all0)
    have F153 := F152.keep K23 (allS (by omega) all0)
    have F154 := F153.keep K28 (allS (by omega) all0)
    have F155 := F154.keep K33 (allS (by omega) all0)
    have F156 := F155.keep K38 (allS (by omega) all0)
    have F157 := F156.keep K43 (allS (by omega) all0)
    have F158 := F157.keep K48 (allS (by omega) all0)
    have F159 := F158.keep K53 (allS (by omega) all0)
    have F160 := F159.keep K58 (allS (by omega) all0)
    have F161 := F160.ext E60
    have F162 := F161.keep K132 (allS (by omega) all0)
    have F163 := FOn.keep K2 nin0
    have F164 := F163.keep K8 (ninS (nne (by omega)) nin0)
    have F165 := F164.keep K13 (ninS (nne (by omega)) nin0)
    have F166 := F165.keep K18 (ninS (nne (by omega)) nin0)
    have F167 := F166.keep K23 (ninS (nne (by omega)) nin0)
    have F168 := F167.keep K28 (ninS (nne (by omega)) nin0)
    have F169 := F168.keep K33 (ninS (nne (by omega)) nin0)
    have F170 := F169.keep K38 (ninS (nne (by omega)) nin0)
    have F171 := F170.keep K43 (ninS (nne (by omega)) nin0)
    have F172 := F171.keep K48 (ninS (nne (by omega)) nin0)
    have F173 := F172.keep K53 (ninS (nne (by omega)) nin0)
    have F174 := F173.keep K58 (ninS (nne (by omega)) nin0)
    have F175 := F174.ext E60
    have F176 := F175.keep K132 (ninS (nne (by omega)) nin0)
    have F177 := SSn.keep K2 all0
    have F178 := F177.keep K8 (allS (by omega) all0)
    have F179 := F178.keep K13 (allS (by omega) all0)
    have F180 := F179.keep K18 (allS (by omega) all0)
    have F181 := F180.keep K23 (allS (by omega) all0)
    have F182 := F181.keep K28 (allS (by omega) all0)
    have F183 := F182.keep K33 (allS (by omega) all0)
    have F184 := F183.keep K38 (allS (by omega) all0)
    have F185 := F184.keep K43 (allS (by omega) all0)
    have F186 := F185.keep K48 (allS (by omega) all0)
    have F187 := F186.keep K53 (allS (by omega) all0)
    have F188 := F187.keep K58 (allS (by omega) all0)
    have F189 := F188.ext E60
    have F190 := F189.keep K132 (allS (by omega) all0)
    have F191 := F57.keep K58 (allS (by omega) all0)
    have F192 := F191.ext E60
    have F193 := F192.keep K132 (allS (by omega) all0)
    exact ptCE l Z a0 hw hE Bd hml p0 p1 p2 p3 la kk ln dc cc xa x2 b60 cs58 oe xe on xn h0 n0 Z0 (w132m.more (k := 10) (n := 120) (by decide) (by decide)) K133 (by omega) hG F134 SOe F148 F162 SOn F176 F190 (F193.more (by omega)) (G132.more (by omega)) (by rw [ec58, ec53, ec48, ec43, ec38, ec33, ec28, ec23, ec18, ec13, ec8, ec5]; rfl)
set_option maxRecDepth 65536 in
set_option maxHeartbeats 40000000 in
theorem ptAE (l : Launch) (Z : State) (a0 : Array Value) (hw : ∀ d ∈ tables_1, d.before a0 Z = true) (hE : EW Z a0 consts_1) {p : Program} {e : Env} {s s₁ st : State} {m : MethodId} {args : Array Value} {below : List Frame} {meth : Method} {c : Code} {Sp : Spec} (Bd : BodyLoose p l x Sp code maxLocals ret e s m args below meth c s₁) (hml : c.maxLocals = 15) (p0 p1 p2 p3 la : Int32) (xa : Nat) (oe xe on xn : Nat) (h0 : Heap) (n0 : Nat) (Z0 : n0 ≤ h0.size) {h1 : Heap} {vm1 : Vm}
    (w0 : Wk p l e room_1 s m args below meth c Z a0 consts_1 n0 x.cls false st vm1 h1 (mkF m 25 #[.val (.int p0), .val (.int p1), .val (.int p2), .val (.int p3), .val (.int la), .unset, .unset, .unset, .unset, .unset, .unset, .unset, .unset, .unset, .unset] [(.ref xa)]) 3 50) (K0 : Keep h0 h1 []) (Z1 : h0.size ≤ h1.size) (hG : SetsOk Z) (X1 : Old Z n0 h1) (SOe : Sta Z Z.heap "com/example/bylaw/bylaw/Grantee" "EVERYONE" "Lcom/example/bylaw/bylaw/Grantee;" (.ref oe)) (FOe : Fld Z h1 oe "com/example/bylaw/bylaw/Grantee" "name" "Ljava/lang/String;" (.ref xe)) (SSe : Str Z h1 xe own_ev n0) (SOn : Sta Z Z.heap "com/example/bylaw/bylaw/Grantee" "ANONYMOUS" "Lcom/example/bylaw/bylaw/Grantee;" (.ref on)) (FOn : Fld Z h1 on "com/example/bylaw/bylaw/Grantee" "name" "Ljava/lang/String;" (.ref xn)) (SSn : Str Z h1 xn own_an n0) (Sx : Str Z h1 xa own_ev h1.size) :
    EndsW p e below st s Z consts_1 n0 h0 [] (fun v h => v = some (.int 1)) room_1.cells room_1.slots := by
  have hx := Bd.exec
  have hby := Bd.bytes
  have hnm := (name_of_methodNamed Bd.named Bd.method).1
  have lt_FOe : h1.size > oe := Fld.lt FOe
  have lt_SSe := SSe.lt
  have lt_FOn : h1.size > on := Fld.lt FOn
  have lt_SSn := SSn.lt
  have lt_Sx := Sx.lt
  have hq_lenW : ∀ d ∈ StrChars.Road.wordsLen, d.before a0 Z = true := fun d hd => hw d ((by decide +kernel : ∀ d ∈ StrChars.Road.wordsLen, d ∈ tables_1) d hd)
  have w1 := w0.pure (mkF m 29 #[.val (.int p0), .val (.int p1), .val (.int p2), .val (.int p3), .val (.int la), .val (.ref xa), .unset, .unset, .unset, .unset, .unset, .unset, .unset, .unset, .unset] [(.ref xa)]) (fun X eT hZ hown k => by
      show Steps _ _ _ (State.setTop _ (mkF m 25 #[.val (.int p0), .val (.int p1), .val (.int p2), .val (.int p3), .val (.int la), .unset, .unset, .unset, .unset, .unset, .unset, .unset, .unset, .unset, .unset] [(.ref xa)])) _
      refine S.astore X.here hx (hb hby at_25) rfl #[.val (.int p0), .val (.int p1), .val (.int p2), .val (.int p3), .val (.int la), .val (.ref xa), .unset, .unset, .unset, .unset, .unset, .unset, .unset, .unset, .unset] rfl ?_
      refine S.aload X.here hx (hb hby at_27) rfl rfl ?_
      exact k)
  obtain ⟨v2, h2, Q2, K2, z2, w2⟩ := w1.callV hx (C := "java/lang/String") (y := (⟨"java/lang/String", "length", "()I"⟩ : MethodName)) (z := (⟨"java/lang/String", "length", "()I"⟩ : MethodName)) (W := 0) (hw _ (List.mem_of_getElem? (i := 8) rfl)) (hw _ (List.mem_of_getElem? (i := 9) rfl)) (hw _ (List.mem_of_getElem? (i := 11) rfl)) (hw _ (List.mem_of_getElem? (i := 10) rfl)) (w1.nf (hw _ (List.mem_of_getElem? (i := 11) rfl))) (by decide) (payLen hG w1.hZ hq_lenW (hw _ (List.mem_of_getElem? (i := 2) rfl)) Sx X1 (by decide) (by decide)) Sx.exa rfl (by rw [hml]; rfl) [] (lenOf pd_1 rfl) rfl (by show 2 * 0 + _ ≤ _; exact Nat.le_of_eq rfl) (hb hby at_29) (by decide) (by decide) (fun _ q => nomatch q) (fun rv => (mkF m 32 #[.val (.int p0), .val (.int p1), .val (.int p2), .val (.int p3), .val (.int la), .val (.ref xa), .unset, .unset, .unset, .unset, .unset, .unset, .unset, .unset, .unset] (rv.toList ++ []))) (fun _ => rfl)
  obtain ⟨rfl, rfl⟩ := Q2
  have w3 := w2.pure (mkF m 45 #[.val (.int p0), .val (.int p1), .val (.int p2), .val (.int p3), .val (.int la), .val (.ref xa), .val (.int (8 : Int32)), .val (.int (((p0.toUInt32 >>> ((1 : Int32) &&& 31).toUInt32).toInt32) &&& (7 : Int32))), .unset, .unset, .unset, .unset, .unset, .unset, .unset] [(.int (4 : Int32)), (.int (((p0.toUInt32 >>> ((1 : Int32) &&& 31).toUInt32).toInt32) &&& (7 : Int32)))]) (fun X eT hZ hown k => by
      show Steps _ _ _ (State.setTop _ (mkF m 32 #[.val (.int p0), .val (.int p1), .val (.int p2), .val (.int p3), .val (.int la), .val (.ref xa), .unset, .unset, .unset, .unset, .unset, .unset, .unset, .unset, .unset] [(.int (8 : Int32))])) _
      refine S.istore X.here hx (hb hby at_32) #[.val (.int p0), .val (.int p1), .val (.int p2), .val (.int p3), .val (.int la), .val (.ref xa), .val (.int (8 : Int32)), .unset, .unset, .unset, .unset, .unset, .unset, .unset, .unset] rfl ?_
      refine S.iloadN X.here hx (hb hby at_34) rfl ?_
      refine S.iconst X.here hx (1 : Int32) (hb hby at_35) rfl ?_
      refine S.iushr X.here hx (hb hby at_36) ?_
      refine S.bipush X.here hx (7 : Int32) (hb hby at_37) rfl ?_
      refine S.iand X.here hx (hb hby at_39) ?_
      refine S.istore X.here hx (hb hby at_40) #[.val (.int p0), .val (.int p1), .val (.int p2), .val (.int p3), .val (.int la), .val (.ref xa), .val (.int (8 : Int32)), .val (.int (((p0.toUInt32 >>> ((1 : Int32) &&& 31).toUInt32).toInt32) &&& (7 : Int32))), .unset, .unset, .unset, .unset, .unset, .unset, .unset] rfl ?_
      refine S.iload X.here hx (hb hby at_42) rfl ?_
      refine S.iconst X.here hx (4 : Int32) (hb hby at_44) rfl ?_
      exact k)
  by_cases hc4 : (((p0.toUInt32 >>> ((1 : Int32) &&& 31).toUInt32).toInt32) &&& (7 : Int32)) < (4 : Int32)
  · have w5 := w3.pure (mkF m 73 #[.val (.int p0), .val (.int p1), .val (.int p2), .val (.int p3), .val (.int la), .val (.ref xa), .val (.int (8 : Int32)), .val (.int (((p0.toUInt32 >>> ((1 : Int32) &&& 31).toUInt32).toInt32) &&& (7 : Int32))), .val (.int ((7 : Int32) + (((p0.toUInt32 >>> ((1 : Int32) &&& 31).toUInt32).toInt32) &&& (7 : Int32)))), .val (.int ((p1 &&& (2147483647 : Int32)) % (12 : Int32))), .unset, .unset, .unset, .unset, .unset] []) (fun X eT hZ hown k => by
        show Steps _ _ _ (State.setTop _ (mkF m 45 #[.val (.int p0), .val (.int p1), .val (.int p2), .val (.int p3), .val (.int la), .val (.ref xa), .val (.int (8 : Int32)), .val (.int (((p0.toUInt32 >>> ((1 : Int32) &&& 31).toUInt32).toInt32) &&& (7 : Int32))), .unset, .unset, .unset, .unset, .unset, .unset, .unset] [(.int (4 : Int32)), (.int (((p0.toUInt32 >>> ((1 : Int32) &&& 31).toUInt32).toInt32) &&& (7 : Int32)))])) _
        refine S.icmpNo X.here hx (hb hby at_45) (tlt hc4).2.1 ?_
        refine S.iload X.here hx (hb hby at_48) rfl ?_
        refine S.iconst X.here hx (1 : Int32) (hb hby at_50) rfl ?_
        refine S.isubV X.here hx (7 : Int32) (hb hby at_51) rfl ?_
        refine S.iload X.here hx (hb hby at_52) rfl ?_
        refine S.iadd X.here hx (hb hby at_54) ?_
        refine S.goto X.here hx 62 (hb hby at_55) (by decide) (by decide) ?_
        refine S.istore X.here hx (hb hby at_62) #[.val (.int p0), .val (.int p1), .val (.int p2), .val (.int p3), .val (.int la), .val (.ref xa), .val (.int (8 : Int32)), .val (.int (((p0.toUInt32 >>> ((1 : Int32) &&& 31).toUInt32).toInt32) &&& (7 : Int32))), .val (.int ((7 : Int32) + (((p0.toUInt32 >>> ((1 : Int32) &&& 31).toUInt32).toInt32) &&& (7 : Int32)))), .unset, .unset, .unset, .unset, .unset, .unset] rfl ?_
        refine S.iloadN X.here hx (hb hby at_64) rfl ?_
        refine X.ldcI hx hown (mvT hZ (hw _ (List.mem_of_getElem? (i := 21) rfl))) rfl (hb hby at_65) ?_
        show Steps _ _ _ (State.setTop _ (mkF m 67 #[.val (.int p0), .val (.int p1), .val (.int p2), .val (.int p3), .val (.int la), .val (.ref xa), .val (.int (8 : Int32)), .val (.int (((p0.toUInt32 >>> ((1 : Int32) &&& 31).toUInt32).toInt32) &&& (7 : Int32))), .val (.int ((7 : Int32) + (((p0.toUInt32 >>> ((1 : Int32) &&& 31).toUInt32).toInt32) &&& (7 : Int32)))), .unset, .unset, .unset, .unset, .unset, .unset] [(.int (2147483647 : Int32)), (.int p1)])) _
        refine S.iand X.here hx (hb hby at_67) ?_
        refine S.bipush X.here hx (12 : Int32) (hb hby at_68) rfl ?_
        refine iremM X hx rfl (hb hby at_70) rfl (by decide) ?_
        show Steps _ _ _ (State.setTop _ (mkF m 71 #[.val (.int p0), .val (.int p1), .val (.int p2), .val (.int p3), .val (.int la), .val (.ref xa), .val (.int (8 : Int32)), .val (.int (((p0.toUInt32 >>> ((1 : Int32) &&& 31).toUInt32).toInt32) &&& (7 : Int32))), .val (.int ((7 : Int32) + (((p0.toUInt32 >>> ((1 : Int32) &&& 31).toUInt32).toInt32) &&& (7 : Int32)))), .unset, .unset, .unset, .unset, .unset, .unset] [(.int ((p1 &&& (2147483647 : Int32)) % (12 : Int32)))])) _
        refine S.istore X.here hx (hb hby at_71) #[.val (.int p0), .val (.int p1), .val (.int p2), .val (.int p3), .val (.int la), .val (.ref xa), .val (.int (8 : Int32)), .val (.int (((p0.toUInt32 >>> ((1 : Int32) &&& 31).toUInt32).toInt32) &&& (7 : Int32))), .val (.int ((7 : Int32) + (((p0.toUInt32 >>> ((1 : Int32) &&& 31).toUInt32).toInt32) &&& (7 : Int32)))), .val (.int ((p1 &&& (2147483647 : Int32)) % (12 : Int32))), .unset, .unset, .unset, .unset, .unset] rfl ?_
        exact k)
    have w6 := w5.pure (mkF m 73 #[.val (.int p0), .val (.int p1), .val (.int p2), .val (.int p3), .val (.int la), .val (.ref xa), .val (.int (8 : Int32)), .val (.int (((p0.toUInt32 >>> ((1 : Int32) &&& 31).toUInt32).toInt32) &&& (7 : Int32))), .val (.int ((7 : Int32) + (((p0.toUInt32 >>> ((1 : Int32) &&& 31).toUInt32).toInt32) &&& (7 : Int32)))), .val (.int (own_p p1)), .unset, .unset, .unset, .unset, .unset] []) (fun X eT hZ hown k => k)
    have w7 := w6.pure (mkF m 89 #[.val (.int p0), .val (.int p1), .val (.int p2), .val (.int p3), .val (.int la), .val (.ref xa), .val (.int (8 : Int32)), .val (.int (((p0.toUInt32 >>> ((1 : Int32) &&& 31).toUInt32).toInt32) &&& (7 : Int32))), .val (.int ((7 : Int32) + (((p0.toUInt32 >>> ((1 : Int32) &&& 31).toUInt32).toInt32) &&& (7 : Int32)))), .val (.int (own_p p1)), .val (.int (p2 &&& (255 : Int32))), .val (.int (p3 &&& (255 : Int32))), .unset, .unset, .unset] []) (fun X eT hZ hown k => by
        show Steps _ _ _ (State.setTop _ (mkF m 73 #[.val (.int p0), .val (.int p1), .val (.int p2), .val (.int p3), .val (.int la), .val (.ref xa), .val (.int (8 : Int32)), .val (.int (((p0.toUInt32 >>> ((1 : Int32) &&& 31).toUInt32).toInt32) &&& (7 : Int32))), .val (.int ((7 : Int32) + (((p0.toUInt32 >>> ((1 : Int32) &&& 31).toUInt32).toInt32) &&& (7 : Int32)))), .val (.int (own_p p1)), .unset, .unset, .unset, .unset, .unset] [])) _
        refine S.iloadN X.here hx (hb hby at_73) rfl ?_
        refine S.sipush X.here hx (255 : Int32) (hb hby at_74) rfl ?_
        refine S.iand X.here hx (hb hby at_77) ?_
        refine S.i2cM X.here hx (hb hby at_78) ?_
        refine S.istore X.here hx (hb hby at_79) #[.val (.int p0), .val (.int p1), .val (.int p2), .val (.int p3), .val (.int la), .val (.ref xa), .val (.int (8 : Int32)), .val (.int (((p0.toUInt32 >>> ((1 : Int32) &&& 31).toUInt32).toInt32) &&& (7 : Int32))), .val (.int ((7 : Int32) + (((p0.toUInt32 >>> ((1 : Int32) &&& 31).toUInt32).toInt32) &&& (7 : Int32)))), .val (.int (own_p p1)), .val (.int (p2 &&& (255 : Int32))), .unset, .unset, .unset, .unset] rfl ?_
        refine S.iloadN X.here hx (hb hby at_81) rfl ?_
        refine S.sipush X.here hx (255 : Int32) (hb hby at_82) rfl ?_
        refine S.iand X.here hx (hb hby at_85) ?_
        refine S.i2cM X.here hx (hb hby at_86) ?_
        refine S.istore X.here hx (hb hby at_87) #[.val (.int p0), .val (.int p1), .val (.int p2), .val (.int p3), .val (.int la), .val (.ref xa), .val (.int (8 : Int32)), .val (.int (((p0.toUInt32 >>> ((1 : Int32) &&& 31).toUInt32).toInt32) &&& (7 : Int32))), .val (.int ((7 : Int32) + (((p0.toUInt32 >>> ((1 : Int32) &&& 31).toUInt32).toInt32) &&& (7 : Int32)))), .val (.int (own_p p1)), .val (.int (p2 &&& (255 : Int32))), .val (.int (p3 &&& (255 : Int32))), .unset, .unset, .unset] rfl ?_
        exact k)
    exact ptBE l Z a0 hw hE Bd hml p0 p1 p2 p3 la (((p0.toUInt32 >>> ((1 : Int32) &&& 31).toUInt32).toInt32) &&& (7 : Int32)) ((7 : Int32) + (((p0.toUInt32 >>> ((1 : Int32) &&& 31).toUInt32).toInt32) &&& (7 : Int32))) (p2 &&& (255 : Int32)) (p3 &&& (255 : Int32)) xa oe xe on xn h0 n0 Z0 w7 K0 (by omega) hG X1 SOe FOe SSe SOn FOn SSn (Sx.more (by omega)) (and255_rng _) (and255_rng _)
  · have w8 := w3.pure (mkF m 73 #[.val (.int p0), .val (.int p1), .val (.int p2), .val (.int p3), .val (.int la), .val (.ref xa), .val (.int (8 : Int32)), .val (.int (((p0.toUInt32 >>> ((1 : Int32) &&& 31).toUInt32).toInt32) &&& (7 : Int32))), .val (.int ((((p0.toUInt32 >>> ((1 : Int32) &&& 31).toUInt32).toInt32) &&& (7 : Int32)) - (4 : Int32))), .val (.int ((p1 &&& (2147483647 : Int32)) % (12 : Int32))), .unset, .unset, .unset, .unset, .unset] []) (fun X eT hZ hown k => by
        show Steps _ _ _ (State.setTop _ (mkF m 45 #[.val (.int p0), .val (.int p1), .val (.int p2), .val (.int p3), .val (.int la), .val (.ref xa), .val (.int (8 : Int32)), .val (.int (((p0.toUInt32 >>> ((1 : Int32) &&& 31).toUInt32).toInt32) &&& (7 : Int32))), .unset, .unset, .unset, .unset, .unset, .unset, .unset] [(.int (4 : Int32)), (.int (((p0.toUInt32 >>> ((1 : Int32) &&& 31).toUInt32).toInt32) &&& (7 : Int32)))])) _
        refine S.icmpYes X.here hx 58 (hb hby at_45) (flt hc4).2.1 (by decide) (by decide) ?_
        refine S.iload X.here hx (hb hby at_58) rfl ?_
        refine S.iconst X.here hx (4 : Int32) (hb hby at_60) rfl ?_
        refine S.isub X.here hx (hb hby at_61) ?_
        refine S.istore X.here hx (hb hby at_62) #[.val (.int p0), .val (.int p1), .val (.int p2), .val (.int p3), .val (.int la), .val (.ref xa), .val (.int (8 : Int32)), .val (.int (((p0.toUInt32 >>> ((1 : Int32) &&& 31).toUInt32).toInt32) &&& (7 : Int32))), .val (.int ((((p0.toUInt32 >>> ((1 : Int32) &&& 31).toUInt32).toInt32) &&& (7 : Int32)) - (4 : Int32))), .unset, .unset, .unset, .unset, .unset, .unset] rfl ?_
        refine S.iloadN X.here hx (hb hby at_64) rfl ?_
        refine X.ldcI hx hown (mvT hZ (hw _ (List.mem_of_getElem? (i := 21) rfl))) rfl (hb hby at_65) ?_
        show Steps _ _ _ (State.setTop _ (mkF m 67 #[.val (.int p0), .val (.int p1), .val (.int p2), .val (.int p3), .val (.int la), .val (.ref xa), .val (.int (8 : Int32)), .val (.int (((p0.toUInt32 >>> ((1 : Int32) &&& 31).toUInt32).toInt32) &&& (7 : Int32))), .val (.int ((((p0.toUInt32 >>> ((1 : Int32) &&& 31).toUInt32).toInt32) &&& (7 : Int32)) - (4 : Int32))), .unset, .unset, .unset, .unset, .unset, .unset] [(.int (2147483647 : Int32)), (.int p1)])) _
        refine S.iand X.here hx (hb hby at_67) ?_
        refine S.bipush X.here hx (12 : Int32) (hb hby at_68) rfl ?_
        refine iremM X hx rfl (hb hby at_70) rfl (by decide) ?_
        show Steps _ _ _ (State.setTop _ (mkF m 71 #[.val (.int p0), .val (.int p1), .val (.int p2), .val (.int p3), .val (.int la), .val (.ref xa), .val (.int (8 : Int32)), .val (.int (((p0.toUInt32 >>> ((1 : Int32) &&& 31).toUInt32).toInt32) &&& (7 : Int32))), .val (.int ((((p0.toUInt32 >>> ((1 : Int32) &&& 31).toUInt32).toInt32) &&& (7 : Int32)) - (4 : Int32))), .unset, .unset, .unset, .unset, .unset, .unset] [(.int ((p1 &&& (2147483647 : Int32)) % (12 : Int32)))])) _
        refine S.istore X.here hx (hb hby at_71) #[.val (.int p0), .val (.int p1), .val (.int p2), .val (.int p3), .val (.int la), .val (.ref xa), .val (.int (8 : Int32)), .val (.int (((p0.toUInt32 >>> ((1 : Int32) &&& 31).toUInt32).toInt32) &&& (7 : Int32))), .val (.int ((((p0.toUInt32 >>> ((1 : Int32) &&& 31).toUInt32).toInt32) &&& (7 : Int32)) - (4 : Int32))), .val (.int ((p1 &&& (2147483647 : Int32)) % (12 : Int32))), .unset, .unset, .unset, .unset, .unset] rfl ?_
        exact k)
    have w9 := w8.pure (mkF m 73 #[.val (.int p0), .val (.int p1), .val (.int p2), .val (.int p3), .val (.int la), .val (.ref xa), .val (.int (8 : Int32)), .val (.int (((p0.toUInt32 >>> ((1 : Int32) &&& 31).toUInt32).toInt32) &&& (7 : Int32))), .val (.int ((((p0.toUInt32 >>> ((1 : Int32) &&& 31).toUInt32).toInt32) &&& (7 : Int32)) - (4 : Int32))), .val (.int (own_p p1)), .unset, .unset, .unset, .unset, .unset] []) (fun X eT hZ hown k => k)
    have w10 := w9.pure (mkF m 89 #[.val (.int p0), .val (.int p1), .val (.int p2), .val (.int p3), .val (.int la), .val (.ref xa), .val (.int (8 : Int32)), .val (.int (((p0.toUInt32 >>> ((1 : Int32) &&& 31).toUInt32).toInt32) &&& (7 : Int32))), .val (.int ((((p0.toUInt32 >>> ((1 : Int32) &&& 31).toUInt32).toInt32) &&& (7 : Int32)) - (4 : Int32))), .val (.int (own_p p1)), .val (.int (p2 &&& (255 : Int32))), .val (.int (p3 &&& (255 : Int32))), .unset, .unset, .unset] []) (fun X eT hZ hown k => by
        show Steps _ _ _ (State.setTop _ (mkF m 73 #[.val (.int p0), .val (.int p1), .val (.int p2), .val (.int p3), .val (.int la), .val (.ref xa), .val (.int (8 : Int32)), .val (.int (((p0.toUInt32 >>> ((1 : Int32) &&& 31).toUInt32).toInt32) &&& (7 : Int32))), .val (.int ((((p0.toUInt32 >>> ((1 : Int32) &&& 31).toUInt32).toInt32) &&& (7 : Int32)) - (4 : Int32))), .val (.int (own_p p1)), .unset, .unset, .unset, .unset, .unset] [])) _
        refine S.iloadN X.here hx (hb hby at_73) rfl ?_
        refine S.sipush X.here hx (255 : Int32) (hb hby at_74) rfl ?_
        refine S.iand X.here hx (hb hby at_77) ?_
        refine S.i2cM X.here hx (hb hby at_78) ?_
        refine S.istore X.here hx (hb hby at_79) #[.val (.int p0), .val (.int p1), .val (.int p2), .val (.int p3), .val (.int la), .val (.ref xa), .val (.int (8 : Int32)), .val (.int (((p0.toUInt32 >>> ((1 : Int32) &&& 31).toUInt32).toInt32) &&& (7 : Int32))), .val (.int ((((p0.toUInt32 >>> ((1 : Int32) &&& 31).toUInt32).toInt32) &&& (7 : Int32)) - (4 : Int32))), .val (.int (own_p p1)), .val (.int (p2 &&& (255 : Int32))), .unset, .unset, .unset, .unset] rfl ?_
        refine S.iloadN X.here hx (hb hby at_81) rfl ?_
        refine S.sipush X.here hx (255 : Int32) (hb hby at_82) rfl ?_
        refine S.iand X.here hx (hb hby at_85) ?_
        refine S.i2cM X.here hx (hb hby at_86) ?_
        refine S.istore X.here hx (hb hby at_87) #[.val (.int p0), .val (.int p1), .val (.int p2), .val (.int p3), .val (.int la), .val (.ref xa), .val (.int (8 : Int32)), .val (.int (((p0.toUInt32 >>> ((1 : Int32) &&& 31).toUInt32).toInt32) &&& (7 : Int32))), .val (.int ((((p0.toUInt32 >>> ((1 : Int32) &&& 31).toUInt32).toInt32) &&& (7 : Int32)) - (4 : Int32))), .val (.int (own_p p1)), .val (.int (p2 &&& (255 : Int32))), .val (.int (p3 &&& (255 : Int32))), .unset, .unset, .unset] rfl ?_
        exact k)
    exact ptBE l Z a0 hw hE Bd hml p0 p1 p2 p3 la (((p0.toUInt32 >>> ((1 : Int32) &&& 31).toUInt32).toInt32) &&& (7 : Int32)) ((((p0.toUInt32 >>> ((1 : Int32) &&& 31).toUInt32).toInt32) &&& (7 : Int32)) - (4 : Int32)) (p2 &&& (255 : Int32)) (p3 &&& (255 : Int32)) xa oe xe on xn h0 n0 Z0 w10 K0 (by omega) hG X1 SOe FOe SSe SOn FOn SSn (Sx.more (by omega)) (and255_rng _) (and255_rng _)
set_option maxRecDepth 65536 in
set_option maxHeartbeats 40000000 in
theorem ptCN (l : Launch) (Z : State) (a0 : Array Value) (hw : ∀ d ∈ tables_1, d.before a0 Z = true) (hE : EW Z a0 consts_1) {p : Program} {e : Env} {s s₁ st : State} {m : MethodId} {args : Array Value} {below : List Frame} {meth : Method} {c : Code} {Sp : Spec} (Bd : BodyLoose p l x Sp code maxLocals ret e s m args below meth c s₁) (hml : c.maxLocals = 15) (p0 p1 p2 p3 la kk ln dc cc : Int32) (xa a xs : Nat) (cs : List Int32) (oe xe on xn : Nat) (h0 : Heap) (n0 : Nat) (Z0 : n0 ≤ h0.size) {h1 : Heap} {vm1 : Vm}
    (w0 : Wk p l e room_1 s m args below meth c Z a0 consts_1 n0 x.cls false st vm1 h1 (mkF m 264 #[.val (.int p0), .val (.int p1), .val (.int p2), .val (.int p3), .val (.int la), .val (.ref xa), .val (.int (9 : Int32)), .val (.int kk), .val (.int ln), .val (.int (own_p p1)), .val (.int dc), .val (.int cc), .val (.ref a), .unset, .unset] [(.ref xs)]) 10 120) (K0 : Keep h0 h1 []) (Z1 : h0.size ≤ h1.size) (hG : SetsOk Z) (X1 : Old Z n0 h1) (SOe : Sta Z Z.heap "com/example/bylaw/bylaw/Grantee" "EVERYONE" "Lcom/example/bylaw/bylaw/Grantee;" (.ref oe)) (FOe : Fld Z h1 oe "com/example/bylaw/bylaw/Grantee" "name" "Ljava/lang/String;" (.ref xe)) (SSe : Str Z h1 xe own_ev n0) (SOn : Sta Z Z.heap "com/example/bylaw/bylaw/Grantee" "ANONYMOUS" "Lcom/example/bylaw/bylaw/Grantee;" (.ref on)) (FOn : Fld Z h1 on "com/example/bylaw/bylaw/Grantee" "name" "Ljava/lang/String;" (.ref xn)) (SSn : Str Z h1 xn own_an n0) (Sx : Str Z h1 xa own_an h1.size) (Sn : Str Z h1 xs cs h1.size) (ec : cs = own_name own_an (own_alloc ln) (own_p p1) dc cc) :
    EndsW p e below st s Z consts_1 n0 h0 [] (fun v h => v = some (.int 1)) room_1.cells room_1.slots := by
  have hx := Bd.exec
  have hby := Bd.bytes
  have hnm := (name_of_methodNamed Bd.named Bd.method).1
  have lt_FOe : h1.size > oe := Fld.lt FOe
  have lt_SSe := SSe.lt
  have lt_FOn : h1.size > on := Fld.lt FOn
  have lt_SSn := SSn.lt
  have lt_Sx := Sx.lt
  have lt_Sn := Sn.lt
  have hq_chN : ∀ d ∈ StrChars.Road.wordsChN, d.before a0 Z = true := fun d hd => hw d ((by decide +kernel : ∀ d ∈ StrChars.Road.wordsChN, d ∈ tables_1) d hd)
  have w1 := w0.pure (mkF m 270 #[.val (.int p0), .val (.int p1), .val (.int p2), .val (.int p3), .val (.int la), .val (.ref xa), .val (.int (9 : Int32)), .val (.int kk), .val (.int ln), .val (.int (own_p p1)), .val (.int dc), .val (.int cc), .val (.ref a), .val (.ref xs), .unset] [(.int (9 : Int32)), (.int ln)]) (fun X eT hZ hown k => by
      show Steps _ _ _ (State.setTop _ (mkF m 264 #[.val (.int p0), .val (.int p1), .val (.int p2), .val (.int p3), .val (.int la), .val (.ref xa), .val (.int (9 : Int32)), .val (.int kk), .val (.int ln), .val (.int (own_p p1)), .val (.int dc), .val (.int cc), .val (.ref a), .unset, .unset] [(.ref xs)])) _
      refine S.astore X.here hx (hb hby at_264) rfl #[.val (.int p0), .val (.int p1), .val (.int p2), .val (.int p3), .val (.int la), .val (.ref xa), .val (.int (9 : Int32)), .val (.int kk), .val (.int ln), .val (.int (own_p p1)), .val (.int dc), .val (.int cc), .val (.ref a), .val (.ref xs), .unset] rfl ?_
      refine S.iload X.here hx (hb hby at_266) rfl ?_
      refine S.iload X.here hx (hb hby at_268) rfl ?_
      exact k)
  by_cases hc2 : ln = (9 : Int32)
  · have w3 := w1.pure (mkF m 277 #[.val (.int p0), .val (.int p1), .val (.int p2), .val (.int p3), .val (.int la), .val (.ref xa), .val (.int (9 : Int32)), .val (.int kk), .val (.int ln), .val (.int (own_p p1)), .val (.int dc), .val (.int cc), .val (.ref a), .val (.ref xs), .unset] [(.int (9 : Int32)), (.int (own_p p1))]) (fun X eT hZ hown k => by
        show Steps _ _ _ (State.setTop _ (mkF m 270 #[.val (.int p0), .val (.int p1), .val (.int p2), .val (.int p3), .val (.int la), .val (.ref xa), .val (.int (9 : Int32)), .val (.int kk), .val (.int ln), .val (.int (own_p p1)), .val (.int dc), .val (.int cc), .val (.ref a), .val (.ref xs), .unset] [(.int (9 : Int32)), (.int ln)])) _
        refine S.icmpNo X.here hx (hb hby at_270) (teq hc2).2 ?_
        refine S.iload X.here hx (hb hby at_273) rfl ?_
        refine S.iload X.here hx (hb hby at_275) rfl ?_
        exact k)
    by_cases hc4 : (own_p p1) < (9 : Int32)
    · have w5 := w3.pure (mkF m 286 #[.val (.int p0), .val (.int p1), .val (.int p2), .val (.int p3), .val (.int la), .val (.ref xa), .val (.int (9 : Int32)), .val (.int kk), .val (.int ln), .val (.int (own_p p1)), .val (.int dc), .val (.int cc), .val (.ref a), .val (.ref xs), .unset] [(.int (own_p p1)), (.ref xa), (.int dc)]) (fun X eT hZ hown k => by
          show Steps _ _ _ (State.setTop _ (mkF m 277 #[.val (.int p0), .val (.int p1), .val (.int p2), .val (.int p3), .val (.int la), .val (.ref xa), .val (.int (9 : Int32)), .val (.int kk), .val (.int ln), .val (.int (own_p p1)), .val (.int dc), .val (.int cc), .val (.ref a), .val (.ref xs), .unset] [(.int (9 : Int32)), (.int (own_p p1))])) _
          refine S.icmpNo X.here hx (hb hby at_277) (tlt hc4).2.1 ?_
          refine S.iload X.here hx (hb hby at_280) rfl ?_
          refine S.aload X.here hx (hb hby at_282) rfl rfl ?_
          refine S.iload X.here hx (hb hby at_284) rfl ?_
          exact k)
      obtain ⟨v6, h6, Q6, K6, z6, w6⟩ := w5.callV hx (C := "java/lang/String") (y := (⟨"java/lang/String", "charAt", "(I)C"⟩ : MethodName)) (z := (⟨"java/lang/String", "charAt", "(I)C"⟩ : MethodName)) (W := 1) (hw _ (List.mem_of_getElem? (i := 30) rfl)) (hw _ (List.mem_of_getElem? (i := 31) rfl)) (hw _ (List.mem_of_getElem? (i := 33) rfl)) (hw _ (List.mem_of_getElem? (i := 32) rfl)) (w5.nf (hw _ (List.mem_of_getElem? (i := 33) rfl))) (by decide) (payCh hG w5.hZ hq_chN (hw _ (List.mem_of_getElem? (i := 2) rfl)) Sx X1 (own_p p1).toNatClampNeg (own_idx (n := 9) (own_p_nn _) hc4 (by decide)).1 (own_idx (n := 9) (own_p_nn _) hc4 (by decide)).2 (by decide) (by decide)) Sx.exa rfl (by rw [hml]; rfl) [(.int dc)] (lenOf pd_2 rfl) rfl (by show 2 * 0 + _ ≤ _; exact Nat.le_of_eq rfl) (hb hby at_286) (by decide) (by decide) (fun _ q => nomatch q) (fun rv => (mkF m 289 #[.val (.int p0), .val (.int p1), .val (.int p2), .val (.int p3), .val (.int la), .val (.ref xa), .val (.int (9 : Int32)), .val (.int kk), .val (.int ln), .val (.int (own_p p1)), .val (.int dc), .val (.int cc), .val (.ref a), .val (.ref xs), .unset] (rv.toList ++ [(.int dc)]))) (fun _ => rfl)
      obtain ⟨rfl, rfl⟩ := Q6
      by_cases hc7 : dc = (own_an.getD (own_p p1).toNatClampNeg 0)
      · have w8 := w6.pure (mkF m 301 #[.val (.int p0), .val (.int p1), .val (.int p2), .val (.int p3), .val (.int la), .val (.ref xa), .val (.int (9 : Int32)), .val (.int kk), .val (.int ln), .val (.int (own_p p1)), .val (.int dc), .val (.int cc), .val (.ref a), .val (.ref xs), .val (.int (1 : Int32))] [(.ref xs)]) (fun X eT hZ hown k => by
            show Steps _ _ _ (State.setTop _ (mkF m 289 #[.val (.int p0), .val (.int p1), .val (.int p2), .val (.int p3), .val (.int la), .val (.ref xa), .val (.int (9 : Int32)), .val (.int kk), .val (.int ln), .val (.int (own_p p1)), .val (.int dc), .val (.int cc), .val (.ref a), .val (.ref xs), .unset] [(.int (own_an.getD (own_p p1).toNatClampNeg 0)), (.int dc)])) _
            refine S.icmpNo X.here hx (hb hby at_289) (teq hc7).2 ?_
            refine S.iconst X.here hx (1 : Int32) (hb hby at_292) rfl ?_
            refine S.goto X.here hx 297 (hb hby at_293) (by decide) (by decide) ?_
            refine S.istore X.here hx (hb hby at_297) #[.val (.int p0), .val (.int p1), .val (.int p2), .val (.int p3), .val (.int la), .val (.ref xa), .val (.int (9 : Int32)), .val (.int kk), .val (.int ln), .val (.int (own_p p1)), .val (.int dc), .val (.int cc), .val (.ref a), .val (.ref xs), .val (.int (1 : Int32))] rfl ?_
            refine S.aload X.here hx (hb hby at_299) rfl rfl ?_
            exact k)
        obtain ⟨v9, h9, Q9, K9, z9, w9⟩ := w8.callS hx (y := (⟨"com/example/bylaw/bylaw/Grantee", "isReservedGroup", "(Ljava/lang/String;)Z"⟩ : MethodName)) (W := 0) (hw _ (List.mem_of_getElem? (i := 73) rfl)) (hw _ (List.mem_of_getElem? (i := 74) rfl)) (hw _ (List.mem_of_getElem? (i := 75) rfl)) (hw _ (List.mem_of_getElem? (i := 76) rfl)) (by decide) ((rm16 l Z a0 hw xs oe xe on xn cs _ h1 n0 (by omega) hG X1 SOe FOe SSe SOn FOn SSn Sn).pay w8.hZ (hw _ (List.mem_of_getElem? (i := 76) rfl)) (hw _ (List.mem_of_getElem? (i := 75) rfl)) (by decide) (by decide)) rfl (by rw [hml]; rfl) [] (lenOf pd_4 rfl) rfl (by show 2 * 0 + _ ≤ _; exact Nat.le_of_eq rfl) (hb hby at_301) (by decide) (by decide) (fun _ q => nomatch q) (fun rv => (mkF m 304 #[.val (.int p0), .val (.int p1), .val (.int p2), .val (.int p3), .val (.int la), .val (.ref xa), .val (.int (9 : Int32)), .val (.int kk), .val (.int ln), .val (.int (own_p p1)), .val (.int dc), .val (.int cc), .val (.ref a), .val (.ref xs), .val (.int (1 : Int32))] (rv.toList ++ []))) (fun _ => rfl)
        obtain ⟨rfl, rfl⟩ := Q9
        have w10 := w9.pure (mkF m 314 #[.val (.int p0), .val (.int p1), .val (.int p2), .val (.int p3), .val (.int la), .val (.ref xa), .val (.int (9 : Int32)), .val (.int kk), .val (.int ln), .val (.int (own_p p1)), .val (.int dc), .val (.int cc), .val (.ref a), .val (.ref xs), .val (.int (1 : Int32))] [(.int (1 : Int32))]) (fun X eT hZ hown k => by
            show Steps _ _ _ (State.setTop _ (mkF m 304 #[.val (.int p0), .val (.int p1), .val (.int p2), .val (.int p3), .val (.int la), .val (.ref xa), .val (.int (9 : Int32)), .val (.int kk), .val (.int ln), .val (.int (own_p p1)), .val (.int dc), .val (.int cc), .val (.ref a), .val (.ref xs), .val (.int (1 : Int32))] [(.int (own_res cs))])) _
            refine S.iload X.here hx (hb hby at_304) rfl ?_
            refine S.icmpNo X.here hx (hb hby at_306) (teq (by rw [ec, hc2, show own_alloc (9 : Int32) = 9 from rfl, own_fN9 _ _ _ (own_p12 _), if_pos hc4, if_pos hc7])).2 ?_
            refine S.iconst X.here hx (1 : Int32) (hb hby at_309) rfl ?_
            refine S.goto X.here hx 314 (hb hby at_310) (by decide) (by decide) ?_
            exact k)
        exact w10.endW (v := some (.int (1 : Int32))) (Q := (fun v h => v = some (.int 1))) (wr := []) (h0 := h0) (fun h => by rw [Bd.returns] at h; cases h) Bd.notSynchronized (fun X hr => retN X hx (t := .boolean) Bd.returns (by simp) (hb hby at_314) hr) (by decide) (by decide) rfl K0
      · have w11 := w6.pure (mkF m 301 #[.val (.int p0), .val (.int p1), .val (.int p2), .val (.int p3), .val (.int la), .val (.ref xa), .val (.int (9 : Int32)), .val (.int kk), .val (.int ln), .val (.int (own_p p1)), .val (.int dc), .val (.int cc), .val (.ref a), .val (.ref xs), .val (.int (0 : Int32))] [(.ref xs)]) (fun X eT hZ hown k => by
            show Steps _ _ _ (State.setTop _ (mkF m 289 #[.val (.int p0), .val (.int p1), .val (.int p2), .val (.int p3), .val (.int la), .val (.ref xa), .val (.int (9 : Int32)), .val (.int kk), .val (.int ln), .val (.int (own_p p1)), .val (.int dc), .val (.int cc), .val (.ref a), .val (.ref xs), .unset] [(.int (own_an.getD (own_p p1).toNatClampNeg 0)), (.int dc)])) _
            refine S.icmpYes X.here hx 296 (hb hby at_289) (feq hc7).2 (by decide) (by decide) ?_
            refine S.iconst X.here hx (0 : Int32) (hb hby at_296) rfl ?_
            refine S.istore X.here hx (hb hby at_297) #[.val (.int p0), .val (.int p1), .val (.int p2), .val (.int p3), .val (.int la), .val (.ref xa), .val (.int (9 : Int32)), .val (.int kk), .val (.int ln), .val (.int (own_p p1)), .val (.int dc), .val (.int cc), .val (.ref a), .val (.ref xs), .val (.int (0 : Int32))] rfl ?_
            refine S.aload X.here hx (hb hby at_299) rfl rfl ?_
            exact k)
        obtain ⟨v12, h12, Q12, K12, z12, w12⟩ := w11.callS hx (y := (⟨"com/example/bylaw/bylaw/Grantee", "isReservedGroup", "(Ljava/lang/String;)Z"⟩ : MethodName)) (W := 0) (hw _ (List.mem_of_getElem? (i := 73) rfl)) (hw _ (List.mem_of_getElem? (i := 74) rfl)) (hw _ (List.mem_of_getElem? (i := 75) rfl)) (hw _ (List.mem_of_getElem? (i := 76) rfl)) (by decide) ((rm16 l Z a0 hw xs oe xe on xn cs _ h1 n0 (by omega) hG X1 SOe FOe SSe SOn FOn SSn Sn).pay w11.hZ (hw _ (List.mem_of_getElem? (i := 76) rfl)) (hw _ (List.mem_of_getElem? (i := 75) rfl)) (by decide) (by decide)) rfl (by rw [hml]; rfl) [] (lenOf pd_4 rfl) rfl (by show 2 * 0 + _ ≤ _; exact Nat.le_of_eq rfl) (hb hby at_301) (by decide) (by decide) (fun _ q => nomatch q) (fun rv => (mkF m 304 #[.val (.int p0), .val (.int p1), .val (.int p2), .val (.int p3), .val (.int la), .val (.ref xa), .val (.int (9 : Int32)), .val (.int kk), .val (.int ln), .val (.int (own_p p1)), .val (.int dc), .val (.int cc), .val (.ref a), .val (.ref xs), .val (.int (0 : Int32))] (rv.toList ++ []))) (fun _ => rfl)
        obtain ⟨rfl, rfl⟩ := Q12
        have w13 := w12.pure (mkF m 314 #[.val (.int p0), .val (.int p1), .val (.int p2), .val (.int p3), .val (.int la), .val (.ref xa), .val (.int (9 : Int32)), .val (.int kk), .val (.int ln), .val (.int (own_p p1)), .val (.int dc), .val (.int cc), .val (.ref a), .val (.ref xs), .val (.int (0 : Int32))] [(.int (1 : Int32))]) (fun X eT hZ hown k => by
            show Steps _ _ _ (State.setTop _ (mkF m 304 #[.val (.int p0), .val (.int p1), .val (.int p2), .val (.int p3), .val (.int la), .val (.ref xa), .val (.int (9 : Int32)), .val (.int kk), .val (.int ln), .val (.int (own_p p1)), .val (.int dc), .val (.int cc), .val (.ref a), .val (.ref xs), .val (.int (0 : Int32))] [(.int (own_res cs))])) _
            refine S.iload X.here hx (hb hby at_304) rfl ?_
            refine S.icmpNo X.here hx (hb hby at_306) (teq (by rw [ec, hc2, show own_alloc (9 : Int32) = 9 from rfl, own_fN9 _ _ _ (own_p12 _), if_pos hc4, if_neg hc7])).2 ?_
            refine S.iconst X.here hx (1 : Int32) (hb hby at_309) rfl ?_
            refine S.goto X.here hx 314 (hb hby at_310) (by decide) (by decide) ?_
            exact k)
        exact w13.endW (v := some (.int (1 : Int32))) (Q := (fun v h => v = some (.int 1))) (wr := []) (h0 := h0) (fun h => by rw [Bd.returns] at h; cases h) Bd.notSynchronized (fun X hr => retN X hx (t := .boolean) Bd.returns (by simp) (hb hby at_314) hr) (by decide) (by decide) rfl K0
    · have w14 := w3.pure (mkF m 301 #[.val (.int p0), .val (.int p1), .val (.int p2), .val (.int p3), .val (.int la), .val (.ref xa), .val (.int (9 : Int32)), .val (.int kk), .val (.int ln), .val (.int (own_p p1)), .val (.int dc), .val (.int cc), .val (.ref a), .val (.ref xs), .val (.int (1 : Int32))] [(.ref xs)]) (fun X eT hZ hown k => by
          show Steps _ _ _ (State.setTop _ (mkF m 277 #[.val (.int p0), .val (.int p1), .val (.int p2), .val (.int p3), .val (.int la), .val (.ref xa), .val (.int (9 : Int32)), .val (.int kk), .val (.int ln), .val (.int (own_p p1)), .val (.int dc), .val (.int cc), .val (.ref a), .val (.ref xs), .unset] [(.int (9 : Int32)), (.int (own_p p1))])) _
          refine S.icmpYes X.here hx 292 (hb hby at_277) (flt hc4).2.1 (by decide) (by decide) ?_
          refine S.iconst X.here hx (1 : Int32) (hb hby at_292) rfl ?_
          refine S.goto X.here hx 297 (hb hby at_293) (by decide) (by decide) ?_
          refine S.istore X.here hx (hb hby at_297) #[.val (.int p0), .val (.int p1), .val (.int p2), .val (.int p3), .val (.int la), .val (.ref xa), .val (.int (9 : Int32)), .val (.int kk), .val (.int ln), .val (.int (own_p p1)), .val (.int dc), .val (.int cc), .val (.ref a), .val (.ref xs), .val (.int (1 : Int32))] rfl ?_
          refine S.aload X.here hx (hb hby at_299) rfl rfl ?_
          exact k)
      obtain ⟨v15, h15, Q15, K15, z15, w15⟩ := w14.callS hx (y := (⟨"com/example/bylaw/bylaw/Grantee", "isReservedGroup", "(Ljava/lang/String;)Z"⟩ : MethodName)) (W := 0) (hw _ (List.mem_of_getElem? (i := 73) rfl)) (hw _ (List.mem_of_getElem? (i := 74) rfl)) (hw _ (List.mem_of_getElem? (i := 75) rfl)) (hw _ (List.mem_of_getElem? (i := 76) rfl)) (by decide) ((rm16 l Z a0 hw xs oe xe on xn cs _ h1 n0 (by omega) hG X1 SOe FOe SSe SOn FOn SSn Sn).pay w14.hZ (hw _ (List.mem_of_getElem? (i := 76) rfl)) (hw _ (List.mem_of_getElem? (i := 75) rfl)) (by decide) (by decide)) rfl (by rw [hml]; rfl) [] (lenOf pd_4 rfl) rfl (by show 2 * 0 + _ ≤ _; exact Nat.le_of_eq rfl) (hb hby at_301) (by decide) (by decide) (fun _ q => nomatch q) (fun rv => (mkF m 304 #[.val (.int p0), .val (.int p1), .val (.int p2), .val (.int p3), .val (.int la), .val (.ref xa), .val (.int (9 : Int32)), .val (.int kk), .val (.int ln), .val (.int (own_p p1)), .val (.int dc), .val (.int cc), .val (.ref a), .val (.ref xs), .val (.int (1 : Int32))] (rv.toList ++ []))) (fun _ => rfl)
      obtain ⟨rfl, rfl⟩ := Q15
      have w16 := w15.pure (mkF m 314 #[.val (.int p0), .val (.int p1), .val (.int p2), .val (.int p3), .val (.int la), .val (.ref xa), .val (.int (9 : Int32)), .val (.int kk), .val (.int ln), .val (.int (own_p p1)), .val (.int dc), .val (.int cc), .val (.ref a), .val (.ref xs), .val (.int (1 : Int32))] [(.int (1 : Int32))]) (fun X eT hZ hown k => by
          show Steps _ _ _ (State.setTop _ (mkF m 304 #[.val (.int p0), .val (.int p1), .val (.int p2), .val (.int p3), .val (.int la), .val (.ref xa), .val (.int (9 : Int32)), .val (.int kk), .val (.int ln), .val (.int (own_p p1)), .val (.int dc), .val (.int cc), .val (.ref a), .val (.ref xs), .val (.int (1 : Int32))] [(.int (own_res cs))])) _
          refine S.iload X.here hx (hb hby at_304) rfl ?_
          refine S.icmpNo X.here hx (hb hby at_306) (teq (by rw [ec, hc2, show own_alloc (9 : Int32) = 9 from rfl, own_fN9 _ _ _ (own_p12 _), if_neg hc4])).2 ?_
          refine S.iconst X.here hx (1 : Int32) (hb hby at_309) rfl ?_
          refine S.goto X.here hx 314 (hb hby at_310) (by decide) (by decide) ?_
          exact k)
      exact w16.endW (v := some (.int (1 : Int32))) (Q := (fun v h => v = some (.int 1))) (wr := []) (h0 := h0) (fun h => by rw [Bd.returns] at h; cases h) Bd.notSynchronized (fun X hr => retN X hx (t := .boolean) Bd.returns (by simp) (hb hby at_314) hr) (by decide) (by decide) rfl K0
  · have w17 := w1.pure (mkF m 301 #[.val (.int p0), .val (.int p1), .val (.int p2), .val (.int p3), .val (.int la), .val (.ref xa), .val (.int (9 : Int32)), .val (.int kk), .val (.int ln), .val (.int (own_p p1)), .val (.int dc), .val (.int cc), .val (.ref a), .val (.ref xs), .val (.int (0 : Int32))] [(.ref xs)]) (fun X eT hZ hown k => by
        show Steps _ _ _ (State.setTop _ (mkF m 270 #[.val (.int p0), .val (.int p1), .val (.int p2), .val (.int p3), .val (.int la), .val (.ref xa), .val (.int (9 : Int32)), .val (.int kk), .val (.int ln), .val (.int (own_p p1)), .val (.int dc), .val (.int cc), .val (.ref a), .val (.ref xs), .unset] [(.int (9 : Int32)), (.int ln)])) _
        refine S.icmpYes X.here hx 296 (hb hby at_270) (feq hc2).2 (by decide) (by decide) ?_
        refine S.iconst X.here hx (0 : Int32) (hb hby at_296) rfl ?_
        refine S.istore X.here hx (hb hby at_297) #[.val (.int p0), .val (.int p1), .val (.int p2), .val (.int p3), .val (.int la), .val (.ref xa), .val (.int (9 : Int32)), .val (.int kk), .val (.int ln), .val (.int (own_p p1)), .val (.int dc), .val (.int cc), .val (.ref a), .val (.ref xs), .val (.int (0 : Int32))] rfl ?_
        refine S.aload X.here hx (hb hby at_299) rfl rfl ?_
        exact k)
    obtain ⟨v18, h18, Q18, K18, z18, w18⟩ := w17.callS hx (y := (⟨"com/example/bylaw/bylaw/Grantee", "isReservedGroup", "(Ljava/lang/String;)Z"⟩ : MethodName)) (W := 0) (hw _ (List.mem_of_getElem? (i := 73) rfl)) (hw _ (List.mem_of_getElem? (i := 74) rfl)) (hw _ (List.mem_of_getElem? (i := 75) rfl)) (hw _ (List.mem_of_getElem? (i := 76) rfl)) (by decide) ((rm16 l Z a0 hw xs oe xe on xn cs _ h1 n0 (by omega) hG X1 SOe FOe SSe SOn FOn SSn Sn).pay w17.hZ (hw _ (List.mem_of_getElem? (i := 76) rfl)) (hw _ (List.mem_of_getElem? (i := 75) rfl)) (by decide) (by decide)) rfl (by rw [hml]; rfl) [] (lenOf pd_4 rfl) rfl (by show 2 * 0 + _ ≤ _; exact Nat.le_of_eq rfl) (hb hby at_301) (by decide) (by decide) (fun _ q => nomatch q) (fun rv => (mkF m 304 #[.val (.int p0), .val (.int p1), .val (.int p2), .val (.int p3), .val (.int la), .val (.ref xa), .val (.int (9 : Int32)), .val (.int kk), .val (.int ln), .val (.int (own_p p1)), .val (.int dc), .val (.int cc), .val (.ref a), .val (.ref xs), .val (.int (0 : Int32))] (rv.toList ++ []))) (fun _ => rfl)
    obtain ⟨rfl, rfl⟩ := Q18
    have w19 := w18.pure (mkF m 314 #[.val (.int p0), .val (.int p1), .val (.int p2), .val (.int p3), .val (.int la), .val (.ref xa), .val (.int (9 : Int32)), .val (.int kk), .val (.int ln), .val (.int (own_p p1)), .val (.int dc), .val (.int cc), .val (.ref a), .val (.ref xs), .val (.int (0 : Int32))] [(.int (1 : Int32))]) (fun X eT hZ hown k => by
        show Steps _ _ _ (State.setTop _ (mkF m 304 #[.val (.int p0), .val (.int p1), .val (.int p2), .val (.int p3), .val (.int la), .val (.ref xa), .val (.int (9 : Int32)), .val (.int kk), .val (.int ln), .val (.int (own_p p1)), .val (.int dc), .val (.int cc), .val (.ref a), .val (.ref xs), .val (.int (0 : Int32))] [(.int (own_res cs))])) _
        refine S.iload X.here hx (hb hby at_304) rfl ?_
        refine S.icmpNo X.here hx (hb hby at_306) (teq (by rw [ec]; exact own_nN _ _ _ _ (own_p12 _) hc2)).2 ?_
        refine S.iconst X.here hx (1 : Int32) (hb hby at_309) rfl ?_
        refine S.goto X.here hx 314 (hb hby at_310) (by decide) (by decide) ?_
        exact k)
    exact w19.endW (v := some (.int (1 : Int32))) (Q := (fun v h => v = some (.int 1))) (wr := []) (h0 := h0) (fun h => by rw [Bd.returns] at h; cases h) Bd.notSynchronized (fun X hr => retN X hx (t := .boolean) Bd.returns (by simp) (hb hby at_314) hr) (by decide) (by decide) rfl K0
set_option maxRecDepth 65536 in
set_option maxHeartbeats 40000000 in
theorem ptBN (l : Launch) (Z : State) (a0 : Array Value) (hw : ∀ d ∈ tables_1, d.before a0 Z = true) (hE : EW Z a0 consts_1) {p : Program} {e : Env} {s s₁ st : State} {m : MethodId} {args : Array Value} {below : List Frame} {meth : Method} {c : Code} {Sp : Spec} (Bd : BodyLoose p l x Sp code maxLocals ret e s m args below meth c s₁) (hml : c.maxLocals = 15) (p0 p1 p2 p3 la kk ln dc cc : Int32) (xa : Nat) (oe xe on xn : Nat) (h0 : Heap) (n0 : Nat) (Z0 : n0 ≤ h0.size) {h1 : Heap} {vm1 : Vm}
    (w0 : Wk p l e room_1 s m args below meth c Z a0 consts_1 n0 x.cls false st vm1 h1 (mkF m 89 #[.val (.int p0), .val (.int p1), .val (.int p2), .val (.int p3), .val (.int la), .val (.ref xa), .val (.int (9 : Int32)), .val (.int kk), .val (.int ln), .val (.int (own_p p1)), .val (.int dc), .val (.int cc), .unset, .unset, .unset] []) 3 50) (K0 : Keep h0 h1 []) (Z1 : h0.size ≤ h1.size) (hG : SetsOk Z) (X1 : Old Z n0 h1) (SOe : Sta Z Z.heap "com/example/bylaw/bylaw/Grantee" "EVERYONE" "Lcom/example/bylaw/bylaw/Grantee;" (.ref oe)) (FOe : Fld Z h1 oe "com/example/bylaw/bylaw/Grantee" "name" "Ljava/lang/String;" (.ref xe)) (SSe : Str Z h1 xe own_ev n0) (SOn : Sta Z Z.heap "com/example/bylaw/bylaw/Grantee" "ANONYMOUS" "Lcom/example/bylaw/bylaw/Grantee;" (.ref on)) (FOn : Fld Z h1 on "com/example/bylaw/bylaw/Grantee" "name" "Ljava/lang/String;" (.ref xn)) (SSn : Str Z h1 xn own_an n0) (Sx : Str Z h1 xa own_an h1.size) (hdc : ¬ dc < 0 ∧ ¬ (255 : Int32) < dc) (hcc : ¬ cc < 0 ∧ ¬ (255 : Int32) < cc) :
    EndsW p e below st s Z consts_1 n0 h0 [] (fun v h => v = some (.int 1)) room_1.cells room_1.slots := by
  have hx := Bd.exec
  have hby := Bd.bytes
  have hnm := (name_of_methodNamed Bd.named Bd.method).1
  have lt_FOe : h1.size > oe := Fld.lt FOe
  have lt_SSe := SSe.lt
  have lt_FOn : h1.size > on := Fld.lt FOn
  have lt_SSn := SSn.lt
  have lt_Sx := Sx.lt
  have hq_backV : ∀ d ∈ StrChars.Road.words, d.before a0 Z = true := fun d hd => hw d ((by decide +kernel : ∀ d ∈ StrChars.Road.words, d ∈ tables_1) d hd)
  have w1 := w0.pure (mkF m 91 #[.val (.int p0), .val (.int p1), .val (.int p2), .val (.int p3), .val (.int la), .val (.ref xa), .val (.int (9 : Int32)), .val (.int kk), .val (.int ln), .val (.int (own_p p1)), .val (.int dc), .val (.int cc), .unset, .unset, .unset] [(.int ln)]) (fun X eT hZ hown k => by
      show Steps _ _ _ (State.setTop _ (mkF m 89 #[.val (.int p0), .val (.int p1), .val (.int p2), .val (.int p3), .val (.int la), .val (.ref xa), .val (.int (9 : Int32)), .val (.int kk), .val (.int ln), .val (.int (own_p p1)), .val (.int dc), .val (.int cc), .unset, .unset, .unset] [])) _
      refine S.iload X.here hx (hb hby at_89) rfl ?_
      exact k)
  obtain ⟨v2, h2, Q2, K2, z2, w2⟩ := w1.callS hx (y := (⟨"com/example/bylaw/bylaw/GranteeIsReservedGroupPinLaw", "alloc", "(I)[C"⟩ : MethodName)) (W := 0) (hw _ (List.mem_of_getElem? (i := 22) rfl)) (hw _ (List.mem_of_getElem? (i := 23) rfl)) (hw _ (List.mem_of_getElem? (i := 24) rfl)) (hw _ (List.mem_of_getElem? (i := 25) rfl)) (by decide) ((rmal l Z a0 hw ln h1 n0 (by omega) ).pay w1.hZ (hw _ (List.mem_of_getElem? (i := 25) rfl)) (hw _ (List.mem_of_getElem? (i := 24) rfl)) (by decide) (by decide)) rfl (by rw [hml]; rfl) [] (lenOf pd_5 rfl) rfl (by show 2 * 0 + _ ≤ _; exact Nat.le_of_eq rfl) (hb hby at_91) (by decide) (by decide) (fun _ q => nomatch q) (fun rv => (mkF m 94 #[.val (.int p0), .val (.int p1), .val (.int p2), .val (.int p3), .val (.int la), .val (.ref xa), .val (.int (9 : Int32)), .val (.int kk), .val (.int ln), .val (.int (own_p p1)), .val (.int dc), .val (.int cc), .unset, .unset, .unset] (rv.toList ++ []))) (fun _ => rfl)
  obtain ⟨x2, k2, rfl, gx2, V2⟩ := Q2
  have K3 : Keep h0 h2 [] := K0.trans K2 (fun _ q => nomatch q)
  have lt_x2 := arlt V2
  have w4 := w2.pure (mkF m 107 #[.val (.int p0), .val (.int p1), .val (.int p2), .val (.int p3), .val (.int la), .val (.ref xa), .val (.int (9 : Int32)), .val (.int kk), .val (.int ln), .val (.int (own_p p1)), .val (.int dc), .val (.int cc), .val (.ref x2), .unset, .unset] [(.int cc), (.int dc), (.int (own_p p1)), (.ref xa), (.int (0 : Int32)), (.ref x2)]) (fun X eT hZ hown k => by
      show Steps _ _ _ (State.setTop _ (mkF m 94 #[.val (.int p0), .val (.int p1), .val (.int p2), .val (.int p3), .val (.int la), .val (.ref xa), .val (.int (9 : Int32)), .val (.int kk), .val (.int ln), .val (.int (own_p p1)), .val (.int dc), .val (.int cc), .unset, .unset, .unset] [(.ref x2)])) _
      refine S.astore X.here hx (hb hby at_94) rfl #[.val (.int p0), .val (.int p1), .val (.int p2), .val (.int p3), .val (.int la), .val (.ref xa), .val (.int (9 : Int32)), .val (.int kk), .val (.int ln), .val (.int (own_p p1)), .val (.int dc), .val (.int cc), .val (.ref x2), .unset, .unset] rfl ?_
      refine S.aload X.here hx (hb hby at_96) rfl rfl ?_
      refine S.iconst X.here hx (0 : Int32) (hb hby at_98) rfl ?_
      refine S.aload X.here hx (hb hby at_99) rfl rfl ?_
      refine S.iload X.here hx (hb hby at_101) rfl ?_
      refine S.iload X.here hx (hb hby at_103) rfl ?_
      refine S.iload X.here hx (hb hby at_105) rfl ?_
      exact k)
  obtain ⟨cs5, ec5⟩ : ∃ z, z = List.replicate (own_alloc ln) (0 : Int32) := ⟨_, rfl⟩
  have cl5 : cs5.length ≤ 11 := by rw [ec5, List.length_replicate]; exact own_alloc_le _
  have rg5 : ∀ c ∈ cs5, ¬ c < 0 ∧ ¬ (255 : Int32) < c := fun c q => by rw [ec5] at q; rw [List.eq_of_mem_replicate q]; decide
  have VV5 : Arv Z h2 x2 k2 .char (Int32.ofNat cs5.length) (cs5.map Value.int) (.int (0 : Int32)) := by rw [ec5, List.length_replicate]; exact V2
  have F6 := X1.keep K2 all0
  have F7 := Sx.keep K2 all0
  obtain ⟨v8, h8, Q8, K8, z8, w8⟩ := w4.callS hx (y := (⟨"com/example/bylaw/bylaw/GranteeIsReservedGroupPinLaw", "set", "([CILjava/lang/String;ICC)V"⟩ : MethodName)) (W := 0) (hw _ (List.mem_of_getElem? (i := 27) rfl)) (hw _ (List.mem_of_getElem? (i := 28) rfl)) (hw _ (List.mem_of_getElem? (i := 24) rfl)) (hw _ (List.mem_of_getElem? (i := 29) rfl)) (by decide) ((rmst l Z a0 hw x2 k2 cs5 (0 : Int32) xa own_an _ (own_p p1) dc cc h2 n0 (by omega) hG F6 F7 VV5 (by omega) (by decide) (by omega) hdc hcc).pay w4.hZ (hw _ (List.mem_of_getElem? (i := 29) rfl)) (hw _ (List.mem_of_getElem? (i := 24) rfl)) (by decide) (by decide)) rfl (by rw [hml]; rfl) [] (lenOf pd_6 rfl) rfl (by show 2 * 0 + _ ≤ _; exact Nat.le_of_eq rfl) (hb hby at_107) (by decide) (by decide) (sfS (Safe.arv w4.al VV5 (by decide)) sf0) (fun rv => (mkF m 110 #[.val (.int p0), .val (.int p1), .val (.int p2), .val (.int p3), .val (.int la), .val (.ref xa), .val (.int (9 : Int32)), .val (.int kk), .val (.int ln), .val (.int (own_p p1)), .val (.int dc), .val (.int cc), .val (.ref x2), .unset, .unset] (rv.toList ++ []))) (fun _ => rfl)
  obtain ⟨rfl, V8⟩ := Q8
  have K9 : Keep h0 h8 [] := K3.trans K8 (allS (Or.inr (by omega)) (fun _ q => nomatch q))
  obtain ⟨cs8, ec8⟩ : ∃ z, z = own_st own_an (own_p p1) dc cc cs5 (0 : Int32) := ⟨_, rfl⟩
  rw [← ec8] at V8
  have cl8 : cs8.length ≤ 11 := by rw [ec8, own_st_len]; exact cl5
  have rg8 : ∀ c ∈ cs8, ¬ c < 0 ∧ ¬ (255 : Int32) < c := by rw [ec8]; exact own_st_rng (by decide) hdc hcc rg5
  have w10 := w8.pure (mkF m 121 #[.val (.int p0), .val (.int p1), .val (.int p2), .val (.int p3), .val (.int la), .val (.ref xa), .val (.int (9 : Int32)), .val (.int kk), .val (.int ln), .val (.int (own_p p1)), .val (.int dc), .val (.int cc), .val (.ref x2), .unset, .unset] [(.int cc), (.int dc), (.int (own_p p1)), (.ref xa), (.int (1 : Int32)), (.ref x2)]) (fun X eT hZ hown k => by
      show Steps _ _ _ (State.setTop _ (mkF m 110 #[.val (.int p0), .val (.int p1), .val (.int p2), .val (.int p3), .val (.int la), .val (.ref xa), .val (.int (9 : Int32)), .val (.int kk), .val (.int ln), .val (.int (own_p p1)), .val (.int dc), .val (.int cc), .val (.ref x2), .unset, .unset] [])) _
      refine S.aload X.here hx (hb hby at_110) rfl rfl ?_
      refine S.iconst X.here hx (1 : Int32) (hb hby at_112) rfl ?_
      refine S.aload X.here hx (hb hby at_113) rfl rfl ?_
      refine S.iload X.here hx (hb hby at_115) rfl ?_
      refine S.iload X.here hx (hb hby at_117) rfl ?_
      refine S.iload X.here hx (hb hby at_119) rfl ?_
      exact k)
  have F11 := F6.keep K8 (allS (by omega) all0)
  have F12 := F7.keep K8 (allS (by omega) all0)
  obtain ⟨v13, h13, Q13, K13, z13, w13⟩ := w10.callS hx (y := (⟨"com/example/bylaw/bylaw/GranteeIsReservedGroupPinLaw", "set", "([CILjava/lang/String;ICC)V"⟩ : MethodName)) (W := 0) (hw _ (List.mem_of_getElem? (i := 27) rfl)) (hw _ (List.mem_of_getElem? (i := 28) rfl)) (hw _ (List.mem_of_getElem? (i := 24) rfl)) (hw _ (List.mem_of_getElem? (i := 29) rfl)) (by decide) ((rmst l Z a0 hw x2 k2 cs8 (1 : Int32) xa own_an _ (own_p p1) dc cc h8 n0 (by omega) hG F11 F12 V8 (by omega) (by decide) (by omega) hdc hcc).pay w10.hZ (hw _ (List.mem_of_getElem? (i := 29) rfl)) (hw _ (List.mem_of_getElem? (i := 24) rfl)) (by decide) (by decide)) rfl (by rw [hml]; rfl) [] (lenOf pd_6 rfl) rfl (by show 2 * 0 + _ ≤ _; exact Nat.le_of_eq rfl) (hb hby at_121) (by decide) (by decide) (sfS (Safe.arv w10.al V8 (by decide)) sf0) (fun rv => (mkF m 124 #[.val (.int p0), .val (.int p1), .val (.int p2), .val (.int p3), .val (.int la), .val (.ref xa), .val (.int (9 : Int32)), .val (.int kk), .val (.int ln), .val (.int (own_p p1)), .val (.int dc), .val (.int cc), .val (.ref x2), .unset, .unset] (rv.toList ++ []))) (fun _ => rfl)
  obtain ⟨rfl, V13⟩ := Q13
  have K14 : Keep h0 h13 [] := K9.trans K13 (allS (Or.inr (by omega)) (fun _ q => nomatch q))
  obtain ⟨cs13, ec13⟩ : ∃ z, z = own_st own_an (own_p p1) dc cc cs8 (1 : Int32) := ⟨_, rfl⟩
  rw [← ec13] at V13
  have cl13 : cs13.length ≤ 11 := by rw [ec13, own_st_len]; exact cl8
  have rg13 : ∀ c ∈ cs13, ¬ c < 0 ∧ ¬ (255 : Int32) < c := by rw [ec13]; exact own_st_rng (by decide) hdc hcc rg8
  have w15 := w13.pure (mkF m 135 #[.val (.int p0), .val (.int p1), .val (.int p2), .val (.int p3), .val (.int la), .val (.ref xa), .val (.int (9 : Int32)), .val (.int kk), .val (.int ln), .val (.int (own_p p1)), .val (.int dc), .val (.int cc), .val (.ref x2), .unset, .unset] [(.int cc), (.int dc), (.int (own_p p1)), (.ref xa), (.int (2 : Int32)), (.ref x2)]) (fun X eT hZ hown k => by
      show Steps _ _ _ (State.setTop _ (mkF m 124 #[.val (.int p0), .val (.int p1), .val (.int p2), .val (.int p3), .val (.int la), .val (.ref xa), .val (.int (9 : Int32)), .val (.int kk), .val (.int ln), .val (.int (own_p p1)), .val (.int dc), .val (.int cc), .val (.ref x2), .unset, .unset] [])) _
      refine S.aload X.here hx (hb hby at_124) rfl rfl ?_
      refine S.iconst X.here hx (2 : Int32) (hb hby at_126) rfl ?_
      refine S.aload X.here hx (hb hby at_127) rfl rfl ?_
      refine S.iload X.here hx (hb hby at_129) rfl ?_
      refine S.iload X.here hx (hb hby at_131) rfl ?_
      refine S.iload X.here hx (hb hby at_133) rfl ?_
      exact k)
  have F16 := F11.keep K13 (allS (by omega) all0)
  have F17 := F12.keep K13 (allS (by omega) all0)
  obtain ⟨v18, h18, Q18, K18, z18, w18⟩ := w15.callS hx (y := (⟨"com/example/bylaw/bylaw/GranteeIsReservedGroupPinLaw", "set", "([CILjava/lang/String;ICC)V"⟩ : MethodName)) (W := 0) (hw _ (List.mem_of_getElem? (i := 27) rfl)) (hw _ (List.mem_of_getElem? (i := 28) rfl)) (hw _ (List.mem_of_getElem? (i := 24) rfl)) (hw _ (List.mem_of_getElem? (i := 29) rfl)) (by decide) ((rmst l Z a0 hw x2 k2 cs13 (2 : Int32) xa own_an _ (own_p p1) dc cc h13 n0 (by omega) hG F16 F17 V13 (by omega) (by decide) (by omega) hdc hcc).pay w15.hZ (hw _ (List.mem_of_getElem? (i := 29) rfl)) (hw _ (List.mem_of_getElem? (i := 24) rfl)) (by decide) (by decide)) rfl (by rw [hml]; rfl) [] (lenOf pd_6 rfl) rfl (by show 2 * 0 + _ ≤ _; exact Nat.le_of_eq rfl) (hb hby at_135) (by decide) (by decide) (sfS (Safe.arv w15.al V13 (by decide)) sf0) (fun rv => (mkF m 138 #[.val (.int p0), .val (.int p1), .val (.int p2), .val (.int p3), .val (.int la), .val (.ref xa), .val (.int (9 : Int32)), .val (.int kk), .val (.int ln), .val (.int (own_p p1)), .val (.int dc), .val (.int cc), .val (.ref x2), .unset, .unset] (rv.toList ++ []))) (fun _ => rfl)
  obtain ⟨rfl, V18⟩ := Q18
  have K19 : Keep h0 h18 [] := K14.trans K18 (allS (Or.inr (by omega)) (fun _ q => nomatch q))
  obtain ⟨cs18, ec18⟩ : ∃ z, z = own_st own_an (own_p p1) dc cc cs13 (2 : Int32) := ⟨_, rfl⟩
  rw [← ec18] at V18
  have cl18 : cs18.length ≤ 11 := by rw [ec18, own_st_len]; exact cl13
  have rg18 : ∀ c ∈ cs18, ¬ c < 0 ∧ ¬ (255 : Int32) < c := by rw [ec18]; exact own_st_rng (by decide) hdc hcc rg13
  have w20 := w18.pure (mkF m 149 #[.val (.int p0), .val (.int p1), .val (.int p2), .val (.int p3), .val (.int la), .val (.ref xa), .val (.int (9 : Int32)), .val (.int kk), .val (.int ln), .val (.int (own_p p1)), .val (.int dc), .val (.int cc), .val (.ref x2), .unset, .unset] [(.int cc), (.int dc), (.int (own_p p1)), (.ref xa), (.int (3 : Int32)), (.ref x2)]) (fun X eT hZ hown k => by
      show Steps _ _ _ (State.setTop _ (mkF m 138 #[.val (.int p0), .val (.int p1), .val (.int p2), .val (.int p3), .val (.int la), .val (.ref xa), .val (.int (9 : Int32)), .val (.int kk), .val (.int ln), .val (.int (own_p p1)), .val (.int dc), .val (.int cc), .val (.ref x2), .unset, .unset] [])) _
      refine S.aload X.here hx (hb hby at_138) rfl rfl ?_
      refine S.iconst X.here hx (3 : Int32) (hb hby at_140) rfl ?_
      refine S.aload X.here hx (hb hby at_141) rfl rfl ?_
      refine S.iload X.here hx (hb hby at_143) rfl ?_
      refine S.iload X.here hx (hb hby at_145) rfl ?_
      refine S.iload X.here hx (hb hby at_147) rfl ?_
      exact k)
  have F21 := F16.keep K18 (allS (by omega) all0)
  have F22 := F17.keep K18 (allS (by omega) all0)
  obtain ⟨v23, h23, Q23, K23, z23, w23⟩ := w20.callS hx (y := (⟨"com/example/bylaw/bylaw/GranteeIsReservedGroupPinLaw", "set", "([CILjava/lang/String;ICC)V"⟩ : MethodName)) (W := 0) (hw _ (List.mem_of_getElem? (i := 27) rfl)) (hw _ (List.mem_of_getElem? (i := 28) rfl)) (hw _ (List.mem_of_getElem? (i := 24) rfl)) (hw _ (List.mem_of_getElem? (i := 29) rfl)) (by decide) ((rmst l Z a0 hw x2 k2 cs18 (3 : Int32) xa own_an _ (own_p p1) dc cc h18 n0 (by omega) hG F21 F22 V18 (by omega) (by decide) (by omega) hdc hcc).pay w20.hZ (hw _ (List.mem_of_getElem? (i := 29) rfl)) (hw _ (List.mem_of_getElem? (i := 24) rfl)) (by decide) (by decide)) rfl (by rw [hml]; rfl) [] (lenOf pd_6 rfl) rfl (by show 2 * 0 + _ ≤ _; exact Nat.le_of_eq rfl) (hb hby at_149) (by decide) (by decide) (sfS (Safe.arv w20.al V18 (by decide)) sf0) (fun rv => (mkF m 152 #[.val (.int p0), .val (.int p1), .val (.int p2), .val (.int p3), .val (.int la), .val (.ref xa), .val (.int (9 : Int32)), .val (.int kk), .val (.int ln), .val (.int (own_p p1)), .val (.int dc), .val (.int cc), .val (.ref x2), .unset, .unset] (rv.toList ++ []))) (fun _ => rfl)
  obtain ⟨rfl, V23⟩ := Q23
  have K24 : Keep h0 h23 [] := K19.trans K23 (allS (Or.inr (by omega)) (fun _ q => nomatch q))
  obtain ⟨cs23, ec23⟩ : ∃ z, z = own_st own_an (own_p p1) dc cc cs18 (3 : Int32) := ⟨_, rfl⟩
  rw [← ec23] at V23
  have cl23 : cs23.length ≤ 11 := by rw [ec23, own_st_len]; exact cl18
  have rg23 : ∀ c ∈ cs23, ¬ c < 0 ∧ ¬ (255 : Int32) < c := by rw [ec23]; exact own_st_rng (by decide) hdc hcc rg18
  have w25 := w23.pure (mkF m 163 #[.val (.int p0), .val (.int p1), .val (.int p2), .val (.int p3), .val (.int la), .val (.ref xa), .val (.int (9 : Int32)), .val (.int kk), .val (.int ln), .val (.int (own_p p1)), .val (.int dc), .val (.int cc), .val (.ref x2), .unset, .unset] [(.int cc), (.int dc), (.int (own_p p1)), (.ref xa), (.int (4 : Int32)), (.ref x2)]) (fun X eT hZ hown k => by
      show Steps _ _ _ (State.setTop _ (mkF m 152 #[.val (.int p0), .val (.int p1), .val (.int p2), .val (.int p3), .val (.int la), .val (.ref xa), .val (.int (9 : Int32)), .val (.int kk), .val (.int ln), .val (.int (own_p p1)), .val (.int dc), .val (.int cc), .val (.ref x2), .unset, .unset] [])) _
      refine S.aload X.here hx (hb hby at_152) rfl rfl ?_
      refine S.iconst X.here hx (4 : Int32) (hb hby at_154) rfl ?_
      refine S.aload X.here hx (hb hby at_155) rfl rfl ?_
      refine S.iload X.here hx (hb hby at_157) rfl ?_
      refine S.iload X.here hx (hb hby at_159) rfl ?_
      refine S.iload X.here hx (hb hby at_161) rfl ?_
      exact k)
  have F26 := F21.keep K23 (allS (by omega) all0)
  have F27 := F22.keep K23 (allS (by omega) all0)
  obtain ⟨v28, h28, Q28, K28, z28, w28⟩ := w25.callS hx (y := (⟨"com/example/bylaw/bylaw/GranteeIsReservedGroupPinLaw", "set", "([CILjava/lang/String;ICC)V"⟩ : MethodName)) (W := 0) (hw _ (List.mem_of_getElem? (i := 27) rfl)) (hw _ (List.mem_of_getElem? (i := 28) rfl)) (hw _ (List.mem_of_getElem? (i := 24) rfl)) (hw _ (List.mem_of_getElem? (i := 29) rfl)) (by decide) ((rmst l Z a0 hw x2 k2 cs23 (4 : Int32) xa own_an _ (own_p p1) dc cc h23 n0 (by omega) hG F26 F27 V23 (by omega) (by decide) (by omega) hdc hcc).pay w25.hZ (hw _ (List.mem_of_getElem? (i := 29) rfl)) (hw _ (List.mem_of_getElem? (i := 24) rfl)) (by decide) (by decide)) rfl (by rw [hml]; rfl) [] (lenOf pd_6 rfl) rfl (by show 2 * 0 + _ ≤ _; exact Nat.le_of_eq rfl) (hb hby at_163) (by decide) (by decide) (sfS (Safe.arv w25.al V23 (by decide)) sf0) (fun rv => (mkF m 166 #[.val (.int p0), .val (.int p1), .val (.int p2), .val (.int p3), .val (.int la), .val (.ref xa), .val (.int (9 : Int32)), .val (.int kk), .val (.int ln), .val (.int (own_p p1)), .val (.int dc), .val (.int cc), .val (.ref x2), .unset, .unset] (rv.toList ++ []))) (fun _ => rfl)
  obtain ⟨rfl, V28⟩ := Q28
  have K29 : Keep h0 h28 [] := K24.trans K28 (allS (Or.inr (by omega)) (fun _ q => nomatch q))
  obtain ⟨cs28, ec28⟩ : ∃ z, z = own_st own_an (own_p p1) dc cc cs23 (4 : Int32) := ⟨_, rfl⟩
  rw [← ec28] at V28
  have cl28 : cs28.length ≤ 11 := by rw [ec28, own_st_len]; exact cl23
  have rg28 : ∀ c ∈ cs28, ¬ c < 0 ∧ ¬ (255 : Int32) < c := by rw [ec28]; exact own_st_rng (by decide) hdc hcc rg23
  have w30 := w28.pure (mkF m 177 #[.val (.int p0), .val (.int p1), .val (.int p2), .val (.int p3), .val (.int la), .val (.ref xa), .val (.int (9 : Int32)), .val (.int kk), .val (.int ln), .val (.int (own_p p1)), .val (.int dc), .val (.int cc), .val (.ref x2), .unset, .unset] [(.int cc), (.int dc), (.int (own_p p1)), (.ref xa), (.int (5 : Int32)), (.ref x2)]) (fun X eT hZ hown k => by
      show Steps _ _ _ (State.setTop _ (mkF m 166 #[.val (.int p0), .val (.int p1), .val (.int p2), .val (.int p3), .val (.int la), .val (.ref xa), .val (.int (9 : Int32)), .val (.int kk), .val (.int ln), .val (.int (own_p p1)), .val (.int dc), .val (.int cc), .val (.ref x2), .unset, .unset] [])) _
      refine S.aload X.here hx (hb hby at_166) rfl rfl ?_
      refine S.iconst X.here hx (5 : Int32) (hb hby at_168) rfl ?_
      refine S.aload X.here hx (hb hby at_169) rfl rfl ?_
      refine S.iload X.here hx (hb hby at_171) rfl ?_
      refine S.iload X.here hx (hb hby at_173) rfl ?_
      refine S.iload X.here hx (hb hby at_175) rfl ?_
      exact k)
  have F31 := F26.keep K28 (allS (by omega) all0)
  have F32 := F27.keep K28 (allS (by omega) all0)
  obtain ⟨v33, h33, Q33, K33, z33, w33⟩ := w30.callS hx (y := (⟨"com/example/bylaw/bylaw/GranteeIsReservedGroupPinLaw", "set", "([CILjava/lang/String;ICC)V"⟩ : MethodName)) (W := 0) (hw _ (List.mem_of_getElem? (i := 27) rfl)) (hw _ (List.mem_of_getElem? (i := 28) rfl)) (hw _ (List.mem_of_getElem? (i := 24) rfl)) (hw _ (List.mem_of_getElem? (i := 29) rfl)) (by decide) ((rmst l Z a0 hw x2 k2 cs28 (5 : Int32) xa own_an _ (own_p p1) dc cc h28 n0 (by omega) hG F31 F32 V28 (by omega) (by decide) (by omega) hdc hcc).pay w30.hZ (hw _ (List.mem_of_getElem? (i := 29) rfl)) (hw _ (List.mem_of_getElem? (i := 24) rfl)) (by decide) (by decide)) rfl (by rw [hml]; rfl) [] (lenOf pd_6 rfl) rfl (by show 2 * 0 + _ ≤ _; exact Nat.le_of_eq rfl) (hb hby at_177) (by decide) (by decide) (sfS (Safe.arv w30.al V28 (by decide)) sf0) (fun rv => (mkF m 180 #[.val (.int p0), .val (.int p1), .val (.int p2), .val (.int p3), .val (.int la), .val (.ref xa), .val (.int (9 : Int32)), .val (.int kk), .val (.int ln), .val (.int (own_p p1)), .val (.int dc), .val (.int cc), .val (.ref x2), .unset, .unset] (rv.toList ++ []))) (fun _ => rfl)
  obtain ⟨rfl, V33⟩ := Q33
  have K34 : Keep h0 h33 [] := K29.trans K33 (allS (Or.inr (by omega)) (fun _ q => nomatch q))
  obtain ⟨cs33, ec33⟩ : ∃ z, z = own_st own_an (own_p p1) dc cc cs28 (5 : Int32) := ⟨_, rfl⟩
  rw [← ec33] at V33
  have cl33 : cs33.length ≤ 11 := by rw [ec33, own_st_len]; exact cl28
  have rg33 : ∀ c ∈ cs33, ¬ c < 0 ∧ ¬ (255 : Int32) < c := by rw [ec33]; exact own_st_rng (by decide) hdc hcc rg28
  have w35 := w33.pure (mkF m 192 #[.val (.int p0), .val (.int p1), .val (.int p2), .val (.int p3), .val (.int la), .val (.ref xa), .val (.int (9 : Int32)), .val (.int kk), .val (.int ln), .val (.int (own_p p1)), .val (.int dc), .val (.int cc), .val (.ref x2), .unset, .unset] [(.int cc), (.int dc), (.int (own_p p1)), (.ref xa), (.int (6 : Int32)), (.ref x2)]) (fun X eT hZ hown k => by
      show Steps _ _ _ (State.setTop _ (mkF m 180 #[.val (.int p0), .val (.int p1), .val (.int p2), .val (.int p3), .val (.int la), .val (.ref xa), .val (.int (9 : Int32)), .val (.int kk), .val (.int ln), .val (.int (own_p p1)), .val (.int dc), .val (.int cc), .val (.ref x2), .unset, .unset] [])) _
      refine S.aload X.here hx (hb hby at_180) rfl rfl ?_
      refine S.bipush X.here hx (6 : Int32) (hb hby at_182) rfl ?_
      refine S.aload X.here hx (hb hby at_184) rfl rfl ?_
      refine S.iload X.here hx (hb hby at_186) rfl ?_
      refine S.iload X.here hx (hb hby at_188) rfl ?_
      refine S.iload X.here hx (hb hby at_190) rfl ?_
      exact k)
  have F36 := F31.keep K33 (allS (by omega) all0)
  have F37 := F32.keep K33 (allS (by omega) all0)
  obtain ⟨v38, h38, Q38, K38, z38, w38⟩ := w35.callS hx (y := (⟨"com/example/bylaw/bylaw/GranteeIsReservedGroupPinLaw", "set", "([CILjava/lang/String;ICC)V"⟩ : MethodName)) (W := 0) (hw _ (List.mem_of_getElem? (i := 27) rfl)) (hw _ (List.mem_of_getElem? (i := 28) rfl)) (hw _ (List.mem_of_getElem? (i := 24) rfl)) (hw _ (List.mem_of_getElem? (i := 29) rfl)) (by decide) ((rmst l Z a0 hw x2 k2 cs33 (6 : Int32) xa own_an _ (own_p p1) dc cc h33 n0 (by omega) hG F36 F37 V33 (by omega) (by decide) (by omega) hdc hcc).pay w35.hZ (hw _ (List.mem_of_getElem? (i := 29) rfl)) (hw _ (List.mem_of_getElem? (i := 24) rfl)) (by decide) (by decide)) rfl (by rw [hml]; rfl) [] (lenOf pd_6 rfl) rfl (by show 2 * 0 + _ ≤ _; exact Nat.le_of_eq rfl) (hb hby at_192) (by decide) (by decide) (sfS (Safe.arv w35.al V33 (by decide)) sf0) (fun rv => (mkF m 195 #[.val (.int p0), .val (.int p1), .val (.int p2), .val (.int p3), .val (.int la), .val (.ref xa), .val (.int (9 : Int32)), .val (.int kk), .val (.int ln), .val (.int (own_p p1)), .val (.int dc), .val (.int cc), .val (.ref x2), .unset, .unset] (rv.toList ++ []))) (fun _ => rfl)
  obtain ⟨rfl, V38⟩ := Q38
  have K39 : Keep h0 h38 [] := K34.trans K38 (allS (Or.inr (by omega)) (fun _ q => nomatch q))
  obtain ⟨cs38, ec38⟩ : ∃ z, z = own_st own_an (own_p p1) dc cc cs33 (6 : Int32) := ⟨_, rfl⟩
  rw [← ec38] at V38
  have cl38 : cs38.length ≤ 11 := by rw [ec38, own_st_len]; exact cl33
  have rg38 : ∀ c ∈ cs38, ¬ c < 0 ∧ ¬ (255 : Int32) < c := by rw [ec38]; exact own_st_rng (by decide) hdc hcc rg33
  have w40 := w38.pure (mkF m 207 #[.val (.int p0), .val (.int p1), .val (.int p2), .val (.int p3), .val (.int la), .val (.ref xa), .val (.int (9 : Int32)), .val (.int kk), .val (.int ln), .val (.int (own_p p1)), .val (.int dc), .val (.int cc), .val (.ref x2), .unset, .unset] [(.int cc), (.int dc), (.int (own_p p1)), (.ref xa), (.int (7 : Int32)), (.ref x2)]) (fun X eT hZ hown k => by
      show Steps _ _ _ (State.setTop _ (mkF m 195 #[.val (.int p0), .val (.int p1), .val (.int p2), .val (.int p3), .val (.int la), .val (.ref xa), .val (.int (9 : Int32)), .val (.int kk), .val (.int ln), .val (.int (own_p p1)), .val (.int dc), .val (.int cc), .val (.ref x2), .unset, .unset] [])) _
      refine S.aload X.here hx (hb hby at_195) rfl rfl ?_
      refine S.bipush X.here hx (7 : Int32) (hb hby at_197) rfl ?_
      refine S.aload X.here hx (hb hby at_199) rfl rfl ?_
      refine S.iload X.here hx (hb hby at_201) rfl ?_
      refine S.iload X.here hx (hb hby at_203) rfl ?_
      refine S.iload X.here hx (hb hby at_205) rfl ?_
      exact k)
  have F41 := F36.keep K38 (allS (by omega) all0)
  have F42 := F37.keep K38 (allS (by omega) all0)
  obtain ⟨v43, h43, Q43, K43, z43, w43⟩ := w40.callS hx (y := (⟨"com/example/bylaw/bylaw/GranteeIsReservedGroupPinLaw", "set", "([CILjava/lang/String;ICC)V"⟩ : MethodName)) (W := 0) (hw _ (List.mem_of_getElem? (i := 27) rfl)) (hw _ (List.mem_of_getElem? (i := 28) rfl)) (hw _ (List.mem_of_getElem? (i := 24) rfl)) (hw _ (List.mem_of_getElem? (i := 29) rfl)) (by decide) ((rmst l Z a0 hw x2 k2 cs38 (7 : Int32) xa own_an _ (own_p p1) dc cc h38 n0 (by omega) hG F41 F42 V38 (by omega) (by decide) (by omega) hdc hcc).pay w40.hZ (hw _ (List.mem_of_getElem? (i := 29) rfl)) (hw _ (List.mem_of_getElem? (i := 24) rfl)) (by decide) (by decide)) rfl (by rw [hml]; rfl) [] (lenOf pd_6 rfl) rfl (by show 2 * 0 + _ ≤ _; exact Nat.le_of_eq rfl) (hb hby at_207) (by decide) (by decide) (sfS (Safe.arv w40.al V38 (by decide)) sf0) (fun rv => (mkF m 210 #[.val (.int p0), .val (.int p1), .val (.int p2), .val (.int p3), .val (.int la), .val (.ref xa), .val (.int (9 : Int32)), .val (.int kk), .val (.int ln), .val (.int (own_p p1)), .val (.int dc), .val (.int cc), .val (.ref x2), .unset, .unset] (rv.toList ++ []))) (fun _ => rfl)
  obtain ⟨rfl, V43⟩ := Q43
  have K44 : Keep h0 h43 [] := K39.trans K43 (allS (Or.inr (by omega)) (fun _ q => nomatch q))
  obtain ⟨cs43, ec43⟩ : ∃ z, z = own_st own_an (own_p p1) dc cc cs38 (7 : Int32) := ⟨_, rfl⟩
  rw [← ec43] at V43
  have cl43 : cs43.length ≤ 11 := by rw [ec43, own_st_len]; exact cl38
  have rg43 : ∀ c ∈ cs43, ¬ c < 0 ∧ ¬ (255 : Int32) < c := by rw [ec43]; exact own_st_rng (by decide) hdc hcc rg38
  have w45 := w43.pure (mkF m 222 #[.val (.int p0), .val (.int p1), .val (.int p2), .val (.int p3), .val (.int la), .val (.ref xa), .val (.int (9 : Int32)), .val (.int kk), .val (.int ln), .val (.int (own_p p1)), .val (.int dc), .val (.int cc), .val (.ref x2), .unset, .unset] [(.int cc), (.int dc), (.int (own_p p1)), (.ref xa), (.int (8 : Int32)), (.ref x2)]) (fun X eT hZ hown k => by
      show Steps _ _ _ (State.setTop _ (mkF m 210 #[.val (.int p0), .val (.int p1), .val (.int p2), .val (.int p3), .val (.int la), .val (.ref xa), .val (.int (9 : Int32)), .val (.int kk), .val (.int ln), .val (.int (own_p p1)), .val (.int dc), .val (.int cc), .val (.ref x2), .unset, .unset] [])) _
      refine S.aload X.here hx (hb hby at_210) rfl rfl ?_
      refine S.bipush X.here hx (8 : Int32) (hb hby at_212) rfl ?_
      refine S.aload X.here hx (hb hby at_214) rfl rfl ?_
      refine S.iload X.here hx (hb hby at_216) rfl ?_
      refine S.iload X.here hx (hb hby at_218) rfl ?_
      refine S.iload X.here hx (hb hby at_220) rfl ?_
      exact k)
  have F46 := F41.keep K43 (allS (by omega) all0)
  have F47 := F42.keep K43 (allS (by omega) all0)
  obtain ⟨v48, h48, Q48, K48, z48, w48⟩ := w45.callS hx (y := (⟨"com/example/bylaw/bylaw/GranteeIsReservedGroupPinLaw", "set", "([CILjava/lang/String;ICC)V"⟩ : MethodName)) (W := 0) (hw _ (List.mem_of_getElem? (i := 27) rfl)) (hw _ (List.mem_of_getElem? (i := 28) rfl)) (hw _ (List.mem_of_getElem? (i := 24) rfl)) (hw _ (List.mem_of_getElem? (i := 29) rfl)) (by decide) ((rmst l Z a0 hw x2 k2 cs43 (8 : Int32) xa own_an _ (own_p p1) dc cc h43 n0 (by omega) hG F46 F47 V43 (by omega) (by decide) (by omega) hdc hcc).pay w45.hZ (hw _ (List.mem_of_getElem? (i := 29) rfl)) (hw _ (List.mem_of_getElem? (i := 24) rfl)) (by decide) (by decide)) rfl (by rw [hml]; rfl) [] (lenOf pd_6 rfl) rfl (by show 2 * 0 + _ ≤ _; exact Nat.le_of_eq rfl) (hb hby at_222) (by decide) (by decide) (sfS (Safe.arv w45.al V43 (by decide)) sf0) (fun rv => (mkF m 225 #[.val (.int p0), .val (.int p1), .val (.int p2), .val (.int p3), .val (.int la), .val (.ref xa), .val (.int (9 : Int32)), .val (.int kk), .val (.int ln), .val (.int (own_p p1)), .val (.int dc), .val (.int cc), .val (.ref x2), .unset, .unset] (rv.toList ++ []))) (fun _ => rfl)
  obtain ⟨rfl, V48⟩ := Q48
  have K49 : Keep h0 h48 [] := K44.trans K48 (allS (Or.inr (by omega)) (fun _ q => nomatch q))
  obtain ⟨cs48, ec48⟩ : ∃ z, z = own_st own_an (own_p p1) dc cc cs43 (8 : Int32) := ⟨_, rfl⟩
  rw [← ec48] at V48
  have cl48 : cs48.length ≤ 11 := by rw [ec48, own_st_len]; exact cl43
  have rg48 : ∀ c ∈ cs48, ¬ c < 0 ∧ ¬ (255 : Int32) < c := by rw [ec48]; exact own_st_rng (by decide) hdc hcc rg43
  have w50 := w48.pure (mkF m 237 #[.val (.int p0), .val (.int p1), .val (.int p2), .val (.int p3), .val (.int la), .val (.ref xa), .val (.int (9 : Int32)), .val (.int kk), .val (.int ln), .val (.int (own_p p1)), .val (.int dc), .val (.int cc), .val (.ref x2), .unset, .unset] [(.int cc), (.int dc), (.int (own_p p1)), (.ref xa), (.int (9 : Int32)), (.ref x2)]) (fun X eT hZ hown k => by
      show Steps _ _ _ (State.setTop _ (mkF m 225 #[.val (.int p0), .val (.int p1), .val (.int p2), .val (.int p3), .val (.int la), .val (.ref xa), .val (.int (9 : Int32)), .val (.int kk), .val (.int ln), .val (.int (own_p p1)), .val (.int dc), .val (.int cc), .val (.ref x2), .unset, .unset] [])) _
      refine S.aload X.here hx (hb hby at_225) rfl rfl ?_
      refine S.bipush X.here hx (9 : Int32) (hb hby at_227) rfl ?_
      refine S.aload X.here hx (hb hby at_229) rfl rfl ?_
      refine S.iload X.here hx (hb hby at_231) rfl ?_
      refine S.iload X.here hx (hb hby at_233) rfl ?_
      refine S.iload X.here hx (hb hby at_235) rfl ?_
      exact k)
  have F51 := F46.keep K48 (allS (by omega) all0)
  have F52 := F47.keep K48 (allS (by omega) all0)
  obtain ⟨v53, h53, Q53, K53, z53, w53⟩ := w50.callS hx (y := (⟨"com/example/bylaw/bylaw/GranteeIsReservedGroupPinLaw", "set", "([CILjava/lang/String;ICC)V"⟩ : MethodName)) (W := 0) (hw _ (List.mem_of_getElem? (i := 27) rfl)) (hw _ (List.mem_of_getElem? (i := 28) rfl)) (hw _ (List.mem_of_getElem? (i := 24) rfl)) (hw _ (List.mem_of_getElem? (i := 29) rfl)) (by decide) ((rmst l Z a0 hw x2 k2 cs48 (9 : Int32) xa own_an _ (own_p p1) dc cc h48 n0 (by omega) hG F51 F52 V48 (by omega) (by decide) (by omega) hdc hcc).pay w50.hZ (hw _ (List.mem_of_getElem? (i := 29) rfl)) (hw _ (List.mem_of_getElem? (i := 24) rfl)) (by decide) (by decide)) rfl (by rw [hml]; rfl) [] (lenOf pd_6 rfl) rfl (by show 2 * 0 + _ ≤ _; exact Nat.le_of_eq rfl) (hb hby at_237) (by decide) (by decide) (sfS (Safe.arv w50.al V48 (by decide)) sf0) (fun rv => (mkF m 240 #[.val (.int p0), .val (.int p1), .val (.int p2), .val (.int p3), .val (.int la), .val (.ref xa), .val (.int (9 : Int32)), .val (.int kk), .val (.int ln), .val (.int (own_p p1)), .val (.int dc), .val (.int cc), .val (.ref x2), .unset, .unset] (rv.toList ++ []))) (fun _ => rfl)
  obtain ⟨rfl, V53⟩ := Q53
  have K54 : Keep h0 h53 [] := K49.trans K53 (allS (Or.inr (by omega)) (fun _ q => nomatch q))
  obtain ⟨cs53, ec53⟩ : ∃ z, z = own_st own_an (own_p p1) dc cc cs48 (9 : Int32) := ⟨_, rfl⟩
  rw [← ec53] at V53
  have cl53 : cs53.length ≤ 11 := by rw [ec53, own_st_len]; exact cl48
  have rg53 : ∀ c ∈ cs53, ¬ c < 0 ∧ ¬ (255 : Int32) < c := by rw [ec53]; exact own_st_rng (by decide) hdc hcc rg48
  have w55 := w53.pure (mkF m 252 #[.val (.int p0), .val (.int p1), .val (.int p2), .val (.int p3), .val (.int la), .val (.ref xa), .val (.int (9 : Int32)), .val (.int kk), .val (.int ln), .val (.int (own_p p1)), .val (.int dc), .val (.int cc), .val (.ref x2), .unset, .unset] [(.int cc), (.int dc), (.int (own_p p1)), (.ref xa), (.int (10 : Int32)), (.ref x2)]) (fun X eT hZ hown k => by
      show Steps _ _ _ (State.setTop _ (mkF m 240 #[.val (.int p0), .val (.int p1), .val (.int p2), .val (.int p3), .val (.int la), .val (.ref xa), .val (.int (9 : Int32)), .val (.int kk), .val (.int ln), .val (.int (own_p p1)), .val (.int dc), .val (.int cc), .val (.ref x2), .unset, .unset] [])) _
      refine S.aload X.here hx (hb hby at_240) rfl rfl ?_
      refine S.bipush X.here hx (10 : Int32) (hb hby at_242) rfl ?_
      refine S.aload X.here hx (hb hby at_244) rfl rfl ?_
      refine S.iload X.here hx (hb hby at_246) rfl ?_
      refine S.iload X.here hx (hb hby at_248) rfl ?_
      refine S.iload X.here hx (hb hby at_250) rfl ?_
      exact k)
  have F56 := F51.keep K53 (allS (by omega) all0)
  have F57 := F52.keep K53 (allS (by omega) all0)
  obtain ⟨v58, h58, Q58, K58, z58, w58⟩ := w55.callS hx (y := (⟨"com/example/bylaw/bylaw/GranteeIsReservedGroupPinLaw", "set", "([CILjava/lang/String;ICC)V"⟩ : MethodName)) (W := 0) (hw _ (List.mem_of_getElem? (i := 27) rfl)) (hw _ (List.mem_of_getElem? (i := 28) rfl)) (hw _ (List.mem_of_getElem? (i := 24) rfl)) (hw _ (List.mem_of_getElem? (i := 29) rfl)) (by decide) ((rmst l Z a0 hw x2 k2 cs53 (10 : Int32) xa own_an _ (own_p p1) dc cc h53 n0 (by omega) hG F56 F57 V53 (by omega) (by decide) (by omega) hdc hcc).pay w55.hZ (hw _ (List.mem_of_getElem? (i := 29) rfl)) (hw _ (List.mem_of_getElem? (i := 24) rfl)) (by decide) (by decide)) rfl (by rw [hml]; rfl) [] (lenOf pd_6 rfl) rfl (by show 2 * 0 + _ ≤ _; exact Nat.le_of_eq rfl) (hb hby at_252) (by decide) (by decide) (sfS (Safe.arv w55.al V53 (by decide)) sf0) (fun rv => (mkF m 255 #[.val (.int p0), .val (.int p1), .val (.int p2), .val (.int p3), .val (.int la), .val (.ref xa), .val (.int (9 : Int32)), .val (.int kk), .val (.int ln), .val (.int (own_p p1)), .val (.int dc), .val (.int cc), .val (.ref x2), .unset, .unset] (rv.toList ++ []))) (fun _ => rfl)
  obtain ⟨rfl, V58⟩ := Q58
  have K59 : Keep h0 h58 [] := K54.trans K58 (allS (Or.inr (by omega)) (fun _ q => nomatch q))
  obtain ⟨cs58, ec58⟩ : ∃ z, z = own_st own_an (own_p p1) dc cc cs53 (10 : Int32) := ⟨_, rfl⟩
  rw [← ec58] at V58
  have cl58 : cs58.length ≤ 11 := by rw [ec58, own_st_len]; exact cl53
  have rg58 : ∀ c ∈ cs58, ¬ c < 0 ∧ ¬ (255 : Int32) < c := by rw [ec58]; exact own_st_rng (by decide) hdc hcc rg53
  obtain ⟨b60, h60, g60, E60, l60, A60, D60, y60, w60⟩ := w58.newO hx (hw _ (List.mem_of_getElem? (i := 52) rfl)) (hw _ (List.mem_of_getElem? (i := 2) rfl)) (hw _ (List.mem_of_getElem? (i := 1) rfl)) rfl (hb hby at_255) (by decide) (by decide) (fun xq => (mkF m 258 #[.val (.int p0), .val (.int p1), .val (.int p2), .val (.int p3), .val (.int la), .val (.ref xa), .val (.int (9 : Int32)), .val (.int kk), .val (.int ln), .val (.int (own_p p1)), .val (.int dc), .val (.int cc), .val (.ref x2), .unset, .unset] (.ref xq :: []))) (fun _ => rfl)
  have z60 := E60.1
  have K61 : Keep h0 h60 [] := K59.ext E60
  have D60_4 : Fld Z h60 b60 "java/lang/String" "value" "[B" .null := D60 (Or.inr (hw _ (List.mem_of_getElem? (i := 4) rfl))) (ty := (.array .byte)) (by decide)
  have D60_5 : Fld Z h60 b60 "java/lang/String" "coder" "B" (.int (0 : Int32)) := D60 (Or.inr (hw _ (List.mem_of_getElem? (i := 5) rfl))) (ty := .byte) (by decide)
  have w62 := w60.pure (mkF m 261 #[.val (.int p0), .val (.int p1), .val (.int p2), .val (.int p3), .val (.int la), .val (.ref xa), .val (.int (9 : Int32)), .val (.int kk), .val (.int ln), .val (.int (own_p p1)), .val (.int dc), .val (.int cc), .val (.ref x2), .unset, .unset] [(.ref x2), (.ref b60), (.ref b60)]) (fun X eT hZ hown k => by
      show Steps _ _ _ (State.setTop _ (mkF m 258 #[.val (.int p0), .val (.int p1), .val (.int p2), .val (.int p3), .val (.int la), .val (.ref xa), .val (.int (9 : Int32)), .val (.int kk), .val (.int ln), .val (.int (own_p p1)), .val (.int dc), .val (.int cc), .val (.ref x2), .unset, .unset] [(.ref b60)])) _
      refine S.dup X.here hx (hb hby at_258) rfl ?_
      refine S.aload X.here hx (hb hby at_259) rfl rfl ?_
      exact k)
  have F64 := V58.ext E60
  have w63 := w62.more (k := 5) (n := 65) (by decide) (by decide)
  rcases Nat.eq_zero_or_pos cs58.length with hz63 | hz63
  · have ez63 := List.length_eq_zero_iff.mp hz63
    have VZ63 : Arv Z h60 x2 k2 .char (0 : Int32) [] (.int (0 : Int32)) := by rw [ez63] at F64; exact F64
    obtain ⟨v65, vm65, h65, Q65, K65, z65, C65, w65⟩ := w63.callIW hx (y := (⟨"java/lang/String", "<init>", "([C)V"⟩ : MethodName)) (W := 1) rfl (hw _ (List.mem_of_getElem? (i := 53) rfl)) (hw _ (List.mem_of_getElem? (i := 54) rfl)) (hw _ (List.mem_of_getElem? (i := 55) rfl)) (by decide) ((rme1 l Z a0 hw hE b60 x2 k2 h60 n0 (by omega) (by omega) A60 D60_4 D60_5 VZ63).pay w63 (hw _ (List.mem_of_getElem? (i := 55) rfl)) (hw _ (List.mem_of_getElem? (i := 1) rfl)) (by decide) (by decide) (allS ⟨by omega, y60⟩ all0)) rfl (by rw [hml]; rfl) [(.ref b60)] (lenOf pd_7 rfl) rfl (by show 2 * 0 + _ ≤ _; exact Nat.le_of_eq rfl) (hb hby at_261) (by decide) (by decide)  (fun rv => (mkF m 264 #[.val (.int p0), .val (.int p1), .val (.int p2), .val (.int p3), .val (.int la), .val (.ref xa), .val (.int (9 : Int32)), .val (.int kk), .val (.int ln), .val (.int (own_p p1)), .val (.int dc), .val (.int cc), .val (.ref x2), .unset, .unset] (rv.toList ++ [(.ref b60)]))) (fun _ => rfl)
    obtain ⟨rfl, G65⟩ := Q65
    have K66 : Keep h0 h65 [] := K61.trans K65 (allS (Or.inr (by omega)) (fun _ q => nomatch q))
    have lt_b60 := G65.lt
    have SZ67 : Str Z h65 b60 cs58 h65.size := by rw [ez63]; exact G65
    have F68 := F56.keep K58 (allS (by omega) all0)
    have F69 := F68.ext E60
    have F70 := F69.keep K65 (allS (by omega) all0)
    have F71 := FOe.keep K2 nin0
    have F72 := F71.keep K8 (ninS (nne (by omega)) nin0)
    have F73 := F72.keep K13 (ninS (nne (by omega)) nin0)
    have F74 := F73.keep K18 (ninS (nne (by omega)) nin0)
    have F75 := F74.keep K23 (ninS (nne (by omega)) nin0)
    have F76 := F75.keep K28 (ninS (nne (by omega)) nin0)
    have F77 := F76.keep K33 (ninS (nne (by omega)) nin0)
    have F78 := F77.keep K38 (ninS (nne (by omega)) nin0)
    have F79 := F78.keep K43 (ninS (nne (by omega)) nin0)
    have F80 := F79.keep K48 (ninS (nne (by omega)) nin0)
    have F81 := F80.keep K53 (ninS (nne (by omega)) nin0)
    have F82 := F81.keep K58 (ninS (nne (by omega)) nin0)
    have F83 := F82.ext E60
    have F84 := F83.keep K65 (ninS (nne (by omega)) nin0)
    have F85 := SSe.keep K2 all0
    have F86 := F85.keep K8 (allS (by omega) all0)
    have F87 := F86.keep K13 (allS (by omega) all0)
    have F88 := F87.keep K18 (allS (by omega) all0)
    have F89 := F88.keep K23 (allS (by omega) all0)
    have F90 := F89.keep K28 (allS (by omega) all0)
    have F91 := F90.keep K33 (allS (by omega) all0)
    have F92 := F91.keep K38 (allS (by omega) all0)
    have F93 := F92.keep K43 (allS (by omega) all0)
    have F94 := F93.keep K48 (allS (by omega) all0)
    have F95 := F94.keep K53 (allS (by omega) all0)
    have F96 := F95.keep K58 (allS (by omega) all0)
    have F97 := F96.ext E60
    have F98 := F97.keep K65 (allS (by omega) all0)
    have F99 := FOn.keep K2 nin0
    have F100 := F99.keep K8 (ninS (nne (by omega)) nin0)
    have F101 := F100.keep K13 (ninS (nne (by omega)) nin0)
    have F102 := F101.keep K18 (ninS (nne (by omega)) nin0)
    have F103 := F102.keep K23 (ninS (nne (by omega)) nin0)
    have F104 := F103.keep K28 (ninS (nne (by omega)) nin0)
    have F105 := F104.keep K33 (ninS (nne (by omega)) nin0)
    have F106 := F105.keep K38 (ninS (nne (by omega)) nin0)
    have F107 := F106.keep K43 (ninS (nne (by omega)) nin0)
    have F108 := F107.keep K48 (ninS (nne (by omega)) nin0)
    have F109 := F108.keep K53 (ninS (nne (by omega)) nin0)
    have F110 := F109.keep K58 (ninS (nne (by omega)) nin0)
    have F111 := F110.ext E60
    have F112 := F111.keep K65 (ninS (nne (by omega)) nin0)
    have F113 := SSn.keep K2 all0
    have F114 := F113.keep K8 (allS (by omega) all0)
    have F115 := F114.keep K13 (allS (by omega) all0)
    have F116 := F115.keep K18 (allS (by omega) all0)
    have F117 := F116.keep K23 (allS (by omega) all0)
    have F118 := F117.keep K28 (allS (by omega) all0)
    have F119 := F118.keep K33 (allS (by omega) all0)
    have F120 := F119.keep K38 (allS (by omega) all0)
    have F121 := F120.keep K43 (allS (by omega) all0)
    have F122 := F121.keep K48 (allS (by omega) all0)
    have F123 := F122.keep K53 (allS (by omega) all0)
    have F124 := F123.keep K58 (allS (by omega) all0)
    have F125 := F124.ext E60
    have F126 := F125.keep K65 (allS (by omega) all0)
    have F127 := F57.keep K58 (allS (by omega) all0)
    have F128 := F127.ext E60
    have F129 := F128.keep K65 (allS (by omega) all0)
    exact ptCN l Z a0 hw hE Bd hml p0 p1 p2 p3 la kk ln dc cc xa x2 b60 cs58 oe xe on xn h0 n0 Z0 (w65.more (k := 10) (n := 120) (by decide) (by decide)) K66 (by omega) hG F70 SOe F84 F98 SOn F112 F126 (F129.more (by omega)) (SZ67.more (by omega)) (by rw [ec58, ec53, ec48, ec43, ec38, ec33, ec28, ec23, ec18, ec13, ec8, ec5]; rfl)
  · have F130 := F56.keep K58 (allS (by omega) all0)
    have F131 := F130.ext E60
    obtain ⟨v132, h132, Q132, K132, z132, w132⟩ := w63.callI hx (y := (⟨"java/lang/String", "<init>", "([C)V"⟩ : MethodName)) (W := 1) rfl (hw _ (List.mem_of_getElem? (i := 53) rfl)) (hw _ (List.mem_of_getElem? (i := 54) rfl)) (hw _ (List.mem_of_getElem? (i := 55) rfl)) (by decide) (payNew hG w63.hZ hq_backV (hw _ (List.mem_of_getElem? (i := 2) rfl)) cs58 cs58.length (by omega) A60 D60_4 D60_5 F64 F131 rfl rfl hz63 (by omega) rg58 (by decide) (by decide)) rfl (by rw [hml]; rfl) [(.ref b60)] (lenOf pd_7 rfl) rfl (by show 2 * 0 + _ ≤ _; exact Nat.le_of_eq rfl) (hb hby at_261) (by decide) (Nat.le_trans (by omega : 65 + cs58.length ≤ 76) (by decide)) (sfS y60 sf0) (fun rv => (mkF m 264 #[.val (.int p0), .val (.int p1), .val (.int p2), .val (.int p3), .val (.int la), .val (.ref xa), .val (.int (9 : Int32)), .val (.int kk), .val (.int ln), .val (.int (own_p p1)), .val (.int dc), .val (.int cc), .val (.ref x2), .unset, .unset] (rv.toList ++ [(.ref b60)]))) (fun _ => rfl)
    obtain ⟨rfl, G132⟩ := Q132
    have K133 : Keep h0 h132 [] := K61.trans K132 (allS (Or.inr (by omega)) (fun _ q => nomatch q))
    have lt_b60 := G132.lt
    have w132m := w132.more (k := 6) (n := 76) (by decide) (by omega)
    have F134 := F131.keep K132 (allS (by omega) all0)
    have F135 := FOe.keep K2 nin0
    have F136 := F135.keep K8 (ninS (nne (by omega)) nin0)
    have F137 := F136.keep K13 (ninS (nne (by omega)) nin0)
    have F138 := F137.keep K18 (ninS (nne (by omega)) nin0)
    have F139 := F138.keep K23 (ninS (nne (by omega)) nin0)
    have F140 := F139.keep K28 (ninS (nne (by omega)) nin0)
    have F141 := F140.keep K33 (ninS (nne (by omega)) nin0)
    have F142 := F141.keep K38 (ninS (nne (by omega)) nin0)
    have F143 := F142.keep K43 (ninS (nne (by omega)) nin0)
    have F144 := F143.keep K48 (ninS (nne (by omega)) nin0)
    have F145 := F144.keep K53 (ninS (nne (by omega)) nin0)
    have F146 := F145.keep K58 (ninS (nne (by omega)) nin0)
    have F147 := F146.ext E60
    have F148 := F147.keep K132 (ninS (nne (by omega)) nin0)
    have F149 := SSe.keep K2 all0
    have F150 := F149.keep K8 (allS (by omega) all0)
    have F151 := F150.keep K13 (allS (by omega) all0)
    have F152 := F151.keep K18 (allS (by omega) all0)
    have F153 := F152.keep K23 (allS (by omega) all0)
    have F154 := F153.keep K28 (allS (by omega) all0)
    have F155 := F154.keep K33 (allS (by omega) all0)
    have F156 := F155.keep K38 (allS (by omega) all0)
    have F157 := F156.keep K43 (allS (by omega) all0)
    have F158 := F157.keep K48 (allS (by omega) all0)
    have F159 := F158.keep K53 (allS (by omega) all0)
    have F160 := F159.keep K58 (allS (by omega) all0)
    have F161 := F160.ext E60
    have F162 := F161.keep K132 (allS (by omega) all0)
    have F163 := FOn.keep K2 nin0
    have F164 := F163.keep K8 (ninS (nne (by omega)) nin0)
    have F165 := F164.keep K13 (ninS (nne (by omega)) nin0)
    have F166 := F165.keep K18 (ninS (nne (by omega)) nin0)
    have F167 := F166.keep K23 (ninS (nne (by omega)) nin0)
    have F168 := F167.keep K28 (ninS (nne (by omega)) nin0)
    have F169 := F168.keep K33 (ninS (nne (by omega)) nin0)
    have F170 := F169.keep K38 (ninS (nne (by omega)) nin0)
    have F171 := F170.keep K43 (ninS (nne (by omega)) nin0)
    have F172 := F171.keep K48 (ninS (nne (by omega)) nin0)
    have F173 := F172.keep K53 (ninS (nne (by omega)) nin0)
    have F174 := F173.keep K58 (ninS (nne (by omega)) nin0)
    have F175 := F174.ext E60
    have F176 := F175.keep K132 (ninS (nne (by omega)) nin0)
    have F177 := SSn.keep K2 all0
    have F178 := F177.keep K8 (allS (by omega) all0)
    have F179 := F178.keep K13 (allS (by omega) all0)
    have F180 := F179.keep K18 (allS (by omega) all0)
    have F181 := F180.keep K23 (allS (by omega) all0)
    have F182 := F181.keep K28 (allS (by omega) all0)
    have F183 := F182.keep K33 (allS (by omega) all0)
    have F184 := F183.keep K38 (allS (by omega) all0)
    have F185 := F184.keep K43 (allS (by omega) all0)
    have F186 := F185.keep K48 (allS (by omega) all0)
    have F187 := F186.keep K53 (allS (by omega) all0)
    have F188 := F187.keep K58 (allS (by omega) all0)
    have F189 := F188.ext E60
    have F190 := F189.keep K132 (allS (by omega) all0)
    have F191 := F57.keep K58 (allS (by omega) all0)
    have F192 := F191.ext E60
    have F193 := F192.keep K132 (allS (by omega) all0)
    exact ptCN l Z a0 hw hE Bd hml p0 p1 p2 p3 la kk ln dc cc xa x2 b60 cs58 oe xe on xn h0 n0 Z0 (w132m.more (k := 10) (n := 120) (by decide) (by decide)) K133 (by omega) hG F134 SOe F148 F162 SOn F176 F190 (F193.more (by omega)) (G132.more (by omega)) (by rw [ec58, ec53, ec48, ec43, ec38, ec33, ec28, ec23, ec18, ec13, ec8, ec5]; rfl)
set_option maxRecDepth 65536 in
set_option maxHeartbeats 40000000 in
theorem ptAN (l : Launch) (Z : State) (a0 : Array Value) (hw : ∀ d ∈ tables_1, d.before a0 Z = true) (hE : EW Z a0 consts_1) {p : Program} {e : Env} {s s₁ st : State} {m : MethodId} {args : Array Value} {below : List Frame} {meth : Method} {c : Code} {Sp : Spec} (Bd : BodyLoose p l x Sp code maxLocals ret e s m args below meth c s₁) (hml : c.maxLocals = 15) (p0 p1 p2 p3 la : Int32) (xa : Nat) (oe xe on xn : Nat) (h0 : Heap) (n0 : Nat) (Z0 : n0 ≤ h0.size) {h1 : Heap} {vm1 : Vm}
    (w0 : Wk p l e room_1 s m args below meth c Z a0 consts_1 n0 x.cls false st vm1 h1 (mkF m 25 #[.val (.int p0), .val (.int p1), .val (.int p2), .val (.int p3), .val (.int la), .unset, .unset, .unset, .unset, .unset, .unset, .unset, .unset, .unset, .unset] [(.ref xa)]) 3 50) (K0 : Keep h0 h1 []) (Z1 : h0.size ≤ h1.size) (hG : SetsOk Z) (X1 : Old Z n0 h1) (SOe : Sta Z Z.heap "com/example/bylaw/bylaw/Grantee" "EVERYONE" "Lcom/example/bylaw/bylaw/Grantee;" (.ref oe)) (FOe : Fld Z h1 oe "com/example/bylaw/bylaw/Grantee" "name" "Ljava/lang/String;" (.ref xe)) (SSe : Str Z h1 xe own_ev n0) (SOn : Sta Z Z.heap "com/example/bylaw/bylaw/Grantee" "ANONYMOUS" "Lcom/example/bylaw/bylaw/Grantee;" (.ref on)) (FOn : Fld Z h1 on "com/example/bylaw/bylaw/Grantee" "name" "Ljava/lang/String;" (.ref xn)) (SSn : Str Z h1 xn own_an n0) (Sx : Str Z h1 xa own_an h1.size) :
    EndsW p e below st s Z consts_1 n0 h0 [] (fun v h => v = some (.int 1)) room_1.cells room_1.slots := by
  have hx := Bd.exec
  have hby := Bd.bytes
  have hnm := (name_of_methodNamed Bd.named Bd.method).1
  have lt_FOe : h1.size > oe := Fld.lt FOe
  have lt_SSe := SSe.lt
  have lt_FOn : h1.size > on := Fld.lt FOn
  have lt_SSn := SSn.lt
  have lt_Sx := Sx.lt
  have hq_lenW : ∀ d ∈ StrChars.Road.wordsLen, d.before a0 Z = true := fun d hd => hw d ((by decide +kernel : ∀ d ∈ StrChars.Road.wordsLen, d ∈ tables_1) d hd)
  have w1 := w0.pure (mkF m 29 #[.val (.int p0), .val (.int p1), .val (.int p2), .val (.int p3), .val (.int la), .val (.ref xa), .unset, .unset, .unset, .unset, .unset, .unset, .unset, .unset, .unset] [(.ref xa)]) (fun X eT hZ hown k => by
      show Steps _ _ _ (State.setTop _ (mkF m 25 #[.val (.int p0), .val (.int p1), .val (.int p2), .val (.int p3), .val (.int la), .unset, .unset, .unset, .unset, .unset, .unset, .unset, .unset, .unset, .unset] [(.ref xa)])) _
      refine S.astore X.here hx (hb hby at_25) rfl #[.val (.int p0), .val (.int p1), .val (.int p2), .val (.int p3), .val (.int la), .val (.ref xa), .unset, .unset, .unset, .unset, .unset, .unset, .unset, .unset, .unset] rfl ?_
      refine S.aload X.here hx (hb hby at_27) rfl rfl ?_
      exact k)
  obtain ⟨v2, h2, Q2, K2, z2, w2⟩ := w1.callV hx (C := "java/lang/String") (y := (⟨"java/lang/String", "length", "()I"⟩ : MethodName)) (z := (⟨"java/lang/String", "length", "()I"⟩ : MethodName)) (W := 0) (hw _ (List.mem_of_getElem? (i := 8) rfl)) (hw _ (List.mem_of_getElem? (i := 9) rfl)) (hw _ (List.mem_of_getElem? (i := 11) rfl)) (hw _ (List.mem_of_getElem? (i := 10) rfl)) (w1.nf (hw _ (List.mem_of_getElem? (i := 11) rfl))) (by decide) (payLen hG w1.hZ hq_lenW (hw _ (List.mem_of_getElem? (i := 2) rfl)) Sx X1 (by decide) (by decide)) Sx.exa rfl (by rw [hml]; rfl) [] (lenOf pd_1 rfl) rfl (by show 2 * 0 + _ ≤ _; exact Nat.le_of_eq rfl) (hb hby at_29) (by decide) (by decide) (fun _ q => nomatch q) (fun rv => (mkF m 32 #[.val (.int p0), .val (.int p1), .val (.int p2), .val (.int p3), .val (.int la), .val (.ref xa), .unset, .unset, .unset, .unset, .unset, .unset, .unset, .unset, .unset] (rv.toList ++ []))) (fun _ => rfl)
  obtain ⟨rfl, rfl⟩ := Q2
  have w3 := w2.pure (mkF m 45 #[.val (.int p0), .val (.int p1), .val (.int p2), .val (.int p3), .val (.int la), .val (.ref xa), .val (.int (9 : Int32)), .val (.int (((p0.toUInt32 >>> ((1 : Int32) &&& 31).toUInt32).toInt32) &&& (7 : Int32))), .unset, .unset, .unset, .unset, .unset, .unset, .unset] [(.int (4 : Int32)), (.int (((p0.toUInt32 >>> ((1 : Int32) &&& 31).toUInt32).toInt32) &&& (7 : Int32)))]) (fun X eT hZ hown k => by
      show Steps _ _ _ (State.setTop _ (mkF m 32 #[.val (.int p0), .val (.int p1), .val (.int p2), .val (.int p3), .val (.int la), .val (.ref xa), .unset, .unset, .unset, .unset, .unset, .unset, .unset, .unset, .unset] [(.int (9 : Int32))])) _
      refine S.istore X.here hx (hb hby at_32) #[.val (.int p0), .val (.int p1), .val (.int p2), .val (.int p3), .val (.int la), .val (.ref xa), .val (.int (9 : Int32)), .unset, .unset, .unset, .unset, .unset, .unset, .unset, .unset] rfl ?_
      refine S.iloadN X.here hx (hb hby at_34) rfl ?_
      refine S.iconst X.here hx (1 : Int32) (hb hby at_35) rfl ?_
      refine S.iushr X.here hx (hb hby at_36) ?_
      refine S.bipush X.here hx (7 : Int32) (hb hby at_37) rfl ?_
      refine S.iand X.here hx (hb hby at_39) ?_
      refine S.istore X.here hx (hb hby at_40) #[.val (.int p0), .val (.int p1), .val (.int p2), .val (.int p3), .val (.int la), .val (.ref xa), .val (.int (9 : Int32)), .val (.int (((p0.toUInt32 >>> ((1 : Int32) &&& 31).toUInt32).toInt32) &&& (7 : Int32))), .unset, .unset, .unset, .unset, .unset, .unset, .unset] rfl ?_
      refine S.iload X.here hx (hb hby at_42) rfl ?_
      refine S.iconst X.here hx (4 : Int32) (hb hby at_44) rfl ?_
      exact k)
  by_cases hc4 : (((p0.toUInt32 >>> ((1 : Int32) &&& 31).toUInt32).toInt32) &&& (7 : Int32)) < (4 : Int32)
  · have w5 := w3.pure (mkF m 73 #[.val (.int p0), .val (.int p1), .val (.int p2), .val (.int p3), .val (.int la), .val (.ref xa), .val (.int (9 : Int32)), .val (.int (((p0.toUInt32 >>> ((1 : Int32) &&& 31).toUInt32).toInt32) &&& (7 : Int32))), .val (.int ((8 : Int32) + (((p0.toUInt32 >>> ((1 : Int32) &&& 31).toUInt32).toInt32) &&& (7 : Int32)))), .val (.int ((p1 &&& (2147483647 : Int32)) % (12 : Int32))), .unset, .unset, .unset, .unset, .unset] []) (fun X eT hZ hown k => by
        show Steps _ _ _ (State.setTop _ (mkF m 45 #[.val (.int p0), .val (.int p1), .val (.int p2), .val (.int p3), .val (.int la), .val (.ref xa), .val (.int (9 : Int32)), .val (.int (((p0.toUInt32 >>> ((1 : Int32) &&& 31).toUInt32).toInt32) &&& (7 : Int32))), .unset, .unset, .unset, .unset, .unset, .unset, .unset] [(.int (4 : Int32)), (.int (((p0.toUInt32 >>> ((1 : Int32) &&& 31).toUInt32).toInt32) &&& (7 : Int32)))])) _
        refine S.icmpNo X.here hx (hb hby at_45) (tlt hc4).2.1 ?_
        refine S.iload X.here hx (hb hby at_48) rfl ?_
        refine S.iconst X.here hx (1 : Int32) (hb hby at_50) rfl ?_
        refine S.isubV X.here hx (8 : Int32) (hb hby at_51) rfl ?_
        refine S.iload X.here hx (hb hby at_52) rfl ?_
        refine S.iadd X.here hx (hb hby at_54) ?_
        refine S.goto X.here hx 62 (hb hby at_55) (by decide) (by decide) ?_
        refine S.istore X.here hx (hb hby at_62) #[.val (.int p0), .val (.int p1), .val (.int p2), .val (.int p3), .val (.int la), .val (.ref xa), .val (.int (9 : Int32)), .val (.int (((p0.toUInt32 >>> ((1 : Int32) &&& 31).toUInt32).toInt32) &&& (7 : Int32))), .val (.int ((8 : Int32) + (((p0.toUInt32 >>> ((1 : Int32) &&& 31).toUInt32).toInt32) &&& (7 : Int32)))), .unset, .unset, .unset, .unset, .unset, .unset] rfl ?_
        refine S.iloadN X.here hx (hb hby at_64) rfl ?_
        refine X.ldcI hx hown (mvT hZ (hw _ (List.mem_of_getElem? (i := 21) rfl))) rfl (hb hby at_65) ?_
        show Steps _ _ _ (State.setTop _ (mkF m 67 #[.val (.int p0), .val (.int p1), .val (.int p2), .val (.int p3), .val (.int la), .val (.ref xa), .val (.int (9 : Int32)), .val (.int (((p0.toUInt32 >>> ((1 : Int32) &&& 31).toUInt32).toInt32) &&& (7 : Int32))), .val (.int ((8 : Int32) + (((p0.toUInt32 >>> ((1 : Int32) &&& 31).toUInt32).toInt32) &&& (7 : Int32)))), .unset, .unset, .unset, .unset, .unset, .unset] [(.int (2147483647 : Int32)), (.int p1)])) _
        refine S.iand X.here hx (hb hby at_67) ?_
        refine S.bipush X.here hx (12 : Int32) (hb hby at_68) rfl ?_
        refine iremM X hx rfl (hb hby at_70) rfl (by decide) ?_
        show Steps _ _ _ (State.setTop _ (mkF m 71 #[.val (.int p0), .val (.int p1), .val (.int p2), .val (.int p3), .val (.int la), .val (.ref xa), .val (.int (9 : Int32)), .val (.int (((p0.toUInt32 >>> ((1 : Int32) &&& 31).toUInt32).toInt32) &&& (7 : Int32))), .val (.int ((8 : Int32) + (((p0.toUInt32 >>> ((1 : Int32) &&& 31).toUInt32).toInt32) &&& (7 : Int32)))), .unset, .unset, .unset, .unset, .unset, .unset] [(.int ((p1 &&& (2147483647 : Int32)) % (12 : Int32)))])) _
        refine S.istore X.here hx (hb hby at_71) #[.val (.int p0), .val (.int p1), .val (.int p2), .val (.int p3), .val (.int la), .val (.ref xa), .val (.int (9 : Int32)), .val (.int (((p0.toUInt32 >>> ((1 : Int32) &&& 31).toUInt32).toInt32) &&& (7 : Int32))), .val (.int ((8 : Int32) + (((p0.toUInt32 >>> ((1 : Int32) &&& 31).toUInt32).toInt32) &&& (7 : Int32)))), .val (.int ((p1 &&& (2147483647 : Int32)) % (12 : Int32))), .unset, .unset, .unset, .unset, .unset] rfl ?_
        exact k)
    have w6 := w5.pure (mkF m 73 #[.val (.int p0), .val (.int p1), .val (.int p2), .val (.int p3), .val (.int la), .val (.ref xa), .val (.int (9 : Int32)), .val (.int (((p0.toUInt32 >>> ((1 : Int32) &&& 31).toUInt32).toInt32) &&& (7 : Int32))), .val (.int ((8 : Int32) + (((p0.toUInt32 >>> ((1 : Int32) &&& 31).toUInt32).toInt32) &&& (7 : Int32)))), .val (.int (own_p p1)), .unset, .unset, .unset, .unset, .unset] []) (fun X eT hZ hown k => k)
    have w7 := w6.pure (mkF m 89 #[.val (.int p0), .val (.int p1), .val (.int p2), .val (.int p3), .val (.int la), .val (.ref xa), .val (.int (9 : Int32)), .val (.int (((p0.toUInt32 >>> ((1 : Int32) &&& 31).toUInt32).toInt32) &&& (7 : Int32))), .val (.int ((8 : Int32) + (((p0.toUInt32 >>> ((1 : Int32) &&& 31).toUInt32).toInt32) &&& (7 : Int32)))), .val (.int (own_p p1)), .val (.int (p2 &&& (255 : Int32))), .val (.int (p3 &&& (255 : Int32))), .unset, .unset, .unset] []) (fun X eT hZ hown k => by
        show Steps _ _ _ (State.setTop _ (mkF m 73 #[.val (.int p0), .val (.int p1), .val (.int p2), .val (.int p3), .val (.int la), .val (.ref xa), .val (.int (9 : Int32)), .val (.int (((p0.toUInt32 >>> ((1 : Int32) &&& 31).toUInt32).toInt32) &&& (7 : Int32))), .val (.int ((8 : Int32) + (((p0.toUInt32 >>> ((1 : Int32) &&& 31).toUInt32).toInt32) &&& (7 : Int32)))), .val (.int (own_p p1)), .unset, .unset, .unset, .unset, .unset] [])) _
        refine S.iloadN X.here hx (hb hby at_73) rfl ?_
        refine S.sipush X.here hx (255 : Int32) (hb hby at_74) rfl ?_
        refine S.iand X.here hx (hb hby at_77) ?_
        refine S.i2cM X.here hx (hb hby at_78) ?_
        refine S.istore X.here hx (hb hby at_79) #[.val (.int p0), .val (.int p1), .val (.int p2), .val (.int p3), .val (.int la), .val (.ref xa), .val (.int (9 : Int32)), .val (.int (((p0.toUInt32 >>> ((1 : Int32) &&& 31).toUInt32).toInt32) &&& (7 : Int32))), .val (.int ((8 : Int32) + (((p0.toUInt32 >>> ((1 : Int32) &&& 31).toUInt32).toInt32) &&& (7 : Int32)))), .val (.int (own_p p1)), .val (.int (p2 &&& (255 : Int32))), .unset, .unset, .unset, .unset] rfl ?_
        refine S.iloadN X.here hx (hb hby at_81) rfl ?_
        refine S.sipush X.here hx (255 : Int32) (hb hby at_82) rfl ?_
        refine S.iand X.here hx (hb hby at_85) ?_
        refine S.i2cM X.here hx (hb hby at_86) ?_
        refine S.istore X.here hx (hb hby at_87) #[.val (.int p0), .val (.int p1), .val (.int p2), .val (.int p3), .val (.int la), .val (.ref xa), .val (.int (9 : Int32)), .val (.int (((p0.toUInt32 >>> ((1 : Int32) &&& 31).toUInt32).toInt32) &&& (7 : Int32))), .val (.int ((8 : Int32) + (((p0.toUInt32 >>> ((1 : Int32) &&& 31).toUInt32).toInt32) &&& (7 : Int32)))), .val (.int (own_p p1)), .val (.int (p2 &&& (255 : Int32))), .val (.int (p3 &&& (255 : Int32))), .unset, .unset, .unset] rfl ?_
        exact k)
    exact ptBN l Z a0 hw hE Bd hml p0 p1 p2 p3 la (((p0.toUInt32 >>> ((1 : Int32) &&& 31).toUInt32).toInt32) &&& (7 : Int32)) ((8 : Int32) + (((p0.toUInt32 >>> ((1 : Int32) &&& 31).toUInt32).toInt32) &&& (7 : Int32))) (p2 &&& (255 : Int32)) (p3 &&& (255 : Int32)) xa oe xe on xn h0 n0 Z0 w7 K0 (by omega) hG X1 SOe FOe SSe SOn FOn SSn (Sx.more (by omega)) (and255_rng _) (and255_rng _)
  · have w8 := w3.pure (mkF m 73 #[.val (.int p0), .val (.int p1), .val (.int p2), .val (.int p3), .val (.int la), .val (.ref xa), .val (.int (9 : Int32)), .val (.int (((p0.toUInt32 >>> ((1 : Int32) &&& 31).toUInt32).toInt32) &&& (7 : Int32))), .val (.int ((((p0.toUInt32 >>> ((1 : Int32) &&& 31).toUInt32).toInt32) &&& (7 : Int32)) - (4 : Int32))), .val (.int ((p1 &&& (2147483647 : Int32)) % (12 : Int32))), .unset, .unset, .unset, .unset, .unset] []) (fun X eT hZ hown k => by
        show Steps _ _ _ (State.setTop _ (mkF m 45 #[.val (.int p0), .val (.int p1), .val (.int p2), .val (.int p3), .val (.int la), .val (.ref xa), .val (.int (9 : Int32)), .val (.int (((p0.toUInt32 >>> ((1 : Int32) &&& 31).toUInt32).toInt32) &&& (7 : Int32))), .unset, .unset, .unset, .unset, .unset, .unset, .unset] [(.int (4 : Int32)), (.int (((p0.toUInt32 >>> ((1 : Int32) &&& 31).toUInt32).toInt32) &&& (7 : Int32)))])) _
        refine S.icmpYes X.here hx 58 (hb hby at_45) (flt hc4).2.1 (by decide) (by decide) ?_
        refine S.iload X.here hx (hb hby at_58) rfl ?_
        refine S.iconst X.here hx (4 : Int32) (hb hby at_60) rfl ?_
        refine S.isub X.here hx (hb hby at_61) ?_
        refine S.istore X.here hx (hb hby at_62) #[.val (.int p0), .val (.int p1), .val (.int p2), .val (.int p3), .val (.int la), .val (.ref xa), .val (.int (9 : Int32)), .val (.int (((p0.toUInt32 >>> ((1 : Int32) &&& 31).toUInt32).toInt32) &&& (7 : Int32))), .val (.int ((((p0.toUInt32 >>> ((1 : Int32) &&& 31).toUInt32).toInt32) &&& (7 : Int32)) - (4 : Int32))), .unset, .unset, .unset, .unset, .unset, .unset] rfl ?_
        refine S.iloadN X.here hx (hb hby at_64) rfl ?_
        refine X.ldcI hx hown (mvT hZ (hw _ (List.mem_of_getElem? (i := 21) rfl))) rfl (hb hby at_65) ?_
        show Steps _ _ _ (State.setTop _ (mkF m 67 #[.val (.int p0), .val (.int p1), .val (.int p2), .val (.int p3), .val (.int la), .val (.ref xa), .val (.int (9 : Int32)), .val (.int (((p0.toUInt32 >>> ((1 : Int32) &&& 31).toUInt32).toInt32) &&& (7 : Int32))), .val (.int ((((p0.toUInt32 >>> ((1 : Int32) &&& 31).toUInt32).toInt32) &&& (7 : Int32)) - (4 : Int32))), .unset, .unset, .unset, .unset, .unset, .unset] [(.int (2147483647 : Int32)), (.int p1)])) _
        refine S.iand X.here hx (hb hby at_67) ?_
        refine S.bipush X.here hx (12 : Int32) (hb hby at_68) rfl ?_
        refine iremM X hx rfl (hb hby at_70) rfl (by decide) ?_
        show Steps _ _ _ (State.setTop _ (mkF m 71 #[.val (.int p0), .val (.int p1), .val (.int p2), .val (.int p3), .val (.int la), .val (.ref xa), .val (.int (9 : Int32)), .val (.int (((p0.toUInt32 >>> ((1 : Int32) &&& 31).toUInt32).toInt32) &&& (7 : Int32))), .val (.int ((((p0.toUInt32 >>> ((1 : Int32) &&& 31).toUInt32).toInt32) &&& (7 : Int32)) - (4 : Int32))), .unset, .unset, .unset, .unset, .unset, .unset] [(.int ((p1 &&& (2147483647 : Int32)) % (12 : Int32)))])) _
        refine S.istore X.here hx (hb hby at_71) #[.val (.int p0), .val (.int p1), .val (.int p2), .val (.int p3), .val (.int la), .val (.ref xa), .val (.int (9 : Int32)), .val (.int (((p0.toUInt32 >>> ((1 : Int32) &&& 31).toUInt32).toInt32) &&& (7 : Int32))), .val (.int ((((p0.toUInt32 >>> ((1 : Int32) &&& 31).toUInt32).toInt32) &&& (7 : Int32)) - (4 : Int32))), .val (.int ((p1 &&& (2147483647 : Int32)) % (12 : Int32))), .unset, .unset, .unset, .unset, .unset] rfl ?_
        exact k)
    have w9 := w8.pure (mkF m 73 #[.val (.int p0), .val (.int p1), .val (.int p2), .val (.int p3), .val (.int la), .val (.ref xa), .val (.int (9 : Int32)), .val (.int (((p0.toUInt32 >>> ((1 : Int32) &&& 31).toUInt32).toInt32) &&& (7 : Int32))), .val (.int ((((p0.toUInt32 >>> ((1 : Int32) &&& 31).toUInt32).toInt32) &&& (7 : Int32)) - (4 : Int32))), .val (.int (own_p p1)), .unset, .unset, .unset, .unset, .unset] []) (fun X eT hZ hown k => k)
    have w10 := w9.pure (mkF m 89 #[.val (.int p0), .val (.int p1), .val (.int p2), .val (.int p3), .val (.int la), .val (.ref xa), .val (.int (9 : Int32)), .val (.int (((p0.toUInt32 >>> ((1 : Int32) &&& 31).toUInt32).toInt32) &&& (7 : Int32))), .val (.int ((((p0.toUInt32 >>> ((1 : Int32) &&& 31).toUInt32).toInt32) &&& (7 : Int32)) - (4 : Int32))), .val (.int (own_p p1)), .val (.int (p2 &&& (255 : Int32))), .val (.int (p3 &&& (255 : Int32))), .unset, .unset, .unset] []) (fun X eT hZ hown k => by
        show Steps _ _ _ (State.setTop _ (mkF m 73 #[.val (.int p0), .val (.int p1), .val (.int p2), .val (.int p3), .val (.int la), .val (.ref xa), .val (.int (9 : Int32)), .val (.int (((p0.toUInt32 >>> ((1 : Int32) &&& 31).toUInt32).toInt32) &&& (7 : Int32))), .val (.int ((((p0.toUInt32 >>> ((1 : Int32) &&& 31).toUInt32).toInt32) &&& (7 : Int32)) - (4 : Int32))), .val (.int (own_p p1)), .unset, .unset, .unset, .unset, .unset] [])) _
        refine S.iloadN X.here hx (hb hby at_73) rfl ?_
        refine S.sipush X.here hx (255 : Int32) (hb hby at_74) rfl ?_
        refine S.iand X.here hx (hb hby at_77) ?_
        refine S.i2cM X.here hx (hb hby at_78) ?_
        refine S.istore X.here hx (hb hby at_79) #[.val (.int p0), .val (.int p1), .val (.int p2), .val (.int p3), .val (.int la), .val (.ref xa), .val (.int (9 : Int32)), .val (.int (((p0.toUInt32 >>> ((1 : Int32) &&& 31).toUInt32).toInt32) &&& (7 : Int32))), .val (.int ((((p0.toUInt32 >>> ((1 : Int32) &&& 31).toUInt32).toInt32) &&& (7 : Int32)) - (4 : Int32))), .val (.int (own_p p1)), .val (.int (p2 &&& (255 : Int32))), .unset, .unset, .unset, .unset] rfl ?_
        refine S.iloadN X.here hx (hb hby at_81) rfl ?_
        refine S.sipush X.here hx (255 : Int32) (hb hby at_82) rfl ?_
        refine S.iand X.here hx (hb hby at_85) ?_
        refine S.i2cM X.here hx (hb hby at_86) ?_
        refine S.istore X.here hx (hb hby at_87) #[.val (.int p0), .val (.int p1), .val (.int p2), .val (.int p3), .val (.int la), .val (.ref xa), .val (.int (9 : Int32)), .val (.int (((p0.toUInt32 >>> ((1 : Int32) &&& 31).toUInt32).toInt32) &&& (7 : Int32))), .val (.int ((((p0.toUInt32 >>> ((1 : Int32) &&& 31).toUInt32).toInt32) &&& (7 : Int32)) - (4 : Int32))), .val (.int (own_p p1)), .val (.int (p2 &&& (255 : Int32))), .val (.int (p3 &&& (255 : Int32))), .unset, .unset, .unset] rfl ?_
        exact k)
    exact ptBN l Z a0 hw hE Bd hml p0 p1 p2 p3 la (((p0.toUInt32 >>> ((1 : Int32) &&& 31).toUInt32).toInt32) &&& (7 : Int32)) ((((p0.toUInt32 >>> ((1 : Int32) &&& 31).toUInt32).toInt32) &&& (7 : Int32)) - (4 : Int32)) (p2 &&& (255 : Int32)) (p3 &&& (255 : Int32)) xa oe xe on xn h0 n0 Z0 w10 K0 (by omega) hG X1 SOe FOe SSe SOn FOn SSn (Sx.more (by omega)) (and255_rng _) (and255_rng _)
theorem ef0 (m : MethodId) (x0 : Int32) (x1 : Int32) (x2 : Int32) (x3 : Int32) : entryFrame m #[(.int x0), (.int x1), (.int x2), (.int x3)] maxLocals = mkF m 0 #[.val (.int x0), .val (.int x1), .val (.int x2), .val (.int x3), .unset, .unset, .unset, .unset, .unset, .unset, .unset, .unset, .unset, .unset, .unset] [] := by first | (simp [entryFrame, mkF, argsToLocals, Value.category, maxLocals]; done) | rfl
theorem pn_5 : plainFor x = true := by first | decide +kernel | (apply plainFor_of_name; simp [plainName, overriddenIn]; done)
set_option maxRecDepth 65536 in
set_option maxHeartbeats 40000000 in
theorem rm0 (l : Launch) (Z : State) (a0 : Array Value) (hw : ∀ d ∈ tables_1, d.before a0 Z = true) (hE : EW Z a0 consts_1) (ws : List Jvm.Cond) (p0 p1 p2 p3 : Int32) (oe xe on xn : Nat) (h0 : Heap) (n0 : Nat) (Z0 : n0 ≤ h0.size) (hG : SetsOk Z) (X0 : Old Z n0 h0) (SOe : Sta Z Z.heap "com/example/bylaw/bylaw/Grantee" "EVERYONE" "Lcom/example/bylaw/bylaw/Grantee;" (.ref oe)) (FOe : Fld Z h0 oe "com/example/bylaw/bylaw/Grantee" "name" "Ljava/lang/String;" (.ref xe)) (SSe : Str Z h0 xe own_ev n0) (SOn : Sta Z Z.heap "com/example/bylaw/bylaw/Grantee" "ANONYMOUS" "Lcom/example/bylaw/bylaw/Grantee;" (.ref on)) (FOn : Fld Z h0 on "com/example/bylaw/bylaw/Grantee" "name" "Ljava/lang/String;" (.ref xn)) (SSn : Str Z h0 xn own_an n0) :
    WMet l Z consts_1 x code maxLocals ret ws room_1 [(.int p0), (.int p1), (.int p2), (.int p3)] h0 n0 [] [] (fun v h => v = some (.int 1)) := by
  refine MetFree.of_bodySF pn_5 hisR ?_
  intro p e s m args below meth c s₁ Bd hml0 hP hK
  obtain ⟨rfl, hZ, hh, hC, hSf⟩ := hP
  have hx := Bd.exec
  have hby := Bd.bytes
  have hml : c.maxLocals = 15 := hml0
  have hnm := (name_of_methodNamed Bd.named Bd.method).1
  have w0 := Wk.start (a0 := a0) (EL := consts_1) (n0 := n0) (nw := false) Bd hZ hh hE hC (ef0 m p0 p1 p2 p3) room_1 rfl
  have K0 : Keep h0 h0 [] := Keep.refl _ _
  have lt_FOe : h0.size > oe := Fld.lt FOe
  have lt_SSe := SSe.lt
  have lt_FOn : h0.size > on := Fld.lt FOn
  have lt_SSn := SSn.lt
  have hS : ∀ d ∈ Bundle.stringAtoms, d.before a0 Z = true := fun d hd => hw d ((by decide +kernel : ∀ d ∈ Bundle.stringAtoms, d ∈ tables_1) d hd)
  have w1 := w0.pure (mkF m 3 #[.val (.int p0), .val (.int p1), .val (.int p2), .val (.int p3), .unset, .unset, .unset, .unset, .unset, .unset, .unset, .unset, .unset, .unset, .unset] [(.int (p0 &&& (1 : Int32)))]) (fun X eT hZ hown k => by
      show Steps _ _ _ (State.setTop _ (mkF m 0 #[.val (.int p0), .val (.int p1), .val (.int p2), .val (.int p3), .unset, .unset, .unset, .unset, .unset, .unset, .unset, .unset, .unset, .unset, .unset] [])) _
      refine S.iloadN X.here hx (hb hby at_0) rfl ?_
      refine S.iconst X.here hx (1 : Int32) (hb hby at_1) rfl ?_
      refine S.iand X.here hx (hb hby at_2) ?_
      exact k)
  have w2 := w1.pure (mkF m 11 #[.val (.int p0), .val (.int p1), .val (.int p2), .val (.int p3), .unset, .unset, .unset, .unset, .unset, .unset, .unset, .unset, .unset, .unset, .unset] [(.int (if (p0 &&& (1 : Int32)) = (0 : Int32) then (0 : Int32) else (1 : Int32)))]) (fun X eT hZ hown k => by
      by_cases q2 : (p0 &&& (1 : Int32)) = (0 : Int32)
      · rw [if_pos q2] at k
        show Steps _ _ _ (State.setTop _ (mkF m 3 #[.val (.int p0), .val (.int p1), .val (.int p2), .val (.int p3), .unset, .unset, .unset, .unset, .unset, .unset, .unset, .unset, .unset, .unset, .unset] [(.int (p0 &&& (1 : Int32)))])) _
        refine S.ifYes X.here hx 10 (hb hby at_3) ((if0 _ _).trans (teq q2).1) (by decide) (by decide) ?_
        refine S.iconst X.here hx (0 : Int32) (hb hby at_10) rfl ?_
        exact k
      · rw [if_neg q2] at k
        show Steps _ _ _ (State.setTop _ (mkF m 3 #[.val (.int p0), .val (.int p1), .val (.int p2), .val (.int p3), .unset, .unset, .unset, .unset, .unset, .unset, .unset, .unset, .unset, .unset, .unset] [(.int (p0 &&& (1 : Int32)))])) _
        refine S.ifNo X.here hx (hb hby at_3) ((if0 _ _).trans (feq q2).1) ?_
        refine S.iconst X.here hx (1 : Int32) (hb hby at_6) rfl ?_
        refine S.goto X.here hx 11 (hb hby at_7) (by decide) (by decide) ?_
        exact k)
  have w3 := w2.pure (mkF m 15 #[.val (.int p0), .val (.int p1), .val (.int p2), .val (.int p3), .val (.int (if (p0 &&& (1 : Int32)) = (0 : Int32) then (0 : Int32) else (1 : Int32))), .unset, .unset, .unset, .unset, .unset, .unset, .unset, .unset, .unset, .unset] [(.int (if (p0 &&& (1 : Int32)) = (0 : Int32) then (0 : Int32) else (1 : Int32)))]) (fun X eT hZ hown k => by
      show Steps _ _ _ (State.setTop _ (mkF m 11 #[.val (.int p0), .val (.int p1), .val (.int p2), .val (.int p3), .unset, .unset, .unset, .unset, .unset, .unset, .unset, .unset, .unset, .unset, .unset] [(.int (if (p0 &&& (1 : Int32)) = (0 : Int32) then (0 : Int32) else (1 : Int32)))])) _
      refine S.istore X.here hx (hb hby at_11) #[.val (.int p0), .val (.int p1), .val (.int p2), .val (.int p3), .val (.int (if (p0 &&& (1 : Int32)) = (0 : Int32) then (0 : Int32) else (1 : Int32))), .unset, .unset, .unset, .unset, .unset, .unset, .unset, .unset, .unset, .unset] rfl ?_
      refine S.iload X.here hx (hb hby at_13) rfl ?_
      exact k)
  by_cases hc4 : (if (p0 &&& (1 : Int32)) = (0 : Int32) then (0 : Int32) else (1 : Int32)) = (0 : Int32)
  · have w5 := w3.pure (mkF m 23 #[.val (.int p0), .val (.int p1), .val (.int p2), .val (.int p3), .val (.int (if (p0 &&& (1 : Int32)) = (0 : Int32) then (0 : Int32) else (1 : Int32))), .unset, .unset, .unset, .unset, .unset, .unset, .unset, .unset, .unset, .unset] []) (fun X eT hZ hown k => by
        show Steps _ _ _ (State.setTop _ (mkF m 15 #[.val (.int p0), .val (.int p1), .val (.int p2), .val (.int p3), .val (.int (if (p0 &&& (1 : Int32)) = (0 : Int32) then (0 : Int32) else (1 : Int32))), .unset, .unset, .unset, .unset, .unset, .unset, .unset, .unset, .unset, .unset] [(.int (if (p0 &&& (1 : Int32)) = (0 : Int32) then (0 : Int32) else (1 : Int32)))])) _
        refine S.ifYes X.here hx 23 (hb hby at_15) ((if0 _ _).trans (teq hc4).1) (by decide) (by decide) ?_
        exact k)
    obtain ⟨b6, vm6, h6, t6, k6, E6, A6, F6c, F6v, V6, l6, m6, C6, N6, w6⟩ := w5.ldcCH hx (text := "everyone") (hw _ (List.mem_of_getElem? (i := 0) rfl)) hS (List.mem_of_getElem? (i := 1) rfl) (vs := [(.int (101 : Int32)), (.int (118 : Int32)), (.int (101 : Int32)), (.int (114 : Int32)), (.int (121 : Int32)), (.int (111 : Int32)), (.int (110 : Int32)), (.int (101 : Int32))]) (z := (8 : Int32)) ⟨by decide, by decide⟩ (by decide) (by decide) rfl (hb hby at_23) 32 (by decide) (by decide) (by decide) (by decide) (fun xq => (mkF m 25 #[.val (.int p0), .val (.int p1), .val (.int p2), .val (.int p3), .val (.int (if (p0 &&& (1 : Int32)) = (0 : Int32) then (0 : Int32) else (1 : Int32))), .unset, .unset, .unset, .unset, .unset, .unset, .unset, .unset, .unset, .unset] (.ref xq :: []))) (fun _ => rfl)
    have z6 := E6.1
    have K7 : Keep h0 h6 [] := K0.ext E6
    have S6 : Str Z h6 b6 [(101 : Int32), (118 : Int32), (101 : Int32), (114 : Int32), (121 : Int32), (111 : Int32), (110 : Int32), (101 : Int32)] h6.size := Str.of A6 F6v F6c V6 rfl rfl (List.forall_mem_cons.mpr ⟨by decide, (List.forall_mem_cons.mpr ⟨by decide, (List.forall_mem_cons.mpr ⟨by decide, (List.forall_mem_cons.mpr ⟨by decide, (List.forall_mem_cons.mpr ⟨by decide, (List.forall_mem_cons.mpr ⟨by decide, (List.forall_mem_cons.mpr ⟨by decide, (List.forall_mem_cons.mpr ⟨by decide, (fun _ q => nomatch q)⟩)⟩)⟩)⟩)⟩)⟩)⟩)⟩) (by decide) l6 m6
    have F8 := X0.ext E6
    have F9 := FOe.ext E6
    have F10 := SSe.ext E6
    have F11 := FOn.ext E6
    have F12 := SSn.ext E6
    exact ptAE l Z a0 hw hE Bd hml p0 p1 p2 p3 (if (p0 &&& (1 : Int32)) = (0 : Int32) then (0 : Int32) else (1 : Int32)) b6 oe xe on xn h0 n0 Z0 (w6.more (k := 3) (n := 50) (by decide) (by decide)) K7 (by omega) hG F8 SOe F9 F10 SOn F11 F12 (S6.more (by omega))
  · have w13 := w3.pure (mkF m 18 #[.val (.int p0), .val (.int p1), .val (.int p2), .val (.int p3), .val (.int (if (p0 &&& (1 : Int32)) = (0 : Int32) then (0 : Int32) else (1 : Int32))), .unset, .unset, .unset, .unset, .unset, .unset, .unset, .unset, .unset, .unset] []) (fun X eT hZ hown k => by
        show Steps _ _ _ (State.setTop _ (mkF m 15 #[.val (.int p0), .val (.int p1), .val (.int p2), .val (.int p3), .val (.int (if (p0 &&& (1 : Int32)) = (0 : Int32) then (0 : Int32) else (1 : Int32))), .unset, .unset, .unset, .unset, .unset, .unset, .unset, .unset, .unset, .unset] [(.int (if (p0 &&& (1 : Int32)) = (0 : Int32) then (0 : Int32) else (1 : Int32)))])) _
        refine S.ifNo X.here hx (hb hby at_15) ((if0 _ _).trans (feq hc4).1) ?_
        exact k)
    obtain ⟨b14, vm14, h14, t14, k14, E14, A14, F14c, F14v, V14, l14, m14, C14, N14, w14⟩ := w13.ldcCH hx (text := "anonymous") (hw _ (List.mem_of_getElem? (i := 92) rfl)) hS (List.mem_of_getElem? (i := 0) rfl) (vs := [(.int (97 : Int32)), (.int (110 : Int32)), (.int (111 : Int32)), (.int (110 : Int32)), (.int (121 : Int32)), (.int (109 : Int32)), (.int (111 : Int32)), (.int (117 : Int32)), (.int (115 : Int32))]) (z := (9 : Int32)) ⟨by decide, by decide⟩ (by decide) (by decide) rfl (hb hby at_18) 36 (by decide) (by decide) (by decide) (by decide) (fun xq => (mkF m 20 #[.val (.int p0), .val (.int p1), .val (.int p2), .val (.int p3), .val (.int (if (p0 &&& (1 : Int32)) = (0 : Int32) then (0 : Int32) else (1 : Int32))), .unset, .unset, .unset, .unset, .unset, .unset, .unset, .unset, .unset, .unset] (.ref xq :: []))) (fun _ => rfl)
    have z14 := E14.1
    have K15 : Keep h0 h14 [] := K0.ext E14
    have S14 : Str Z h14 b14 [(97 : Int32), (110 : Int32), (111 : Int32), (110 : Int32), (121 : Int32), (109 : Int32), (111 : Int32), (117 : Int32), (115 : Int32)] h14.size := Str.of A14 F14v F14c V14 rfl rfl (List.forall_mem_cons.mpr ⟨by decide, (List.forall_mem_cons.mpr ⟨by decide, (List.forall_mem_cons.mpr ⟨by decide, (List.forall_mem_cons.mpr ⟨by decide, (List.forall_mem_cons.mpr ⟨by decide, (List.forall_mem_cons.mpr ⟨by decide, (List.forall_mem_cons.mpr ⟨by decide, (List.forall_mem_cons.mpr ⟨by decide, (List.forall_mem_cons.mpr ⟨by decide, (fun _ q => nomatch q)⟩)⟩)⟩)⟩)⟩)⟩)⟩)⟩)⟩) (by decide) l14 m14
    have w16 := w14.pure (mkF m 25 #[.val (.int p0), .val (.int p1), .val (.int p2), .val (.int p3), .val (.int (if (p0 &&& (1 : Int32)) = (0 : Int32) then (0 : Int32) else (1 : Int32))), .unset, .unset, .unset, .unset, .unset, .unset, .unset, .unset, .unset, .unset] [(.ref b14)]) (fun X eT hZ hown k => by
        show Steps _ _ _ (State.setTop _ (mkF m 20 #[.val (.int p0), .val (.int p1), .val (.int p2), .val (.int p3), .val (.int (if (p0 &&& (1 : Int32)) = (0 : Int32) then (0 : Int32) else (1 : Int32))), .unset, .unset, .unset, .unset, .unset, .unset, .unset, .unset, .unset, .unset] [(.ref b14)])) _
        refine S.goto X.here hx 25 (hb hby at_20) (by decide) (by decide) ?_
        exact k)
    have F17 := X0.ext E14
    have F18 := FOe.ext E14
    have F19 := SSe.ext E14
    have F20 := FOn.ext E14
    have F21 := SSn.ext E14
    exact ptAN l Z a0 hw hE Bd hml p0 p1 p2 p3 (if (p0 &&& (1 : Int32)) = (0 : Int32) then (0 : Int32) else (1 : Int32)) b14 oe xe on xn h0 n0 Z0 (w16.more (k := 3) (n := 50) (by decide) (by decide)) K15 (by omega) hG F17 SOe F18 F19 SOn F20 F21 (S14.more (by omega))
set_option maxRecDepth 65536 in
set_option maxHeartbeats 40000000 in
theorem comes_1 {Post : Tables → Env → Array Value → State → Outcome → State → Prop} (hpost : ∀ tb e args s v u, (limb_1_1.after args s (.returned v) u = true ∧ limb_1_2.after args s (.returned v) u = true ∧ True) → ReturnedEndW s (.returned v) u (Jvm.fieldLocs frame_1_writes args s ++ Jvm.arrayLocs frame_1_arrays args s ++ Jvm.staticLocs frame_1_statics s) 24 3200 → Post tb e args s (.returned v) u) :
    ArmFor flags0 classFile x code maxLocals ret World_1 tables_1 room_1 Calls_1 rest_1 Pre_1 Post := by
  intro l hfl _ _ p e ha hc hk s m args below hf hA hF happ hP
  obtain ⟨hcalls, hrest, hpre⟩ := hP
  obtain ⟨-, -, -, hnamed, -, -, -, hat⟩ := (Spec.applies_iff hf).mp happ
  obtain ⟨hg, hn⟩ := and_e (Cond.before_iff.mp (show (Jvm.Cond.and given_1 narrow_1).before args s = true from hpre))
  obtain ⟨g0, r0⟩ := and_e hg
  obtain ⟨g1, r1⟩ := and_e r0
  obtain ⟨g2, r2⟩ := and_e r1
  obtain ⟨g3, r3⟩ := and_e r2
  obtain ⟨w0, w1, w2, w3, rfl⟩ : ∃ w0 w1 w2 w3 : Value, args = #[w0, w1, w2, w3] := by
    have hs : args.size = 4 := by simpa [Cond.value, given_1] using g0
    obtain ⟨L⟩ := args
    match L, hs with
    | [w0, w1, w2, w3], _ => exact ⟨w0, w1, w2, w3, rfl⟩
  have hw := fun d (hd : d ∈ tables_1) => atoms_spec (ws := Jvm.Cond.code x code maxLocals ret :: tables_1) hat d (List.mem_cons_of_mem _ hd)
  have hfit : Fit s := fun {y c} hc i hi => by
    obtain ⟨ha, rfl⟩ := Array.getElem?_eq_some_iff.mp hc
    have q := List.all_eq_true.mp ((Array.all_eq_true_iff_forall_mem.mp hF) _ (Array.getElem_mem ha)) i (List.mem_range.mpr hi)
    simpa [Array.getElem?_eq_getElem hi] using q
  obtain ⟨i0, e0⟩ := is_v g1
  obtain rfl : w0 = (.int i0) := Option.some.inj e0
  obtain ⟨i1, e1⟩ := is_v g2
  obtain rfl : w1 = (.int i1) := Option.some.inj e1
  obtain ⟨i2, e2⟩ := is_v g3
  obtain rfl : w2 = (.int i2) := Option.some.inj e2
  obtain ⟨i3, e3⟩ := is_v r3
  obtain rfl : w3 = (.int i3) := Option.some.inj e3
  obtain ⟨hsets, hown0⟩ := atoms_of _ (rest_1_c_eq ▸ (show rest_1_c.before _ s = true from hrest))
  have hG : SetsOk s := by
    have n5 := not_v (Cond.before_iff.mp (hsets _ (List.mem_of_getElem? (i := 2) rfl)))
    obtain ⟨i11, e10⟩ := is_v (Cond.before_iff.mp (hsets _ (List.mem_of_getElem? (i := 1) rfl)))
    obtain ⟨v13, e14, r15⟩ := isR_v (Cond.before_iff.mp (hsets _ (List.mem_of_getElem? (i := 8) rfl)))
    exact ⟨i11, v13, Sta.start e10 (Or.inl (hsets _ (List.mem_of_getElem? (i := 0) rfl))), gotF (Cond.eq_ints e10 (Term.int_eval (0))) n5, Sta.start e14 (Or.inl (hsets _ (List.mem_of_getElem? (i := 7) rfl))), r15⟩
  have hE : EW s _ consts_1 := (EW.cons (hw _ (List.mem_of_getElem? (i := 92) rfl)) (by decide) (EW.cons (hw _ (List.mem_of_getElem? (i := 0) rfl)) (by decide) (EW.cons (hw _ (List.mem_of_getElem? (i := 93) rfl)) (by decide) EW.nil)))
  have hC : CHv s consts_1 s.vm s.heap := CHv.start hE hcalls.1 (hsets _ (List.mem_of_getElem? (i := 2) rfl)) (hw _ (List.mem_of_getElem? (i := 3) rfl)) (hw _ (List.mem_of_getElem? (i := 2) rfl))
  obtain ⟨u0, v0⟩ := and_e hn
  obtain ⟨u1, v1⟩ := and_e v0
  obtain ⟨u2, v2⟩ := and_e v1
  obtain ⟨u3, v3⟩ := and_e v2
  obtain ⟨u4, v4⟩ := and_e v3
  obtain ⟨u5, v5⟩ := and_e v4
  obtain ⟨u6, v6⟩ := and_e v5
  obtain ⟨u7, v7⟩ := and_e v6
  obtain ⟨u8, v8⟩ := and_e v7
  obtain ⟨u9, v9⟩ := and_e v8
  obtain ⟨u10, v10⟩ := and_e v9
  obtain ⟨u11, v11⟩ := and_e v10
  obtain ⟨u12, v12⟩ := and_e v11
  obtain ⟨u13, v13⟩ := and_e v12
  obtain ⟨u14, v14⟩ := and_e v13
  obtain ⟨u15, v15⟩ := and_e v14
  obtain ⟨u16, v16⟩ := and_e v15
  obtain ⟨u17, v17⟩ := and_e v16
  obtain ⟨u18, v18⟩ := and_e v17
  obtain ⟨u19, v19⟩ := and_e v18
  obtain ⟨u20, v20⟩ := and_e v19
  obtain ⟨u21, v21⟩ := and_e v20
  obtain ⟨u22, v22⟩ := and_e v21
  obtain ⟨u23, v23⟩ := and_e v22
  obtain ⟨u24, v24⟩ := and_e v23
  obtain ⟨u25, v25⟩ := and_e v24
  obtain ⟨oe, ee⟩ := exa_v u0
  obtain ⟨xe, fe⟩ := exa_v u1
  have SOe : Sta s s.heap "com/example/bylaw/bylaw/Grantee" "EVERYONE" "Lcom/example/bylaw/bylaw/Grantee;" (.ref oe) := Sta.start ee (Or.inr ⟨(hw _ (List.mem_of_getElem? (i := 75) rfl)), (hw _ (List.mem_of_getElem? (i := 78) rfl))⟩)
  have FOe : Fld s s.heap oe "com/example/bylaw/bylaw/Grantee" "name" "Ljava/lang/String;" (.ref xe) := Fld.start ((fld_at ee).symm.trans fe)
  have SSe : Str s s.heap xe own_ev s.heap.size := str_start hfit fe u1 u2 u3 u4 rfl (by decide) (fun j hj => by
    match j, hj with
    | 0, _ => exact u10
    | 1, _ => exact u11
    | 2, _ => exact u12
    | 3, _ => exact u13
    | 4, _ => exact u14
    | 5, _ => exact u15
    | 6, _ => exact u16
    | 7, _ => exact u17
    | n + 8, h => exact absurd h (by show ¬ n + 8 < 8; omega)) (by decide) (by decide)
  obtain ⟨on, en⟩ := exa_v u5
  obtain ⟨xn, fn⟩ := exa_v u6
  have SOn : Sta s s.heap "com/example/bylaw/bylaw/Grantee" "ANONYMOUS" "Lcom/example/bylaw/bylaw/Grantee;" (.ref on) := Sta.start en (Or.inr ⟨(hw _ (List.mem_of_getElem? (i := 75) rfl)), (hw _ (List.mem_of_getElem? (i := 91) rfl))⟩)
  have FOn : Fld s s.heap on "com/example/bylaw/bylaw/Grantee" "name" "Ljava/lang/String;" (.ref xn) := Fld.start ((fld_at en).symm.trans fn)
  have SSn : Str s s.heap xn own_an s.heap.size := str_start hfit fn u6 u7 u8 u9 rfl (by decide) (fun j hj => by
    match j, hj with
    | 0, _ => exact u18
    | 1, _ => exact u19
    | 2, _ => exact u20
    | 3, _ => exact u21
    | 4, _ => exact u22
    | 5, _ => exact u23
    | 6, _ => exact u24
    | 7, _ => exact u25
    | 8, _ => exact v25
    | n + 9, h => exact absurd h (by show ¬ n + 9 < 9; omega)) (by decide) (by decide)
  obtain ⟨n, o, h1, h2, h3, _, L, rfl, ⟨rfl, -, N⟩, -, hq⟩ := rm0 l s _ hw hE tables_1 i0 i1 i2 i3 oe xe on xn s.heap s.heap.size (Nat.le_refl _) hG (Old.start s) SOe FOe SSe SOn FOn SSn p e ha hc hk s m _ below hf ((Spec.applies_iff_loose hf).mp happ).1 ⟨rfl, State.Warmed39.refl s, rfl, hC, sf0⟩ trivial
  refine ⟨n, _, h1, h2, h3, hpost _ _ _ _ _ _ ⟨Cond.after_iff.mpr rfl, Cond.after_iff.mpr (eq_i res_at (Term.int_eval (1)) rfl), trivial⟩ ⟨hq.1, hq.2.1, hq.2.2.1, (hq.2.2.2.sift fun y hy => Or.inr (N y hy)).mono (by decide) (by decide)⟩⟩
theorem main_1_1 : Claimed_1_1 := comes_1 fun _ _ _ _ _ _ h hF => ⟨h.1, hF⟩
theorem main_1_2 : Claimed_1_2 := comes_1 fun _ _ _ _ _ _ h hF => ⟨h.2.1, hF⟩
end Jvm.Pilot.@@N@@
namespace Jvm.Pilot.@@N@@
open Jvm Jvm.ClassFile Sem Op Lib Jvm.Free Jvm.Stand Jvm.Pilot.@@N@@.Jvm.D
/-! MADE BY PROGRAM (witnessworld.py) out of the Statement's table words and the real class files: 21 classes; the members and pool entries that the words name. The judged class is class 1, her method 1. -/
namespace start1
open Jvm.ClassFile
def u (s : String) : CpInfo := .utf8 (stringToUtf16 s)
/-- a pool by its gaps: so many unusable entries, then the entry; so many at the end -/
def gap : Nat → List CpInfo → List CpInfo
  | 0, r => r
  | n + 1, r => .unusable :: gap n r
def poolList (es : List (Nat × CpInfo)) (last : Nat) : List CpInfo := es.foldr (fun e r => gap e.1 (e.2 :: r)) (gap last [])
def pool (es : List (Nat × CpInfo)) (last : Nat) : Array CpInfo := ⟨poolList es last⟩
def fileOf (pool : Array CpInfo) (this : Nat) (attrs : Array Attribute := #[]) (ms : Array MethodInfo := #[]) (fl : Nat := 33) (sup : Nat := 0) (ifs : Array Nat := #[]) (fds : Array FieldInfo := #[]) : ClassFile where
  minorVersion := 0
  majorVersion := 65
  constantPool := pool
  accessFlags := fl
  thisClass := this
  superClass := sup
  interfaces := ifs
  fields := fds
  methods := ms
  attributes := attrs
def plain (name : String) (sup : Option ClassId) : Class where
  name := name
  kind := .ordinary
  loader := none
  accessFlags := 33
  super := sup
  interfaces := #[]
  cf := none
  fields := #[]
  methods := #[]
  instanceTypes := #[]
  staticTypes := #[]
  resolved := #[]
  callSites := []
  init := .initialized
  statics := none
  mirror := none

def pool0 : Array CpInfo := pool [(5, u "<init>"), (0, u "()V"), (1, .class_ 10), (1, u "java/lang/Object")] 113

def k0c0 : Code := { maxStack := 0, maxLocals := 1, code := object_method_1_code, exceptionTable := #[], attributes := #[] }
def k0m0 : Method := { name := "<init>", desc := "()V", sig := { parameters := [], returnType := none }, accessFlags := 1, code := some k0c0 }
/-- java/lang/Object -/
def k0 : Class := { plain "java/lang/Object" none with
  accessFlags := 33
  interfaces := #[]
  cf := some (fileOf pool0 8 #[] #[{ accessFlags := 1, nameIndex := 5, descriptorIndex := 6, attributes := #[] }] 33 0 #[] #[])
  fields := #[]
  methods := #[k0m0]
  instanceTypes := #[]
  staticTypes := #[]
  resolved := Array.replicate 124 none
  statics := none }

def pool1 : Array CpInfo := pool [(2, .class_ 4), (1, u "java/lang/Object"), (0, u "<init>"), (0, u "()V"), (0, .string 8), (0, u "anonymous"), (0, .string 10), (0, u "everyone"), (0, .methodref 12 13), (0, .class_ 14), (0, .nameAndType 15 16), (0, u "java/lang/String"), (0, u "length"), (0, u "()I"), (0, .integer 2147483647), (0, .methodref 19 20), (0, .class_ 21), (0, .nameAndType 22 23), (0, u "com/example/bylaw/bylaw/GranteeIsReservedGroupPinLaw"), (0, u "alloc"), (0, u "(I)[C"), (0, .methodref 19 25), (0, .nameAndType 26 27), (0, u "set"), (0, u "([CILjava/lang/String;ICC)V"), (0, .methodref 12 29), (0, .nameAndType 5 30), (0, u "([C)V"), (0, .methodref 12 32), (0, .nameAndType 33 34), (0, u "charAt"), (0, u "(I)C"), (0, .methodref 36 37), (0, .class_ 38), (0, .nameAndType 39 40), (0, u "com/example/bylaw/bylaw/Grantee"), (0, u "isReservedGroup"), (0, u "(Ljava/lang/String;)Z"), (2, u "law"), (0, u "(IIII)Z")] 5

def k1m0 : Method := { name := "<init>", desc := "()V", sig := { parameters := [], returnType := none }, accessFlags := 1, code := none }
def k1c1 : Code := { maxStack := 6, maxLocals := 15, code := code, exceptionTable := #[], attributes := #[] }
def k1m1 : Method := { name := "law", desc := "(IIII)Z", sig := { parameters := [.int, .int, .int, .int], returnType := some .boolean }, accessFlags := 9, code := some k1c1 }
def k1c2 : Code := { maxStack := 2, maxLocals := 1, code := method_3_code, exceptionTable := #[], attributes := #[] }
def k1m2 : Method := { name := "alloc", desc := "(I)[C", sig := { parameters := [.int], returnType := some (.array .char) }, accessFlags := 10, code := some k1c2 }
def k1c3 : Code := { maxStack := 4, maxLocals := 6, code := method_4_code, exceptionTable := #[], attributes := #[] }
def k1m3 : Method := { name := "set", desc := "([CILjava/lang/String;ICC)V", sig := { parameters := [(.array .char), .int, (.object "java/lang/String"), .int, .char, .char], returnType := none }, accessFlags := 10, code := some k1c3 }
/-- com/example/bylaw/bylaw/GranteeIsReservedGroupPinLaw -/
def k1 : Class := { plain "com/example/bylaw/bylaw/GranteeIsReservedGroupPinLaw" (some 0) with
  accessFlags := 49
  interfaces := #[]
  cf := some (fileOf pool1 19 #[] #[{ accessFlags := 1, nameIndex := 5, descriptorIndex := 6, attributes := #[] }, { accessFlags := 9, nameIndex := 43, descriptorIndex := 44, attributes := #[] }, { accessFlags := 10, nameIndex := 22, descriptorIndex := 23, attributes := #[] }, { accessFlags := 10, nameIndex := 26, descriptorIndex := 27, attributes := #[] }] 49 2 #[] #[])
  fields := #[]
  methods := #[k1m0, k1m1, k1m2, k1m3]
  instanceTypes := #[]
  staticTypes := #[]
  resolved := Array.replicate 50 none
  statics := none }

def pool2 : Array CpInfo := pool [(1, .class_ 2), (0, u "java/io/Serializable"), (0, .class_ 4), (0, u "java/lang/Object")] 2

/-- java/io/Serializable -/
def k2 : Class := { plain "java/io/Serializable" (some 0) with
  accessFlags := 1537
  interfaces := #[]
  cf := some (fileOf pool2 1 #[] #[] 1537 3 #[] #[])
  fields := #[]
  methods := #[]
  instanceTypes := #[]
  staticTypes := #[]
  resolved := Array.replicate 7 none
  statics := none }

def pool3 : Array CpInfo := pool [(1, .class_ 2), (0, u "java/lang/Comparable"), (0, .class_ 4), (0, u "java/lang/Object")] 7

/-- java/lang/Comparable -/
def k3 : Class := { plain "java/lang/Comparable" (some 0) with
  accessFlags := 1537
  interfaces := #[]
  cf := some (fileOf pool3 1 #[] #[] 1537 3 #[] #[])
  fields := #[]
  methods := #[]
  instanceTypes := #[]
  staticTypes := #[]
  resolved := Array.replicate 12 none
  statics := none }

def pool4 : Array CpInfo := pool [(2, .class_ 4), (1, u "java/lang/CharSequence"), (42, .class_ 48), (0, u "java/lang/CharSequence$1CodePointIterator"), (10, .class_ 60), (0, u "java/lang/CharSequence$1CharIterator"), (5, .class_ 67), (0, u "java/lang/Object")] 63

/-- java/lang/CharSequence -/
def k4 : Class := { plain "java/lang/CharSequence" (some 0) with
  accessFlags := 1537
  interfaces := #[]
  cf := some (fileOf pool4 2 #[.nestMembers #[47, 59]] #[] 1537 66 #[] #[])
  fields := #[]
  methods := #[]
  instanceTypes := #[]
  staticTypes := #[]
  resolved := Array.replicate 131 none
  statics := none }

def pool5 : Array CpInfo := pool [(1, .class_ 2), (0, u "java/lang/constant/Constable"), (0, .class_ 4), (0, u "java/lang/Object")] 6

/-- java/lang/constant/Constable -/
def k5 : Class := { plain "java/lang/constant/Constable" (some 0) with
  accessFlags := 1537
  interfaces := #[]
  cf := some (fileOf pool5 1 #[] #[] 1537 3 #[] #[])
  fields := #[]
  methods := #[]
  instanceTypes := #[]
  staticTypes := #[]
  resolved := Array.replicate 11 none
  statics := none }

def pool6 : Array CpInfo := pool [(1, .class_ 2), (0, u "java/lang/constant/ConstantDesc"), (0, .class_ 4), (0, u "java/lang/Object")] 32

/-- java/lang/constant/ConstantDesc -/
def k6 : Class := { plain "java/lang/constant/ConstantDesc" (some 0) with
  accessFlags := 1537
  interfaces := #[]
  cf := some (fileOf pool6 1 #[] #[] 1537 3 #[] #[])
  fields := #[]
  methods := #[]
  instanceTypes := #[]
  staticTypes := #[]
  resolved := Array.replicate 37 none
  statics := none }

def pool7 : Array CpInfo := pool [(1, .methodref 2 3), (0, .class_ 4), (0, .nameAndType 5 6), (0, u "java/lang/Object"), (0, u "<init>"), (0, u "()V"), (0, .string 8), (0, u ""), (0, .fieldref 10 11), (0, .class_ 12), (0, .nameAndType 13 14), (0, u "java/lang/String"), (0, u "value"), (0, u "[B"), (0, .fieldref 10 16), (0, .nameAndType 17 18), (0, u "coder"), (0, u "B"), (2, u "hash"), (0, u "I"), (2, u "hashIsZero"), (0, u "Z"), (0, .methodref 10 28), (0, .nameAndType 5 29), (0, u "([CIILjava/lang/Void;)V"), (8, .fieldref 10 39), (0, .nameAndType 40 26), (0, u "COMPACT_STRINGS"), (1, .class_ 44), (1, u "java/lang/StringUTF16"), (0, u "compress"), (1, .methodref 42 48), (0, .nameAndType 49 50), (0, u "coderFromArrayLen"), (0, u "([BI)B"), (56, .class_ 109), (1, u "java/lang/StringLatin1"), (32, u "()Z"), (34, .methodref 42 178), (0, .nameAndType 45 179), (0, u "([CII)[B"), (154, u "()I"), (0, .methodref 10 336), (0, .nameAndType 17 337), (0, u "()B"), (25, u "([BI)C"), (27, u "(II)V"), (35, u "(I)C"), (64, .methodref 10 493), (0, .nameAndType 494 142), (0, u "isLatin1"), (0, .methodref 107 496), (0, .nameAndType 497 363), (0, u "charAt"), (3, u "checkIndex"), (5, u "length"), (33, .methodref 107 542), (0, .nameAndType 543 544), (0, u "equals"), (0, u "([B[B)Z"), (28, u "(Ljava/lang/Object;)Z"), (1, .class_ 576), (0, u "java/lang/CharSequence"), (22, u "CASE_INSENSITIVE_ORDER"), (0, u "Ljava/util/Comparator;"), (409, u "([C)V"), (42, .fieldref 1054 1055), (0, .class_ 1056), (0, .nameAndType 1057 1058), (0, u "jdk/internal/util/Preconditions"), (0, u "SIOOBE_FORMATTER"), (0, u "Ljava/util/function/BiFunction;"), (0, .methodref 1054 1060), (0, .nameAndType 501 1061), (0, u "(IILjava/util/function/BiFunction;)I"), (39, u "serialPersistentFields"), (0, u "[Ljava/io/ObjectStreamField;"), (0, .class_ 1104), (0, u "java/lang/String$CaseInsensitiveComparator"), (1, .class_ 1107), (0, u "java/io/Serializable"), (0, .class_ 1109), (0, u "java/lang/Comparable"), (0, .class_ 1111), (0, u "java/lang/constant/Constable"), (0, .class_ 1113), (0, u "java/lang/constant/ConstantDesc"), (2, u "serialVersionUID"), (0, u "J"), (3, u "REPL"), (0, u "C"), (2, u "LATIN1"), (1, u "UTF16")] 323

def k7m0 : Method := { name := "<init>", desc := "()V", sig := { parameters := [], returnType := none }, accessFlags := 1, code := none }
def k7c1 : Code := { maxStack := 5, maxLocals := 2, code := jdk_42_method_3_code, exceptionTable := #[], attributes := #[] }
def k7m1 : Method := { name := "<init>", desc := "([C)V", sig := { parameters := [(.array .char)], returnType := none }, accessFlags := 1, code := some k7c1 }
def k7c2 : Code := { maxStack := 2, maxLocals := 1, code := jdk_42_method_54_code, exceptionTable := #[], attributes := #[] }
def k7m2 : Method := { name := "length", desc := "()I", sig := { parameters := [], returnType := some .int }, accessFlags := 1, code := some k7c2 }
def k7c3 : Code := { maxStack := 2, maxLocals := 2, code := jdk_42_method_56_code, exceptionTable := #[], attributes := #[] }
def k7m3 : Method := { name := "charAt", desc := "(I)C", sig := { parameters := [.int], returnType := some .char }, accessFlags := 1, code := some k7c3 }
def k7c4 : Code := { maxStack := 2, maxLocals := 3, code := jdk_42_method_66_code, exceptionTable := #[], attributes := #[] }
def k7m4 : Method := { name := "equals", desc := "(Ljava/lang/Object;)Z", sig := { parameters := [(.object "java/lang/Object")], returnType := some .boolean }, accessFlags := 1, code := some k7c4 }
def k7c5 : Code := { maxStack := 4, maxLocals := 6, code := jdk_42_method_149_code, exceptionTable := #[], attributes := #[] }
def k7m5 : Method := { name := "<init>", desc := "([CIILjava/lang/Void;)V", sig := { parameters := [(.array .char), .int, .int, (.object "java/lang/Void")], returnType := none }, accessFlags := 2, code := some k7c5 }
def k7c6 : Code := { maxStack := 1, maxLocals := 1, code := jdk_42_method_152_code, exceptionTable := #[], attributes := #[] }
def k7m6 : Method := { name := "coder", desc := "()B", sig := { parameters := [], returnType := some .byte }, accessFlags := 0, code := some k7c6 }
def k7c7 : Code := { maxStack := 1, maxLocals := 1, code := jdk_42_method_154_code, exceptionTable := #[], attributes := #[] }
def k7m7 : Method := { name := "isLatin1", desc := "()Z", sig := { parameters := [], returnType := some .boolean }, accessFlags := 0, code := some k7c7 }
def k7c8 : Code := { maxStack := 3, maxLocals := 2, code := jdk_42_method_155_code, exceptionTable := #[], attributes := #[] }
def k7m8 : Method := { name := "checkIndex", desc := "(II)V", sig := { parameters := [.int, .int], returnType := none }, accessFlags := 8, code := some k7c8 }
/-- java/lang/String -/
def k7 : Class := { plain "java/lang/String" (some 0) with
  accessFlags := 49
  interfaces := #[2, 3, 4, 5, 6]
  cf := some (fileOf pool7 10 #[.nestMembers #[1103]] #[{ accessFlags := 1, nameIndex := 5, descriptorIndex := 6, attributes := #[] }, { accessFlags := 1, nameIndex := 5, descriptorIndex := 1010, attributes := #[] }, { accessFlags := 1, nameIndex := 507, descriptorIndex := 334, attributes := #[] }, { accessFlags := 1, nameIndex := 497, descriptorIndex := 427, attributes := #[] }, { accessFlags := 1, nameIndex := 543, descriptorIndex := 573, attributes := #[] }, { accessFlags := 2, nameIndex := 5, descriptorIndex := 29, attributes := #[] }, { accessFlags := 0, nameIndex := 17, descriptorIndex := 337, attributes := #[] }, { accessFlags := 0, nameIndex := 494, descriptorIndex := 142, attributes := #[] }, { accessFlags := 8, nameIndex := 501, descriptorIndex := 391, attributes := #[] }] 49 2 #[1106, 1108, 575, 1110, 1112] #[{ accessFlags := 18, nameIndex := 13, descriptorIndex := 14, attributes := #[] }, { accessFlags := 18, nameIndex := 17, descriptorIndex := 18, attributes := #[] }, { accessFlags := 2, nameIndex := 21, descriptorIndex := 22, attributes := #[] }, { accessFlags := 2, nameIndex := 25, descriptorIndex := 26, attributes := #[] }, { accessFlags := 26, nameIndex := 1116, descriptorIndex := 1117, attributes := #[] }, { accessFlags := 24, nameIndex := 40, descriptorIndex := 26, attributes := #[] }, { accessFlags := 26, nameIndex := 1101, descriptorIndex := 1102, attributes := #[] }, { accessFlags := 26, nameIndex := 1121, descriptorIndex := 1122, attributes := #[] }, { accessFlags := 25, nameIndex := 599, descriptorIndex := 600, attributes := #[] }, { accessFlags := 24, nameIndex := 1125, descriptorIndex := 18, attributes := #[] }, { accessFlags := 24, nameIndex := 1127, descriptorIndex := 18, attributes := #[] }])
  fields := #[{ name := "value", type := (.array .byte), accessFlags := 18, slot := 0, constantValue := 0 }, { name := "coder", type := .byte, accessFlags := 18, slot := 1, constantValue := 0 }, { name := "hash", type := .int, accessFlags := 2, slot := 2, constantValue := 0 }, { name := "hashIsZero", type := .boolean, accessFlags := 2, slot := 3, constantValue := 0 }, { name := "serialVersionUID", type := .long, accessFlags := 26, slot := 0, constantValue := 0 }, { name := "COMPACT_STRINGS", type := .boolean, accessFlags := 24, slot := 1, constantValue := 0 }, { name := "serialPersistentFields", type := (.array (.object "java/io/ObjectStreamField")), accessFlags := 26, slot := 2, constantValue := 0 }, { name := "REPL", type := .char, accessFlags := 26, slot := 3, constantValue := 0 }, { name := "CASE_INSENSITIVE_ORDER", type := (.object "java/util/Comparator"), accessFlags := 25, slot := 4, constantValue := 0 }, { name := "LATIN1", type := .byte, accessFlags := 24, slot := 5, constantValue := 0 }, { name := "UTF16", type := .byte, accessFlags := 24, slot := 6, constantValue := 0 }]
  methods := #[k7m0, k7m1, k7m2, k7m3, k7m4, k7m5, k7m6, k7m7, k7m8]
  instanceTypes := #[(.array .byte), .byte, .int, .boolean]
  staticTypes := #[.long, .boolean, (.array (.object "java/io/ObjectStreamField")), .char, (.object "java/util/Comparator"), .byte, .byte]
  resolved := Array.replicate 1451 none
  statics := some 0 }

def pool8 : Array CpInfo := pool [(1, .class_ 2), (0, u "java/lang/String"), (1, .class_ 6), (1, u "java/lang/Object"), (0, u "<init>"), (0, u "()V"), (0, .methodref 1 10), (0, .nameAndType 11 12), (0, u "checkIndex"), (0, u "(II)V"), (1, .class_ 16), (1, u "java/lang/StringLatin1"), (36, u "([BI)C"), (67, u "$assertionsDisabled"), (0, u "Z"), (98, .class_ 223), (1, u "java/lang/StringLatin1$LinesSpliterator"), (28, u "charAt"), (28, u "equals"), (0, u "([B[B)Z"), (107, .class_ 391), (0, u "java/lang/StringLatin1$CharsSpliterator")] 3

def k8m0 : Method := { name := "<init>", desc := "()V", sig := { parameters := [], returnType := none }, accessFlags := 0, code := none }
def k8c1 : Code := { maxStack := 2, maxLocals := 2, code := jdk_43_method_2_code, exceptionTable := #[], attributes := #[] }
def k8m1 : Method := { name := "charAt", desc := "([BI)C", sig := { parameters := [(.array .byte), .int], returnType := some .char }, accessFlags := 9, code := some k8c1 }
def k8c2 : Code := { maxStack := 3, maxLocals := 3, code := jdk_43_method_13_code, exceptionTable := #[], attributes := #[] }
def k8m2 : Method := { name := "equals", desc := "([B[B)Z", sig := { parameters := [(.array .byte), (.array .byte)], returnType := some .boolean }, accessFlags := 9, code := some k8c2 }
/-- java/lang/StringLatin1 -/
def k8 : Class := { plain "java/lang/StringLatin1" (some 0) with
  accessFlags := 48
  interfaces := #[]
  cf := some (fileOf pool8 14 #[.nestMembers #[390, 221]] #[{ accessFlags := 0, nameIndex := 7, descriptorIndex := 8, attributes := #[] }, { accessFlags := 9, nameIndex := 252, descriptorIndex := 53, attributes := #[] }, { accessFlags := 9, nameIndex := 281, descriptorIndex := 282, attributes := #[] }] 48 4 #[] #[{ accessFlags := 4120, nameIndex := 121, descriptorIndex := 122, attributes := #[] }])
  fields := #[{ name := "$assertionsDisabled", type := .boolean, accessFlags := 4120, slot := 0, constantValue := 0 }]
  methods := #[k8m0, k8m1, k8m2]
  instanceTypes := #[]
  staticTypes := #[.boolean]
  resolved := Array.replicate 395 none
  statics := none }

def pool9 : Array CpInfo := pool [(2, .class_ 4), (1, u "java/lang/Object"), (0, u "<init>"), (0, u "()V"), (17, .class_ 26), (1, u "jdk/internal/util/Preconditions"), (6, u "checkIndex"), (21, .class_ 56), (0, u "jdk/internal/util/Preconditions$4"), (57, .class_ 115), (0, u "jdk/internal/util/Preconditions$1"), (7, u "SIOOBE_FORMATTER"), (0, u "Ljava/util/function/BiFunction;"), (0, .class_ 126), (0, u "jdk/internal/util/Preconditions$2"), (3, u "AIOOBE_FORMATTER"), (0, .class_ 132), (0, u "jdk/internal/util/Preconditions$3"), (3, u "IOOBE_FORMATTER"), (41, u "(IILjava/util/function/BiFunction;)I")] 15

def k9m0 : Method := { name := "<init>", desc := "()V", sig := { parameters := [], returnType := none }, accessFlags := 1, code := none }
def k9c1 : Code := { maxStack := 3, maxLocals := 3, code := jdk_41_method_11_code, exceptionTable := #[], attributes := #[] }
def k9m1 : Method := { name := "checkIndex", desc := "(IILjava/util/function/BiFunction;)I", sig := { parameters := [.int, .int, (.object "java/util/function/BiFunction")], returnType := some .int }, accessFlags := 9, code := some k9c1 }
/-- jdk/internal/util/Preconditions -/
def k9 : Class := { plain "jdk/internal/util/Preconditions" (some 0) with
  accessFlags := 33
  interfaces := #[]
  cf := some (fileOf pool9 24 #[.nestMembers #[55, 131, 125, 114]] #[{ accessFlags := 1, nameIndex := 5, descriptorIndex := 6, attributes := #[] }, { accessFlags := 9, nameIndex := 33, descriptorIndex := 178, attributes := #[] }] 33 2 #[] #[{ accessFlags := 25, nameIndex := 123, descriptorIndex := 124, attributes := #[] }, { accessFlags := 25, nameIndex := 130, descriptorIndex := 124, attributes := #[] }, { accessFlags := 25, nameIndex := 136, descriptorIndex := 124, attributes := #[] }])
  fields := #[{ name := "SIOOBE_FORMATTER", type := (.object "java/util/function/BiFunction"), accessFlags := 25, slot := 0, constantValue := 0 }, { name := "AIOOBE_FORMATTER", type := (.object "java/util/function/BiFunction"), accessFlags := 25, slot := 1, constantValue := 0 }, { name := "IOOBE_FORMATTER", type := (.object "java/util/function/BiFunction"), accessFlags := 25, slot := 2, constantValue := 0 }]
  methods := #[k9m0, k9m1]
  instanceTypes := #[]
  staticTypes := #[(.object "java/util/function/BiFunction"), (.object "java/util/function/BiFunction"), (.object "java/util/function/BiFunction")]
  resolved := Array.replicate 194 none
  statics := some 1 }

def pool10 : Array CpInfo := pool [(6, .class_ 8), (1, u "java/lang/Object"), (0, u "<init>"), (0, u "()V"), (1, .class_ 14), (1, u "java/lang/StringUTF16"), (31, u "$assertionsDisabled"), (0, u "Z"), (13, u "HI_BYTE_SHIFT"), (0, u "I"), (2, u "LO_BYTE_SHIFT"), (49, .methodref 12 116), (0, .nameAndType 117 118), (0, u "compress"), (0, u "([CI[BII)I"), (3, u "([CII)[B"), (138, u "coderFromArrayLen"), (0, u "([BI)B"), (106, .class_ 371), (1, u "java/lang/StringUTF16$LinesSpliterator"), (58, u "MAX_LENGTH"), (196, .class_ 628), (0, u "java/lang/StringUTF16$CodePointsSpliterator"), (0, .class_ 630), (0, u "java/lang/StringUTF16$CharsSpliterator")] 4

def k10m0 : Method := { name := "<init>", desc := "()V", sig := { parameters := [], returnType := none }, accessFlags := 0, code := none }
def k10c1 : Code := { maxStack := 2, maxLocals := 2, code := jdk_52_method_15_code, exceptionTable := #[], attributes := #[] }
def k10m1 : Method := { name := "coderFromArrayLen", desc := "([BI)B", sig := { parameters := [(.array .byte), .int], returnType := some .byte }, accessFlags := 8, code := some k10c1 }
def k10c2 : Code := { maxStack := 5, maxLocals := 6, code := jdk_52_method_16_code, exceptionTable := #[], attributes := #[] }
def k10m2 : Method := { name := "compress", desc := "([CII)[B", sig := { parameters := [(.array .char), .int, .int], returnType := some (.array .byte) }, accessFlags := 9, code := some k10c2 }
def k10c3 : Code := { maxStack := 3, maxLocals := 7, code := jdk_52_method_21_code, exceptionTable := #[], attributes := #[] }
def k10m3 : Method := { name := "compress", desc := "([CI[BII)I", sig := { parameters := [(.array .char), .int, (.array .byte), .int, .int], returnType := some .int }, accessFlags := 9, code := some k10c3 }
/-- java/lang/StringUTF16 -/
def k10 : Class := { plain "java/lang/StringUTF16" (some 0) with
  accessFlags := 48
  interfaces := #[]
  cf := some (fileOf pool10 12 #[.nestMembers #[627, 629, 369]] #[{ accessFlags := 0, nameIndex := 9, descriptorIndex := 10, attributes := #[] }, { accessFlags := 8, nameIndex := 261, descriptorIndex := 262, attributes := #[] }, { accessFlags := 9, nameIndex := 117, descriptorIndex := 122, attributes := #[] }, { accessFlags := 9, nameIndex := 117, descriptorIndex := 118, attributes := #[] }] 48 6 #[] #[{ accessFlags := 26, nameIndex := 61, descriptorIndex := 62, attributes := #[] }, { accessFlags := 26, nameIndex := 65, descriptorIndex := 62, attributes := #[] }, { accessFlags := 24, nameIndex := 430, descriptorIndex := 62, attributes := #[] }, { accessFlags := 4120, nameIndex := 46, descriptorIndex := 47, attributes := #[] }])
  fields := #[{ name := "HI_BYTE_SHIFT", type := .int, accessFlags := 26, slot := 0, constantValue := 0 }, { name := "LO_BYTE_SHIFT", type := .int, accessFlags := 26, slot := 1, constantValue := 0 }, { name := "MAX_LENGTH", type := .int, accessFlags := 24, slot := 2, constantValue := 0 }, { name := "$assertionsDisabled", type := .boolean, accessFlags := 4120, slot := 3, constantValue := 0 }]
  methods := #[k10m0, k10m1, k10m2, k10m3]
  instanceTypes := #[]
  staticTypes := #[.int, .int, .int, .boolean]
  resolved := Array.replicate 635 none
  statics := none }

def pool11 : Array CpInfo := pool [(2, .class_ 4), (1, u "java/lang/Object"), (0, u "<init>"), (0, u "()V"), (0, .class_ 8), (0, u "java/lang/Record")] 13

def k11m0 : Method := { name := "<init>", desc := "()V", sig := { parameters := [], returnType := none }, accessFlags := 4, code := none }
/-- java/lang/Record -/
def k11 : Class := { plain "java/lang/Record" (some 0) with
  accessFlags := 1057
  interfaces := #[]
  cf := some (fileOf pool11 7 #[] #[{ accessFlags := 4, nameIndex := 5, descriptorIndex := 6, attributes := #[] }] 1057 2 #[] #[])
  fields := #[]
  methods := #[k11m0]
  instanceTypes := #[]
  staticTypes := #[]
  resolved := Array.replicate 22 none
  statics := none }

def pool12 : Array CpInfo := pool [(2, .class_ 4), (1, u "java/lang/Record"), (3, u "kind"), (7, u "name"), (1, .class_ 20), (1, u "com/example/bylaw/bylaw/Grantee"), (0, u "Lcom/example/bylaw/bylaw/Grantee$Kind;"), (0, .fieldref 18 23), (0, .nameAndType 16 24), (0, u "Ljava/lang/String;"), (1, .class_ 28), (1, u "com/example/bylaw/bylaw/Grantee$Kind"), (16, .fieldref 18 46), (0, .nameAndType 47 48), (0, u "EVERYONE"), (0, u "Lcom/example/bylaw/bylaw/Grantee;"), (0, .methodref 50 51), (0, .class_ 52), (0, .nameAndType 53 54), (0, u "java/lang/String"), (0, u "equals"), (0, u "(Ljava/lang/Object;)Z"), (0, .fieldref 18 56), (0, .nameAndType 57 48), (0, u "ANONYMOUS"), (34, u "PUBLIC"), (9, u "isReservedGroup"), (0, u "(Ljava/lang/String;)Z")] 38

def k12c0 : Code := { maxStack := 2, maxLocals := 1, code := prog_6_method_7_code, exceptionTable := #[], attributes := #[] }
def k12m0 : Method := { name := "isReservedGroup", desc := "(Ljava/lang/String;)Z", sig := { parameters := [(.object "java/lang/String")], returnType := some .boolean }, accessFlags := 8, code := some k12c0 }
/-- com/example/bylaw/bylaw/Grantee -/
def k12 : Class := { plain "com/example/bylaw/bylaw/Grantee" (some 11) with
  accessFlags := 49
  interfaces := #[]
  cf := some (fileOf pool12 18 #[.nestMembers #[26]] #[{ accessFlags := 8, nameIndex := 102, descriptorIndex := 103, attributes := #[] }] 49 2 #[] #[{ accessFlags := 18, nameIndex := 8, descriptorIndex := 21, attributes := #[] }, { accessFlags := 18, nameIndex := 16, descriptorIndex := 24, attributes := #[] }, { accessFlags := 25, nameIndex := 47, descriptorIndex := 48, attributes := #[] }, { accessFlags := 25, nameIndex := 57, descriptorIndex := 48, attributes := #[] }, { accessFlags := 25, nameIndex := 92, descriptorIndex := 48, attributes := #[] }])
  fields := #[{ name := "kind", type := (.object "com/example/bylaw/bylaw/Grantee$Kind"), accessFlags := 18, slot := 0, constantValue := 0 }, { name := "name", type := (.object "java/lang/String"), accessFlags := 18, slot := 1, constantValue := 0 }, { name := "EVERYONE", type := (.object "com/example/bylaw/bylaw/Grantee"), accessFlags := 25, slot := 0, constantValue := 0 }, { name := "ANONYMOUS", type := (.object "com/example/bylaw/bylaw/Grantee"), accessFlags := 25, slot := 1, constantValue := 0 }, { name := "PUBLIC", type := (.object "com/example/bylaw/bylaw/Grantee"), accessFlags := 25, slot := 2, constantValue := 0 }]
  methods := #[k12m0]
  instanceTypes := #[(.object "com/example/bylaw/bylaw/Grantee$Kind"), (.object "java/lang/String")]
  staticTypes := #[(.object "com/example/bylaw/bylaw/Grantee"), (.object "com/example/bylaw/bylaw/Grantee"), (.object "com/example/bylaw/bylaw/Grantee")]
  resolved := Array.replicate 142 none
  statics := some 2 }

def pool13 : Array CpInfo := pool [(9, u "<init>"), (6, .class_ 18), (1, u "java/lang/Object"), (0, u "()V"), (1, .class_ 23), (1, u "jdk/internal/util/ArraysSupport"), (0, u "LOG2_ARRAY_LONG_INDEX_SCALE"), (0, u "I"), (2, u "U"), (0, u "Ljdk/internal/misc/Unsafe;"), (8, u "BIG_ENDIAN"), (0, u "Z"), (8, u "LOG2_BYTE_BIT_SIZE"), (4, u "LOG2_ARRAY_INT_INDEX_SCALE"), (54, u "JLA"), (0, u "Ljdk/internal/access/JavaLangAccess;"), (11, u "LOG2_ARRAY_BOOLEAN_INDEX_SCALE"), (9, u "LOG2_ARRAY_BYTE_INDEX_SCALE"), (5, u "LOG2_ARRAY_CHAR_INDEX_SCALE"), (5, u "LOG2_ARRAY_SHORT_INDEX_SCALE"), (18, u "LOG2_ARRAY_FLOAT_INDEX_SCALE"), (24, u "LOG2_ARRAY_DOUBLE_INDEX_SCALE"), (89, u "T_BOOLEAN"), (2, u "T_CHAR"), (1, u "T_FLOAT"), (1, u "T_DOUBLE"), (1, u "T_BYTE"), (1, u "T_SHORT"), (1, u "T_INT"), (1, u "T_LONG"), (1, u "SOFT_MAX_ARRAY_LENGTH")] 83

def k13m0 : Method := { name := "<init>", desc := "()V", sig := { parameters := [], returnType := none }, accessFlags := 2, code := none }
/-- jdk/internal/util/ArraysSupport -/
def k13 : Class := { plain "jdk/internal/util/ArraysSupport" (some 0) with
  accessFlags := 33
  interfaces := #[]
  cf := some (fileOf pool13 21 #[] #[{ accessFlags := 2, nameIndex := 9, descriptorIndex := 19, attributes := #[] }] 33 16 #[] #[{ accessFlags := 24, nameIndex := 28, descriptorIndex := 29, attributes := #[] }, { accessFlags := 26, nameIndex := 38, descriptorIndex := 39, attributes := #[] }, { accessFlags := 25, nameIndex := 121, descriptorIndex := 25, attributes := #[] }, { accessFlags := 25, nameIndex := 131, descriptorIndex := 25, attributes := #[] }, { accessFlags := 25, nameIndex := 137, descriptorIndex := 25, attributes := #[] }, { accessFlags := 25, nameIndex := 143, descriptorIndex := 25, attributes := #[] }, { accessFlags := 25, nameIndex := 53, descriptorIndex := 25, attributes := #[] }, { accessFlags := 25, nameIndex := 24, descriptorIndex := 25, attributes := #[] }, { accessFlags := 25, nameIndex := 162, descriptorIndex := 25, attributes := #[] }, { accessFlags := 25, nameIndex := 187, descriptorIndex := 25, attributes := #[] }, { accessFlags := 26, nameIndex := 48, descriptorIndex := 25, attributes := #[] }, { accessFlags := 25, nameIndex := 277, descriptorIndex := 25, attributes := #[] }, { accessFlags := 25, nameIndex := 280, descriptorIndex := 25, attributes := #[] }, { accessFlags := 25, nameIndex := 282, descriptorIndex := 25, attributes := #[] }, { accessFlags := 25, nameIndex := 284, descriptorIndex := 25, attributes := #[] }, { accessFlags := 25, nameIndex := 286, descriptorIndex := 25, attributes := #[] }, { accessFlags := 25, nameIndex := 288, descriptorIndex := 25, attributes := #[] }, { accessFlags := 25, nameIndex := 290, descriptorIndex := 25, attributes := #[] }, { accessFlags := 25, nameIndex := 292, descriptorIndex := 25, attributes := #[] }, { accessFlags := 26, nameIndex := 108, descriptorIndex := 109, attributes := #[] }, { accessFlags := 25, nameIndex := 294, descriptorIndex := 25, attributes := #[] }])
  fields := #[{ name := "U", type := (.object "jdk/internal/misc/Unsafe"), accessFlags := 24, slot := 0, constantValue := 0 }, { name := "BIG_ENDIAN", type := .boolean, accessFlags := 26, slot := 1, constantValue := 0 }, { name := "LOG2_ARRAY_BOOLEAN_INDEX_SCALE", type := .int, accessFlags := 25, slot := 2, constantValue := 0 }, { name := "LOG2_ARRAY_BYTE_INDEX_SCALE", type := .int, accessFlags := 25, slot := 3, constantValue := 0 }, { name := "LOG2_ARRAY_CHAR_INDEX_SCALE", type := .int, accessFlags := 25, slot := 4, constantValue := 0 }, { name := "LOG2_ARRAY_SHORT_INDEX_SCALE", type := .int, accessFlags := 25, slot := 5, constantValue := 0 }, { name := "LOG2_ARRAY_INT_INDEX_SCALE", type := .int, accessFlags := 25, slot := 6, constantValue := 0 }, { name := "LOG2_ARRAY_LONG_INDEX_SCALE", type := .int, accessFlags := 25, slot := 7, constantValue := 0 }, { name := "LOG2_ARRAY_FLOAT_INDEX_SCALE", type := .int, accessFlags := 25, slot := 8, constantValue := 0 }, { name := "LOG2_ARRAY_DOUBLE_INDEX_SCALE", type := .int, accessFlags := 25, slot := 9, constantValue := 0 }, { name := "LOG2_BYTE_BIT_SIZE", type := .int, accessFlags := 26, slot := 10, constantValue := 0 }, { name := "T_BOOLEAN", type := .int, accessFlags := 25, slot := 11, constantValue := 0 }, { name := "T_CHAR", type := .int, accessFlags := 25, slot := 12, constantValue := 0 }, { name := "T_FLOAT", type := .int, accessFlags := 25, slot := 13, constantValue := 0 }, { name := "T_DOUBLE", type := .int, accessFlags := 25, slot := 14, constantValue := 0 }, { name := "T_BYTE", type := .int, accessFlags := 25, slot := 15, constantValue := 0 }, { name := "T_SHORT", type := .int, accessFlags := 25, slot := 16, constantValue := 0 }, { name := "T_INT", type := .int, accessFlags := 25, slot := 17, constantValue := 0 }, { name := "T_LONG", type := .int, accessFlags := 25, slot := 18, constantValue := 0 }, { name := "JLA", type := (.object "jdk/internal/access/JavaLangAccess"), accessFlags := 26, slot := 19, constantValue := 0 }, { name := "SOFT_MAX_ARRAY_LENGTH", type := .int, accessFlags := 25, slot := 20, constantValue := 0 }]
  methods := #[k13m0]
  instanceTypes := #[]
  staticTypes := #[(.object "jdk/internal/misc/Unsafe"), .boolean, .int, .int, .int, .int, .int, .int, .int, .int, .int, .int, .int, .int, .int, .int, .int, .int, .int, (.object "jdk/internal/access/JavaLangAccess"), .int]
  resolved := Array.replicate 378 none
  statics := none }

def pool14 : Array CpInfo := pool [(1, u "java/lang/Cloneable"), (0, .class_ 1), (0, u "java/lang/Object"), (0, .class_ 3)] 3

/-- java/lang/Cloneable -/
def k14 : Class := { plain "java/lang/Cloneable" (some 0) with
  accessFlags := 1537
  interfaces := #[]
  cf := some (fileOf pool14 2 #[] #[] 1537 4 #[] #[])
  fields := #[]
  methods := #[]
  instanceTypes := #[]
  staticTypes := #[]
  resolved := Array.replicate 8 none
  statics := none }

/-- the primitive byte -/
def k15 : Class := { plain "byte" none with kind := .primitive 'B', accessFlags := 0x411 }
/-- [B -/
def k16 : Class := { plain "[B" (some 0) with kind := .array 15 .byte, interfaces := #[14, 2], accessFlags := 1041 }

/-- the primitive char -/
def k17 : Class := { plain "char" none with kind := .primitive 'C', accessFlags := 0x411 }
/-- [C -/
def k18 : Class := { plain "[C" (some 0) with kind := .array 17 .char, interfaces := #[14, 2], accessFlags := 1041 }

/-- the primitive int -/
def k19 : Class := { plain "int" none with kind := .primitive 'I', accessFlags := 0x411 }
/-- [I -/
def k20 : Class := { plain "[I" (some 0) with kind := .array 19 .int, interfaces := #[14, 2], accessFlags := 1041 }

def heap : Heap := #[{ cls := 7, slots := #[.long 0, .int 1, .null, .int 0, .null, .int 0, .int 0], vm := .statics 7 },
  { cls := 9, slots := #[.null, .null, .null], vm := .statics 9 },
  { cls := 12, slots := #[.ref 7, .ref 8, .null], vm := .statics 12 },
  { cls := 16, slots := #[.int 101, .int 118, .int 101, .int 114, .int 121, .int 111, .int 110, .int 101], vm := .none },
  { cls := 16, slots := #[.int 97, .int 110, .int 111, .int 110, .int 121, .int 109, .int 111, .int 117, .int 115], vm := .none },
  { cls := 7, slots := #[.ref 3, .int 0, .int 0, .int 0], vm := .none },
  { cls := 7, slots := #[.ref 4, .int 0, .int 0, .int 0], vm := .none },
  { cls := 12, slots := #[.null, .ref 5], vm := .none },
  { cls := 12, slots := #[.null, .ref 6], vm := .none }]
def classes : Array Class := #[k0, k1, k2, k3, k4, k5, k6, k7, k8, k9, k10, k11, k12, k13, k14, k15, k16, k17, k18, k19, k20]
def interned : List (Array UInt16 × Addr) := []
def slotsUsed : Nat := 42
def theMethod : MethodId := ⟨1, 1⟩
def args0 : Array Value := #[.int 5, .int 6, .int 7, .int 8]
def aboutOver (below : List Frame) : State where
  vm := { classes := classes, interned := interned.toArray }
  heap := heap
  slotsUsed := slotsUsed
  threads := #[{ frames := .invoking theMethod args0 :: below }]
def below0 : List Frame := [.native { method := ⟨0, 0⟩, args := #[] }]
def about1 : State := aboutOver below0
def p0 : Program := .bare "" "" ""
def e0 : Env := launch0.env 0 0 0
theorem w_frames : about1.frames = Frame.invoking theMethod args0 :: below0 := rfl
set_option maxRecDepth 65536 in
theorem w_args : argsFit about1.vm theMethod args0 = true := by decide +kernel
set_option maxRecDepth 65536 in
theorem w_heap : heapFits about1 = true := by decide +kernel
set_option maxRecDepth 65536 in
theorem w_runnable : about1.curStatus? = some .runnable := by decide +kernel
set_option maxRecDepth 65536 in
theorem w_alone : about1.alone = true := by decide +kernel
set_option maxRecDepth 65536 in
theorem w_named : about1.methodNamed? x = some theMethod := by decide +kernel
set_option maxRecDepth 65536 in
theorem w_hears : about1.hears theMethod below0 = true := by decide +kernel
set_option maxRecDepth 65536 in
theorem w_ripe : about1.ripe theMethod args0 below0 = true := by decide +kernel
theorem w_running : about1.status = .running := rfl
set_option maxRecDepth 65536 in
theorem w_room : about1.hasRoom e0.platform room_1 = true :=
  launch0.hasRoom_least _ room_1 (by decide +kernel) (by decide +kernel) (by decide +kernel) (by decide +kernel) (by decide +kernel) (by decide +kernel)
theorem allAtoms_all (ts : List Jvm.Cond) (a : Array Jvm.Value) (st : Jvm.State) : (allAtoms ts).before a st = ts.all (fun c => c.before a st) := by
  induction ts with
  | nil => rfl
  | cons c t ih =>
    show (Jvm.Cond.and c (allAtoms t)).before a st = _
    rw [Jvm.Cond.before_and, ih, List.all_cons]
def words1 : List Jvm.Cond := Jvm.Cond.code x code maxLocals ret :: tables_1
/-- a 'code' word, met by the world's own term for the bytes: nothing is compared byte by byte -/
theorem code_word {y : MethodName} {bytes : ByteArray} {mx : Nat} {rt : Option FieldType} {a : Array Value} {s : State} {m : MethodId} {meth : Method} {c : Code} (h1 : s.methodNamed? y = some m) (h2 : s.vm.method? m = some meth) (h3 : meth.code = some c) (h4 : c.code = bytes)
    (h5 : (c.maxLocals == mx && c.exceptionTable.isEmpty && decide (c.maxStack ≤ mostOperands) && decide (meth.sig.returnType = rt) && !meth.locks && decide (parseMethodDescriptor y.desc = some meth.sig)) = true) : (Jvm.Cond.code y bytes mx rt).before a s = true := by
  simp only [Bool.and_eq_true, beq_iff_eq, Bool.not_eq_true', decide_eq_true_eq] at h5
  obtain ⟨⟨⟨⟨⟨g1, g2⟩, g3⟩, g4⟩, g5⟩, g6⟩ := h5
  simp [Cond.before, Cond.holds, Cond.value, h1, h2, h3, h4, g1, g2, g3, g4, g5, g6]
def isCode : Jvm.Cond → Bool
  | .code _ _ _ _ => true
  | _ => false
theorem all_split {L : List Jvm.Cond} {P : Jvm.Cond → Bool} (h1 : L.all (fun c => isCode c || P c) = true) (h2 : ∀ c ∈ L.filter isCode, P c = true) : L.all P = true := by
  refine List.all_eq_true.mpr fun c hc => ?_
  have h := List.all_eq_true.mp h1 c hc
  rcases Bool.eq_false_or_eq_true (isCode c) with hi | hi
  · exact h2 c (List.mem_filter.mpr ⟨hc, hi⟩)
  · simpa [hi] using h
set_option maxRecDepth 65536 in
theorem w_c0 : (Jvm.Cond.code x code maxLocals ret).before args0 about1 = true := code_word (m := ⟨1, 1⟩) (meth := k1m1) (c := k1c1) (by decide +kernel) rfl rfl rfl (by decide +kernel)
set_option maxRecDepth 65536 in
theorem w_c1 : (Jvm.Cond.code ({ cls := "java/lang/String", name := "length", desc := "()I" } : Jvm.MethodName) jdk_42_method_54_code (1 : Nat) (Option.some Jvm.ClassFile.FieldType.int)).before args0 about1 = true := code_word (m := ⟨7, 2⟩) (meth := k7m2) (c := k7c2) (by decide +kernel) rfl rfl rfl (by decide +kernel)
set_option maxRecDepth 65536 in
theorem w_c2 : (Jvm.Cond.code ({ cls := "java/lang/String", name := "coder", desc := "()B" } : Jvm.MethodName) jdk_42_method_152_code (1 : Nat) (Option.some Jvm.ClassFile.FieldType.byte)).before args0 about1 = true := code_word (m := ⟨7, 6⟩) (meth := k7m6) (c := k7c6) (by decide +kernel) rfl rfl rfl (by decide +kernel)
set_option maxRecDepth 65536 in
theorem w_c3 : (Jvm.Cond.code ({ cls := "com/example/bylaw/bylaw/GranteeIsReservedGroupPinLaw", name := "alloc", desc := "(I)[C" } : Jvm.MethodName) method_3_code (1 : Nat) (Option.some (Jvm.ClassFile.FieldType.array Jvm.ClassFile.FieldType.char))).before args0 about1 = true := code_word (m := ⟨1, 2⟩) (meth := k1m2) (c := k1c2) (by decide +kernel) rfl rfl rfl (by decide +kernel)
set_option maxRecDepth 65536 in
theorem w_c4 : (Jvm.Cond.code ({ cls := "com/example/bylaw/bylaw/GranteeIsReservedGroupPinLaw", name := "set", desc := "([CILjava/lang/String;ICC)V" } : Jvm.MethodName) method_4_code (6 : Nat) (Option.none : Option Jvm.ClassFile.FieldType)).before args0 about1 = true := code_word (m := ⟨1, 3⟩) (meth := k1m3) (c := k1c3) (by decide +kernel) rfl rfl rfl (by decide +kernel)
set_option maxRecDepth 65536 in
theorem w_c5 : (Jvm.Cond.code ({ cls := "java/lang/String", name := "charAt", desc := "(I)C" } : Jvm.MethodName) jdk_42_method_56_code (2 : Nat) (Option.some Jvm.ClassFile.FieldType.char)).before args0 about1 = true := code_word (m := ⟨7, 3⟩) (meth := k7m3) (c := k7c3) (by decide +kernel) rfl rfl rfl (by decide +kernel)
set_option maxRecDepth 65536 in
theorem w_c6 : (Jvm.Cond.code ({ cls := "java/lang/String", name := "isLatin1", desc := "()Z" } : Jvm.MethodName) jdk_42_method_154_code (1 : Nat) (Option.some Jvm.ClassFile.FieldType.boolean)).before args0 about1 = true := code_word (m := ⟨7, 7⟩) (meth := k7m7) (c := k7c7) (by decide +kernel) rfl rfl rfl (by decide +kernel)
set_option maxRecDepth 65536 in
theorem w_c7 : (Jvm.Cond.code ({ cls := "java/lang/StringLatin1", name := "charAt", desc := "([BI)C" } : Jvm.MethodName) jdk_43_method_2_code (2 : Nat) (Option.some Jvm.ClassFile.FieldType.char)).before args0 about1 = true := code_word (m := ⟨8, 1⟩) (meth := k8m1) (c := k8c1) (by decide +kernel) rfl rfl rfl (by decide +kernel)
set_option maxRecDepth 65536 in
theorem w_c8 : (Jvm.Cond.code ({ cls := "java/lang/String", name := "checkIndex", desc := "(II)V" } : Jvm.MethodName) jdk_42_method_155_code (2 : Nat) (Option.none : Option Jvm.ClassFile.FieldType)).before args0 about1 = true := code_word (m := ⟨7, 8⟩) (meth := k7m8) (c := k7c8) (by decide +kernel) rfl rfl rfl (by decide +kernel)
set_option maxRecDepth 65536 in
theorem w_c9 : (Jvm.Cond.code ({ cls := "jdk/internal/util/Preconditions", name := "checkIndex", desc := "(IILjava/util/function/BiFunction;)I" } : Jvm.MethodName) jdk_41_method_11_code (3 : Nat) (Option.some Jvm.ClassFile.FieldType.int)).before args0 about1 = true := code_word (m := ⟨9, 1⟩) (meth := k9m1) (c := k9c1) (by decide +kernel) rfl rfl rfl (by decide +kernel)
set_option maxRecDepth 65536 in
theorem w_c10 : (Jvm.Cond.code ({ cls := "java/lang/String", name := "<init>", desc := "([C)V" } : Jvm.MethodName) jdk_42_method_3_code (2 : Nat) (Option.none : Option Jvm.ClassFile.FieldType)).before args0 about1 = true := code_word (m := ⟨7, 1⟩) (meth := k7m1) (c := k7c1) (by decide +kernel) rfl rfl rfl (by decide +kernel)
set_option maxRecDepth 65536 in
theorem w_c11 : (Jvm.Cond.code ({ cls := "java/lang/String", name := "<init>", desc := "([CIILjava/lang/Void;)V" } : Jvm.MethodName) jdk_42_method_149_code (6 : Nat) (Option.none : Option Jvm.ClassFile.FieldType)).before args0 about1 = true := code_word (m := ⟨7, 5⟩) (meth := k7m5) (c := k7c5) (by decide +kernel) rfl rfl rfl (by decide +kernel)
set_option maxRecDepth 65536 in
theorem w_c12 : (Jvm.Cond.code ({ cls := "java/lang/Object", name := "<init>", desc := "()V" } : Jvm.MethodName) object_method_1_code (1 : Nat) (Option.none : Option Jvm.ClassFile.FieldType)).before args0 about1 = true := code_word (m := ⟨0, 0⟩) (meth := k0m0) (c := k0c0) (by decide +kernel) rfl rfl rfl (by decide +kernel)
set_option maxRecDepth 65536 in
theorem w_c13 : (Jvm.Cond.code ({ cls := "java/lang/StringUTF16", name := "compress", desc := "([CII)[B" } : Jvm.MethodName) jdk_52_method_16_code (6 : Nat) (Option.some (Jvm.ClassFile.FieldType.array Jvm.ClassFile.FieldType.byte))).before args0 about1 = true := code_word (m := ⟨10, 2⟩) (meth := k10m2) (c := k10c2) (by decide +kernel) rfl rfl rfl (by decide +kernel)
set_option maxRecDepth 65536 in
theorem w_c14 : (Jvm.Cond.code ({ cls := "java/lang/StringUTF16", name := "compress", desc := "([CI[BII)I" } : Jvm.MethodName) jdk_52_method_21_code (7 : Nat) (Option.some Jvm.ClassFile.FieldType.int)).before args0 about1 = true := code_word (m := ⟨10, 3⟩) (meth := k10m3) (c := k10c3) (by decide +kernel) rfl rfl rfl (by decide +kernel)
set_option maxRecDepth 65536 in
theorem w_c15 : (Jvm.Cond.code ({ cls := "java/lang/StringUTF16", name := "coderFromArrayLen", desc := "([BI)B" } : Jvm.MethodName) jdk_52_method_15_code (2 : Nat) (Option.some Jvm.ClassFile.FieldType.byte)).before args0 about1 = true := code_word (m := ⟨10, 1⟩) (meth := k10m1) (c := k10c1) (by decide +kernel) rfl rfl rfl (by decide +kernel)
set_option maxRecDepth 65536 in
theorem w_c16 : (Jvm.Cond.code ({ cls := "com/example/bylaw/bylaw/Grantee", name := "isReservedGroup", desc := "(Ljava/lang/String;)Z" } : Jvm.MethodName) prog_6_method_7_code (1 : Nat) (Option.some Jvm.ClassFile.FieldType.boolean)).before args0 about1 = true := code_word (m := ⟨12, 0⟩) (meth := k12m0) (c := k12c0) (by decide +kernel) rfl rfl rfl (by decide +kernel)
set_option maxRecDepth 65536 in
theorem w_c17 : (Jvm.Cond.code ({ cls := "java/lang/String", name := "equals", desc := "(Ljava/lang/Object;)Z" } : Jvm.MethodName) jdk_42_method_66_code (3 : Nat) (Option.some Jvm.ClassFile.FieldType.boolean)).before args0 about1 = true := code_word (m := ⟨7, 4⟩) (meth := k7m4) (c := k7c4) (by decide +kernel) rfl rfl rfl (by decide +kernel)
set_option maxRecDepth 65536 in
theorem w_c18 : (Jvm.Cond.code ({ cls := "java/lang/StringLatin1", name := "equals", desc := "([B[B)Z" } : Jvm.MethodName) jdk_43_method_13_code (3 : Nat) (Option.some Jvm.ClassFile.FieldType.boolean)).before args0 about1 = true := code_word (m := ⟨8, 2⟩) (meth := k8m2) (c := k8c2) (by decide +kernel) rfl rfl rfl (by decide +kernel)
def codes1 : List Jvm.Cond := [Jvm.Cond.code x code maxLocals ret, Jvm.Cond.code ({ cls := "java/lang/String", name := "length", desc := "()I" } : Jvm.MethodName) jdk_42_method_54_code (1 : Nat) (Option.some Jvm.ClassFile.FieldType.int), Jvm.Cond.code ({ cls := "java/lang/String", name := "coder", desc := "()B" } : Jvm.MethodName) jdk_42_method_152_code (1 : Nat) (Option.some Jvm.ClassFile.FieldType.byte), Jvm.Cond.code ({ cls := "com/example/bylaw/bylaw/GranteeIsReservedGroupPinLaw", name := "alloc", desc := "(I)[C" } : Jvm.MethodName) method_3_code (1 : Nat) (Option.some (Jvm.ClassFile.FieldType.array Jvm.ClassFile.FieldType.char)), Jvm.Cond.code ({ cls := "com/example/bylaw/bylaw/GranteeIsReservedGroupPinLaw", name := "set", desc := "([CILjava/lang/String;ICC)V" } : Jvm.MethodName) method_4_code (6 : Nat) (Option.none : Option Jvm.ClassFile.FieldType), Jvm.Cond.code ({ cls := "java/lang/String", name := "charAt", desc := "(I)C" } : Jvm.MethodName) jdk_42_method_56_code (2 : Nat) (Option.some Jvm.ClassFile.FieldType.char), Jvm.Cond.code ({ cls := "java/lang/String", name := "isLatin1", desc := "()Z" } : Jvm.MethodName) jdk_42_method_154_code (1 : Nat) (Option.some Jvm.ClassFile.FieldType.boolean), Jvm.Cond.code ({ cls := "java/lang/StringLatin1", name := "charAt", desc := "([BI)C" } : Jvm.MethodName) jdk_43_method_2_code (2 : Nat) (Option.some Jvm.ClassFile.FieldType.char), Jvm.Cond.code ({ cls := "java/lang/String", name := "checkIndex", desc := "(II)V" } : Jvm.MethodName) jdk_42_method_155_code (2 : Nat) (Option.none : Option Jvm.ClassFile.FieldType), Jvm.Cond.code ({ cls := "jdk/internal/util/Preconditions", name := "checkIndex", desc := "(IILjava/util/function/BiFunction;)I" } : Jvm.MethodName) jdk_41_method_11_code (3 : Nat) (Option.some Jvm.ClassFile.FieldType.int), Jvm.Cond.code ({ cls := "java/lang/String", name := "<init>", desc := "([C)V" } : Jvm.MethodName) jdk_42_method_3_code (2 : Nat) (Option.none : Option Jvm.ClassFile.FieldType), Jvm.Cond.code ({ cls := "java/lang/String", name := "<init>", desc := "([CIILjava/lang/Void;)V" } : Jvm.MethodName) jdk_42_method_149_code (6 : Nat) (Option.none : Option Jvm.ClassFile.FieldType), Jvm.Cond.code ({ cls := "java/lang/Object", name := "<init>", desc := "()V" } : Jvm.MethodName) object_method_1_code (1 : Nat) (Option.none : Option Jvm.ClassFile.FieldType), Jvm.Cond.code ({ cls := "java/lang/StringUTF16", name := "compress", desc := "([CII)[B" } : Jvm.MethodName) jdk_52_method_16_code (6 : Nat) (Option.some (Jvm.ClassFile.FieldType.array Jvm.ClassFile.FieldType.byte)), Jvm.Cond.code ({ cls := "java/lang/StringUTF16", name := "compress", desc := "([CI[BII)I" } : Jvm.MethodName) jdk_52_method_21_code (7 : Nat) (Option.some Jvm.ClassFile.FieldType.int), Jvm.Cond.code ({ cls := "java/lang/StringUTF16", name := "coderFromArrayLen", desc := "([BI)B" } : Jvm.MethodName) jdk_52_method_15_code (2 : Nat) (Option.some Jvm.ClassFile.FieldType.byte), Jvm.Cond.code ({ cls := "com/example/bylaw/bylaw/Grantee", name := "isReservedGroup", desc := "(Ljava/lang/String;)Z" } : Jvm.MethodName) prog_6_method_7_code (1 : Nat) (Option.some Jvm.ClassFile.FieldType.boolean), Jvm.Cond.code ({ cls := "java/lang/String", name := "equals", desc := "(Ljava/lang/Object;)Z" } : Jvm.MethodName) jdk_42_method_66_code (3 : Nat) (Option.some Jvm.ClassFile.FieldType.boolean), Jvm.Cond.code ({ cls := "java/lang/StringLatin1", name := "equals", desc := "([B[B)Z" } : Jvm.MethodName) jdk_43_method_13_code (3 : Nat) (Option.some Jvm.ClassFile.FieldType.boolean)]
set_option maxRecDepth 65536 in
theorem codes_eq : words1.filter isCode = codes1 := rfl
theorem w_codes : ∀ c ∈ words1.filter isCode, c.before args0 about1 = true := by
  rw [codes_eq]
  intro c hc
  simp only [codes1, List.mem_cons, List.not_mem_nil, or_false] at hc
  rcases hc with rfl | rfl | rfl | rfl | rfl | rfl | rfl | rfl | rfl | rfl | rfl | rfl | rfl | rfl | rfl | rfl | rfl | rfl | rfl
  · exact w_c0
  · exact w_c1
  · exact w_c2
  · exact w_c3
  · exact w_c4
  · exact w_c5
  · exact w_c6
  · exact w_c7
  · exact w_c8
  · exact w_c9
  · exact w_c10
  · exact w_c11
  · exact w_c12
  · exact w_c13
  · exact w_c14
  · exact w_c15
  · exact w_c16
  · exact w_c17
  · exact w_c18
set_option maxRecDepth 65536 in
theorem w_t1 : (words1.take 24).all (fun c => isCode c || c.before args0 about1) = true := by decide +kernel
set_option maxRecDepth 65536 in
theorem w_t2 : ((words1.drop 24).take 24).all (fun c => isCode c || c.before args0 about1) = true := by decide +kernel
set_option maxRecDepth 65536 in
theorem w_t3 : (((words1.drop 24).drop 24).take 24).all (fun c => isCode c || c.before args0 about1) = true := by decide +kernel
set_option maxRecDepth 65536 in
theorem w_t4 : (((words1.drop 24).drop 24).drop 24).all (fun c => isCode c || c.before args0 about1) = true := by decide +kernel
theorem w_tables : (allAtoms (Jvm.Cond.code x code maxLocals ret :: tables_1)).before args0 about1 = true := by
  rw [allAtoms_all]
  show words1.all (fun c => c.before args0 about1) = true
  refine all_split ?_ w_codes
  rw [← List.take_append_drop 24 words1, List.all_append, w_t1, ← List.take_append_drop 24 (words1.drop 24), List.all_append, w_t2, ← List.take_append_drop 24 ((words1.drop 24).drop 24), List.all_append, w_t3, w_t4]
  rfl
set_option maxRecDepth 65536 in
theorem w_rest : rest_1_c.before args0 about1 = true := by decide +kernel
set_option maxRecDepth 65536 in
theorem w_case : (Jvm.Cond.and given_1 narrow_1).before args0 about1 = true := by decide +kernel
set_option maxRecDepth 65536 in
theorem w_consts : constsHeld consts_1 about1 := Jvm.Lit.constsHeldB_iff.mp (by decide +kernel)
theorem w_applies : (headSpec (Jvm.Cond.code x code maxLocals ret :: tables_1) room_1).applies x e0.platform about1 = true :=
  (Spec.applies_iff w_frames).mpr ⟨w_running, w_runnable, w_alone, w_named, w_hears, w_ripe, w_room, w_tables⟩
theorem atStart : AtStart classFile x code maxLocals ret World_1 tables_1 room_1 Calls_1 rest_1 Pre_1 launch0 p0 e0 about1 theMethod args0 below0 :=
  ⟨lists_1, trivial, launch0.admits_env _ _ _, launch0.least_env, fairChoices_fair.cas, fairChoices_fair.clock, w_frames, w_args, w_heap, w_applies, ⟨w_consts, trivial⟩, w_rest, w_case⟩
end start1
theorem witness_1 : WitnessClaimed_1 := ⟨start1.p0, start1.e0, start1.about1, start1.theMethod, start1.args0, start1.below0, start1.atStart⟩
end Jvm.Pilot.@@N@@
