import JvmDerived
import JvmDerived.Pilot.@@N@@Statement
import JvmDerived.Pilot.@@N@@Code
set_option linter.unusedVariables false
set_option linter.unusedSimpArgs false
/- laws to paste: Road.backV, Road.lenW, Road.chN, Road.eqW, Road.codOf (cut by pick.py; bodies as the Statement names them) -/
namespace Jvm.Pilot.@@N@@
namespace StrChars
open Jvm Sem ClassFile Op Lib Jvm.Stand Jvm.Free.XT Jvm.Free.ALB Jvm.Free.JM Jvm.Free
open Jvm.Lib.Cold (StaticIs)
/-- a char array whose places are chars -/
def Ch (a : Addr) (A : Cell) (U : State) : Prop := Arr .char a A U ∧ Typed .char A
theorem Ch.mv {a : Addr} {A : Cell} {U U' : State} (h : Ch a A U) (hal : U.vm.Alike U'.vm) (hh : U'.heap = U.heap) : Ch a A U' := ⟨h.1.mv hal hh, h.2⟩
theorem Ch.keep {a : Addr} {A : Cell} {U U' : State} (h : Ch a A U) (hal : U.vm.Alike U'.vm) (hk : U'.heap[a]? = some A) : Ch a A U' := ⟨h.1.keep hal hk, h.2⟩
/-- what place i of a char[]'s cell holds -/
def cv (A : Cell) (i : Nat) : Int32 := match A.slots[i]? with | some (.int x) => x | _ => 0
theorem Ch.get {a : Addr} {A : Cell} {U : State} (h : Ch a A U) {i : Nat} (hi : i < A.slots.size) : A.slots[i]? = some (.int (cv A i)) := by
  have e := Array.getElem?_eq_getElem hi
  have f := h.2 i _ e
  unfold cv; rw [e]
  generalize A.slots[i] = v at f
  cases v <;> simp [fits] at f ⊢
/-- the byte that i2b leaves of a char -/
def lo8 (x : Int32) : Int32 := x.toInt8.toInt32
theorem fits_lo8 (y : Int32) : fits .byte (.int (lo8 y)) = true := by
  have h1 := y.toInt8.le_toInt
  have h2 := y.toInt8.toInt_lt
  simp only [lo8, fits, Bool.and_eq_true, decide_eq_true_eq, Int32.le_iff_toInt_le, Int8.toInt_toInt32, show (-128 : Int32).toInt = -128 from by decide, show (127 : Int32).toInt = 127 from by decide]
  omega
/-- A' is A but that each place j of lo .. hi - 1 holds f j -/
def Laid (A A' : Cell) (lo hi : Nat) (f : Nat → Value) : Prop := A'.cls = A.cls ∧ A'.vm = A.vm ∧ A'.slots.size = A.slots.size ∧ ∀ i, A'.slots[i]? = if lo ≤ i ∧ i < hi then some (f i) else A.slots[i]?
theorem Laid.zero (A : Cell) (lo : Nat) (f : Nat → Value) : Laid A A lo (lo + 0) f := ⟨rfl, rfl, rfl, fun i => by rw [if_neg (by omega)]⟩
theorem Laid.step {A Ak : Cell} {lo k : Nat} {f : Nat → Value} {v : Value} (h : Laid A Ak lo k f) (hlo : lo ≤ k) (hk : k < Ak.slots.size) (hv : v = f k) : Laid A (Ak.setSlot k v) lo (k + 1) f := by
  refine ⟨h.1, h.2.1, by simpa [Cell.setSlot] using h.2.2.1, fun i => ?_⟩
  by_cases e : k = i
  · subst e; rw [Cell.slots_setSlot_self v hk, if_pos (by omega), hv]
  · rw [Cell.slots_setSlot_ne v e, h.2.2.2 i]
    by_cases q : lo ≤ i ∧ i < k
    · rw [if_pos q, if_pos (by omega)]
    · rw [if_neg q, if_neg (by omega)]
def U16 : String := "java/lang/StringUTF16"
namespace Cmp5
def yN : MethodName := ⟨"java/lang/StringUTF16", "compress", "([CI[BII)I"⟩
abbrev yB : ByteArray := jdk_52_method_21_code
theorem d0 : decode yB 0 = .ok (.iconst 0, 1) := by decide +kernel
theorem d1 : decode yB 1 = .ok (.istore 5, 2) := by decide +kernel
theorem d3 : decode yB 3 = .ok (.iload 5, 2) := by decide +kernel
theorem d5 : decode yB 5 = .ok (.iload 4, 2) := by decide +kernel
theorem d7 : decode yB 7 = .ok (.if_icmp (.ge) 37, 3) := by decide +kernel
theorem d10 : decode yB 10 = .ok (.aload_n 0, 1) := by decide +kernel
theorem d11 : decode yB 11 = .ok (.iload_n 1, 1) := by decide +kernel
theorem d12 : decode yB 12 = .ok (.caload, 1) := by decide +kernel
theorem d13 : decode yB 13 = .ok (.istore 6, 2) := by decide +kernel
theorem d15 : decode yB 15 = .ok (.iload 6, 2) := by decide +kernel
theorem d17 : decode yB 17 = .ok (.sipush 255, 3) := by decide +kernel
theorem d20 : decode yB 20 = .ok (.if_icmp (.le) 6, 3) := by decide +kernel
theorem d26 : decode yB 26 = .ok (.aload_n 2, 1) := by decide +kernel
theorem d27 : decode yB 27 = .ok (.iload_n 3, 1) := by decide +kernel
theorem d28 : decode yB 28 = .ok (.iload 6, 2) := by decide +kernel
theorem d30 : decode yB 30 = .ok (.i2b, 1) := by decide +kernel
theorem d31 : decode yB 31 = .ok (.bastore, 1) := by decide +kernel
theorem d32 : decode yB 32 = .ok (.iinc 1 1, 3) := by decide +kernel
theorem d35 : decode yB 35 = .ok (.iinc 3 1, 3) := by decide +kernel
theorem d38 : decode yB 38 = .ok (.iinc 5 1, 3) := by decide +kernel
theorem d41 : decode yB 41 = .ok (.goto (-38), 3) := by decide +kernel
theorem d44 : decode yB 44 = .ok (.iload 4, 2) := by decide +kernel
theorem d46 : decode yB 46 = .ok (.ireturn, 1) := by decide +kernel
def site : List Cond := []
def tab : Cond := tabOf yN yB 7 (some .int) site
def P (b : Addr) (A : Cell) (d : Addr) (B : Cell) (o q len : Nat) (args : Array Value) (s : State) : Prop := args = #[.ref b, .int (Int32.ofNat o), .ref d, .int (Int32.ofNat q), .int (Int32.ofNat len)] ∧ Ch b A s ∧ Arr .byte d B s ∧ b ≠ d ∧ o + len ≤ A.slots.size ∧ q + len ≤ B.slots.size ∧ ∀ i, i < len → ¬ 255 < cv A (o + i)
def E (b : Addr) (A : Cell) (d : Addr) (B : Cell) (o q len : Nat) (r : Option Value) (s u : State) : Prop := r = some (.int (Int32.ofNat len)) ∧ ∃ B', Put d B' s u ∧ Laid B B' q (q + len) (fun j => Value.int (lo8 (cv A (o + (j - q)))))
/-- no char of the range above 255: len; the places written hold each char's low byte -/
theorem law (l : Launch) (b : Addr) (A : Cell) (d : Addr) (B : Cell) (o q len : Nat) : Law l yN 5 5 0 0 yB 7 (some .int) site (P b A d B o q len) (E b A d B o q len) (copyLocs d q len) 0 0 := by
  refine Law.of_walk (plainFor_of_name (by decide +kernel)) (by decide +kernel) (by decide +kernel) (by decide) (fun _ _ h => by rw [h.1]; rfl) (fun _ U U' hal hh h => ⟨h.1, h.2.1.mv hal hh, h.2.2.1.mv hal hh, h.2.2.2⟩) (fun r U U' V V' h1 hal h2 h => ⟨h.1, h.2.elim fun B' q => ⟨B', q.1.mv h1 h2, q.2⟩⟩) ?_
  intro p e s m args below meth c s₁ X0 hexec hbytes hml hret hlk hnm hown hh0 W hP
  obtain ⟨rfl, hA, hB, hne, l1, l2, hp⟩ := hP
  have c1 : Steps p.tables e below (s₁.setTop (entryFrame m #[.ref b, .int (Int32.ofNat o), .ref d, .int (Int32.ofNat q), .int (Int32.ofNat len)] 7)) (s₁.setTop (mkF m 0 #[.val (.ref b), .val (.int (Int32.ofNat o)), .val (.ref d), .val (.int (Int32.ofNat q)), .val (.int (Int32.ofNat len)), .unset, .unset] [])) := entry rfl
  have hA0 := hA.1.mv X0.warmed.alike hh0
  have hB0 := hB.mv X0.warmed.alike hh0
  have a31 := hA.1.2.2.2
  have c2 : Steps p.tables e below (s₁.setTop (entryFrame m #[.ref b, .int (Int32.ofNat o), .ref d, .int (Int32.ofNat q), .int (Int32.ofNat len)] 7)) (s₁.setTop (mkF m 3 #[.val (.ref b), .val (.int (Int32.ofNat o)), .val (.ref d), .val (.int (Int32.ofNat q)), .val (.int (Int32.ofNat len)), .val (.int 0), .unset] [])) := c1.trans (by
    refine iconstV X0.here hexec rfl 0 (hb hbytes d0) (by decide) ?_
    refine XS.istore X0.here hexec rfl (hb hbytes d1) rfl rfl ?_
    exact Steps.refl _)
  have loop : ∀ (r i : Nat), i + r = len → ∀ (z : Slot), (z = .unset ∨ ∃ w, z = .val w ∧ w.category = 1) → ∀ (Tl : State) (Bk : Cell), Stand p l e { frames := 0, locals := 0, cells := 0, slots := 0 } s m #[.ref b, .int (Int32.ofNat o), .ref d, .int (Int32.ofNat q), .int (Int32.ofNat len)] below meth c Tl ([] ++ copyLocs d q i) 0 0 → Put d Bk s₁ Tl → Laid B Bk q (q + i) (fun j => Value.int (lo8 (cv A (o + (j - q))))) →
      Steps p.tables e below (s₁.setTop (entryFrame m #[.ref b, .int (Int32.ofNat o), .ref d, .int (Int32.ofNat q), .int (Int32.ofNat len)] 7)) (Tl.setTop (mkF m 3 #[.val (.ref b), .val (.int (Int32.ofNat (o + i))), .val (.ref d), .val (.int (Int32.ofNat (q + i))), .val (.int (Int32.ofNat len)), .val (.int (Int32.ofNat i)), z] [])) → ∃ (T' : State) (B' : Cell) (z' : Slot), Stand p l e { frames := 0, locals := 0, cells := 0, slots := 0 } s m #[.ref b, .int (Int32.ofNat o), .ref d, .int (Int32.ofNat q), .int (Int32.ofNat len)] below meth c T' ([] ++ copyLocs d q len) 0 0 ∧ Put d B' s₁ T' ∧ Laid B B' q (q + len) (fun j => Value.int (lo8 (cv A (o + (j - q))))) ∧
      Steps p.tables e below (s₁.setTop (entryFrame m #[.ref b, .int (Int32.ofNat o), .ref d, .int (Int32.ofNat q), .int (Int32.ofNat len)] 7)) (T'.setTop (mkF m 3 #[.val (.ref b), .val (.int (Int32.ofNat (o + len))), .val (.ref d), .val (.int (Int32.ofNat (q + len))), .val (.int (Int32.ofNat len)), .val (.int (Int32.ofNat len)), z'] [])) := by
    intro r
    induction r with
    | zero =>
      intro i hi z hz Tl Bk Xl pl fl cl
      have hil : i = len := by omega
      rw [hil] at Xl fl cl
      exact ⟨Tl, Bk, z, Xl, pl, fl, cl⟩
    | succ r ih =>
      intro i hi z hz Tl Bk Xl pl fl cl
      have all := X0.warmed.alike.symm.trans Xl.warmed.alike
      have hAl := hA0.keep all (pl.other hne hA0.1)
      have hBk := hB0.like all pl.1 fl.1 fl.2.1 fl.2.2.1
      have hlt : q + i < Bk.slots.size := by rw [fl.2.2.1]; omega
      have c3 : Steps p.tables e below (s₁.setTop (entryFrame m #[.ref b, .int (Int32.ofNat o), .ref d, .int (Int32.ofNat q), .int (Int32.ofNat len)] 7)) (Tl.setTop (mkF m 12 #[.val (.ref b), .val (.int (Int32.ofNat (o + i))), .val (.ref d), .val (.int (Int32.ofNat (q + i))), .val (.int (Int32.ofNat len)), .val (.int (Int32.ofNat i)), z] [.int (Int32.ofNat (o + i)), .ref b])) := cl.trans (by
        refine XS.iload Xl.here hexec rfl (hb hbytes d3) rfl ?_
        refine XS.iload Xl.here hexec rfl (hb hbytes d5) rfl ?_
        refine XS.icmpNo Xl.here hexec rfl (hb hbytes d7) rfl (ii_ge_f (lt32 (by omega) (by omega))) ?_
        refine XS.aloadN Xl.here hexec rfl (hb hbytes d10) rfl rfl ?_
        refine XS.iloadN Xl.here hexec rfl (hb hbytes d11) rfl ?_
        exact Steps.refl _)
      have c4 : Steps p.tables e below (s₁.setTop (entryFrame m #[.ref b, .int (Int32.ofNat o), .ref d, .int (Int32.ofNat q), .int (Int32.ofNat len)] 7)) (Tl.setTop (mkF m 13 #[.val (.ref b), .val (.int (Int32.ofNat (o + i))), .val (.ref d), .val (.int (Int32.ofNat (q + i))), .val (.int (Int32.ofNat len)), .val (.int (Int32.ofNat i)), z] [.int (cv A (o + i))])) := c3.trans (by
        refine Xl.aget hexec hAl rfl (hA.get (i := o + i) (by omega)) rfl rfl (hb hbytes d12) ?_
        exact Steps.refl _)
      have c5 : Steps p.tables e below (s₁.setTop (entryFrame m #[.ref b, .int (Int32.ofNat o), .ref d, .int (Int32.ofNat q), .int (Int32.ofNat len)] 7)) (Tl.setTop (mkF m 15 #[.val (.ref b), .val (.int (Int32.ofNat (o + i))), .val (.ref d), .val (.int (Int32.ofNat (q + i))), .val (.int (Int32.ofNat len)), .val (.int (Int32.ofNat i)), .val (.int (cv A (o + i)))] [])) := c4.trans (by
        refine XS.istoreS Xl.here hexec rfl (hb hbytes d13) rfl rfl hz ?_
        exact Steps.refl _)
      have c6 : Steps p.tables e below (s₁.setTop (entryFrame m #[.ref b, .int (Int32.ofNat o), .ref d, .int (Int32.ofNat q), .int (Int32.ofNat len)] 7)) (Tl.setTop (mkF m 31 #[.val (.ref b), .val (.int (Int32.ofNat (o + i))), .val (.ref d), .val (.int (Int32.ofNat (q + i))), .val (.int (Int32.ofNat len)), .val (.int (Int32.ofNat i)), .val (.int (cv A (o + i)))] [.int (lo8 (cv A (o + i))), .int (Int32.ofNat (q + i)), .ref d])) := c5.trans (by
        refine XS.iload Xl.here hexec rfl (hb hbytes d15) rfl ?_
        refine sipushV Xl.here hexec rfl 255 (hb hbytes d17) (by decide) ?_
        refine XS.icmpYes Xl.here hexec rfl (pc0 := 20) rfl (hb hbytes d20) rfl (ii_le_t (hp i (by omega))) (by decide) rfl ?_
        refine XS.aloadN Xl.here hexec rfl (hb hbytes d26) rfl rfl ?_
        refine XS.iloadN Xl.here hexec rfl (hb hbytes d27) rfl ?_
        refine XS.iload Xl.here hexec rfl (hb hbytes d28) rfl ?_
        refine i2b Xl.here hexec rfl (hb hbytes d30) rfl ?_
        exact Steps.refl _)
      obtain ⟨T7, X7, p7, st7⟩ := Xl.aput hexec hBk rfl hlt rfl (fits_lo8 (cv A (o + i))) (g := (mkF m 31 #[.val (.ref b), .val (.int (Int32.ofNat (o + i))), .val (.ref d), .val (.int (Int32.ofNat (q + i))), .val (.int (Int32.ofNat len)), .val (.int (Int32.ofNat i)), .val (.int (cv A (o + i)))] [.int (lo8 (cv A (o + i))), .int (Int32.ofNat (q + i)), .ref d])) rfl (rest := []) rfl (hb hbytes d31)
      have c8 : Steps p.tables e below (s₁.setTop (entryFrame m #[.ref b, .int (Int32.ofNat o), .ref d, .int (Int32.ofNat q), .int (Int32.ofNat len)] 7)) (T7.setTop (mkF m 32 #[.val (.ref b), .val (.int (Int32.ofNat (o + i))), .val (.ref d), .val (.int (Int32.ofNat (q + i))), .val (.int (Int32.ofNat len)), .val (.int (Int32.ofNat i)), .val (.int (cv A (o + i)))] [])) := c6.trans (st7 _ (Steps.refl _))
      have c9 : Steps p.tables e below (s₁.setTop (entryFrame m #[.ref b, .int (Int32.ofNat o), .ref d, .int (Int32.ofNat q), .int (Int32.ofNat len)] 7)) (T7.setTop (mkF m 3 #[.val (.ref b), .val (.int (Int32.ofNat (o + i) + 1)), .val (.ref d), .val (.int (Int32.ofNat (q + i) + 1)), .val (.int (Int32.ofNat len)), .val (.int (Int32.ofNat i + 1)), .val (.int (cv A (o + i)))] [])) := c8.trans (by
        refine iincV X7.here hexec rfl 1 (hb hbytes d32) (by decide) rfl rfl ?_
        refine iincV X7.here hexec rfl 1 (hb hbytes d35) (by decide) rfl rfl ?_
        refine iincV X7.here hexec rfl 1 (hb hbytes d38) (by decide) rfl rfl ?_
        refine XS.goto X7.here hexec rfl (pc0 := 41) rfl (hb hbytes d41) (by decide) rfl ?_
        exact Steps.refl _)
      have c10 : Steps p.tables e below (s₁.setTop (entryFrame m #[.ref b, .int (Int32.ofNat o), .ref d, .int (Int32.ofNat q), .int (Int32.ofNat len)] 7)) (T7.setTop (mkF m 3 #[.val (.ref b), .val (.int (Int32.ofNat (o + (i + 1)))), .val (.ref d), .val (.int (Int32.ofNat (q + (i + 1)))), .val (.int (Int32.ofNat len)), .val (.int (Int32.ofNat (i + 1))), .val (.int (cv A (o + i)))] [])) := by
        have := c9
        rw [succ32, succ32, succ32] at this
        exact this
      exact ih (i + 1) (by omega) _ (Or.inr ⟨_, rfl, rfl⟩) T7 _ (by rw [copyLocs_step, ← List.append_assoc]; exact X7) (pl.trans p7) (fl.step (by omega) hlt (by simp)) c10
  obtain ⟨T9, B9, z9, X9, p9, f9, g9⟩ := loop len 0 (by omega) .unset (Or.inl rfl) s₁ B (by simpa [copyLocs] using X0) ⟨hB0.1, fun _ _ => rfl, rfl⟩ (Laid.zero _ _ _) c2
  have c11 : Steps p.tables e below (s₁.setTop (entryFrame m #[.ref b, .int (Int32.ofNat o), .ref d, .int (Int32.ofNat q), .int (Int32.ofNat len)] 7)) (T9.setTop (mkF m 46 #[.val (.ref b), .val (.int (Int32.ofNat (o + len))), .val (.ref d), .val (.int (Int32.ofNat (q + len))), .val (.int (Int32.ofNat len)), .val (.int (Int32.ofNat len)), z9] [.int (Int32.ofNat len)])) := g9.trans (by
    refine XS.iload X9.here hexec rfl (hb hbytes d3) rfl ?_
    refine XS.iload X9.here hexec rfl (hb hbytes d5) rfl ?_
    refine XS.icmpYes X9.here hexec rfl (pc0 := 7) rfl (hb hbytes d7) rfl (ii_ge_t (nlt32 (by omega) (Nat.le_refl _))) (by decide) rfl ?_
    refine XS.iload X9.here hexec rfl (hb hbytes d44) rfl ?_
    exact Steps.refl _)
  exact ⟨T9, some (.int (Int32.ofNat len)), _, _, _, X9, by simp, rfl, rfl, (fun h => by cases h), ⟨rfl, B9, p9.from hh0, f9⟩, fun fs hl => c11.trans (X9.ireturnOut hexec hret rfl (Or.inl rfl) (hb hbytes d46) hl)⟩
end Cmp5
namespace Cmp3
def yN : MethodName := ⟨"java/lang/StringUTF16", "compress", "([CII)[B"⟩
abbrev yB : ByteArray := jdk_52_method_16_code
theorem d0 : decode yB 0 = .ok (.iload_n 2, 1) := by decide +kernel
theorem d1 : decode yB 1 = .ok (.newarray .byte, 2) := by decide +kernel
theorem d3 : decode yB 3 = .ok (.astore_n 3, 1) := by decide +kernel
theorem d4 : decode yB 4 = .ok (.aload_n 0, 1) := by decide +kernel
theorem d5 : decode yB 5 = .ok (.iload_n 1, 1) := by decide +kernel
theorem d6 : decode yB 6 = .ok (.aload_n 3, 1) := by decide +kernel
theorem d7 : decode yB 7 = .ok (.iconst 0, 1) := by decide +kernel
theorem d8 : decode yB 8 = .ok (.iload_n 2, 1) := by decide +kernel
theorem d9 : decode yB 9 = .ok (.invokestatic 115, 3) := by decide +kernel
theorem d12 : decode yB 12 = .ok (.istore 4, 2) := by decide +kernel
theorem d14 : decode yB 14 = .ok (.iload 4, 2) := by decide +kernel
theorem d16 : decode yB 16 = .ok (.iload_n 2, 1) := by decide +kernel
theorem d17 : decode yB 17 = .ok (.if_icmp (.eq) 40, 3) := by decide +kernel
theorem d57 : decode yB 57 = .ok (.aload_n 3, 1) := by decide +kernel
theorem d58 : decode yB 58 = .ok (.areturn, 1) := by decide +kernel
def site : List Cond := [.arrayClass .byte, Cmp5.tab] ++ staticW U16 115 Cmp5.yN
def tab : Cond := tabOf yN yB 6 (some (.array .byte)) site
def P (b : Addr) (A : Cell) (o len : Nat) (args : Array Value) (s : State) : Prop := args = #[.ref b, .int (Int32.ofNat o), .int (Int32.ofNat len)] ∧ Ch b A s ∧ o + len ≤ A.slots.size ∧ len ≤ 536870912 ∧ ∀ i, i < len → ¬ 255 < cv A (o + i)
def E (b : Addr) (A : Cell) (o len : Nat) (r : Option Value) (s u : State) : Prop := NewArr .byte "[B" len (fun j => .int (lo8 (cv A (o + j)))) r s u ∧ u.heap.size = s.heap.size + 1
/-- no char of the range above 255: a new byte[] of their low bytes -/
theorem law (l : Launch) (b : Addr) (A : Cell) (o len : Nat) : Law l yN 3 3 1 18 yB 6 (some (.array .byte)) site (P b A o len) (E b A o len) [] 1 len := by
  refine Law.of_walk (plainFor_of_name (by decide +kernel)) (by decide +kernel) (by decide +kernel) (by decide) (fun _ _ h => by rw [h.1]; rfl) (fun _ U U' hal hh h => ⟨h.1, h.2.1.mv hal hh, h.2.2⟩) (fun r U U' V V' h1 hal h2 h => ⟨NewArr.mv r U U' V V' h1 hal h2 h.1, by rw [h1, h2]; exact h.2⟩) ?_
  intro p e s m args below meth c s₁ X0 hexec hbytes hml hret hlk hnm hown hh0 W hP
  obtain ⟨rfl, hA, l1, l2, hp⟩ := hP
  have a31 := hA.1.2.2.2
  have c1 : Steps p.tables e below (s₁.setTop (entryFrame m #[.ref b, .int (Int32.ofNat o), .int (Int32.ofNat len)] 6)) (s₁.setTop (mkF m 0 #[.val (.ref b), .val (.int (Int32.ofNat o)), .val (.int (Int32.ofNat len)), .unset, .unset, .unset] [])) := entry rfl
  have c2 : Steps p.tables e below (s₁.setTop (entryFrame m #[.ref b, .int (Int32.ofNat o), .int (Int32.ofNat len)] 6)) (s₁.setTop (mkF m 1 #[.val (.ref b), .val (.int (Int32.ofNat o)), .val (.int (Int32.ofNat len)), .unset, .unset, .unset] [.int (Int32.ofNat len)])) := c1.trans (by
    refine XS.iloadN X0.here hexec rfl (hb hbytes d0) rfl ?_
    exact Steps.refl _)
  obtain ⟨T3, B3, X3, ba3, bs3, bv3, bh3, bf3, st3⟩ := X0.anew hexec (atype := .byte) (wk W (.arrayClass .byte)) rfl (by show len * 1 ≤ _; omega) (by omega) (g := (mkF m 1 #[.val (.ref b), .val (.int (Int32.ofNat o)), .val (.int (Int32.ofNat len)), .unset, .unset, .unset] [.int (Int32.ofNat len)])) rfl (hb hbytes d1) (rest := []) rfl (Nat.le_refl _) (by show 0 + len ≤ len; omega)
  rw [hh0] at ba3 st3
  have kp3 : XT.Kept s T3 := (XT.Kept.of_eq hh0).push bh3
  have hA3 := hA.keep X3.warmed.alike (kp3 _ _ hA.1.1)
  have hne : b ≠ s.heap.size := hA.1.ne
  have c4 : Steps p.tables e below (s₁.setTop (entryFrame m #[.ref b, .int (Int32.ofNat o), .int (Int32.ofNat len)] 6)) (T3.setTop (mkF m 3 #[.val (.ref b), .val (.int (Int32.ofNat o)), .val (.int (Int32.ofNat len)), .unset, .unset, .unset] [.ref s.heap.size])) := c2.trans (st3 _ (Steps.refl _))
  have c5 : Steps p.tables e below (s₁.setTop (entryFrame m #[.ref b, .int (Int32.ofNat o), .int (Int32.ofNat len)] 6)) (T3.setTop (mkF m 9 #[.val (.ref b), .val (.int (Int32.ofNat o)), .val (.int (Int32.ofNat len)), .val (.ref s.heap.size), .unset, .unset] [.int (Int32.ofNat len), .int 0, .ref s.heap.size, .int (Int32.ofNat o), .ref b])) := c4.trans (by
    refine XS.astoreN X3.here hexec rfl (hb hbytes d3) rfl rfl rfl ?_
    refine XS.aloadN X3.here hexec rfl (hb hbytes d4) rfl rfl ?_
    refine XS.iloadN X3.here hexec rfl (hb hbytes d5) rfl ?_
    refine XS.aloadN X3.here hexec rfl (hb hbytes d6) rfl rfl ?_
    refine iconstV X3.here hexec rfl 0 (hb hbytes d7) (by decide) ?_
    refine XS.iloadN X3.here hexec rfl (hb hbytes d8) rfl ?_
    exact Steps.refl _)
  obtain ⟨v6, T6, X6, E6, g6⟩ := X3.callS hexec (Cmp5.law l b A s.heap.size B3 o 0 len) hown (wks W (staticW U16 115 Cmp5.yN)) (wk W Cmp5.tab) (W := 0) (Nat.le_of_ble_eq_true rfl) (Nat.le_of_ble_eq_true rfl) (Nat.le_refl _) (by show 0 + len + 0 ≤ len; omega) (g := (mkF m 9 #[.val (.ref b), .val (.int (Int32.ofNat o)), .val (.int (Int32.ofNat len)), .val (.ref s.heap.size), .unset, .unset] [.int (Int32.ofNat len), .int (Int32.ofNat 0), .ref s.heap.size, .int (Int32.ofNat o), .ref b])) rfl (by rw [hml]; rfl) c5 (argsL := [.ref b, .int (Int32.ofNat o), .ref s.heap.size, .int (Int32.ofNat 0), .int (Int32.ofNat len)]) (rest := []) rfl rfl (by show 2 * 0 + 0 ≤ _; decide) (hb hbytes d9) (⟨rfl, hA3, ba3, hne, l1, by rw [bs3]; simp, hp⟩)
  obtain ⟨rfl, B6, p6, f6⟩ := E6
  have c7 : Steps p.tables e below (s₁.setTop (entryFrame m #[.ref b, .int (Int32.ofNat o), .int (Int32.ofNat len)] 6)) (T6.setTop (mkF m 12 #[.val (.ref b), .val (.int (Int32.ofNat o)), .val (.int (Int32.ofNat len)), .val (.ref s.heap.size), .unset, .unset] [.int (Int32.ofNat len)])) := g6
  have c8 : Steps p.tables e below (s₁.setTop (entryFrame m #[.ref b, .int (Int32.ofNat o), .int (Int32.ofNat len)] 6)) (T6.setTop (mkF m 58 #[.val (.ref b), .val (.int (Int32.ofNat o)), .val (.int (Int32.ofNat len)), .val (.ref s.heap.size), .val (.int (Int32.ofNat len)), .unset] [.ref s.heap.size])) := c7.trans (by
    refine XS.istore X6.here hexec rfl (hb hbytes d12) rfl rfl ?_
    refine XS.iload X6.here hexec rfl (hb hbytes d14) rfl ?_
    refine XS.iloadN X6.here hexec rfl (hb hbytes d16) rfl ?_
    refine XS.icmpYes X6.here hexec rfl (pc0 := 17) rfl (hb hbytes d17) rfl (ii_eq_t rfl) (by decide) rfl ?_
    refine XS.aloadN X6.here hexec rfl (hb hbytes d57) rfl rfl ?_
    exact Steps.refl _)
  have X8 := X6.wide (L' := []) (cells' := 1) (slots' := len) (fun x hx hlt => by
    simp only [List.nil_append, copyLocs, List.mem_map, List.mem_range] at hx
    obtain ⟨i, -, rfl⟩ := hx
    exact absurd hlt (Nat.lt_irrefl _)) (Nat.le_refl _) (by omega)
  exact ⟨T6, some (.ref s.heap.size), _, _, _, X8, rfl, rfl, rfl, (fun h => by cases h), ⟨⟨rfl, B6, ba3.like (X3.warmed.alike.symm.trans X6.warmed.alike) p6.1 f6.1 f6.2.1 f6.2.2.1, f6.2.1.trans bv3, by rw [X6.warmed.alike.findClass, f6.1]; exact bf3, by rw [f6.2.2.1, bs3]; simp, fun j hj => by rw [f6.2.2.2 j, if_pos (by omega)]; rfl, kp3.put p6 (Nat.le_refl _)⟩, by rw [p6.2.2, bh3, hh0]; simp⟩, fun fs hl => c8.trans (X8.areturnOut hexec rfl hret rfl (hb hbytes d58) hl)⟩
end Cmp3
namespace CodL
def yN : MethodName := ⟨"java/lang/StringUTF16", "coderFromArrayLen", "([BI)B"⟩
abbrev yB : ByteArray := jdk_52_method_15_code
theorem d0 : decode yB 0 = .ok (.iload_n 1, 1) := by decide +kernel
theorem d1 : decode yB 1 = .ok (.aload_n 0, 1) := by decide +kernel
theorem d2 : decode yB 2 = .ok (.arraylength, 1) := by decide +kernel
theorem d3 : decode yB 3 = .ok (.isub, 1) := by decide +kernel
theorem d4 : decode yB 4 = .ok (.bipush 31, 2) := by decide +kernel
theorem d6 : decode yB 6 = .ok (.iushr, 1) := by decide +kernel
theorem d7 : decode yB 7 = .ok (.i2b, 1) := by decide +kernel
theorem d8 : decode yB 8 = .ok (.ireturn, 1) := by decide +kernel
def site : List Cond := []
def tab : Cond := tabOf yN yB 2 (some .byte) site
def P (d : Addr) (B : Cell) (args : Array Value) (s : State) : Prop := args = #[.ref d, .int (Int32.ofNat B.slots.size)] ∧ Arr .byte d B s
def E (r : Option Value) (s u : State) : Prop := XT.PureE (some (.int 0)) r s u
/-- an array as long as the number of chars: LATIN1 -/
theorem law (l : Launch) (d : Addr) (B : Cell) : Law l yN 2 2 0 0 yB 2 (some .byte) site (P d B) E [] 0 0 := by
  refine Law.of_walk (plainFor_of_name (by decide +kernel)) (by decide +kernel) (by decide +kernel) (by decide) (fun _ _ h => by rw [h.1]; rfl) (fun _ U U' hal hh h => ⟨h.1, h.2.mv hal hh⟩) (fun r U U' V V' h1 hal h2 h => XT.PureE.mv r U U' V V' h1 hal h2 h) ?_
  intro p e s m args below meth c s₁ X0 hexec hbytes hml hret hlk hnm hown hh0 W hP
  obtain ⟨rfl, hB⟩ := hP
  have hB0 := hB.mv X0.warmed.alike hh0
  have c1 : Steps p.tables e below (s₁.setTop (entryFrame m #[.ref d, .int (Int32.ofNat B.slots.size)] 2)) (s₁.setTop (mkF m 0 #[.val (.ref d), .val (.int (Int32.ofNat B.slots.size))] [])) := entry rfl
  have c2 : Steps p.tables e below (s₁.setTop (entryFrame m #[.ref d, .int (Int32.ofNat B.slots.size)] 2)) (s₁.setTop (mkF m 2 #[.val (.ref d), .val (.int (Int32.ofNat B.slots.size))] [.ref d, .int (Int32.ofNat B.slots.size)])) := c1.trans (by
    refine XS.iloadN X0.here hexec rfl (hb hbytes d0) rfl ?_
    refine XS.aloadN X0.here hexec rfl (hb hbytes d1) rfl rfl ?_
    exact Steps.refl _)
  have c3 : Steps p.tables e below (s₁.setTop (entryFrame m #[.ref d, .int (Int32.ofNat B.slots.size)] 2)) (s₁.setTop (mkF m 8 #[.val (.ref d), .val (.int (Int32.ofNat B.slots.size))] [.int (lo8 (ushr (Int32.ofNat B.slots.size - Int32.ofNat B.slots.size) 31))])) := c2.trans (by
    refine X0.alen hexec hB0 rfl rfl (hb hbytes d2) ?_
    refine XS.isub X0.here hexec rfl (hb hbytes d3) rfl ?_
    refine bipushV X0.here hexec rfl 31 (hb hbytes d4) (by decide) ?_
    refine iushr X0.here hexec rfl (hb hbytes d6) rfl ?_
    refine i2b X0.here hexec rfl (hb hbytes d7) rfl ?_
    exact Steps.refl _)
  have e0 : lo8 (ushr (Int32.ofNat B.slots.size - Int32.ofNat B.slots.size) 31) = 0 := by rw [Int32.sub_self]; decide
  rw [e0] at c3
  exact ⟨s₁, some (.int 0), _, _, _, X0, rfl, rfl, rfl, (fun h => by cases h), ⟨rfl, hh0⟩, fun fs hl => c3.trans (X0.ireturnOut hexec hret rfl (Or.inr (Or.inr (Or.inl rfl))) (hb hbytes d8) hl)⟩
end CodL
/-- the String at a is Latin-1 over a new byte[] (the heap's one new cell): the low bytes of the len chars of A from o on; every cell but a is kept -/
def Got (a : Addr) (D : Cell) (fV fC : Field) (A : Cell) (o len : Nat) (r : Option Value) (s u : State) : Prop := r = none ∧ ∃ D' V : Cell, Blank "java/lang/String" a D' u ∧ Same D D' [fV.slot, fC.slot] ∧ D'.slots[fV.slot]? = some (.ref s.heap.size) ∧ D'.slots[fC.slot]? = some (.int 0) ∧ Arr .byte s.heap.size V u ∧ V.vm = .none ∧ u.vm.findClass "[B" = some V.cls ∧ V.slots.size = len ∧ (∀ j, j < len → V.slots[j]? = some (.int (lo8 (cv A (o + j))))) ∧ (∀ (y : Addr) (c : Cell), y ≠ a → s.heap[y]? = some c → u.heap[y]? = some c) ∧ u.heap.size = s.heap.size + 1
theorem Got.mv {a : Addr} {D A : Cell} {fV fC : Field} {o len : Nat} : ∀ r (U U' V V' : State), U'.heap = U.heap → V.vm.Alike V'.vm → V'.heap = V.heap → Got a D fV fC A o len r U V → Got a D fV fC A o len r U' V' :=
  fun r U U' V V' h1 hal h2 ⟨e0, D', X, a1, a2, a3, a4, a5, a6, a7, a8, a9, a10, a11⟩ => ⟨e0, D', X, a1.mv hal h2, a2, by rw [h1]; exact a3, a4, by rw [h1]; exact a5.mv hal h2, a6, by rw [hal.findClass]; exact a7, a8, a9, by rw [h1, h2]; exact a10, by rw [h1, h2]; exact a11⟩
namespace New4
def yN : MethodName := ⟨"java/lang/String", "<init>", "([CIILjava/lang/Void;)V"⟩
abbrev yB : ByteArray := jdk_42_method_149_code
theorem d0 : decode yB 0 = .ok (.aload_n 0, 1) := by decide +kernel
theorem d1 : decode yB 1 = .ok (.invokespecial 1, 3) := by decide +kernel
theorem d4 : decode yB 4 = .ok (.iload_n 3, 1) := by decide +kernel
theorem d5 : decode yB 5 = .ok (.ifCond (.ne) 22, 3) := by decide +kernel
theorem d27 : decode yB 27 = .ok (.getstatic 38, 3) := by decide +kernel
theorem d30 : decode yB 30 = .ok (.ifCond (.eq) 28, 3) := by decide +kernel
theorem d33 : decode yB 33 = .ok (.aload_n 1, 1) := by decide +kernel
theorem d34 : decode yB 34 = .ok (.iload_n 2, 1) := by decide +kernel
theorem d35 : decode yB 35 = .ok (.iload_n 3, 1) := by decide +kernel
theorem d36 : decode yB 36 = .ok (.invokestatic 177, 3) := by decide +kernel
theorem d39 : decode yB 39 = .ok (.astore 5, 2) := by decide +kernel
theorem d41 : decode yB 41 = .ok (.aload_n 0, 1) := by decide +kernel
theorem d42 : decode yB 42 = .ok (.aload 5, 2) := by decide +kernel
theorem d44 : decode yB 44 = .ok (.iload_n 3, 1) := by decide +kernel
theorem d45 : decode yB 45 = .ok (.invokestatic 47, 3) := by decide +kernel
theorem d48 : decode yB 48 = .ok (.putfield 15, 3) := by decide +kernel
theorem d51 : decode yB 51 = .ok (.aload_n 0, 1) := by decide +kernel
theorem d52 : decode yB 52 = .ok (.aload 5, 2) := by decide +kernel
theorem d54 : decode yB 54 = .ok (.putfield 9, 3) := by decide +kernel
theorem d57 : decode yB 57 = .ok (.return_, 1) := by decide +kernel
def site : List Cond := [.fieldLink "java/lang/String" 38 "java/lang/String" "COMPACT_STRINGS" "Z", Cmp3.tab, CodL.tab, .laysFinal "java/lang/String" "java/lang/String" "value" "[B", .fieldLink "java/lang/String" 9 "java/lang/String" "value" "[B", .laysFinal "java/lang/String" "java/lang/String" "coder" "B", .fieldLink "java/lang/String" 15 "java/lang/String" "coder" "B"] ++ objW "java/lang/String" 1 ++ staticW "java/lang/String" 177 Cmp3.yN ++ staticW "java/lang/String" 47 CodL.yN
def tab : Cond := tabOf yN yB 6 none site
def P (a : Addr) (D : Cell) (fV fC : Field) (b : Addr) (A : Cell) (z : Int32) (o len : Nat) (args : Array Value) (s : State) : Prop := args = #[.ref a, .ref b, .int (Int32.ofNat o), .int (Int32.ofNat len), .null] ∧ Blank "java/lang/String" a D s ∧ Found "java/lang/String" "value" "[B" fV s ∧ Found "java/lang/String" "coder" "B" fC s ∧ Ch b A s ∧ StaticIs s "java/lang/String" "COMPACT_STRINGS" "Z" (.int z) ∧ ¬ z = 0 ∧ 0 < len ∧ o + len ≤ A.slots.size ∧ len ≤ 536870912 ∧ ∀ i, i < len → ¬ 255 < cv A (o + i)
def E (a : Addr) (D : Cell) (fV fC : Field) (A : Cell) (o len : Nat) (r : Option Value) (s u : State) : Prop := Got a D fV fC A o len r s u
/-- len > 0, no char of the range above 255: a Latin-1 String of their low bytes -/
theorem law (l : Launch) (a : Addr) (D : Cell) (fV fC : Field) (b : Addr) (A : Cell) (z : Int32) (o len : Nat) : Law l yN 5 4 2 35 yB 6 none site (P a D fV fC b A z o len) (E a D fV fC A o len) [⟨a, fC.slot⟩, ⟨a, fV.slot⟩] 1 len := by
  refine Law.of_walk (plainFor_of_name (by decide +kernel)) (by decide +kernel) (by decide +kernel) (by decide) (fun _ _ h => by rw [h.1]; rfl) (fun _ U U' hal hh h => ⟨h.1, h.2.1.mv hal hh, h.2.2.1.al hal, h.2.2.2.1.al hal, h.2.2.2.2.1.mv hal hh, h.2.2.2.2.2.1.there hal hh, h.2.2.2.2.2.2⟩) (fun r U U' V V' h1 hal h2 h => Got.mv r U U' V V' h1 hal h2 h) ?_
  intro p e s m args below meth c s₁ X0 hexec hbytes hml hret hlk hnm hown hh0 W hP
  obtain ⟨rfl, hB, f1, f2, hA, s1, hz, l0, l1, l2, hp⟩ := hP
  have a31 := hA.1.2.2.2
  have c1 : Steps p.tables e below (s₁.setTop (entryFrame m #[.ref a, .ref b, .int (Int32.ofNat o), .int (Int32.ofNat len), .null] 6)) (s₁.setTop (mkF m 0 #[.val (.ref a), .val (.ref b), .val (.int (Int32.ofNat o)), .val (.int (Int32.ofNat len)), .val .null, .unset] [])) := entry rfl
  have c2 : Steps p.tables e below (s₁.setTop (entryFrame m #[.ref a, .ref b, .int (Int32.ofNat o), .int (Int32.ofNat len), .null] 6)) (s₁.setTop (mkF m 1 #[.val (.ref a), .val (.ref b), .val (.int (Int32.ofNat o)), .val (.int (Int32.ofNat len)), .val .null, .unset] [.ref a])) := c1.trans (by
    refine XS.aloadN X0.here hexec rfl (hb hbytes d0) rfl rfl ?_
    exact Steps.refl _)
  obtain ⟨T3, X3, q3, st3⟩ := X0.oinit hexec hown (wks W (objW "java/lang/String" 1)) (g := (mkF m 1 #[.val (.ref a), .val (.ref b), .val (.int (Int32.ofNat o)), .val (.int (Int32.ofNat len)), .val .null, .unset] [.ref a])) rfl (by rw [hml]; rfl) (rest := []) rfl (hb hbytes d1) (W := 0) (by show 2 * 0 + 0 ≤ _; decide) (Nat.le_of_ble_eq_true rfl) (Nat.le_of_ble_eq_true rfl)
  have hh3 := q3.trans hh0
  have c4 : Steps p.tables e below (s₁.setTop (entryFrame m #[.ref a, .ref b, .int (Int32.ofNat o), .int (Int32.ofNat len), .null] 6)) (T3.setTop (mkF m 27 #[.val (.ref a), .val (.ref b), .val (.int (Int32.ofNat o)), .val (.int (Int32.ofNat len)), .val .null, .unset] [])) := (c2.trans (st3 _ (Steps.refl _))).trans (by
    refine XS.iloadN X3.here hexec rfl (hb hbytes d4) rfl ?_
    refine XS.ifYes X3.here hexec rfl (pc0 := 5) rfl (hb hbytes d5) rfl (i0_ne_t (nz32 (by omega) l0)) (by decide) rfl ?_
    exact Steps.refl _)
  obtain ⟨T5, X5, q5, st5⟩ := X3.sget hexec hown (wk W (.fieldLink "java/lang/String" 38 "java/lang/String" "COMPACT_STRINGS" "Z")) s1 (fun _ _ h => by rw [hh3]; exact h) (g := (mkF m 27 #[.val (.ref a), .val (.ref b), .val (.int (Int32.ofNat o)), .val (.int (Int32.ofNat len)), .val .null, .unset] [])) rfl (hb hbytes d27)
  have hh5 := q5.trans hh3
  have c6 : Steps p.tables e below (s₁.setTop (entryFrame m #[.ref a, .ref b, .int (Int32.ofNat o), .int (Int32.ofNat len), .null] 6)) (T5.setTop (mkF m 30 #[.val (.ref a), .val (.ref b), .val (.int (Int32.ofNat o)), .val (.int (Int32.ofNat len)), .val .null, .unset] [.int z])) := c4.trans (st5 _ (Steps.refl _))
  have c7 : Steps p.tables e below (s₁.setTop (entryFrame m #[.ref a, .ref b, .int (Int32.ofNat o), .int (Int32.ofNat len), .null] 6)) (T5.setTop (mkF m 36 #[.val (.ref a), .val (.ref b), .val (.int (Int32.ofNat o)), .val (.int (Int32.ofNat len)), .val .null, .unset] [.int (Int32.ofNat len), .int (Int32.ofNat o), .ref b])) := c6.trans (by
    refine XS.ifNo X5.here hexec rfl (hb hbytes d30) rfl (i0_eq_f hz) ?_
    refine XS.aloadN X5.here hexec rfl (hb hbytes d33) rfl rfl ?_
    refine XS.iloadN X5.here hexec rfl (hb hbytes d34) rfl ?_
    refine XS.iloadN X5.here hexec rfl (hb hbytes d35) rfl ?_
    exact Steps.refl _)
  obtain ⟨v8, T8, X8, E8, g8⟩ := X5.callS hexec (Cmp3.law l b A o len) hown (wks W (staticW "java/lang/String" 177 Cmp3.yN)) (wk W Cmp3.tab) (W := 0) (Nat.le_of_ble_eq_true rfl) (Nat.le_of_ble_eq_true rfl) (Nat.le_refl _) (by show 0 + len ≤ len; omega) (g := (mkF m 36 #[.val (.ref a), .val (.ref b), .val (.int (Int32.ofNat o)), .val (.int (Int32.ofNat len)), .val .null, .unset] [.int (Int32.ofNat len), .int (Int32.ofNat o), .ref b])) rfl (by rw [hml]; rfl) c7 (argsL := [.ref b, .int (Int32.ofNat o), .int (Int32.ofNat len)]) (rest := []) rfl rfl (by show 2 * 0 + 0 ≤ _; decide) (hb hbytes d36) (⟨rfl, hA.mv X5.warmed.alike hh5, l1, l2, hp⟩)
  obtain ⟨e8, z8⟩ := E8
  obtain ⟨rfl, N, n1, n2, n3, n4, n5, n6⟩ := NewArr.mv _ T5 s _ _ hh5.symm (Vm.Alike.refl _) rfl e8
  rw [hh5] at z8
  have hB1 := hB.keep X8.warmed.alike (n6 _ _ hB.1)
  have hne : s.heap.size ≠ a := (Nat.ne_of_lt (Array.getElem?_eq_some_iff.mp hB.1).1).symm
  have c9 : Steps p.tables e below (s₁.setTop (entryFrame m #[.ref a, .ref b, .int (Int32.ofNat o), .int (Int32.ofNat len), .null] 6)) (T8.setTop (mkF m 39 #[.val (.ref a), .val (.ref b), .val (.int (Int32.ofNat o)), .val (.int (Int32.ofNat len)), .val .null, .unset] [.ref s.heap.size])) := g8
  have c10 : Steps p.tables e below (s₁.setTop (entryFrame m #[.ref a, .ref b, .int (Int32.ofNat o), .int (Int32.ofNat len), .null] 6)) (T8.setTop (mkF m 45 #[.val (.ref a), .val (.ref b), .val (.int (Int32.ofNat o)), .val (.int (Int32.ofNat len)), .val .null, .val (.ref s.heap.size)] [.int (Int32.ofNat N.slots.size), .ref s.heap.size, .ref a])) := by
    have hc : Steps p.tables e below (s₁.setTop (entryFrame m #[.ref a, .ref b, .int (Int32.ofNat o), .int (Int32.ofNat len), .null] 6)) (T8.setTop (mkF m 45 #[.val (.ref a), .val (.ref b), .val (.int (Int32.ofNat o)), .val (.int (Int32.ofNat len)), .val .null, .val (.ref s.heap.size)] [.int (Int32.ofNat len), .ref s.heap.size, .ref a])) := c9.trans (by
      refine XS.astore X8.here hexec rfl (hb hbytes d39) rfl rfl rfl ?_
      refine XS.aloadN X8.here hexec rfl (hb hbytes d41) rfl rfl ?_
      refine XS.aload X8.here hexec rfl (hb hbytes d42) rfl rfl ?_
      refine XS.iloadN X8.here hexec rfl (hb hbytes d44) rfl ?_
      exact Steps.refl _)
    rw [n4]; exact hc
  obtain ⟨v11, T11, X11, E11, g11⟩ := X8.callS hexec (CodL.law l s.heap.size N) hown (wks W (staticW "java/lang/String" 47 CodL.yN)) (wk W CodL.tab) (W := 1) (Nat.le_of_ble_eq_true rfl) (Nat.le_of_ble_eq_true rfl) (Nat.le_refl _) (by show 0 + len + 0 ≤ len; omega) (g := (mkF m 45 #[.val (.ref a), .val (.ref b), .val (.int (Int32.ofNat o)), .val (.int (Int32.ofNat len)), .val .null, .val (.ref s.heap.size)] [.int (Int32.ofNat N.slots.size), .ref s.heap.size, .ref a])) rfl (by rw [hml]; rfl) c10 (argsL := [.ref s.heap.size, .int (Int32.ofNat N.slots.size)]) (rest := [.ref a]) rfl rfl (by show 2 * 0 + (1 + 0) ≤ _; decide) (hb hbytes d45) (⟨rfl, n1⟩)
  obtain ⟨rfl, q11⟩ := E11
  have hB11 := hB1.mv (X8.warmed.alike.symm.trans X11.warmed.alike) q11
  have c12 : Steps p.tables e below (s₁.setTop (entryFrame m #[.ref a, .ref b, .int (Int32.ofNat o), .int (Int32.ofNat len), .null] 6)) (T11.setTop (mkF m 48 #[.val (.ref a), .val (.ref b), .val (.int (Int32.ofNat o)), .val (.int (Int32.ofNat len)), .val .null, .val (.ref s.heap.size)] [.int 0, .ref a])) := g11
  obtain ⟨T13, X13, p13, bl13, sl13, st13⟩ := X11.finit hexec hown (wk W (.fieldLink "java/lang/String" 15 "java/lang/String" "coder" "B")) (Or.inr ⟨_, (wk W (.laysFinal "java/lang/String" "java/lang/String" "coder" "B"))⟩) (Or.inl ⟨rfl, hnm⟩) f2 (Or.inl rfl) hB11 (t := .byte) (by decide +kernel) rfl (g := (mkF m 48 #[.val (.ref a), .val (.ref b), .val (.int (Int32.ofNat o)), .val (.int (Int32.ofNat len)), .val .null, .val (.ref s.heap.size)] [.int 0, .ref a])) rfl (rest := []) rfl (hb hbytes d48)
  have c14 : Steps p.tables e below (s₁.setTop (entryFrame m #[.ref a, .ref b, .int (Int32.ofNat o), .int (Int32.ofNat len), .null] 6)) (T13.setTop (mkF m 54 #[.val (.ref a), .val (.ref b), .val (.int (Int32.ofNat o)), .val (.int (Int32.ofNat len)), .val .null, .val (.ref s.heap.size)] [.ref s.heap.size, .ref a])) := (c12.trans (st13 _ (Steps.refl _))).trans (by
    refine XS.aloadN X13.here hexec rfl (hb hbytes d51) rfl rfl ?_
    refine XS.aload X13.here hexec rfl (hb hbytes d52) rfl rfl ?_
    exact Steps.refl _)
  obtain ⟨T15, X15, p15, bl15, sl15, st15⟩ := X13.finit hexec hown (wk W (.fieldLink "java/lang/String" 9 "java/lang/String" "value" "[B")) (Or.inr ⟨_, (wk W (.laysFinal "java/lang/String" "java/lang/String" "value" "[B"))⟩) (Or.inl ⟨rfl, hnm⟩) f1 (Or.inl rfl) bl13 (t := (.array .byte)) (by decide +kernel) rfl (g := (mkF m 54 #[.val (.ref a), .val (.ref b), .val (.int (Int32.ofNat o)), .val (.int (Int32.ofNat len)), .val .null, .val (.ref s.heap.size)] [.ref s.heap.size, .ref a])) rfl (rest := []) rfl (hb hbytes d54)
  have c16 : Steps p.tables e below (s₁.setTop (entryFrame m #[.ref a, .ref b, .int (Int32.ofNat o), .int (Int32.ofNat len), .null] 6)) (T15.setTop (mkF m 57 #[.val (.ref a), .val (.ref b), .val (.int (Int32.ofNat o)), .val (.int (Int32.ofNat len)), .val .null, .val (.ref s.heap.size)] [])) := c14.trans (st15 _ (Steps.refl _))
  have ap := apart (Or.inr ⟨_, (wk W (.laysFinal "java/lang/String" "java/lang/String" "value" "[B"))⟩) (Or.inr ⟨_, (wk W (.laysFinal "java/lang/String" "java/lang/String" "coder" "B"))⟩) f1 f2 (t₁ := .array .byte) (t₂ := .byte) (by decide +kernel) (by decide +kernel) (by decide)
  have al := X8.warmed.alike.symm.trans X15.warmed.alike
  have n7 : T11.heap[s.heap.size]? = some N := by rw [q11]; exact n1.1
  exact ⟨T15, none, _, _, _, X15, by simp, rfl, by omega, (fun _ => rfl), ⟨rfl, _, N, bl15, ((Same.refl D _).set _ (by simp)).set _ (by simp), sl15, (Cell.slots_setSlot_ne _ ap).trans sl13, n1.keep al (p15.other hne (p13.other hne n7)), n2, by rw [al.findClass]; exact n3, n4, n5, fun y c h1 h2 => p15.other h1 (p13.other h1 (by rw [q11]; exact n6 y c h2)), by rw [p15.2.2, p13.2.2, q11]; exact z8⟩, fun fs hl => c16.trans (X15.returnOut hexec hret (hb hbytes d57) hl)⟩
end New4
namespace New1
def yN : MethodName := ⟨"java/lang/String", "<init>", "([C)V"⟩
abbrev yB : ByteArray := jdk_42_method_3_code
theorem d0 : decode yB 0 = .ok (.aload_n 0, 1) := by decide +kernel
theorem d1 : decode yB 1 = .ok (.aload_n 1, 1) := by decide +kernel
theorem d2 : decode yB 2 = .ok (.iconst 0, 1) := by decide +kernel
theorem d3 : decode yB 3 = .ok (.aload_n 1, 1) := by decide +kernel
theorem d4 : decode yB 4 = .ok (.arraylength, 1) := by decide +kernel
theorem d5 : decode yB 5 = .ok (.aconst_null, 1) := by decide +kernel
theorem d6 : decode yB 6 = .ok (.invokespecial 27, 3) := by decide +kernel
theorem d9 : decode yB 9 = .ok (.return_, 1) := by decide +kernel
def site : List Cond := [New4.tab] ++ initW "java/lang/String" 27 New4.yN
def tab : Cond := tabOf yN yB 2 none site
def P (a : Addr) (D : Cell) (fV fC : Field) (b : Addr) (A : Cell) (z : Int32) (args : Array Value) (s : State) : Prop := args = #[.ref a, .ref b] ∧ Blank "java/lang/String" a D s ∧ Found "java/lang/String" "value" "[B" fV s ∧ Found "java/lang/String" "coder" "B" fC s ∧ Ch b A s ∧ StaticIs s "java/lang/String" "COMPACT_STRINGS" "Z" (.int z) ∧ ¬ z = 0 ∧ 0 < A.slots.size ∧ A.slots.size ≤ 536870912 ∧ ∀ i, i < A.slots.size → ¬ 255 < cv A i
def E (a : Addr) (D : Cell) (fV fC : Field) (A : Cell) (r : Option Value) (s u : State) : Prop := Got a D fV fC A 0 A.slots.size r s u
/-- new String(chars), not empty, no char above 255: a Latin-1 String of their low bytes -/
theorem law (l : Launch) (a : Addr) (D : Cell) (fV fC : Field) (b : Addr) (A : Cell) (z : Int32) : Law l yN 2 1 3 52 yB 2 none site (P a D fV fC b A z) (E a D fV fC A) [⟨a, fC.slot⟩, ⟨a, fV.slot⟩] 1 A.slots.size := by
  refine Law.of_walk (plainFor_of_name (by decide +kernel)) (by decide +kernel) (by decide +kernel) (by decide) (fun _ _ h => by rw [h.1]; rfl) (fun _ U U' hal hh h => ⟨h.1, h.2.1.mv hal hh, h.2.2.1.al hal, h.2.2.2.1.al hal, h.2.2.2.2.1.mv hal hh, h.2.2.2.2.2.1.there hal hh, h.2.2.2.2.2.2⟩) (fun r U U' V V' h1 hal h2 h => Got.mv r U U' V V' h1 hal h2 h) ?_
  intro p e s m args below meth c s₁ X0 hexec hbytes hml hret hlk hnm hown hh0 W hP
  obtain ⟨rfl, hB, f1, f2, hA, s1, hz, l0, l2, hp⟩ := hP
  have c1 : Steps p.tables e below (s₁.setTop (entryFrame m #[.ref a, .ref b] 2)) (s₁.setTop (mkF m 0 #[.val (.ref a), .val (.ref b)] [])) := entry rfl
  have c2 : Steps p.tables e below (s₁.setTop (entryFrame m #[.ref a, .ref b] 2)) (s₁.setTop (mkF m 6 #[.val (.ref a), .val (.ref b)] [.null, .int (Int32.ofNat A.slots.size), .int 0, .ref b, .ref a])) := c1.trans (by
    refine XS.aloadN X0.here hexec rfl (hb hbytes d0) rfl rfl ?_
    refine XS.aloadN X0.here hexec rfl (hb hbytes d1) rfl rfl ?_
    refine iconstV X0.here hexec rfl 0 (hb hbytes d2) (by decide) ?_
    refine XS.aloadN X0.here hexec rfl (hb hbytes d3) rfl rfl ?_
    refine X0.alen hexec (hA.1.mv X0.warmed.alike hh0) rfl rfl (hb hbytes d4) ?_
    refine XS.aconstNull X0.here hexec rfl (hb hbytes d5) ?_
    exact Steps.refl _)
  obtain ⟨v3, T3, X3, E3, g3⟩ := X0.callN hexec (New4.law l a D fV fC b A z 0 A.slots.size) rfl hown (wks W (initW "java/lang/String" 27 New4.yN)) (W New4.tab (by simp only [site, List.mem_cons, List.mem_append, true_or, or_true])) (W := 0) (Nat.le_of_ble_eq_true rfl) (Nat.le_of_ble_eq_true rfl) (Nat.le_refl _) (by show 0 + A.slots.size ≤ A.slots.size; omega) (g := (mkF m 6 #[.val (.ref a), .val (.ref b)] [.null, .int (Int32.ofNat A.slots.size), .int (Int32.ofNat 0), .ref b, .ref a])) rfl (by rw [hml]; rfl) c2 (argsL := [.ref b, .int (Int32.ofNat 0), .int (Int32.ofNat A.slots.size), .null]) (rest := []) rfl rfl (by show 2 * 0 + 0 ≤ _; decide) (hb hbytes d6) (⟨rfl, hB.mv X0.warmed.alike hh0, f1.al X0.warmed.alike, f2.al X0.warmed.alike, hA.mv X0.warmed.alike hh0, s1.there X0.warmed.alike hh0, hz, l0, by omega, l2, fun i hi => by rw [Nat.zero_add]; exact hp i hi⟩)
  have e0 := Got.mv _ s₁ s _ _ hh0.symm (Vm.Alike.refl _) rfl E3
  obtain rfl := e0.1
  have c4 : Steps p.tables e below (s₁.setTop (entryFrame m #[.ref a, .ref b] 2)) (T3.setTop (mkF m 9 #[.val (.ref a), .val (.ref b)] [])) := g3
  exact ⟨T3, none, _, _, _, X3, by simp, rfl, by omega, (fun _ => rfl), e0, fun fs hl => c4.trans (X3.returnOut hexec hret (hb hbytes d9) hl)⟩
theorem pays {l : Launch} {R : Room} {p : Program} {e : Env} {below : List Frame} {s : State} {sargs : Array Value} {len W : Nat} (a : Addr) (D : Cell) (fV fC : Field) (b : Addr) (A : Cell) (z : Int32) (htab : tab.before sargs s = true) (hfr : 4 ≤ R.frames) (hlo : W + 65 ≤ R.locals) :
    Back l R p e below s sargs yN len W (fun A₁ a₁ => A₁.cells + 1 ≤ R.cells ∧ A₁.slots + A.slots.size ≤ R.slots ∧ P a D fV fC b A z a₁ A₁.U) (fun A₁ _ v₁ B₁ => E a D fV fC A v₁ A₁.U B₁.U ∧ B₁.locs = A₁.locs ++ [⟨a, fC.slot⟩, ⟨a, fV.slot⟩] ∧ B₁.cells = A₁.cells + 1 ∧ B₁.slots = A₁.slots + A.slots.size) :=
  (law l a D fV fC b A z).pays htab hfr (by omega)
end New1
/-- the byte, read back as charAt reads it, is the char -/
theorem lo8_mask {x : Int32} (h0 : ¬ x < 0) (h1 : ¬ 255 < x) : lo8 x &&& 255 = x := by
  have t : ∀ k : Fin 256, lo8 (Int32.ofNat k.val) &&& 255 = Int32.ofNat k.val := by decide +kernel
  rw [Int32.lt_iff_toInt_lt] at h0 h1
  have e0 : (0 : Int32).toInt = 0 := rfl
  have e1 : (255 : Int32).toInt = 255 := rfl
  obtain ⟨k, hk⟩ : ∃ k : Nat, x.toInt = k := ⟨x.toInt.toNat, by omega⟩
  have hx : x = Int32.ofNat k := Int32.toInt_inj.mp (by rw [hk, Int32.toInt_ofNat_small (by omega)])
  rw [hx]
  exact t ⟨k, by omega⟩
end StrChars
namespace StrChars.Road
open Jvm Sem ClassFile Op Lib Jvm.Stand Jvm.Free Jvm.Free.XT
open Jvm.Lib.Cold (StaticIs)
abbrev ST : String := "java/lang/String"
/-- every table word that New1's law asks, flat -/
abbrev words : List Jvm.Cond := [.code New1.yN New1.yB 2 none, .initialized ST, .methodLink ST 27 New4.yN, .instanceMethod New4.yN,
  .code New4.yN New4.yB 6 none, .fieldLink ST 38 ST "COMPACT_STRINGS" "Z", .laysFinal ST ST "value" "[B", .fieldLink ST 9 ST "value" "[B", .laysFinal ST ST "coder" "B", .fieldLink ST 15 ST "coder" "B",
  .methodLink ST 1 Lib.objectInit, .instanceMethod Lib.objectInit, .code Lib.objectInit ⟨#[0xb1]⟩ 1 none, .methodLink ST 177 Cmp3.yN, .static Cmp3.yN, .methodLink ST 47 CodL.yN, .static CodL.yN,
  .code Cmp3.yN Cmp3.yB 6 (some (.array .byte)), .initialized U16, .arrayClass .byte, .methodLink U16 115 Cmp5.yN, .static Cmp5.yN, .code Cmp5.yN Cmp5.yB 7 (some .int), .code CodL.yN CodL.yB 2 (some .byte)]
theorem tab_of {a : Array Value} {s : State} (h : ∀ w ∈ words, w.before a s = true) : New1.tab.before a s = true := by
  have h5 : Cmp5.tab.before a s = true := unparts (wk h (.code Cmp5.yN Cmp5.yB 7 (some .int))) (wks h (.initialized Cmp5.yN.cls :: Cmp5.site))
  have hc : CodL.tab.before a s = true := unparts (wk h (.code CodL.yN CodL.yB 2 (some .byte))) (wks h (.initialized CodL.yN.cls :: CodL.site))
  have q5 : ∀ w ∈ Cmp5.tab :: words, w.before a s = true := fun w hw => (List.mem_cons.mp hw).elim (fun e => e ▸ h5) (h w)
  have h3 : Cmp3.tab.before a s = true := unparts (wk q5 (.code Cmp3.yN Cmp3.yB 6 (some (.array .byte)))) (wks q5 (.initialized Cmp3.yN.cls :: Cmp3.site))
  have q3 : ∀ w ∈ Cmp3.tab :: CodL.tab :: words, w.before a s = true := fun w hw => (List.mem_cons.mp hw).elim (fun e => e ▸ h3) fun hw => (List.mem_cons.mp hw).elim (fun e => e ▸ hc) (h w)
  have h4 : New4.tab.before a s = true := unparts (wk q3 (.code New4.yN New4.yB 6 none)) (wks q3 (.initialized New4.yN.cls :: New4.site))
  have q4 : ∀ w ∈ New4.tab :: words, w.before a s = true := fun w hw => (List.mem_cons.mp hw).elim (fun e => e ▸ h4) (h w)
  exact unparts (wk q4 (.code New1.yN New1.yB 2 none)) (wks q4 (.initialized New1.yN.cls :: New1.site))
/-- the words ride from the start Z to the walk's own state -/
theorem moved {Z s : State} {a0 args : Array Value} (hZ : Z.Warmed39 s.vm) (hw : ∀ d ∈ words, d.before a0 Z = true) : ∀ d ∈ words, d.before args s = true := fun d hd => by
  have q := hw d hd
  have t : ∀ d ∈ words, d = .arrayClass .byte ∨ (d.onTables && d.keepsFace) = true := by decide +kernel
  rcases t d hd with rfl | t
  · exact RoadKit.mvA hZ q
  · exact RoadKit.mv hZ q t
/-- WHAT COMES BACK, over the tables of the start Z: h the heap at the call, h' behind it -/
def Q (Z : State) (x : Addr) (A : Cell) (h : Heap) (v : Option Value) (h' : Heap) (L : List Loc) : Prop := v = none ∧ (∀ y ∈ L, y.base = x) ∧ RoadKit.Keep h h' [x] ∧ h'.size = h.size + 1 ∧ RoadKit.Exa Z h' x ST ∧ RoadKit.Fld Z h' x ST "value" "[B" (.ref h.size) ∧ RoadKit.Fld Z h' x ST "coder" "B" (.int 0) ∧
  (∃ V : Cell, RoadKit.Arr Z h' h.size V .byte ∧ V.vm = .none ∧ Z.vm.findClass "[B" = some V.cls ∧ V.slots.size = A.slots.size ∧ ∀ j, j < A.slots.size → V.slots[j]? = some (.int (lo8 (cv A j)))) ∧
  ∀ (O n d : String) (w : Value), RoadKit.Fld Z h x O n d w → RoadKit.slotOf Z O n d ≠ RoadKit.slotOf Z ST "value" "[B" → RoadKit.slotOf Z O n d ≠ RoadKit.slotOf Z ST "coder" "B" → RoadKit.Fld Z h' x O n d w
/-- **new String(chars) AT A CALL, IN THE ROAD'S FORM**: for specialBack behind newO: x the fresh String, b the char[] with the cell A -/
theorem back {p : Program} {l : Launch} {e : Env} {R : Room} {s : State} {args : Array Value} {below : List Frame} {len W : Nat} {Z : State} {a0 : Array Value} {h : Heap} (hZ : Z.Warmed39 s.vm) (hw : ∀ d ∈ words, d.before a0 Z = true) {kI : Nat} (wi : (Jvm.Cond.instantiable ST kI).before a0 Z = true)
    {x b : Addr} {A : Cell} {z : Int32} {v0 c0 : Value} (E : RoadKit.Exa Z h x ST) (V : RoadKit.Fld Z h x ST "value" "[B" v0) (C : RoadKit.Fld Z h x ST "coder" "B" c0) (K : RoadKit.Arr Z h b A .char) (hty : Typed .char A) (S : RoadKit.Sta Z h ST "COMPACT_STRINGS" "Z" (.int z)) (hz : ¬ z = 0)
    (l0 : 0 < A.slots.size) (l2 : A.slots.size ≤ 536870912) (hp : ∀ i, i < A.slots.size → ¬ 255 < cv A i) (hfr : 4 ≤ R.frames) (hlo : W + 65 ≤ R.locals) :
    Back l R p e below s args New1.yN len W (fun P a => a = #[.ref x, .ref b] ∧ P.U.heap = h ∧ P.cells + 1 ≤ R.cells ∧ P.slots + A.slots.size ≤ R.slots)
      (fun P _ v B => ∃ L, Q Z x A h v B.U.heap L ∧ B.locs = P.locs ++ L ∧ B.cells = P.cells + 1 ∧ B.slots = P.slots + A.slots.size) := by
  intro m meth c P g ig mk a X hg hsize hdg hW hn hp'
  obtain ⟨rfl, rfl, r1, r2⟩ := hp'
  have al : Z.vm.Alike P.U.vm := hZ.alike.trans X.warmed.alike
  obtain ⟨D, cfV, kV, iV, fV, hD, gV, stV, knV, obV, asV, slV⟩ := id V
  obtain ⟨D', cfC, kC, iC, fC, hD', gC, stC, -, -, asC, slC⟩ := id C
  cases hD.symm.trans hD'
  obtain ⟨D2, kD, e1, e2, e3, e4, e5⟩ := id E
  cases hD.symm.trans e1
  obtain ⟨c2, k2, i1, i2, i3, -⟩ := Cond.instantiable_spec wi
  cases e2.symm.trans i1
  cases e3.symm.trans i2
  obtain ⟨kU, u1, u2⟩ := al.2.2 _ _ e3
  have hB : Blank ST x D P.U := ⟨hD, ⟨knV, fun q hq => by rw [hq] at obV; cases obV⟩, by rw [al.findClass]; exact e2, kU, u1, by rw [u2]; exact i3, by rw [u2]; exact e5 i3⟩
  have F1 : Found ST "value" "[B" fV P.U := ⟨SBG.found_only al ⟨cfV, kV, iV, gV⟩, stV⟩
  have F2 : Found ST "coder" "B" fC P.U := ⟨SBG.found_only al ⟨cfC, kC, iC, gC⟩, stC⟩
  have hA : Ch b A P.U := ⟨⟨K.1, State.isArrayOf_alike al K.2.1, K.2.2, by omega⟩, hty⟩
  have hS : StaticIs P.U ST "COMPACT_STRINGS" "Z" (.int z) := by
    obtain ⟨cfS, iS, kS, fS, st, cS, t1, t2, t3, t4, t5, t6, t7⟩ := S
    exact StaticIs.there (s := { Z with heap := P.U.heap }) ⟨cfS, iS, kS, fS, st, cS, t1, t2, t3, t4, t5, (fun q => by rw [q] at t6; cases t6), t7⟩ al rfl
  obtain ⟨v, B, X', ⟨⟨hv, E', V', q1, q2, q3, q4, q5, q6, q7, q8, q9, q10, q11⟩, hl, hc, hs⟩, st⟩ := New1.pays x D fV fC b A z (tab_of (moved hZ hw)) hfr hlo m meth c P g ig mk _ X hg hsize hdg hW hn ⟨r1, r2, rfl, hB, F1, F2, hA, hS, hz, l0, l2, hp⟩
  have al' : Z.vm.Alike B.U.vm := hZ.alike.trans X'.warmed.alike
  have hsz : E'.slots.size = D.slots.size := by
    obtain ⟨-, -, -, kB, w1, w2, w3⟩ := q1
    obtain ⟨kB', y1, y2⟩ := al'.2.2 _ _ e3
    rw [q2.2.1] at w1
    cases w1.symm.trans y1
    rw [w3, e5 i3, y2]
  refine ⟨v, B, X', ⟨_, ⟨hv, ?_, ⟨by omega, fun y cy hy hn' => q10 y cy (by simpa using hn') hy, fun y cy hy => ?_⟩, q11, ⟨E', _, q1.1, by rw [q2.2.1]; exact e2, by rw [q2.2.1]; exact e3, by rw [q2.1]; exact obV, fun _ => by rw [hsz]; exact e5 i3⟩,
    ⟨E', cfV, kV, iV, fV, q1.1, gV, stV, by rw [q2.1]; exact knV, by rw [q2.1]; exact obV, by rw [q2.2.1]; exact asV, q3⟩, ⟨E', cfC, kC, iC, fC, q1.1, gC, stC, by rw [q2.1]; exact knV, by rw [q2.1]; exact obV, by rw [q2.2.1]; exact asC, q4⟩,
    ⟨V', ⟨q5.1, State.isArrayOf_alike al'.symm q5.2.1, q5.2.2.1⟩, q6, by rw [← al'.findClass]; exact q7, q8, fun j hj => by have := q9 j hj; rwa [Nat.zero_add] at this⟩, fun O n d w F n1 n2 => ?_⟩, hl, hc, hs⟩, st⟩
  · intro y hy
    simp only [List.mem_cons, List.not_mem_nil, or_false] at hy
    rcases hy with rfl | rfl <;> rfl
  · by_cases q : y = x
    · subst q
      cases hD.symm.trans hy
      exact ⟨E', q1.1, q2.2.1, q2.1, hsz⟩
    · exact ⟨cy, q10 y cy q hy, rfl, rfl, rfl⟩
  · obtain ⟨D3, cf, k, i, f, g1, g2, g3, g4, g5, g6, g7⟩ := F
    cases hD.symm.trans g1
    simp only [RoadKit.slotOf, g2, gV, gC, Option.map_some, Option.getD_some] at n1 n2
    exact ⟨E', cf, k, i, f, q1.1, g2, g3, by rw [q2.1]; exact g4, by rw [q2.1]; exact g5, by rw [q2.2.1]; exact g6, by rw [q2.2.2 f.slot (by simp [n1, n2])]; exact g7⟩
end StrChars.Road
namespace StrChars.Road
open Jvm Sem ClassFile Op Lib Jvm.Stand Jvm.Free Jvm.Free.XT
/-- WHAT COMES BACK, the byte[] as a list of values -/
def QA (Z : State) (x : Addr) (zn : Int32) (cs : List Int32) (h : Heap) (v : Option Value) (h' : Heap) (L : List Loc) : Prop := v = none ∧ (∀ y ∈ L, y.base = x) ∧ RoadKit.Keep h h' [x] ∧ h'.size = h.size + 1 ∧ RoadKit.Exa Z h' x ST ∧ RoadKit.Fld Z h' x ST "value" "[B" (.ref h.size) ∧ RoadKit.Fld Z h' x ST "coder" "B" (.int 0) ∧
  (∃ kb, Z.vm.findClass "[B" = some kb ∧ RoadKit.Arv Z h' h.size kb .byte zn (cs.map fun c => .int (lo8 c)) (.int 0)) ∧
  ∀ (O n d : String) (w : Value), RoadKit.Fld Z h x O n d w → RoadKit.slotOf Z O n d ≠ RoadKit.slotOf Z ST "value" "[B" → RoadKit.slotOf Z O n d ≠ RoadKit.slotOf Z ST "coder" "B" → RoadKit.Fld Z h' x O n d w
/-- **new String(chars) AT A CALL, THE ARRAYS AS LISTS**: the char[] at b holds cs, not empty, no char above 255 -/
theorem backArv {p : Program} {l : Launch} {e : Env} {R : Room} {s : State} {args : Array Value} {below : List Frame} {len W : Nat} {Z : State} {a0 : Array Value} {h : Heap} (hZ : Z.Warmed39 s.vm) (hw : ∀ d ∈ words, d.before a0 Z = true) {kI : Nat} (wi : (Jvm.Cond.instantiable ST kI).before a0 Z = true)
    {x b : Addr} {k : ClassId} {zn z : Int32} {cs : List Int32} {dv v0 c0 : Value} (E : RoadKit.Exa Z h x ST) (V : RoadKit.Fld Z h x ST "value" "[B" v0) (C : RoadKit.Fld Z h x ST "coder" "B" c0) (K : RoadKit.Arv Z h b k .char zn (cs.map Value.int) dv) (S : RoadKit.Sta Z h ST "COMPACT_STRINGS" "Z" (.int z)) (hz : ¬ z = 0)
    (hlen : zn.toNatClampNeg = cs.length) (h0 : 0 < cs.length) (hbig : cs.length ≤ 536870912) (hall : ∀ c ∈ cs, ¬ 255 < c) (hfr : 4 ≤ R.frames) (hlo : W + 65 ≤ R.locals) :
    Back l R p e below s args New1.yN len W (fun P a => a = #[.ref x, .ref b] ∧ P.U.heap = h ∧ P.cells + 1 ≤ R.cells ∧ P.slots + cs.length ≤ R.slots)
      (fun P _ v B => ∃ L, QA Z x zn cs h v B.U.heap L ∧ B.locs = P.locs ++ L ∧ B.cells = P.cells + 1 ∧ B.slots = P.slots + cs.length) := by
  obtain ⟨A, K1, K2, K3, K4, K5, K6⟩ := K
  have e : A.slots.size = cs.length := K3.trans hlen
  have hat : ∀ (i : Nat) (hi : i < cs.length), A.slots[i]? = some (.int cs[i]) := fun i hi => by rw [K5 i (by omega)]; simp [List.getD_eq_getElem?_getD, hi]
  have hcv : ∀ (i : Nat) (hi : i < cs.length), cv A i = cs[i] := fun i hi => by unfold cv; rw [hat i hi]
  have hty : Typed .char A := fun i v hv => by
    have hi : i < A.slots.size := (Array.getElem?_eq_some_iff.mp hv).1
    have q := K5 i hi
    rw [hv] at q
    rw [Option.some.inj q]
    exact K6 i hi
  refine Back.mono (back hZ hw wi E V C K1 hty S hz (by omega) (by omega) (fun i hi => by rw [hcv i (by omega)]; exact hall _ (List.getElem_mem _)) hfr hlo) (fun P a hp => ⟨hp.1, hp.2.1, hp.2.2.1, by rw [e]; exact hp.2.2.2⟩) (fun P a v B hp hq => ?_)
  obtain ⟨L, ⟨q1, q2, q3, q4, q5, q6, q7, ⟨V', v1, v2, v3, v4, v5⟩, q9⟩, hl, hc, hs⟩ := hq
  refine ⟨L, ⟨q1, q2, q3, q4, q5, q6, q7, ⟨V'.cls, v3, V', v1, rfl, by rw [v4, e, hlen], K4, fun i hi => ?_, fun i hi => ?_⟩, q9⟩, hl, hc, by rw [hs, e]⟩
  · have hi' : i < cs.length := by omega
    rw [v5 i (by omega), hcv i hi']; simp [List.getD_eq_getElem?_getD, hi']
  · have hi' : i < cs.length := by omega
    simp only [List.getD_eq_getElem?_getD, List.getElem?_map, List.getElem?_eq_getElem hi', Option.map_some, Option.getD_some]
    exact fits_lo8 _
end StrChars.Road
namespace StrChars.Road
open Jvm Sem ClassFile Op Lib Jvm.Stand Jvm.Free Jvm.Free.XT
/-- WHAT COMES BACK, in the writer's own shape -/
def QV (Z : State) (x : Addr) (N : Int32) (bs : List Int32) (h : Heap) (n0 : Nat) (v : Option Value) (h' : Heap) (L : List Loc) : Prop := v = none ∧ RoadKit.Fr n0 L ∧ RoadKit.Keep h h' [x] ∧ RoadKit.Exa Z h' x ST ∧ RoadKit.Fld Z h' x ST "coder" "B" (.int 0) ∧
  ∃ (t : Addr) (kb : ClassId), n0 ≤ t ∧ h.size ≤ t ∧ ¬ t = x ∧ RoadKit.Fld Z h' x ST "value" "[B" (.ref t) ∧ RoadKit.Arv Z h' t kb .byte N (bs.map Value.int) (.int 0)
/-- **new String(chars) AT A CALL, FOR THE WRITER**: a char[] of n known ints, each 0 to 255 -/
theorem backV {p : Program} {l : Launch} {e : Env} {R : Room} {s : State} {args : Array Value} {below : List Frame} {len W : Nat} {Z : State} {a0 : Array Value} {h : Heap} (hZ : Z.Warmed39 s.vm) (hw : ∀ d ∈ words, d.before a0 Z = true) {kI : Nat} (wi : (Jvm.Cond.instantiable ST kI).before a0 Z = true)
    {x b : Addr} {kC : ClassId} {cs bs : List Int32} {d v0 c0 : Value} {z N : Int32} {n n0 : Nat} (hx0 : n0 ≤ x) (hh0 : n0 ≤ h.size) (E : RoadKit.Exa Z h x ST) (V : RoadKit.Fld Z h x ST "value" "[B" v0) (C : RoadKit.Fld Z h x ST "coder" "B" c0) (K : RoadKit.Arv Z h b kC .char N (cs.map Value.int) d) (S : RoadKit.Sta Z h ST "COMPACT_STRINGS" "Z" (.int z)) (hz : ¬ z = 0)
    (hn : cs.length = n) (hN : N = Int32.ofNat n) (l0 : 0 < n) (l2 : n ≤ 4000) (hp : ∀ c ∈ cs, ¬ c < 0 ∧ ¬ (255 : Int32) < c) (hb : bs = cs.map (fun c => c.toInt8.toInt32)) (hfr : 4 ≤ R.frames) (hlo : W + 65 ≤ R.locals) :
    Back l R p e below s args (⟨"java/lang/String", "<init>", "([C)V"⟩ : MethodName) len W (fun P a => a = #[.ref x, .ref b] ∧ P.U.heap = h ∧ P.cells + 1 ≤ R.cells ∧ P.slots + n ≤ R.slots)
      (fun P _ v B => ∃ L, QV Z x N bs h n0 v B.U.heap L ∧ B.locs = P.locs ++ L ∧ B.cells = P.cells + 1 ∧ B.slots = P.slots + n) := by
  subst hn hN hb
  refine Back.mono (backArv hZ hw wi E V C K S hz (n32 (by omega)) l0 (by omega) (fun c hc => (hp c hc).2) hfr hlo) (fun P a hp => hp) (fun P a v B hp hq => ?_)
  obtain ⟨L, ⟨q1, q2, q3, q4, q5, q6, q7, ⟨kb, v1, v2⟩, q9⟩, hl, hc, hs⟩ := hq
  exact ⟨L, ⟨q1, fun y hy => by rw [q2 y hy]; exact hx0, q3, q5, q7, h.size, kb, hh0, Nat.le_refl _, Nat.ne_of_gt E.lt, q6, by rw [List.map_map]; exact v2⟩, hl, hc, hs⟩
end StrChars.Road
namespace StrChars
open Jvm Sem ClassFile Op Lib Jvm.Stand Jvm.Free.XT Jvm.Free.ALB Jvm.Free.JM Jvm.Free
open Jvm.Lib.Cold (StaticIs)
def hi8 (x : Int32) : Int32 := lo8 (x >>> ((8 : Int32) &&& 31))
/-- what StringUTF16.getChar makes of two bytes -/
def pairCh (u v : Int32) : Int32 := (((u &&& 255) <<< ((0 : Int32) &&& 31)) ||| ((v &&& 255) <<< ((8 : Int32) &&& 31))).toUInt32.toUInt16.toUInt32.toInt32
theorem shr0 (c : Int32) : c >>> ((0 : Int32) &&& 31) = c := by
  have e : ((0 : Int32) &&& 31) = 0 := by decide
  rw [e]
  apply Int32.toBitVec_inj.mp
  rw [Int32.toBitVec_shiftRight]
  have e1 : ((0 : Int32).toBitVec.smod 32) = 0#32 := by decide
  rw [e1, BitVec.sshiftRight_eq']
  exact BitVec.sshiftRight_zero
theorem lo8_and (x : Int32) : (lo8 x &&& 255).toBitVec.toNat = x.toBitVec.toNat % 256 := by
  have h : (lo8 x).toBitVec = (x.toBitVec.signExtend 8).signExtend 32 := by rw [lo8, Int8.toBitVec_toInt32, Int32.toBitVec_toInt8]
  rw [Int32.toBitVec_and, BitVec.toNat_and, h]
  have e : ((x.toBitVec.signExtend 8).signExtend 32).toNat % 256 = x.toBitVec.toNat % 256 := by
    rw [BitVec.toNat_signExtend]
    have hlt := x.toBitVec.isLt
    simp only [BitVec.toNat_setWidth, BitVec.toNat_signExtend]
    split <;> split <;> omega
  rw [← e]
  exact Nat.and_two_pow_sub_one_eq_mod _ 8
theorem pair_says {c : Int32} (h0 : ¬ c < 0) (h1 : ¬ 65535 < c) : pairCh (lo8 c) (hi8 c) = c := by
  rw [Int32.lt_iff_toInt_lt] at h0 h1
  have e0 : (0 : Int32).toInt = 0 := rfl
  have e1 : (65535 : Int32).toInt = 65535 := rfl
  have hc : c.toInt = c.toBitVec.toNat := by
    have := c.toBitVec.isLt
    have e : c.toInt = c.toBitVec.toInt := rfl
    rw [e] at h0 h1
    rw [e]
    rw [BitVec.toInt_eq_toNat_cond] at h0 h1 ⊢
    split at h0 <;> split <;> omega
  have hn : c.toBitVec.toNat < 65536 := by omega
  have a1 := lo8_and c
  have a2 : (hi8 c &&& 255).toBitVec.toNat = c.toBitVec.toNat / 256 := by
    rw [hi8, lo8_and]
    have e : ((8 : Int32) &&& 31) = 8 := by decide
    rw [e, Int32.toBitVec_shiftRight]
    have e2 : ((8 : Int32).toBitVec.smod 32) = 8#32 := by decide
    rw [e2, BitVec.sshiftRight_eq', BitVec.toNat_sshiftRight_of_msb_false (by rw [BitVec.msb_eq_false_iff_two_mul_lt]; omega)]
    show c.toBitVec.toNat >>> 8 % 256 = _
    rw [Nat.shiftRight_eq_div_pow]
    omega
  unfold pairCh
  apply Int32.toBitVec_inj.mp
  apply BitVec.eq_of_toNat_eq
  have f0 : ((0 : Int32) &&& 31) = 0 := by decide
  have f8 : ((8 : Int32) &&& 31) = 8 := by decide
  rw [f0, f8]
  have g : (((lo8 c &&& 255) <<< (0 : Int32)) ||| ((hi8 c &&& 255) <<< (8 : Int32))).toBitVec.toNat = c.toBitVec.toNat := by
    rw [Int32.toBitVec_or, Int32.toBitVec_shiftLeft, Int32.toBitVec_shiftLeft]
    have s0 : ((0 : Int32).toBitVec.smod 32) = 0#32 := by decide
    have s8 : ((8 : Int32).toBitVec.smod 32) = 8#32 := by decide
    rw [s0, s8, BitVec.toNat_or]
    simp only [BitVec.shiftLeft_eq', BitVec.toNat_shiftLeft, a1, a2]
    show (c.toBitVec.toNat % 256) <<< 0 % 2 ^ 32 ||| (c.toBitVec.toNat / 256) <<< 8 % 2 ^ 32 = _
    rw [Nat.shiftLeft_zero, Nat.mod_eq_of_lt (show c.toBitVec.toNat % 256 < 2 ^ 32 by omega), Nat.mod_eq_of_lt (show (c.toBitVec.toNat / 256) <<< 8 < 2 ^ 32 by rw [Nat.shiftLeft_eq]; omega), Nat.or_comm, ← Nat.shiftLeft_add_eq_or_of_lt (by omega), Nat.shiftLeft_eq]
    omega
  show BitVec.toNat (((((lo8 c &&& 255) <<< (0 : Int32)) ||| ((hi8 c &&& 255) <<< (8 : Int32))).toBitVec.setWidth 16).setWidth 32) = _
  rw [BitVec.toNat_setWidth, BitVec.toNat_setWidth, g]
  omega
end StrChars
namespace StrChars
open Jvm Sem ClassFile Op Lib Jvm.Stand Jvm.Free.XT Jvm.Free.ALB Jvm.Free.JM Jvm.Free
open Jvm.Lib.Cold (StaticIs)
theorem shr1 {n : Nat} (h : 2 * n < 2 ^ 31) : Int32.ofNat (2 * n) >>> ((1 : Int32) &&& 31) = Int32.ofNat n := by
  have e : ((1 : Int32) &&& 31) = 1 := by decide
  rw [e]
  apply Int32.toBitVec_inj.mp
  rw [Int32.toBitVec_shiftRight]
  have e1 : ((1 : Int32).toBitVec.smod 32) = 1#32 := by decide
  have hm : (BitVec.ofNat 32 (2 * n)).toNat = 2 * n := by rw [BitVec.toNat_ofNat, Nat.mod_eq_of_lt (by omega)]
  rw [e1, BitVec.sshiftRight_eq']
  apply BitVec.eq_of_toNat_eq
  show ((BitVec.ofNat 32 (2 * n)).sshiftRight 1).toNat = (BitVec.ofNat 32 n).toNat
  rw [BitVec.toNat_sshiftRight_of_msb_false (by rw [BitVec.msb_eq_false_iff_two_mul_lt, hm]; omega), hm, BitVec.toNat_ofNat, Nat.shiftRight_eq_div_pow]
  omega
/-- charAt's cast of a byte read back -/
def chr8 (u : Int32) : Int32 := (u &&& 255).toUInt32.toUInt16.toUInt32.toInt32
theorem chr8_lo8 {c : Int32} (h0 : ¬ c < 0) (h1 : ¬ 255 < c) : chr8 (lo8 c) = c := by
  have t : ∀ k : Fin 256, (Int32.ofNat k.val).toUInt32.toUInt16.toUInt32.toInt32 = Int32.ofNat k.val := by decide +kernel
  unfold chr8
  rw [lo8_mask h0 h1]
  rw [Int32.lt_iff_toInt_lt] at h0 h1
  have e0 : (0 : Int32).toInt = 0 := rfl
  have e1 : (255 : Int32).toInt = 255 := rfl
  obtain ⟨k, hk⟩ : ∃ k : Nat, c.toInt = k := ⟨c.toInt.toNat, by omega⟩
  have hx : c = Int32.ofNat k := Int32.toInt_inj.mp (by rw [hk, Int32.toInt_ofNat_small (by omega)])
  rw [hx]
  exact t ⟨k, by omega⟩
theorem narrow_ch {c : Int32} (h0 : ¬ c < 0) (h1 : ¬ 65535 < c) : narrow .char (.int c) = .int c := by
  have q : narrow .char (.int (pairCh (lo8 c) (hi8 c))) = .int (pairCh (lo8 c) (hi8 c)) := narrow_c _
  rwa [pair_says h0 h1] at q
/-- the array's cell V codes the n chars f 0 .. f (n - 1) by the coder cd, as the JDK does: coder 1 just where some char is above 255 -/
def Cod (cd : Int32) (n : Nat) (f : Nat → Int32) (V : Cell) : Prop := (cd = 0 ∧ V.slots.size = n ∧ ∀ j, j < n → V.slots[j]? = some (.int (lo8 (f j))) ∧ ¬ 255 < f j) ∨ (cd = 1 ∧ V.slots.size = 2 * n ∧ (∀ j, j < n → V.slots[2 * j]? = some (.int (lo8 (f j))) ∧ V.slots[2 * j + 1]? = some (.int (hi8 (f j)))) ∧ ∃ j, j < n ∧ 255 < f j)
theorem Cod.cd {cd : Int32} {n : Nat} {f : Nat → Int32} {V : Cell} (h : Cod cd n f V) : cd = 0 ∨ cd = 1 := h.imp (fun q => q.1) fun q => q.1
theorem Cod.len {cd : Int32} {n : Nat} {f : Nat → Int32} {V : Cell} (h : Cod cd n f V) (hs : V.slots.size < 2 ^ 31) : Int32.ofNat V.slots.size >>> (cd &&& 31) = Int32.ofNat n := by
  rcases h with ⟨rfl, h, -⟩ | ⟨rfl, h, -⟩
  · rw [shr0, h]
  · rw [h, shr1 (by omega)]
/-- **x is a String of the n chars f 0 .. f (n - 1)**, Latin-1 or UTF-16; its array at t has the cell V -/
def Txt (x t : Addr) (V : Cell) (cd : Int32) (n : Nat) (f : Nat → Int32) (U : State) : Prop := Exact "java/lang/String" x U ∧ Has x "java/lang/String" "value" "[B" (.ref t) U ∧ Has x "java/lang/String" "coder" "B" (.int cd) U ∧ XT.Arr .byte t V U ∧ Cod cd n f V ∧ ∀ j, j < n → ¬ f j < 0 ∧ ¬ 65535 < f j
theorem Txt.mv {x t : Addr} {V : Cell} {cd : Int32} {n : Nat} {f : Nat → Int32} {U U' : State} (h : Txt x t V cd n f U) (hal : U.vm.Alike U'.vm) (hh : U'.heap = U.heap) : Txt x t V cd n f U' := ⟨h.1.mv hal hh, h.2.1.mv hal hh, h.2.2.1.mv hal hh, h.2.2.2.1.mv hal hh, h.2.2.2.2⟩
namespace Cdr
def yN : MethodName := ⟨"java/lang/String", "coder", "()B"⟩
abbrev yB : ByteArray := jdk_42_method_152_code
theorem d0 : decode yB 0 = .ok (.getstatic 38, 3) := by decide +kernel
theorem d3 : decode yB 3 = .ok (.ifCond (.eq) 10, 3) := by decide +kernel
theorem d6 : decode yB 6 = .ok (.aload_n 0, 1) := by decide +kernel
theorem d7 : decode yB 7 = .ok (.getfield 15, 3) := by decide +kernel
theorem d10 : decode yB 10 = .ok (.goto 4, 3) := by decide +kernel
theorem d14 : decode yB 14 = .ok (.ireturn, 1) := by decide +kernel
def site : List Cond := [.fieldLink "java/lang/String" 38 "java/lang/String" "COMPACT_STRINGS" "Z", .fieldLink "java/lang/String" 15 "java/lang/String" "coder" "B"]
def tab : Cond := tabOf yN yB 1 (some .byte) site
def P (x : Addr) (cd z : Int32) (args : Array Value) (s : State) : Prop := args = #[.ref x] ∧ Has x "java/lang/String" "coder" "B" (.int cd) s ∧ (cd = 0 ∨ cd = 1) ∧ StaticIs s "java/lang/String" "COMPACT_STRINGS" "Z" (.int z) ∧ ¬ z = 0
def E (cd : Int32) (r : Option Value) (s u : State) : Prop := XT.PureE (some (.int cd)) r s u
theorem law (l : Launch) (x : Addr) (cd z : Int32) : Law l yN 1 0 0 0 yB 1 (some .byte) site (P x cd z) (E cd) [] 0 0 := by
  refine Law.of_walk (plainFor_of_name (by decide +kernel)) (by decide +kernel) (by decide +kernel) (by decide) (fun _ _ h => by rw [h.1]; rfl) (fun _ U U' hal hh h => ⟨h.1, h.2.1.mv hal hh, h.2.2.1, h.2.2.2.1.there hal hh, h.2.2.2.2⟩) (fun r U U' V V' h1 hal h2 h => XT.PureE.mv r U U' V V' h1 hal h2 h) ?_
  intro p e s m args below meth c s₁ X0 hexec hbytes hml hret hlk hnm hown hh0 W hP
  obtain ⟨rfl, hx, hc, s1, hz⟩ := hP
  have c1 : Steps p.tables e below (s₁.setTop (entryFrame m #[.ref x] 1)) (s₁.setTop (mkF m 0 #[.val (.ref x)] [])) := entry rfl
  obtain ⟨T2, X2, q2, st2⟩ := X0.sget hexec hown (wk W (.fieldLink "java/lang/String" 38 "java/lang/String" "COMPACT_STRINGS" "Z")) s1 (fun _ _ h => by rw [hh0]; exact h) (g := (mkF m 0 #[.val (.ref x)] [])) rfl (hb hbytes d0)
  have hh2 := q2.trans hh0
  have c3 : Steps p.tables e below (s₁.setTop (entryFrame m #[.ref x] 1)) (T2.setTop (mkF m 7 #[.val (.ref x)] [.ref x])) := (c1.trans (st2 _ (Steps.refl _))).trans (by
    refine XS.ifNo X2.here hexec rfl (hb hbytes d3) rfl (i0_eq_f hz) ?_
    refine XS.aloadN X2.here hexec rfl (hb hbytes d6) rfl rfl ?_
    exact Steps.refl _)
  obtain ⟨T4, X4, q4, st4⟩ := X2.hget hexec hown (wk W (.fieldLink "java/lang/String" 15 "java/lang/String" "coder" "B")) (hx.mv X2.warmed.alike hh2) (g := (mkF m 7 #[.val (.ref x)] [.ref x])) rfl (rest := []) rfl (hb hbytes d7)
  have c5 : Steps p.tables e below (s₁.setTop (entryFrame m #[.ref x] 1)) (T4.setTop (mkF m 14 #[.val (.ref x)] [.int cd])) := (c3.trans (st4 _ (Steps.refl _))).trans (by
    refine XS.goto X4.here hexec rfl (pc0 := 10) rfl (hb hbytes d10) (by decide) rfl ?_
    exact Steps.refl _)
  exact ⟨T4, some (.int cd), _, _, _, X4, rfl, rfl, rfl, (fun h => by cases h), ⟨rfl, q4.trans hh2⟩, fun fs hl => c5.trans (X4.ireturnOut hexec hret (by rcases hc with rfl | rfl <;> rfl) (Or.inr (Or.inr (Or.inl rfl))) (hb hbytes d14) hl)⟩
end Cdr
namespace Len
def yN : MethodName := ⟨"java/lang/String", "length", "()I"⟩
abbrev yB : ByteArray := jdk_42_method_54_code
theorem d0 : decode yB 0 = .ok (.aload_n 0, 1) := by decide +kernel
theorem d1 : decode yB 1 = .ok (.getfield 9, 3) := by decide +kernel
theorem d4 : decode yB 4 = .ok (.arraylength, 1) := by decide +kernel
theorem d5 : decode yB 5 = .ok (.aload_n 0, 1) := by decide +kernel
theorem d6 : decode yB 6 = .ok (.invokevirtual 335, 3) := by decide +kernel
theorem d9 : decode yB 9 = .ok (.ishr, 1) := by decide +kernel
theorem d10 : decode yB 10 = .ok (.ireturn, 1) := by decide +kernel
def site : List Cond := [.fieldLink "java/lang/String" 9 "java/lang/String" "value" "[B", Cdr.tab] ++ virtW "java/lang/String" 335 "java/lang/String" Cdr.yN Cdr.yN
def tab : Cond := tabOf yN yB 1 (some .int) site
def P (x t : Addr) (V : Cell) (cd : Int32) (n : Nat) (f : Nat → Int32) (z : Int32) (args : Array Value) (s : State) : Prop := args = #[.ref x] ∧ Txt x t V cd n f s ∧ StaticIs s "java/lang/String" "COMPACT_STRINGS" "Z" (.int z) ∧ ¬ z = 0
def E (n : Nat) (r : Option Value) (s u : State) : Prop := XT.PureE (some (.int (Int32.ofNat n))) r s u
/-- length() of a String of n chars, in either coding -/
theorem law (l : Launch) (x t : Addr) (V : Cell) (cd : Int32) (n : Nat) (f : Nat → Int32) (z : Int32) : Law l yN 1 0 1 13 yB 1 (some .int) site (P x t V cd n f z) (E n) [] 0 0 := by
  refine Law.of_walk (plainFor_of_name (by decide +kernel)) (by decide +kernel) (by decide +kernel) (by decide) (fun _ _ h => by rw [h.1]; rfl) (fun _ U U' hal hh h => ⟨h.1, h.2.1.mv hal hh, h.2.2.1.there hal hh, h.2.2.2⟩) (fun r U U' V V' h1 hal h2 h => XT.PureE.mv r U U' V V' h1 hal h2 h) ?_
  intro p e s m args below meth c s₁ X0 hexec hbytes hml hret hlk hnm hown hh0 W hP
  obtain ⟨rfl, hx, s1, hz⟩ := hP
  have v31 := hx.2.2.2.1.2.2.2
  have c1 : Steps p.tables e below (s₁.setTop (entryFrame m #[.ref x] 1)) (s₁.setTop (mkF m 1 #[.val (.ref x)] [.ref x])) := Steps.trans (entry rfl) (by
    show Steps p.tables e below (s₁.setTop (mkF m 0 #[.val (.ref x)] [])) _
    refine XS.aloadN X0.here hexec rfl (hb hbytes d0) rfl rfl ?_
    exact Steps.refl _)
  obtain ⟨T2, X2, q2, st2⟩ := X0.hget hexec hown (wk W (.fieldLink "java/lang/String" 9 "java/lang/String" "value" "[B")) (hx.mv X0.warmed.alike hh0).2.1 (g := (mkF m 1 #[.val (.ref x)] [.ref x])) rfl (rest := []) rfl (hb hbytes d1)
  have hh2 := q2.trans hh0
  have hx2 := hx.mv X2.warmed.alike hh2
  have c3 : Steps p.tables e below (s₁.setTop (entryFrame m #[.ref x] 1)) (T2.setTop (mkF m 6 #[.val (.ref x)] [.ref x, .int (Int32.ofNat V.slots.size)])) := (c1.trans (st2 _ (Steps.refl _))).trans (by
    refine X2.alen hexec hx2.2.2.2.1 rfl rfl (hb hbytes d4) ?_
    refine XS.aloadN X2.here hexec rfl (hb hbytes d5) rfl rfl ?_
    exact Steps.refl _)
  obtain ⟨v4, T4, X4, E4, g4⟩ := X2.callV hexec (Cdr.law l x cd z) hown (wks W (virtW "java/lang/String" 335 "java/lang/String" Cdr.yN Cdr.yN)) rfl (by decide) (wk W Cdr.tab) (W := 1) (Nat.le_of_ble_eq_true rfl) (Nat.le_of_ble_eq_true rfl) (Nat.le_refl _) (Nat.le_refl _) (hx2.1.fc X2.warmed.alike) hx2.1.is (g := (mkF m 6 #[.val (.ref x)] [.ref x, .int (Int32.ofNat V.slots.size)])) rfl (by rw [hml]; rfl) c3 (argsL := []) (rest := [.int (Int32.ofNat V.slots.size)]) rfl rfl (by show 2 * 0 + (1 + 0) ≤ _; decide) (hb hbytes d6) (⟨rfl, hx2.2.2.1, hx.2.2.2.2.1.cd, s1.there X2.warmed.alike hh2, hz⟩)
  obtain ⟨rfl, q4⟩ := E4
  have c5 : Steps p.tables e below (s₁.setTop (entryFrame m #[.ref x] 1)) (T4.setTop (mkF m 10 #[.val (.ref x)] [.int (Int32.ofNat V.slots.size >>> (cd &&& 31))])) := Steps.trans g4 (by
    refine ishr X4.here hexec rfl (hb hbytes d9) rfl ?_
    exact Steps.refl _)
  rw [hx.2.2.2.2.1.len v31] at c5
  exact ⟨T4, some (.int (Int32.ofNat n)), _, _, _, X4, rfl, rfl, rfl, (fun h => by cases h), ⟨rfl, q4.trans hh2⟩, fun fs hl => c5.trans (X4.ireturnOut hexec hret rfl (Or.inl rfl) (hb hbytes d10) hl)⟩
theorem pays {l : Launch} {R : Room} {p : Program} {e : Env} {below : List Frame} {s : State} {sargs : Array Value} {len W : Nat} (x t : Addr) (V : Cell) (cd : Int32) (n : Nat) (f : Nat → Int32) (z : Int32) (htab : tab.before sargs s = true) (hfr : 2 ≤ R.frames) (hlo : W + 25 ≤ R.locals) :
    Back l R p e below s sargs yN len W (fun A₁ a₁ => A₁.cells + 0 ≤ R.cells ∧ A₁.slots + 0 ≤ R.slots ∧ P x t V cd n f z a₁ A₁.U) (fun A₁ _ v₁ B₁ => E n v₁ A₁.U B₁.U ∧ B₁.locs = A₁.locs ++ [] ∧ B₁.cells = A₁.cells + 0 ∧ B₁.slots = A₁.slots + 0) :=
  (law l x t V cd n f z).pays htab hfr (by omega)
end Len
namespace IsL
def yN : MethodName := ⟨"java/lang/String", "isLatin1", "()Z"⟩
abbrev yB : ByteArray := jdk_42_method_154_code
theorem d0 : decode yB 0 = .ok (.getstatic 38, 3) := by decide +kernel
theorem d3 : decode yB 3 = .ok (.ifCond (.eq) 14, 3) := by decide +kernel
theorem d6 : decode yB 6 = .ok (.aload_n 0, 1) := by decide +kernel
theorem d7 : decode yB 7 = .ok (.getfield 15, 3) := by decide +kernel
theorem d10 : decode yB 10 = .ok (.ifCond (.ne) 7, 3) := by decide +kernel
theorem d13 : decode yB 13 = .ok (.iconst 1, 1) := by decide +kernel
theorem d14 : decode yB 14 = .ok (.goto 4, 3) := by decide +kernel
theorem d17 : decode yB 17 = .ok (.iconst 0, 1) := by decide +kernel
theorem d18 : decode yB 18 = .ok (.ireturn, 1) := by decide +kernel
def site : List Cond := [.fieldLink "java/lang/String" 38 "java/lang/String" "COMPACT_STRINGS" "Z", .fieldLink "java/lang/String" 15 "java/lang/String" "coder" "B"]
def tab : Cond := tabOf yN yB 1 (some .boolean) site
def P (x : Addr) (cd z : Int32) (args : Array Value) (s : State) : Prop := args = #[.ref x] ∧ Has x "java/lang/String" "coder" "B" (.int cd) s ∧ (cd = 0 ∨ cd = 1) ∧ StaticIs s "java/lang/String" "COMPACT_STRINGS" "Z" (.int z) ∧ ¬ z = 0
def E (cd : Int32) (r : Option Value) (s u : State) : Prop := XT.PureE (some (.int (1 - cd))) r s u
theorem law (l : Launch) (x : Addr) (cd z : Int32) : Law l yN 1 0 0 0 yB 1 (some .boolean) site (P x cd z) (E cd) [] 0 0 := by
  refine Law.of_walk (plainFor_of_name (by decide +kernel)) (by decide +kernel) (by decide +kernel) (by decide) (fun _ _ h => by rw [h.1]; rfl) (fun _ U U' hal hh h => ⟨h.1, h.2.1.mv hal hh, h.2.2.1, h.2.2.2.1.there hal hh, h.2.2.2.2⟩) (fun r U U' V V' h1 hal h2 h => XT.PureE.mv r U U' V V' h1 hal h2 h) ?_
  intro p e s m args below meth c s₁ X0 hexec hbytes hml hret hlk hnm hown hh0 W hP
  obtain ⟨rfl, hx, hc, s1, hz⟩ := hP
  have c1 : Steps p.tables e below (s₁.setTop (entryFrame m #[.ref x] 1)) (s₁.setTop (mkF m 0 #[.val (.ref x)] [])) := entry rfl
  obtain ⟨T2, X2, q2, st2⟩ := X0.sget hexec hown (wk W (.fieldLink "java/lang/String" 38 "java/lang/String" "COMPACT_STRINGS" "Z")) s1 (fun _ _ h => by rw [hh0]; exact h) (g := (mkF m 0 #[.val (.ref x)] [])) rfl (hb hbytes d0)
  have hh2 := q2.trans hh0
  have c3 : Steps p.tables e below (s₁.setTop (entryFrame m #[.ref x] 1)) (T2.setTop (mkF m 7 #[.val (.ref x)] [.ref x])) := (c1.trans (st2 _ (Steps.refl _))).trans (by
    refine XS.ifNo X2.here hexec rfl (hb hbytes d3) rfl (i0_eq_f hz) ?_
    refine XS.aloadN X2.here hexec rfl (hb hbytes d6) rfl rfl ?_
    exact Steps.refl _)
  obtain ⟨T4, X4, q4, st4⟩ := X2.hget hexec hown (wk W (.fieldLink "java/lang/String" 15 "java/lang/String" "coder" "B")) (hx.mv X2.warmed.alike hh2) (g := (mkF m 7 #[.val (.ref x)] [.ref x])) rfl (rest := []) rfl (hb hbytes d7)
  have c5 : Steps p.tables e below (s₁.setTop (entryFrame m #[.ref x] 1)) (T4.setTop (mkF m 10 #[.val (.ref x)] [.int cd])) := c3.trans (st4 _ (Steps.refl _))
  have c6 : Steps p.tables e below (s₁.setTop (entryFrame m #[.ref x] 1)) (T4.setTop (mkF m 18 #[.val (.ref x)] [.int (1 - cd)])) := by
    rcases hc with rfl | rfl
    · exact c5.trans (by
        refine XS.ifNo X4.here hexec rfl (hb hbytes d10) rfl (i0_ne_f rfl) ?_
        refine iconstV X4.here hexec rfl 1 (hb hbytes d13) (by decide) ?_
        refine XS.goto X4.here hexec rfl (pc0 := 14) rfl (hb hbytes d14) (by decide) rfl ?_
        exact Steps.refl _)
    · exact c5.trans (by
        refine XS.ifYes X4.here hexec rfl (pc0 := 10) rfl (hb hbytes d10) rfl (i0_ne_t (by decide)) (by decide) rfl ?_
        refine iconstV X4.here hexec rfl 0 (hb hbytes d17) (by decide) ?_
        exact Steps.refl _)
  exact ⟨T4, some (.int (1 - cd)), _, _, _, X4, rfl, rfl, rfl, (fun h => by cases h), ⟨rfl, q4.trans hh2⟩, fun fs hl => c6.trans (X4.ireturnOut hexec hret (by rcases hc with rfl | rfl <;> rfl) (Or.inr (Or.inl rfl)) (hb hbytes d18) hl)⟩
end IsL
namespace LChA
def yN : MethodName := ⟨"java/lang/StringLatin1", "charAt", "([BI)C"⟩
abbrev yB : ByteArray := jdk_43_method_2_code
theorem d0 : decode yB 0 = .ok (.iload_n 1, 1) := by decide +kernel
theorem d1 : decode yB 1 = .ok (.aload_n 0, 1) := by decide +kernel
theorem d2 : decode yB 2 = .ok (.arraylength, 1) := by decide +kernel
theorem d3 : decode yB 3 = .ok (.invokestatic 9, 3) := by decide +kernel
theorem d6 : decode yB 6 = .ok (.aload_n 0, 1) := by decide +kernel
theorem d7 : decode yB 7 = .ok (.iload_n 1, 1) := by decide +kernel
theorem d8 : decode yB 8 = .ok (.baload, 1) := by decide +kernel
theorem d9 : decode yB 9 = .ok (.sipush 255, 3) := by decide +kernel
theorem d12 : decode yB 12 = .ok (.iand, 1) := by decide +kernel
theorem d13 : decode yB 13 = .ok (.i2c, 1) := by decide +kernel
theorem d14 : decode yB 14 = .ok (.ireturn, 1) := by decide +kernel
def site : List Cond := [JO.Str_checkIndex.tab] ++ staticW "java/lang/StringLatin1" 9 JO.Str_checkIndex.yN
def tab : Cond := tabOf yN yB 2 (some .char) site
def P (t : Addr) (V : Cell) (i : Nat) (u : Int32) (fm : Value) (args : Array Value) (s : State) : Prop := args = #[.ref t, .int (Int32.ofNat i)] ∧ XT.Arr .byte t V s ∧ V.slots[i]? = some (.int u) ∧ (StaticIs s "jdk/internal/util/Preconditions" "SIOOBE_FORMATTER" "Ljava/util/function/BiFunction;" fm ∧ fm.isRef = true)
def E (u : Int32) (r : Option Value) (s w : State) : Prop := XT.PureE (some (.int (chr8 u))) r s w
theorem law (l : Launch) (t : Addr) (V : Cell) (i : Nat) (u : Int32) (fm : Value) : Law l yN 2 2 2 27 yB 2 (some .char) site (P t V i u fm) (E u) [] 0 0 := by
  refine Law.of_walk (plainFor_of_name (by decide +kernel)) (by decide +kernel) (by decide +kernel) (by decide) (fun _ _ h => by rw [h.1]; rfl) (fun _ U U' hal hh h => ⟨h.1, h.2.1.mv hal hh, h.2.2.1, h.2.2.2.1.there hal hh, h.2.2.2.2⟩) (fun r U U' V V' h1 hal h2 h => XT.PureE.mv r U U' V V' h1 hal h2 h) ?_
  intro p e s m args below meth c s₁ X0 hexec hbytes hml hret hlk hnm hown hh0 W hP
  obtain ⟨rfl, hV, hu, s1, rf⟩ := hP
  have v31 := hV.2.2.2
  have hi : i < V.slots.size := (Array.getElem?_eq_some_iff.mp hu).1
  have c1 : Steps p.tables e below (s₁.setTop (entryFrame m #[.ref t, .int (Int32.ofNat i)] 2)) (s₁.setTop (mkF m 0 #[.val (.ref t), .val (.int (Int32.ofNat i))] [])) := entry rfl
  have c2 : Steps p.tables e below (s₁.setTop (entryFrame m #[.ref t, .int (Int32.ofNat i)] 2)) (s₁.setTop (mkF m 3 #[.val (.ref t), .val (.int (Int32.ofNat i))] [.int (Int32.ofNat V.slots.size), .int (Int32.ofNat i)])) := c1.trans (by
    refine XS.iloadN X0.here hexec rfl (hb hbytes d0) rfl ?_
    refine XS.aloadN X0.here hexec rfl (hb hbytes d1) rfl rfl ?_
    refine X0.alen hexec (hV.mv X0.warmed.alike hh0) rfl rfl (hb hbytes d2) ?_
    exact Steps.refl _)
  obtain ⟨v3, T3, X3, E3, g3⟩ := X0.callS hexec (JO.Str_checkIndex.law l (Int32.ofNat i) (Int32.ofNat V.slots.size) fm) hown (wks W (staticW "java/lang/StringLatin1" 9 JO.Str_checkIndex.yN)) (wk W JO.Str_checkIndex.tab) (W := 0) (Nat.le_of_ble_eq_true rfl) (Nat.le_of_ble_eq_true rfl) (Nat.le_refl _) (Nat.le_refl _) (g := (mkF m 3 #[.val (.ref t), .val (.int (Int32.ofNat i))] [.int (Int32.ofNat V.slots.size), .int (Int32.ofNat i)])) rfl (by rw [hml]; rfl) c2 (argsL := [.int (Int32.ofNat i), .int (Int32.ofNat V.slots.size)]) (rest := []) rfl rfl (by show 2 * 0 + 0 ≤ _; decide) (hb hbytes d3) (⟨rfl, rf, s1.there X0.warmed.alike hh0, Int32.ofNat_not_neg (by omega), lt32 v31 hi⟩)
  obtain ⟨rfl, q3⟩ := E3
  have hh3 := q3.trans hh0
  have c4 : Steps p.tables e below (s₁.setTop (entryFrame m #[.ref t, .int (Int32.ofNat i)] 2)) (T3.setTop (mkF m 14 #[.val (.ref t), .val (.int (Int32.ofNat i))] [.int (chr8 u)])) := Steps.trans g3 (by
    refine XS.aloadN X3.here hexec rfl (hb hbytes d6) rfl rfl ?_
    refine XS.iloadN X3.here hexec rfl (hb hbytes d7) rfl ?_
    refine X3.aget hexec (hV.mv X3.warmed.alike hh3) rfl hu rfl rfl (hb hbytes d8) ?_
    refine sipushV X3.here hexec rfl 255 (hb hbytes d9) (by decide) ?_
    refine XS.iand X3.here hexec rfl (hb hbytes d12) rfl ?_
    refine i2c X3.here hexec rfl (hb hbytes d13) rfl ?_
    exact Steps.refl _)
  exact ⟨T3, some (.int (chr8 u)), _, _, _, X3, rfl, rfl, rfl, (fun h => by cases h), ⟨rfl, hh3⟩, fun fs hl => c4.trans (X3.ireturnOut hexec hret (narrow_c _) (Or.inr (Or.inr (Or.inr (Or.inl rfl)))) (hb hbytes d14) hl)⟩
end LChA
end StrChars
namespace StrChars.Road
open Jvm Sem ClassFile Op Lib Jvm.Stand Jvm.Free Jvm.Free.XT
open Jvm.Lib.Cold (StaticIs)
theorem consq {a : Array Value} {s : State} {c : Jvm.Cond} {L : List Jvm.Cond} (h0 : c.before a s = true) (h : ∀ w ∈ L, w.before a s = true) : ∀ w ∈ c :: L, w.before a s = true := fun w hw => (List.mem_cons.mp hw).elim (fun e => e ▸ h0) (h w)
/-- the words of String.length(), either coding -/
abbrev wordsLen : List Jvm.Cond := [.code Len.yN Len.yB 1 (some .int), .initialized ST, .fieldLink ST 9 ST "value" "[B", .fieldLink ST 38 ST "COMPACT_STRINGS" "Z", .fieldLink ST 15 ST "coder" "B", .code Cdr.yN Cdr.yB 1 (some .byte), .methodLink ST 335 Cdr.yN, .declares Cdr.yN, .selects ST Cdr.yN Cdr.yN, .instanceMethod Cdr.yN]
theorem tabLen_of {a : Array Value} {s : State} (h : ∀ w ∈ wordsLen, w.before a s = true) : Len.tab.before a s = true := by
  have hc : Cdr.tab.before a s = true := unparts (wk h (.code Cdr.yN Cdr.yB 1 (some .byte))) (wks h (.initialized Cdr.yN.cls :: Cdr.site))
  have q := consq hc h
  exact unparts (wk q (.code Len.yN Len.yB 1 (some .int))) (wks q (.initialized Len.yN.cls :: Len.site))
theorem movedLen {Z s : State} {a0 args : Array Value} (hZ : Z.Warmed39 s.vm) (hw : ∀ d ∈ wordsLen, d.before a0 Z = true) : ∀ d ∈ wordsLen, d.before args s = true := fun d hd => by
  have q := hw d hd
  have t : ∀ d ∈ wordsLen, d = .arrayClass .byte ∨ (d.onTables && d.keepsFace) = true := by decide +kernel
  rcases t d hd with rfl | t
  · exact RoadKit.mvA hZ q
  · exact RoadKit.mv hZ q t
/-- the bytes of the chars cs, low before high -/
def wideBytes : List Int32 → List Value
  | [] => []
  | c :: cs => .int (lo8 c) :: .int (hi8 c) :: wideBytes cs
theorem wide_lo (d : Value) : ∀ (cs : List Int32) (j : Nat), j < cs.length → (wideBytes cs).getD (2 * j) d = .int (lo8 (cs.getD j 0))
  | [], j, h => absurd h (Nat.not_lt_zero j)
  | c :: cs, 0, _ => rfl
  | c :: cs, j + 1, h => by
    have q := wide_lo d cs j (by simpa using h)
    rw [show 2 * (j + 1) = 2 * j + 1 + 1 from by omega]
    simpa [wideBytes] using q
theorem wide_hi (d : Value) : ∀ (cs : List Int32) (j : Nat), j < cs.length → (wideBytes cs).getD (2 * j + 1) d = .int (hi8 (cs.getD j 0))
  | [], j, h => absurd h (Nat.not_lt_zero j)
  | c :: cs, 0, _ => rfl
  | c :: cs, j + 1, h => by
    have q := wide_hi d cs j (by simpa using h)
    rw [show 2 * (j + 1) + 1 = 2 * j + 1 + 1 + 1 from by omega]
    simpa [wideBytes] using q
theorem low_at (d : Value) (cs : List Int32) (j : Nat) (h : j < cs.length) : (cs.map fun c => Value.int (lo8 c)).getD j d = .int (lo8 (cs.getD j 0)) := by
  simp [List.getD_eq_getElem?_getD, h]
/-- an array of N2 bytes vs codes the chars cs by the coder cd -/
def CodA (cs : List Int32) (cd N2 : Int32) (vs : List Value) : Prop := (cd = 0 ∧ N2 = Int32.ofNat cs.length ∧ vs = (cs.map fun c => Value.int (lo8 c)) ∧ ∀ c ∈ cs, ¬ 255 < c) ∨ (cd = 1 ∧ N2 = Int32.ofNat (2 * cs.length) ∧ vs = wideBytes cs ∧ ∃ c ∈ cs, 255 < c)
theorem CodA.cod {cs : List Int32} {cd N2 : Int32} {vs : List Value} {V : Cell} (h : CodA cs cd N2 vs) (hn : 2 * cs.length < 2 ^ 31) (hs : V.slots.size = N2.toNatClampNeg) (hv : RoadKit.Has V vs (.int 0)) : Cod cd cs.length (fun j => cs.getD j 0) V := by
  rcases h with ⟨rfl, rfl, rfl, h⟩ | ⟨rfl, rfl, rfl, c, hc, hw⟩
  · rw [n32 (by omega)] at hs
    exact Or.inl ⟨rfl, hs, fun j hj => ⟨by rw [hv j (by omega), low_at _ _ _ hj], by
      have e : cs.getD j 0 = cs[j] := by simp [List.getD_eq_getElem?_getD, hj]
      show ¬ 255 < cs.getD j 0
      rw [e]; exact h _ (List.getElem_mem _)⟩⟩
  · rw [n32 (by omega)] at hs
    obtain ⟨j, hj, rfl⟩ := List.getElem_of_mem hc
    exact Or.inr ⟨rfl, hs, fun j hj => ⟨by rw [hv _ (by omega), wide_lo _ _ _ hj], by rw [hv _ (by omega), wide_hi _ _ _ hj]⟩, j, hj, by
      have e : cs.getD j 0 = cs[j] := by simp [List.getD_eq_getElem?_getD, hj]
      show 255 < cs.getD j 0
      rw [e]; exact hw⟩
/-- an object of exactly java/lang/String, its two fields found: as the laws ask it -/
theorem strObj {Z U : State} {a0 : Array Value} {kI : Nat} (wi : (Jvm.Cond.instantiable ST kI).before a0 Z = true) (al : Z.vm.Alike U.vm) {x : Addr} {v0 c0 : Value} (E : RoadKit.Exa Z U.heap x ST) (V : RoadKit.Fld Z U.heap x ST "value" "[B" v0) (C : RoadKit.Fld Z U.heap x ST "coder" "B" c0) :
    ∃ (D : Cell) (fV fC : Field), Blank ST x D U ∧ Found ST "value" "[B" fV U ∧ Found ST "coder" "B" fC U ∧ D.slots[fV.slot]? = some v0 ∧ D.slots[fC.slot]? = some c0 ∧ RoadKit.slotOf Z ST "value" "[B" = fV.slot ∧ RoadKit.slotOf Z ST "coder" "B" = fC.slot := by
  obtain ⟨D, cfV, kV, iV, fV, hD, gV, stV, knV, obV, asV, slV⟩ := V
  obtain ⟨D', cfC, kC, iC, fC, hD', gC, stC, -, -, asC, slC⟩ := C
  cases hD.symm.trans hD'
  obtain ⟨D2, kD, e1, e2, e3, e4, e5⟩ := E
  cases hD.symm.trans e1
  obtain ⟨c2, k2, i1, i2, i3, -⟩ := Cond.instantiable_spec wi
  cases e2.symm.trans i1
  cases e3.symm.trans i2
  obtain ⟨kU, u1, u2⟩ := al.2.2 _ _ e3
  exact ⟨D, fV, fC, ⟨hD, ⟨knV, fun q hq => by rw [hq] at obV; cases obV⟩, by rw [al.findClass]; exact e2, kU, u1, by rw [u2]; exact i3, by rw [u2]; exact e5 i3⟩, ⟨SBG.found_only al ⟨cfV, kV, iV, gV⟩, stV⟩, ⟨SBG.found_only al ⟨cfC, kC, iC, gC⟩, stC⟩, slV, slC, by simp [RoadKit.slotOf, gV], by simp [RoadKit.slotOf, gC]⟩
theorem sta_is {Z U : State} (al : Z.vm.Alike U.vm) {C n d : String} {v : Value} (S : RoadKit.Sta Z U.heap C n d v) : StaticIs U C n d v := by
  obtain ⟨cfS, iS, kS, fS, st, cS, t1, t2, t3, t4, t5, t6, t7⟩ := S
  exact StaticIs.there (s := { Z with heap := U.heap }) ⟨cfS, iS, kS, fS, st, cS, t1, t2, t3, t4, t5, (fun q => by rw [q] at t6; cases t6), t7⟩ al rfl
/-- **length() OF SUCH A STRING** -/
theorem lenW {p : Program} {l : Launch} {e : Env} {R : Room} {s : State} {args : Array Value} {below : List Frame} {len W : Nat} {Z : State} {a0 : Array Value} {h : Heap} (hZ : Z.Warmed39 s.vm) (hw : ∀ d ∈ wordsLen, d.before a0 Z = true) {kI : Nat} (wi : (Jvm.Cond.instantiable ST kI).before a0 Z = true)
    {x t : Addr} {kb : ClassId} {cs : List Int32} {cd N2 z : Int32} {vs : List Value} (E : RoadKit.Exa Z h x ST) (V : RoadKit.Fld Z h x ST "value" "[B" (.ref t)) (C : RoadKit.Fld Z h x ST "coder" "B" (.int cd)) (K : RoadKit.Arv Z h t kb .byte N2 vs (.int 0)) (hc : CodA cs cd N2 vs) (hb : ∀ c ∈ cs, ¬ c < 0 ∧ ¬ (65535 : Int32) < c)
    (S : RoadKit.Sta Z h ST "COMPACT_STRINGS" "Z" (.int z)) (hz : ¬ z = 0) (l2 : cs.length ≤ 4000) (hfr : 2 ≤ R.frames) (hlo : W + 25 ≤ R.locals) :
    Back l R p e below s args (⟨"java/lang/String", "length", "()I"⟩ : MethodName) len W (fun P a => a = #[.ref x] ∧ P.U.heap = h ∧ P.cells + 0 ≤ R.cells ∧ P.slots + 0 ≤ R.slots)
      (fun P _ v B => ∃ L, (v = some (.int (Int32.ofNat cs.length)) ∧ L = [] ∧ B.U.heap = h) ∧ B.locs = P.locs ++ L ∧ B.cells = P.cells + 0 ∧ B.slots = P.slots + 0) := by
  obtain ⟨A, K1, K2, K3, K4, K5, K6⟩ := K
  have hcod := hc.cod (by omega) K3 K5
  intro m meth c P g ig mk a X hg hsize hdg hW hn hp'
  obtain ⟨rfl, rfl, r1, r2⟩ := hp'
  have al : Z.vm.Alike P.U.vm := hZ.alike.trans X.warmed.alike
  obtain ⟨D, fV, fC, hB, F1, F2, g1, g2, -, -⟩ := strObj wi al E V C
  have hx : Txt x t A cd cs.length (fun j => cs.getD j 0) P.U := ⟨⟨_, hB.2.2.1, D, hB.1, rfl, by cases q : D.vm <;> first | rfl | exact absurd q (hB.2.1.2 _)⟩, Has.of hB F1 g1, Has.of hB F2 g2, ⟨K1.1, State.isArrayOf_alike al K1.2.1, K1.2.2, by rcases hcod with ⟨-, q, -⟩ | ⟨-, q, -⟩ <;> omega⟩, hcod, fun j hj => by
    have e : cs.getD j 0 = cs[j] := by simp [List.getD_eq_getElem?_getD, hj]
    show ¬ cs.getD j 0 < 0 ∧ ¬ 65535 < cs.getD j 0
    rw [e]; exact hb _ (List.getElem_mem _)⟩
  obtain ⟨v, B, X', ⟨⟨hv, hh⟩, hl, hk, hs⟩, st⟩ := Len.pays x t A cd cs.length (fun j => cs.getD j 0) z (tabLen_of (movedLen hZ hw)) hfr hlo m meth c P g ig mk _ X hg hsize hdg hW hn ⟨r1, r2, rfl, hx, sta_is al S, hz⟩
  exact ⟨v, B, X', ⟨[], ⟨hv, rfl, hh⟩, hl, hk, hs⟩, st⟩
end StrChars.Road
namespace StrChars
open Jvm Sem ClassFile Op Lib Jvm.Stand Jvm.Free.XT Jvm.Free.ALB Jvm.Free.JM Jvm.Free
open Jvm.Lib.Cold (StaticIs)
/-- what place i of a byte[]'s cell holds -/
def yv (A : Cell) (i : Nat) : Int32 := match A.slots[i]? with | some (.int x) => x | _ => 0
theorem yv_get {a : Addr} {A : Cell} {U : State} (h : XT.Arr .byte a A U) (ht : Typed .byte A) {i : Nat} (hi : i < A.slots.size) : A.slots[i]? = some (.int (yv A i)) := by
  have e := Array.getElem?_eq_getElem hi
  have f := ht i _ e
  unfold yv; rw [e]
  generalize A.slots[i] = v at f
  cases v <;> simp [fits] at f ⊢
/-- the two arrays are equal, place for place -/
def EqC (A B : Cell) : Prop := A.slots.size = B.slots.size ∧ ∀ i, i < A.slots.size → yv A i = yv B i
/-- a boolean that says whether p -/
def Says01 (q : Prop) (r : Option Value) (s u : State) : Prop := ∃ v : Int32, r = some (.int v) ∧ u.heap = s.heap ∧ ((v = 1 ∧ q) ∨ (v = 0 ∧ ¬ q))
theorem Says01.mv {q : Prop} : ∀ r (U U' V V' : State), U'.heap = U.heap → V.vm.Alike V'.vm → V'.heap = V.heap → Says01 q r U V → Says01 q r U' V' :=
  fun r U U' V V' h1 _ h2 ⟨v, a, b, c⟩ => ⟨v, a, by rw [h1, h2]; exact b, c⟩
namespace LEq
def yN : MethodName := ⟨"java/lang/StringLatin1", "equals", "([B[B)Z"⟩
abbrev yB : ByteArray := jdk_43_method_13_code
theorem d0 : decode yB 0 = .ok (.aload_n 0, 1) := by decide +kernel
theorem d1 : decode yB 1 = .ok (.arraylength, 1) := by decide +kernel
theorem d2 : decode yB 2 = .ok (.aload_n 1, 1) := by decide +kernel
theorem d3 : decode yB 3 = .ok (.arraylength, 1) := by decide +kernel
theorem d4 : decode yB 4 = .ok (.if_icmp (.ne) 30, 3) := by decide +kernel
theorem d7 : decode yB 7 = .ok (.iconst 0, 1) := by decide +kernel
theorem d8 : decode yB 8 = .ok (.istore_n 2, 1) := by decide +kernel
theorem d9 : decode yB 9 = .ok (.iload_n 2, 1) := by decide +kernel
theorem d10 : decode yB 10 = .ok (.aload_n 0, 1) := by decide +kernel
theorem d11 : decode yB 11 = .ok (.arraylength, 1) := by decide +kernel
theorem d12 : decode yB 12 = .ok (.if_icmp (.ge) 20, 3) := by decide +kernel
theorem d15 : decode yB 15 = .ok (.aload_n 0, 1) := by decide +kernel
theorem d16 : decode yB 16 = .ok (.iload_n 2, 1) := by decide +kernel
theorem d17 : decode yB 17 = .ok (.baload, 1) := by decide +kernel
theorem d18 : decode yB 18 = .ok (.aload_n 1, 1) := by decide +kernel
theorem d19 : decode yB 19 = .ok (.iload_n 2, 1) := by decide +kernel
theorem d20 : decode yB 20 = .ok (.baload, 1) := by decide +kernel
theorem d21 : decode yB 21 = .ok (.if_icmp (.eq) 5, 3) := by decide +kernel
theorem d24 : decode yB 24 = .ok (.iconst 0, 1) := by decide +kernel
theorem d25 : decode yB 25 = .ok (.ireturn, 1) := by decide +kernel
theorem d26 : decode yB 26 = .ok (.iinc 2 1, 3) := by decide +kernel
theorem d29 : decode yB 29 = .ok (.goto (-20), 3) := by decide +kernel
theorem d32 : decode yB 32 = .ok (.iconst 1, 1) := by decide +kernel
theorem d33 : decode yB 33 = .ok (.ireturn, 1) := by decide +kernel
theorem d34 : decode yB 34 = .ok (.iconst 0, 1) := by decide +kernel
theorem d35 : decode yB 35 = .ok (.ireturn, 1) := by decide +kernel
def site : List Cond := []
def tab : Cond := tabOf yN yB 3 (some .boolean) site
def P (a : Addr) (A : Cell) (b : Addr) (B : Cell) (args : Array Value) (s : State) : Prop := args = #[.ref a, .ref b] ∧ XT.Arr .byte a A s ∧ Typed .byte A ∧ XT.Arr .byte b B s ∧ Typed .byte B
/-- whether two byte[] are equal, place for place -/
theorem law (l : Launch) (a : Addr) (A : Cell) (b : Addr) (B : Cell) : Law l yN 2 2 0 0 yB 3 (some .boolean) site (P a A b B) (Says01 (EqC A B)) [] 0 0 := by
  refine Law.of_walk (plainFor_of_name (by decide +kernel)) (by decide +kernel) (by decide +kernel) (by decide) (fun _ _ h => by rw [h.1]; rfl) (fun _ U U' hal hh h => ⟨h.1, h.2.1.mv hal hh, h.2.2.1, h.2.2.2.1.mv hal hh, h.2.2.2.2⟩) (fun r U U' V V' h1 hal h2 h => Says01.mv r U U' V V' h1 hal h2 h) ?_
  intro p e s m args below meth c s₁ X0 hexec hbytes hml hret hlk hnm hown hh0 W hP
  obtain ⟨rfl, hA, tA, hB, tB⟩ := hP
  have a31 := hA.2.2.2
  have b31 := hB.2.2.2
  have hA0 := hA.mv X0.warmed.alike hh0
  have hB0 := hB.mv X0.warmed.alike hh0
  have c1 : Steps p.tables e below (s₁.setTop (entryFrame m #[.ref a, .ref b] 3)) (s₁.setTop (mkF m 0 #[.val (.ref a), .val (.ref b), .unset] [])) := entry rfl
  have c2 : Steps p.tables e below (s₁.setTop (entryFrame m #[.ref a, .ref b] 3)) (s₁.setTop (mkF m 4 #[.val (.ref a), .val (.ref b), .unset] [.int (Int32.ofNat B.slots.size), .int (Int32.ofNat A.slots.size)])) := c1.trans (by
    refine XS.aloadN X0.here hexec rfl (hb hbytes d0) rfl rfl ?_
    refine X0.alen hexec hA0 rfl rfl (hb hbytes d1) ?_
    refine XS.aloadN X0.here hexec rfl (hb hbytes d2) rfl rfl ?_
    refine X0.alen hexec hB0 rfl rfl (hb hbytes d3) ?_
    exact Steps.refl _)
  by_cases hs : A.slots.size = B.slots.size
  · have c3 : Steps p.tables e below (s₁.setTop (entryFrame m #[.ref a, .ref b] 3)) (s₁.setTop (mkF m 9 #[.val (.ref a), .val (.ref b), .val (.int 0)] [])) := c2.trans (by
      refine XS.icmpNo X0.here hexec rfl (hb hbytes d4) rfl (ii_ne_f (by rw [hs])) ?_
      refine iconstV X0.here hexec rfl 0 (hb hbytes d7) (by decide) ?_
      refine XS.istoreN X0.here hexec rfl (hb hbytes d8) rfl rfl ?_
      exact Steps.refl _)
    have loop : ∀ (r i : Nat), i + r = A.slots.size → (∀ j, j < i → yv A j = yv B j) → Steps p.tables e below (s₁.setTop (entryFrame m #[.ref a, .ref b] 3)) (s₁.setTop (mkF m 9 #[.val (.ref a), .val (.ref b), .val (.int (Int32.ofNat i))] [])) → ∃ (pc : Nat) (Ls : Array Slot) (v : Int32), (pc = 25 ∨ pc = 33) ∧ ((v = 1 ∧ EqC A B) ∨ (v = 0 ∧ ¬ EqC A B)) ∧ Steps p.tables e below (s₁.setTop (entryFrame m #[.ref a, .ref b] 3)) (s₁.setTop (mkF m pc Ls [.int v])) := by
      intro r
      induction r with
      | zero =>
        intro i hi he cl
        exact ⟨33, _, 1, Or.inr rfl, Or.inl ⟨rfl, hs, fun j hj => he j (by omega)⟩, cl.trans (by
          refine XS.iloadN X0.here hexec rfl (hb hbytes d9) rfl ?_
          refine XS.aloadN X0.here hexec rfl (hb hbytes d10) rfl rfl ?_
          refine X0.alen hexec hA0 rfl rfl (hb hbytes d11) ?_
          refine XS.icmpYes X0.here hexec rfl (pc0 := 12) rfl (hb hbytes d12) rfl (ii_ge_t (nlt32 (by omega) (by omega))) (by decide) rfl ?_
          refine iconstV X0.here hexec rfl 1 (hb hbytes d32) (by decide) ?_
          exact Steps.refl _)⟩
      | succ r ih =>
        intro i hi he cl
        have c4 : Steps p.tables e below (s₁.setTop (entryFrame m #[.ref a, .ref b] 3)) (s₁.setTop (mkF m 21 #[.val (.ref a), .val (.ref b), .val (.int (Int32.ofNat i))] [.int (yv B i), .int (yv A i)])) := cl.trans (by
          refine XS.iloadN X0.here hexec rfl (hb hbytes d9) rfl ?_
          refine XS.aloadN X0.here hexec rfl (hb hbytes d10) rfl rfl ?_
          refine X0.alen hexec hA0 rfl rfl (hb hbytes d11) ?_
          refine XS.icmpNo X0.here hexec rfl (hb hbytes d12) rfl (ii_ge_f (lt32 (by omega) (by omega))) ?_
          refine XS.aloadN X0.here hexec rfl (hb hbytes d15) rfl rfl ?_
          refine XS.iloadN X0.here hexec rfl (hb hbytes d16) rfl ?_
          refine X0.aget hexec hA0 rfl (yv_get hA tA (i := i) (by omega)) rfl rfl (hb hbytes d17) ?_
          refine XS.aloadN X0.here hexec rfl (hb hbytes d18) rfl rfl ?_
          refine XS.iloadN X0.here hexec rfl (hb hbytes d19) rfl ?_
          refine X0.aget hexec hB0 rfl (yv_get hB tB (i := i) (by omega)) rfl rfl (hb hbytes d20) ?_
          exact Steps.refl _)
        by_cases hv : yv A i = yv B i
        · have c5 : Steps p.tables e below (s₁.setTop (entryFrame m #[.ref a, .ref b] 3)) (s₁.setTop (mkF m 9 #[.val (.ref a), .val (.ref b), .val (.int (Int32.ofNat i + 1))] [])) := c4.trans (by
            refine XS.icmpYes X0.here hexec rfl (pc0 := 21) rfl (hb hbytes d21) rfl (ii_eq_t hv) (by decide) rfl ?_
            refine iincV X0.here hexec rfl 1 (hb hbytes d26) (by decide) rfl rfl ?_
            refine XS.goto X0.here hexec rfl (pc0 := 29) rfl (hb hbytes d29) (by decide) rfl ?_
            exact Steps.refl _)
          rw [succ32] at c5
          exact ih (i + 1) (by omega) (fun j hj => by
            by_cases e : j = i
            · rw [e]; exact hv
            · exact he j (by omega)) c5
        · exact ⟨25, _, 0, Or.inl rfl, Or.inr ⟨rfl, fun q => hv (q.2 i (by omega))⟩, c4.trans (by
            refine XS.icmpNo X0.here hexec rfl (hb hbytes d21) rfl (ii_eq_f hv) ?_
            refine iconstV X0.here hexec rfl 0 (hb hbytes d24) (by decide) ?_
            exact Steps.refl _)⟩
    obtain ⟨pc, Ls, v, hpc, hv, cz⟩ := loop A.slots.size 0 (by omega) (fun j hj => absurd hj (Nat.not_lt_zero j)) c3
    have nv : narrow .boolean (.int v) = .int v := by rcases hv with ⟨rfl, -⟩ | ⟨rfl, -⟩ <;> rfl
    rcases hpc with rfl | rfl
    · exact ⟨s₁, some (.int v), _, _, _, X0, rfl, rfl, rfl, (fun h => by cases h), ⟨v, rfl, hh0, hv⟩, fun fs hl => cz.trans (X0.ireturnOut hexec hret nv (Or.inr (Or.inl rfl)) (hb hbytes d25) hl)⟩
    · exact ⟨s₁, some (.int v), _, _, _, X0, rfl, rfl, rfl, (fun h => by cases h), ⟨v, rfl, hh0, hv⟩, fun fs hl => cz.trans (X0.ireturnOut hexec hret nv (Or.inr (Or.inl rfl)) (hb hbytes d33) hl)⟩
  · have c3 : Steps p.tables e below (s₁.setTop (entryFrame m #[.ref a, .ref b] 3)) (s₁.setTop (mkF m 35 #[.val (.ref a), .val (.ref b), .unset] [.int 0])) := c2.trans (by
      refine XS.icmpYes X0.here hexec rfl (pc0 := 4) rfl (hb hbytes d4) rfl (ii_ne_t (ne32 a31 b31 hs)) (by decide) rfl ?_
      refine iconstV X0.here hexec rfl 0 (hb hbytes d34) (by decide) ?_
      exact Steps.refl _)
    exact ⟨s₁, some (.int 0), _, _, _, X0, rfl, rfl, rfl, (fun h => by cases h), ⟨0, rfl, hh0, Or.inr ⟨rfl, fun q => hs q.1⟩⟩, fun fs hl => c3.trans (X0.ireturnOut hexec hret rfl (Or.inr (Or.inl rfl)) (hb hbytes d35) hl)⟩
end LEq
theorem Cod.ty {cd : Int32} {n : Nat} {f : Nat → Int32} {V : Cell} (h : Cod cd n f V) : Typed .byte V := fun i v hv => by
  have hi : i < V.slots.size := (Array.getElem?_eq_some_iff.mp hv).1
  rcases h with ⟨-, k1, k2⟩ | ⟨-, k1, k2, -⟩
  · rw [(k2 i (by omega)).1] at hv; cases hv; exact fits_lo8 _
  · rcases Nat.mod_two_eq_zero_or_one i with e | e
    · obtain ⟨j, rfl⟩ : ∃ j, i = 2 * j := ⟨i / 2, by omega⟩
      rw [(k2 j (by omega)).1] at hv; cases hv; exact fits_lo8 _
    · obtain ⟨j, rfl⟩ : ∃ j, i = 2 * j + 1 := ⟨i / 2, by omega⟩
      rw [(k2 j (by omega)).2] at hv; cases hv; exact fits_lo8 _
/-- the same text -/
def SameT (n : Nat) (f : Nat → Int32) (k : Nat) (g : Nat → Int32) : Prop := n = k ∧ ∀ j, j < n → f j = g j
theorem lo8_inj {x y : Int32} (h0 : ¬ x < 0) (h1 : ¬ 255 < x) (k0 : ¬ y < 0) (k1 : ¬ 255 < y) (h : lo8 x = lo8 y) : x = y := by
  rw [← lo8_mask h0 h1, ← lo8_mask k0 k1, h]
/-- arrays coded by one coder are equal just where the texts are -/
theorem Cod.eqv {cd : Int32} {n k : Nat} {f g : Nat → Int32} {V V' : Cell} (h : Cod cd n f V) (h' : Cod cd k g V') (hf : ∀ j, j < n → ¬ f j < 0 ∧ ¬ 65535 < f j) (hg : ∀ j, j < k → ¬ g j < 0 ∧ ¬ 65535 < g j) : EqC V V' ↔ SameT n f k g := by
  have yvv : ∀ {W : Cell} {i : Nat} {x : Int32}, W.slots[i]? = some (.int x) → yv W i = x := fun q => by unfold yv; rw [q]
  rcases h with ⟨rfl, k1, k2⟩ | ⟨rfl, k1, k2, -⟩
  · rcases h' with ⟨-, m1, m2⟩ | ⟨e, -⟩
    · constructor
      · rintro ⟨e1, e2⟩
        refine ⟨by omega, fun j hj => ?_⟩
        have q := e2 j (by omega)
        rw [yvv (k2 j hj).1, yvv (m2 j (by omega)).1] at q
        exact lo8_inj (hf j hj).1 (k2 j hj).2 (hg j (by omega)).1 (m2 j (by omega)).2 q
      · rintro ⟨rfl, e2⟩
        refine ⟨by omega, fun j hj => ?_⟩
        rw [yvv (k2 j (by omega)).1, yvv (m2 j (by omega)).1, e2 j (by omega)]
    · exact absurd e (by decide)
  · rcases h' with ⟨e, -⟩ | ⟨-, m1, m2, -⟩
    · exact absurd e (by decide)
    · constructor
      · rintro ⟨e1, e2⟩
        refine ⟨by omega, fun j hj => ?_⟩
        have q1 := e2 (2 * j) (by omega)
        have q2 := e2 (2 * j + 1) (by omega)
        rw [yvv (k2 j hj).1, yvv (m2 j (by omega)).1] at q1
        rw [yvv (k2 j hj).2, yvv (m2 j (by omega)).2] at q2
        rw [← pair_says (hf j hj).1 (hf j hj).2, ← pair_says (hg j (by omega)).1 (hg j (by omega)).2, q1, q2]
      · rintro ⟨rfl, e2⟩
        refine ⟨by omega, fun i hi => ?_⟩
        rcases Nat.mod_two_eq_zero_or_one i with e | e
        · obtain ⟨j, rfl⟩ : ∃ j, i = 2 * j := ⟨i / 2, by omega⟩
          rw [yvv (k2 j (by omega)).1, yvv (m2 j (by omega)).1, e2 j (by omega)]
        · obtain ⟨j, rfl⟩ : ∃ j, i = 2 * j + 1 := ⟨i / 2, by omega⟩
          rw [yvv (k2 j (by omega)).2, yvv (m2 j (by omega)).2, e2 j (by omega)]
/-- two codings differ: so do the texts -/
theorem Cod.dif {cd cd' : Int32} {n k : Nat} {f g : Nat → Int32} {V V' : Cell} (h : Cod cd n f V) (h' : Cod cd' k g V') (hne : ¬ cd = cd') : ¬ SameT n f k g := by
  rintro ⟨rfl, e⟩
  rcases h with ⟨rfl, -, k2⟩ | ⟨rfl, -, -, j, hj, hw⟩
  · rcases h' with ⟨rfl, -⟩ | ⟨-, -, -, j, hj, hw⟩
    · exact hne rfl
    · exact (k2 j hj).2 (by rw [e j hj]; exact hw)
  · rcases h' with ⟨-, -, m2⟩ | ⟨rfl, -⟩
    · exact (m2 j hj).2 (by rw [← e j hj]; exact hw)
    · exact hne rfl
/-- an object of exactly C is an instance of C -/
theorem cinst {p : Program} {l : Launch} {e : Env} {R : Room} {s : State} {m : MethodId} {args : Array Value} {below : List Frame} {meth : Method} {c : Code} {T : State} {locs : List Loc} {cells slots : Nat} (X : Stand p l e R s m args below meth c T locs cells slots) (hexec : p.tables.exec = Jvm.exec) {own C : String} {index : Nat} (hown : s.vm.findClass own = some m.cls) (hlink : (Cond.classLink own index C).before args s = true) {a : Addr} (hE : Exact C a T)
    {g : JFrame} (hg : g.method = m) {rest : List Value} (hstack : g.stack = .ref a :: rest) (hdg : decode c.code g.pc = .ok (.instanceof index, 3)) :
    ∃ T', Stand p l e R s m args below meth c T' locs cells slots ∧ T'.heap = T.heap ∧ ∀ target, Steps p.tables e below (T'.setTop { g with pc := g.pc + 3, stack := .int 1 :: rest }) target → Steps p.tables e below (T.setTop g) target := by
  obtain ⟨cB, h1, D, h2, h3, h4⟩ := hE
  have h1' : s.vm.findClass C = some cB := by rw [← X.warmed.alike.findClass]; exact h1
  obtain ⟨vm', X', st⟩ := X.instanceofYes hexec hown hlink h2 h4 h1' (by rw [h3]; exact Jvm.Free.SB.assignable_self _ _) hg hstack hdg
  exact ⟨_, X', rfl, st⟩
theorem cself {p : Program} {l : Launch} {e : Env} {R : Room} {s : State} {m : MethodId} {args : Array Value} {below : List Frame} {meth : Method} {c : Code} {T : State} {locs : List Loc} {cells slots : Nat} (X : Stand p l e R s m args below meth c T locs cells slots) (hexec : p.tables.exec = Jvm.exec) {own C : String} {index : Nat} (hown : s.vm.findClass own = some m.cls) (hlink : (Cond.classLink own index C).before args s = true) {a : Addr} (hE : Exact C a T)
    {g : JFrame} (hg : g.method = m) {rest : List Value} (hstack : g.stack = .ref a :: rest) (hdg : decode c.code g.pc = .ok (.checkcast index, 3)) :
    ∃ T', Stand p l e R s m args below meth c T' locs cells slots ∧ T'.heap = T.heap ∧ ∀ target, Steps p.tables e below (T'.setTop { g with pc := g.pc + 3, stack := .ref a :: rest }) target → Steps p.tables e below (T.setTop g) target := by
  obtain ⟨cB, h1, D, h2, h3, h4⟩ := hE
  have h1' : s.vm.findClass C = some cB := by rw [← X.warmed.alike.findClass]; exact h1
  obtain ⟨vm', X', st⟩ := X.checkcastYes hexec hown hlink h2 h4 h1' (by rw [h3]; exact Jvm.Free.SB.assignable_self _ _) hg hstack hdg
  exact ⟨_, X', rfl, fun t h => st t (by rw [← hstack] at h; exact h)⟩
namespace SEq
def yN : MethodName := ⟨"java/lang/String", "equals", "(Ljava/lang/Object;)Z"⟩
abbrev yB : ByteArray := jdk_42_method_66_code
theorem d0 : decode yB 0 = .ok (.aload_n 0, 1) := by decide +kernel
theorem d1 : decode yB 1 = .ok (.aload_n 1, 1) := by decide +kernel
theorem d2 : decode yB 2 = .ok (.if_acmp (.ne) 5, 3) := by decide +kernel
theorem d5 : decode yB 5 = .ok (.iconst 1, 1) := by decide +kernel
theorem d6 : decode yB 6 = .ok (.ireturn, 1) := by decide +kernel
theorem d7 : decode yB 7 = .ok (.aload_n 1, 1) := by decide +kernel
theorem d8 : decode yB 8 = .ok (.instanceof 10, 3) := by decide +kernel
theorem d11 : decode yB 11 = .ok (.ifCond (.eq) 43, 3) := by decide +kernel
theorem d14 : decode yB 14 = .ok (.aload_n 1, 1) := by decide +kernel
theorem d15 : decode yB 15 = .ok (.checkcast 10, 3) := by decide +kernel
theorem d18 : decode yB 18 = .ok (.astore_n 2, 1) := by decide +kernel
theorem d19 : decode yB 19 = .ok (.getstatic 38, 3) := by decide +kernel
theorem d22 : decode yB 22 = .ok (.ifCond (.eq) 14, 3) := by decide +kernel
theorem d25 : decode yB 25 = .ok (.aload_n 0, 1) := by decide +kernel
theorem d26 : decode yB 26 = .ok (.getfield 15, 3) := by decide +kernel
theorem d29 : decode yB 29 = .ok (.aload_n 2, 1) := by decide +kernel
theorem d30 : decode yB 30 = .ok (.getfield 15, 3) := by decide +kernel
theorem d33 : decode yB 33 = .ok (.if_icmp (.ne) 21, 3) := by decide +kernel
theorem d36 : decode yB 36 = .ok (.aload_n 0, 1) := by decide +kernel
theorem d37 : decode yB 37 = .ok (.getfield 9, 3) := by decide +kernel
theorem d40 : decode yB 40 = .ok (.aload_n 2, 1) := by decide +kernel
theorem d41 : decode yB 41 = .ok (.getfield 9, 3) := by decide +kernel
theorem d44 : decode yB 44 = .ok (.invokestatic 541, 3) := by decide +kernel
theorem d47 : decode yB 47 = .ok (.ifCond (.eq) 7, 3) := by decide +kernel
theorem d50 : decode yB 50 = .ok (.iconst 1, 1) := by decide +kernel
theorem d51 : decode yB 51 = .ok (.goto 4, 3) := by decide +kernel
theorem d54 : decode yB 54 = .ok (.iconst 0, 1) := by decide +kernel
theorem d55 : decode yB 55 = .ok (.ireturn, 1) := by decide +kernel
def site : List Cond := [.classLink "java/lang/String" 10 "java/lang/String", .fieldLink "java/lang/String" 38 "java/lang/String" "COMPACT_STRINGS" "Z", .fieldLink "java/lang/String" 15 "java/lang/String" "coder" "B", .fieldLink "java/lang/String" 9 "java/lang/String" "value" "[B", LEq.tab] ++ staticW "java/lang/String" 541 LEq.yN
def tab : Cond := tabOf yN yB 3 (some .boolean) site
def P (x t : Addr) (V : Cell) (cd : Int32) (n : Nat) (f : Nat → Int32) (y t' : Addr) (V' : Cell) (cd' : Int32) (k : Nat) (g : Nat → Int32) (z : Int32) (args : Array Value) (s : State) : Prop := args = #[.ref x, .ref y] ∧ Txt x t V cd n f s ∧ Txt y t' V' cd' k g s ∧ StaticIs s "java/lang/String" "COMPACT_STRINGS" "Z" (.int z) ∧ ¬ z = 0
/-- equals(Object) of two Strings: whether the texts are the same -/
theorem law (l : Launch) (x t : Addr) (V : Cell) (cd : Int32) (n : Nat) (f : Nat → Int32) (y t' : Addr) (V' : Cell) (cd' : Int32) (k : Nat) (g : Nat → Int32) (z : Int32) : Law l yN 2 1 1 14 yB 3 (some .boolean) site (P x t V cd n f y t' V' cd' k g z) (Says01 (SameT n f k g)) [] 0 0 := by
  refine Law.of_walk (plainFor_of_name (by decide +kernel)) (by decide +kernel) (by decide +kernel) (by decide) (fun _ _ h => by rw [h.1]; rfl) (fun _ U U' hal hh h => ⟨h.1, h.2.1.mv hal hh, h.2.2.1.mv hal hh, h.2.2.2.1.there hal hh, h.2.2.2.2⟩) (fun r U U' V V' h1 hal h2 h => Says01.mv r U U' V V' h1 hal h2 h) ?_
  intro p e s m args below meth c s₁ X0 hexec hbytes hml hret hlk hnm hown hh0 W hP
  obtain ⟨rfl, hx, hy, s1, hz⟩ := hP
  have c1 : Steps p.tables e below (s₁.setTop (entryFrame m #[.ref x, .ref y] 3)) (s₁.setTop (mkF m 2 #[.val (.ref x), .val (.ref y), .unset] [.ref y, .ref x])) := Steps.trans (entry rfl) (by
    show Steps p.tables e below (s₁.setTop (mkF m 0 #[.val (.ref x), .val (.ref y), .unset] [])) _
    refine XS.aloadN X0.here hexec rfl (hb hbytes d0) rfl rfl ?_
    refine XS.aloadN X0.here hexec rfl (hb hbytes d1) rfl rfl ?_
    exact Steps.refl _)
  by_cases hxy : x = y
  · have c2 : Steps p.tables e below (s₁.setTop (entryFrame m #[.ref x, .ref y] 3)) (s₁.setTop (mkF m 6 #[.val (.ref x), .val (.ref y), .unset] [.int 1])) := c1.trans (by
      refine acmpNo X0.here hexec rfl (hb hbytes d2) rfl rfl rfl (by simp [acmp, hxy]) ?_
      refine iconstV X0.here hexec rfl 1 (hb hbytes d5) (by decide) ?_
      exact Steps.refl _)
    subst hxy
    have ec : cd = cd' := by
      obtain ⟨D, fd, a1, a2, a3⟩ := hx.2.2.1
      obtain ⟨D', fd', b1, b2, b3⟩ := hy.2.2.1
      cases a1.symm.trans b1
      obtain ⟨q1, q2, q3, q4⟩ := a2.1
      obtain ⟨r1, r2, r3, r4⟩ := b2.1
      cases q4.symm.trans r4
      cases a3.symm.trans b3; rfl
    have et : t = t' := by
      obtain ⟨D, fd, a1, a2, a3⟩ := hx.2.1
      obtain ⟨D', fd', b1, b2, b3⟩ := hy.2.1
      cases a1.symm.trans b1
      obtain ⟨q1, q2, q3, q4⟩ := a2.1
      obtain ⟨r1, r2, r3, r4⟩ := b2.1
      cases q4.symm.trans r4
      cases a3.symm.trans b3; rfl
    subst ec et
    have ev : V = V' := by cases hx.2.2.2.1.1.symm.trans hy.2.2.2.1.1; rfl
    subst ev
    have hs : SameT n f k g := (Cod.eqv hx.2.2.2.2.1 hy.2.2.2.2.1 hx.2.2.2.2.2 hy.2.2.2.2.2).mp ⟨rfl, fun _ _ => rfl⟩
    exact ⟨s₁, some (.int 1), _, _, _, X0, rfl, rfl, rfl, (fun h => by cases h), ⟨1, rfl, hh0, Or.inl ⟨rfl, hs⟩⟩, fun fs hl => c2.trans (X0.ireturnOut hexec hret rfl (Or.inr (Or.inl rfl)) (hb hbytes d6) hl)⟩
  · have c2 : Steps p.tables e below (s₁.setTop (entryFrame m #[.ref x, .ref y] 3)) (s₁.setTop (mkF m 8 #[.val (.ref x), .val (.ref y), .unset] [.ref y])) := c1.trans (by
      refine acmpYes X0.here hexec rfl (pc0 := 2) rfl (hb hbytes d2) rfl rfl rfl (by simp [acmp, hxy]) (by decide) rfl ?_
      refine XS.aloadN X0.here hexec rfl (hb hbytes d7) rfl rfl ?_
      exact Steps.refl _)
    obtain ⟨T3, X3, q3, st3⟩ := cinst X0 hexec hown (wk W (.classLink "java/lang/String" 10 "java/lang/String")) (hy.mv X0.warmed.alike hh0).1 (g := (mkF m 8 #[.val (.ref x), .val (.ref y), .unset] [.ref y])) rfl (rest := []) rfl (hb hbytes d8)
    have hh3 := q3.trans hh0
    have c4 : Steps p.tables e below (s₁.setTop (entryFrame m #[.ref x, .ref y] 3)) (T3.setTop (mkF m 15 #[.val (.ref x), .val (.ref y), .unset] [.ref y])) := (c2.trans (st3 _ (Steps.refl _))).trans (by
      refine XS.ifNo X3.here hexec rfl (hb hbytes d11) rfl (i0_eq_f (by decide)) ?_
      refine XS.aloadN X3.here hexec rfl (hb hbytes d14) rfl rfl ?_
      exact Steps.refl _)
    obtain ⟨T5, X5, q5, st5⟩ := cself X3 hexec hown (wk W (.classLink "java/lang/String" 10 "java/lang/String")) (hy.mv X3.warmed.alike hh3).1 (g := (mkF m 15 #[.val (.ref x), .val (.ref y), .unset] [.ref y])) rfl (rest := []) rfl (hb hbytes d15)
    have hh5 := q5.trans hh3
    have c6 : Steps p.tables e below (s₁.setTop (entryFrame m #[.ref x, .ref y] 3)) (T5.setTop (mkF m 19 #[.val (.ref x), .val (.ref y), .val (.ref y)] [])) := (c4.trans (st5 _ (Steps.refl _))).trans (by
      refine XS.astoreN X5.here hexec rfl (hb hbytes d18) rfl rfl rfl ?_
      exact Steps.refl _)
    obtain ⟨T7, X7, q7, st7⟩ := X5.sget hexec hown (wk W (.fieldLink "java/lang/String" 38 "java/lang/String" "COMPACT_STRINGS" "Z")) s1 (fun _ _ h => by rw [hh5]; exact h) (g := (mkF m 19 #[.val (.ref x), .val (.ref y), .val (.ref y)] [])) rfl (hb hbytes d19)
    have hh7 := q7.trans hh5
    have c8 : Steps p.tables e below (s₁.setTop (entryFrame m #[.ref x, .ref y] 3)) (T7.setTop (mkF m 26 #[.val (.ref x), .val (.ref y), .val (.ref y)] [.ref x])) := (c6.trans (st7 _ (Steps.refl _))).trans (by
      refine XS.ifNo X7.here hexec rfl (hb hbytes d22) rfl (i0_eq_f hz) ?_
      refine XS.aloadN X7.here hexec rfl (hb hbytes d25) rfl rfl ?_
      exact Steps.refl _)
    obtain ⟨T9, X9, q9, st9⟩ := X7.hget hexec hown (wk W (.fieldLink "java/lang/String" 15 "java/lang/String" "coder" "B")) (hx.mv X7.warmed.alike hh7).2.2.1 (g := (mkF m 26 #[.val (.ref x), .val (.ref y), .val (.ref y)] [.ref x])) rfl (rest := []) rfl (hb hbytes d26)
    have hh9 := q9.trans hh7
    have c10 : Steps p.tables e below (s₁.setTop (entryFrame m #[.ref x, .ref y] 3)) (T9.setTop (mkF m 30 #[.val (.ref x), .val (.ref y), .val (.ref y)] [.ref y, .int cd])) := (c8.trans (st9 _ (Steps.refl _))).trans (by
      refine XS.aloadN X9.here hexec rfl (hb hbytes d29) rfl rfl ?_
      exact Steps.refl _)
    obtain ⟨T11, X11, q11, st11⟩ := X9.hget hexec hown (wk W (.fieldLink "java/lang/String" 15 "java/lang/String" "coder" "B")) (hy.mv X9.warmed.alike hh9).2.2.1 (g := (mkF m 30 #[.val (.ref x), .val (.ref y), .val (.ref y)] [.ref y, .int cd])) rfl (rest := [.int cd]) rfl (hb hbytes d30)
    have hh11 := q11.trans hh9
    have c12 : Steps p.tables e below (s₁.setTop (entryFrame m #[.ref x, .ref y] 3)) (T11.setTop (mkF m 33 #[.val (.ref x), .val (.ref y), .val (.ref y)] [.int cd', .int cd])) := c10.trans (st11 _ (Steps.refl _))
    by_cases hcd : cd = cd'
    · subst hcd
      have c13 : Steps p.tables e below (s₁.setTop (entryFrame m #[.ref x, .ref y] 3)) (T11.setTop (mkF m 37 #[.val (.ref x), .val (.ref y), .val (.ref y)] [.ref x])) := c12.trans (by
        refine XS.icmpNo X11.here hexec rfl (hb hbytes d33) rfl (ii_ne_f rfl) ?_
        refine XS.aloadN X11.here hexec rfl (hb hbytes d36) rfl rfl ?_
        exact Steps.refl _)
      obtain ⟨T14, X14, q14, st14⟩ := X11.hget hexec hown (wk W (.fieldLink "java/lang/String" 9 "java/lang/String" "value" "[B")) (hx.mv X11.warmed.alike hh11).2.1 (g := (mkF m 37 #[.val (.ref x), .val (.ref y), .val (.ref y)] [.ref x])) rfl (rest := []) rfl (hb hbytes d37)
      have hh14 := q14.trans hh11
      have c15 : Steps p.tables e below (s₁.setTop (entryFrame m #[.ref x, .ref y] 3)) (T14.setTop (mkF m 41 #[.val (.ref x), .val (.ref y), .val (.ref y)] [.ref y, .ref t])) := (c13.trans (st14 _ (Steps.refl _))).trans (by
        refine XS.aloadN X14.here hexec rfl (hb hbytes d40) rfl rfl ?_
        exact Steps.refl _)
      obtain ⟨T16, X16, q16, st16⟩ := X14.hget hexec hown (wk W (.fieldLink "java/lang/String" 9 "java/lang/String" "value" "[B")) (hy.mv X14.warmed.alike hh14).2.1 (g := (mkF m 41 #[.val (.ref x), .val (.ref y), .val (.ref y)] [.ref y, .ref t])) rfl (rest := [.ref t]) rfl (hb hbytes d41)
      have hh16 := q16.trans hh14
      have c17 : Steps p.tables e below (s₁.setTop (entryFrame m #[.ref x, .ref y] 3)) (T16.setTop (mkF m 44 #[.val (.ref x), .val (.ref y), .val (.ref y)] [.ref t', .ref t])) := c15.trans (st16 _ (Steps.refl _))
      obtain ⟨v18, T18, X18, E18, g18⟩ := X16.callS hexec (LEq.law l t V t' V') hown (wks W (staticW "java/lang/String" 541 LEq.yN)) (wk W LEq.tab) (W := 0) (Nat.le_of_ble_eq_true rfl) (Nat.le_of_ble_eq_true rfl) (Nat.le_refl _) (Nat.le_refl _) (g := (mkF m 44 #[.val (.ref x), .val (.ref y), .val (.ref y)] [.ref t', .ref t])) rfl (by rw [hml]; rfl) c17 (argsL := [.ref t, .ref t']) (rest := []) rfl rfl (by show 2 * 0 + 0 ≤ _; decide) (hb hbytes d44) (⟨rfl, hx.2.2.2.1.mv X16.warmed.alike hh16, hx.2.2.2.2.1.ty, hy.2.2.2.1.mv X16.warmed.alike hh16, hy.2.2.2.2.1.ty⟩)
      obtain ⟨v, rfl, q18, hv⟩ := E18
      have iff := Cod.eqv hx.2.2.2.2.1 hy.2.2.2.2.1 hx.2.2.2.2.2 hy.2.2.2.2.2
      rcases hv with ⟨rfl, he⟩ | ⟨rfl, he⟩
      · have c19 : Steps p.tables e below (s₁.setTop (entryFrame m #[.ref x, .ref y] 3)) (T18.setTop (mkF m 55 #[.val (.ref x), .val (.ref y), .val (.ref y)] [.int 1])) := Steps.trans g18 (by
          refine XS.ifNo X18.here hexec rfl (hb hbytes d47) rfl (i0_eq_f (by decide)) ?_
          refine iconstV X18.here hexec rfl 1 (hb hbytes d50) (by decide) ?_
          refine XS.goto X18.here hexec rfl (pc0 := 51) rfl (hb hbytes d51) (by decide) rfl ?_
          exact Steps.refl _)
        exact ⟨T18, some (.int 1), _, _, _, X18, rfl, rfl, rfl, (fun h => by cases h), ⟨1, rfl, q18.trans hh16, Or.inl ⟨rfl, iff.mp he⟩⟩, fun fs hl => c19.trans (X18.ireturnOut hexec hret rfl (Or.inr (Or.inl rfl)) (hb hbytes d55) hl)⟩
      · have c19 : Steps p.tables e below (s₁.setTop (entryFrame m #[.ref x, .ref y] 3)) (T18.setTop (mkF m 55 #[.val (.ref x), .val (.ref y), .val (.ref y)] [.int 0])) := Steps.trans g18 (by
          refine XS.ifYes X18.here hexec rfl (pc0 := 47) rfl (hb hbytes d47) rfl (i0_eq_t rfl) (by decide) rfl ?_
          refine iconstV X18.here hexec rfl 0 (hb hbytes d54) (by decide) ?_
          exact Steps.refl _)
        exact ⟨T18, some (.int 0), _, _, _, X18, rfl, rfl, rfl, (fun h => by cases h), ⟨0, rfl, q18.trans hh16, Or.inr ⟨rfl, fun q => he (iff.mpr q)⟩⟩, fun fs hl => c19.trans (X18.ireturnOut hexec hret rfl (Or.inr (Or.inl rfl)) (hb hbytes d55) hl)⟩
    · have c13 : Steps p.tables e below (s₁.setTop (entryFrame m #[.ref x, .ref y] 3)) (T11.setTop (mkF m 55 #[.val (.ref x), .val (.ref y), .val (.ref y)] [.int 0])) := c12.trans (by
        refine XS.icmpYes X11.here hexec rfl (pc0 := 33) rfl (hb hbytes d33) rfl (ii_ne_t hcd) (by decide) rfl ?_
        refine iconstV X11.here hexec rfl 0 (hb hbytes d54) (by decide) ?_
        exact Steps.refl _)
      exact ⟨T11, some (.int 0), _, _, _, X11, rfl, rfl, rfl, (fun h => by cases h), ⟨0, rfl, hh11, Or.inr ⟨rfl, Cod.dif hx.2.2.2.2.1 hy.2.2.2.2.1 hcd⟩⟩, fun fs hl => c13.trans (X11.ireturnOut hexec hret rfl (Or.inr (Or.inl rfl)) (hb hbytes d55) hl)⟩
theorem pays {l : Launch} {R : Room} {p : Program} {e : Env} {below : List Frame} {s : State} {sargs : Array Value} {len W : Nat} (x t : Addr) (V : Cell) (cd : Int32) (n : Nat) (f : Nat → Int32) (y t' : Addr) (V' : Cell) (cd' : Int32) (k : Nat) (g : Nat → Int32) (z : Int32) (htab : tab.before sargs s = true) (hfr : 2 ≤ R.frames) (hlo : W + 28 ≤ R.locals) :
    Back l R p e below s sargs yN len W (fun A₁ a₁ => A₁.cells + 0 ≤ R.cells ∧ A₁.slots + 0 ≤ R.slots ∧ P x t V cd n f y t' V' cd' k g z a₁ A₁.U) (fun A₁ _ v₁ B₁ => Says01 (SameT n f k g) v₁ A₁.U B₁.U ∧ B₁.locs = A₁.locs ++ [] ∧ B₁.cells = A₁.cells + 0 ∧ B₁.slots = A₁.slots + 0) :=
  (law l x t V cd n f y t' V' cd' k g z).pays htab hfr (by omega)
end SEq
end StrChars
namespace StrChars.Road
open Jvm Sem ClassFile Op Lib Jvm.Stand Jvm.Free Jvm.Free.XT
open Jvm.Lib.Cold (StaticIs)
/-- the words of String.equals(Object) -/
abbrev wordsEq : List Jvm.Cond := [.code SEq.yN SEq.yB 3 (some .boolean), .initialized ST, .classLink ST 10 ST, .fieldLink ST 38 ST "COMPACT_STRINGS" "Z", .fieldLink ST 15 ST "coder" "B", .fieldLink ST 9 ST "value" "[B", .methodLink ST 541 LEq.yN, .static LEq.yN, .code LEq.yN LEq.yB 3 (some .boolean), .initialized "java/lang/StringLatin1"]
theorem tabEq_of {a : Array Value} {s : State} (h : ∀ w ∈ wordsEq, w.before a s = true) : SEq.tab.before a s = true := by
  have hl : LEq.tab.before a s = true := unparts (wk h (.code LEq.yN LEq.yB 3 (some .boolean))) (wks h (.initialized LEq.yN.cls :: LEq.site))
  have q := consq hl h
  exact unparts (wk q (.code SEq.yN SEq.yB 3 (some .boolean))) (wks q (.initialized SEq.yN.cls :: SEq.site))
theorem movedEq {Z s : State} {a0 args : Array Value} (hZ : Z.Warmed39 s.vm) (hw : ∀ d ∈ wordsEq, d.before a0 Z = true) : ∀ d ∈ wordsEq, d.before args s = true := fun d hd => by
  have t : ∀ d ∈ wordsEq, (d.onTables && d.keepsFace) = true := by decide +kernel
  exact RoadKit.mv hZ (hw d hd) (t d hd)
/-- the road's facts of a String, as the laws ask it -/
theorem txt_of {Z U : State} {a0 : Array Value} {kI : Nat} (wi : (Jvm.Cond.instantiable ST kI).before a0 Z = true) (al : Z.vm.Alike U.vm) {x t : Addr} {kb : ClassId} {cs : List Int32} {cd N2 : Int32} {vs : List Value} (E : RoadKit.Exa Z U.heap x ST) (V : RoadKit.Fld Z U.heap x ST "value" "[B" (.ref t)) (C : RoadKit.Fld Z U.heap x ST "coder" "B" (.int cd)) (K : RoadKit.Arv Z U.heap t kb .byte N2 vs (.int 0)) (hc : CodA cs cd N2 vs) (hb : ∀ c ∈ cs, ¬ c < 0 ∧ ¬ (65535 : Int32) < c) (l2 : cs.length ≤ 4000) :
    ∃ A, Txt x t A cd cs.length (fun j => cs.getD j 0) U := by
  obtain ⟨A, K1, K2, K3, K4, K5, K6⟩ := K
  have hcod := hc.cod (by omega) K3 K5
  obtain ⟨D, fV, fC, hB, F1, F2, g1, g2, -, -⟩ := strObj wi al E V C
  exact ⟨A, ⟨_, hB.2.2.1, D, hB.1, rfl, by cases q : D.vm <;> first | rfl | exact absurd q (hB.2.1.2 _)⟩, Has.of hB F1 g1, Has.of hB F2 g2, ⟨K1.1, State.isArrayOf_alike al K1.2.1, K1.2.2, by rcases hcod with ⟨-, q, -⟩ | ⟨-, q, -⟩ <;> omega⟩, hcod, fun j hj => by
    have e : cs.getD j 0 = cs[j] := by simp [List.getD_eq_getElem?_getD, hj]
    show ¬ cs.getD j 0 < 0 ∧ ¬ 65535 < cs.getD j 0
    rw [e]; exact hb _ (List.getElem_mem _)⟩
theorem same_list (cs ds : List Int32) : SameT cs.length (fun j => cs.getD j 0) ds.length (fun j => ds.getD j 0) ↔ cs = ds := by
  constructor
  · rintro ⟨e, q⟩
    refine List.ext_getElem e fun j h1 h2 => ?_
    have := q j h1
    simpa [List.getD_eq_getElem?_getD, h1, h2] using this
  · rintro rfl
    exact ⟨rfl, fun _ _ => rfl⟩
/-- **equals(Object) OF TWO SUCH STRINGS**: 1 just where the chars are the same -/
theorem eqW {p : Program} {l : Launch} {e : Env} {R : Room} {s : State} {args : Array Value} {below : List Frame} {len W : Nat} {Z : State} {a0 : Array Value} {h : Heap} (hZ : Z.Warmed39 s.vm) (hw : ∀ d ∈ wordsEq, d.before a0 Z = true) {kI : Nat} (wi : (Jvm.Cond.instantiable ST kI).before a0 Z = true)
    {x t : Addr} {kb : ClassId} {cs : List Int32} {cd N2 : Int32} {vs : List Value} (E : RoadKit.Exa Z h x ST) (V : RoadKit.Fld Z h x ST "value" "[B" (.ref t)) (C : RoadKit.Fld Z h x ST "coder" "B" (.int cd)) (K : RoadKit.Arv Z h t kb .byte N2 vs (.int 0)) (hc : CodA cs cd N2 vs) (hb : ∀ c ∈ cs, ¬ c < 0 ∧ ¬ (65535 : Int32) < c) (l2 : cs.length ≤ 4000)
    {y t' : Addr} {kb' : ClassId} {ds : List Int32} {cd' N2' : Int32} {vs' : List Value} (E' : RoadKit.Exa Z h y ST) (V' : RoadKit.Fld Z h y ST "value" "[B" (.ref t')) (C' : RoadKit.Fld Z h y ST "coder" "B" (.int cd')) (K' : RoadKit.Arv Z h t' kb' .byte N2' vs' (.int 0)) (hc' : CodA ds cd' N2' vs') (hb' : ∀ c ∈ ds, ¬ c < 0 ∧ ¬ (65535 : Int32) < c) (l2' : ds.length ≤ 4000)
    {z : Int32} (S : RoadKit.Sta Z h ST "COMPACT_STRINGS" "Z" (.int z)) (hz : ¬ z = 0) (hfr : 2 ≤ R.frames) (hlo : W + 28 ≤ R.locals) :
    Back l R p e below s args (⟨"java/lang/String", "equals", "(Ljava/lang/Object;)Z"⟩ : MethodName) len W (fun P a => a = #[.ref x, .ref y] ∧ P.U.heap = h ∧ P.cells + 0 ≤ R.cells ∧ P.slots + 0 ≤ R.slots)
      (fun P _ v B => ∃ L, (((v = some (.int 1) ∧ cs = ds) ∨ (v = some (.int 0) ∧ ¬ cs = ds)) ∧ L = [] ∧ B.U.heap = h) ∧ B.locs = P.locs ++ L ∧ B.cells = P.cells + 0 ∧ B.slots = P.slots + 0) := by
  intro m meth c P g ig mk a X hg hsize hdg hW hn hp'
  obtain ⟨rfl, rfl, r1, r2⟩ := hp'
  have al : Z.vm.Alike P.U.vm := hZ.alike.trans X.warmed.alike
  obtain ⟨A, hx⟩ := txt_of wi al E V C K hc hb l2
  obtain ⟨A', hy⟩ := txt_of wi al E' V' C' K' hc' hb' l2'
  obtain ⟨v, B, X', ⟨⟨w, hv, hh, hq⟩, hl, hk, hs⟩, st⟩ := SEq.pays x t A cd cs.length (fun j => cs.getD j 0) y t' A' cd' ds.length (fun j => ds.getD j 0) z (tabEq_of (movedEq hZ hw)) hfr hlo m meth c P g ig mk _ X hg hsize hdg hW hn ⟨r1, r2, rfl, hx, hy, sta_is al S, hz⟩
  refine ⟨v, B, X', ⟨[], ⟨?_, rfl, hh⟩, hl, hk, hs⟩, st⟩
  rcases hq with ⟨rfl, q⟩ | ⟨rfl, q⟩
  · exact Or.inl ⟨hv, (same_list cs ds).mp q⟩
  · exact Or.inr ⟨hv, fun e => q ((same_list cs ds).mpr e)⟩
end StrChars.Road
namespace StrChars
open Jvm Sem ClassFile Op Lib Jvm.Stand Jvm.Free.XT Jvm.Free.ALB Jvm.Free.JM Jvm.Free
open Jvm.Lib.Cold (StaticIs)
namespace ChN
def yN : MethodName := ⟨"java/lang/String", "charAt", "(I)C"⟩
abbrev yB : ByteArray := jdk_42_method_56_code
theorem d0 : decode yB 0 = .ok (.aload_n 0, 1) := by decide +kernel
theorem d1 : decode yB 1 = .ok (.invokevirtual 492, 3) := by decide +kernel
theorem d4 : decode yB 4 = .ok (.ifCond (.eq) 12, 3) := by decide +kernel
theorem d7 : decode yB 7 = .ok (.aload_n 0, 1) := by decide +kernel
theorem d8 : decode yB 8 = .ok (.getfield 9, 3) := by decide +kernel
theorem d11 : decode yB 11 = .ok (.iload_n 1, 1) := by decide +kernel
theorem d12 : decode yB 12 = .ok (.invokestatic 495, 3) := by decide +kernel
theorem d15 : decode yB 15 = .ok (.ireturn, 1) := by decide +kernel
def site : List Cond := [.fieldLink "java/lang/String" 9 "java/lang/String" "value" "[B", IsL.tab, LChA.tab] ++ virtW "java/lang/String" 492 "java/lang/String" IsL.yN IsL.yN ++ staticW "java/lang/String" 495 LChA.yN
def tab : Cond := tabOf yN yB 2 (some .char) site
def P (x t : Addr) (V : Cell) (n : Nat) (f : Nat → Int32) (z : Int32) (fm : Value) (i : Nat) (args : Array Value) (s : State) : Prop := args = #[.ref x, .int (Int32.ofNat i)] ∧ Txt x t V 0 n f s ∧ i < n ∧ StaticIs s "java/lang/String" "COMPACT_STRINGS" "Z" (.int z) ∧ ¬ z = 0 ∧ StaticIs s "jdk/internal/util/Preconditions" "SIOOBE_FORMATTER" "Ljava/util/function/BiFunction;" fm ∧ fm.isRef = true
def E (f : Nat → Int32) (i : Nat) (r : Option Value) (s u : State) : Prop := XT.PureE (some (.int (f i))) r s u
/-- charAt(i) of a Latin-1 String of n chars, i < n: f i -/
theorem law (l : Launch) (x t : Addr) (V : Cell) (n : Nat) (f : Nat → Int32) (z : Int32) (fm : Value) (i : Nat) : Law l yN 2 1 3 40 yB 2 (some .char) site (P x t V n f z fm i) (E f i) [] 0 0 := by
  refine Law.of_walk (plainFor_of_name (by decide +kernel)) (by decide +kernel) (by decide +kernel) (by decide) (fun _ _ h => by rw [h.1]; rfl) (fun _ U U' hal hh h => ⟨h.1, h.2.1.mv hal hh, h.2.2.1, h.2.2.2.1.there hal hh, h.2.2.2.2.1, h.2.2.2.2.2.1.there hal hh, h.2.2.2.2.2.2⟩) (fun r U U' V V' h1 hal h2 h => XT.PureE.mv r U U' V V' h1 hal h2 h) ?_
  intro p e s m args below meth c s₁ X0 hexec hbytes hml hret hlk hnm hown hh0 W hP
  obtain ⟨rfl, hx, hi, s1, hz, s3, rf⟩ := hP
  have v31 := hx.2.2.2.1.2.2.2
  have hr := hx.2.2.2.2.2 i hi
  have hx0 := hx.mv X0.warmed.alike hh0
  have c1 : Steps p.tables e below (s₁.setTop (entryFrame m #[.ref x, .int (Int32.ofNat i)] 2)) (s₁.setTop (mkF m 1 #[.val (.ref x), .val (.int (Int32.ofNat i))] [.ref x])) := Steps.trans (entry rfl) (by
    show Steps p.tables e below (s₁.setTop (mkF m 0 #[.val (.ref x), .val (.int (Int32.ofNat i))] [])) _
    refine XS.aloadN X0.here hexec rfl (hb hbytes d0) rfl rfl ?_
    exact Steps.refl _)
  obtain ⟨v2, T2, X2, E2, g2⟩ := X0.callV hexec (IsL.law l x 0 z) hown (wks W (virtW "java/lang/String" 492 "java/lang/String" IsL.yN IsL.yN)) rfl (by decide) (wk W IsL.tab) (W := 0) (Nat.le_of_ble_eq_true rfl) (Nat.le_of_ble_eq_true rfl) (Nat.le_refl _) (Nat.le_refl _) (hx0.1.fc X0.warmed.alike) hx0.1.is (g := (mkF m 1 #[.val (.ref x), .val (.int (Int32.ofNat i))] [.ref x])) rfl (by rw [hml]; rfl) c1 (argsL := []) (rest := []) rfl rfl (by show 2 * 0 + 0 ≤ _; decide) (hb hbytes d1) (⟨rfl, hx0.2.2.1, hx.2.2.2.2.1.cd, s1.there X0.warmed.alike hh0, hz⟩)
  obtain ⟨rfl, q2⟩ := E2
  have hh2 := q2.trans hh0
  have hx2 := hx.mv X2.warmed.alike hh2
  obtain ⟨-, k1, k2⟩ | ⟨k0, -⟩ := hx.2.2.2.2.1
  · have c3 : Steps p.tables e below (s₁.setTop (entryFrame m #[.ref x, .int (Int32.ofNat i)] 2)) (T2.setTop (mkF m 8 #[.val (.ref x), .val (.int (Int32.ofNat i))] [.ref x])) := Steps.trans g2 (by
      refine XS.ifNo X2.here hexec rfl (hb hbytes d4) rfl (i0_eq_f (by decide)) ?_
      refine XS.aloadN X2.here hexec rfl (hb hbytes d7) rfl rfl ?_
      exact Steps.refl _)
    obtain ⟨T4, X4, q4, st4⟩ := X2.hget hexec hown (wk W (.fieldLink "java/lang/String" 9 "java/lang/String" "value" "[B")) hx2.2.1 (g := (mkF m 8 #[.val (.ref x), .val (.int (Int32.ofNat i))] [.ref x])) rfl (rest := []) rfl (hb hbytes d8)
    have hh4 := q4.trans hh2
    have c5 : Steps p.tables e below (s₁.setTop (entryFrame m #[.ref x, .int (Int32.ofNat i)] 2)) (T4.setTop (mkF m 12 #[.val (.ref x), .val (.int (Int32.ofNat i))] [.int (Int32.ofNat i), .ref t])) := (c3.trans (st4 _ (Steps.refl _))).trans (by
      refine XS.iloadN X4.here hexec rfl (hb hbytes d11) rfl ?_
      exact Steps.refl _)
    obtain ⟨v6, T6, X6, E6, g6⟩ := X4.callS hexec (LChA.law l t V i (lo8 (f i)) fm) hown (wks W (staticW "java/lang/String" 495 LChA.yN)) (wk W LChA.tab) (W := 0) (Nat.le_of_ble_eq_true rfl) (Nat.le_of_ble_eq_true rfl) (Nat.le_refl _) (Nat.le_refl _) (g := (mkF m 12 #[.val (.ref x), .val (.int (Int32.ofNat i))] [.int (Int32.ofNat i), .ref t])) rfl (by rw [hml]; rfl) c5 (argsL := [.ref t, .int (Int32.ofNat i)]) (rest := []) rfl rfl (by show 2 * 0 + 0 ≤ _; decide) (hb hbytes d12) (⟨rfl, hx.2.2.2.1.mv X4.warmed.alike hh4, (k2 i hi).1, s3.there X4.warmed.alike hh4, rf⟩)
    obtain ⟨rfl, q6⟩ := E6
    rw [chr8_lo8 hr.1 (k2 i hi).2] at g6
    exact ⟨T6, some (.int (f i)), _, _, _, X6, rfl, rfl, rfl, (fun h => by cases h), ⟨rfl, q6.trans hh4⟩, fun fs hl => Steps.trans g6 (X6.ireturnOut hexec hret (narrow_ch hr.1 hr.2) (Or.inr (Or.inr (Or.inr (Or.inl rfl)))) (hb hbytes d15) hl)⟩
  · exact absurd k0 (by decide)
theorem pays {l : Launch} {R : Room} {p : Program} {e : Env} {below : List Frame} {s : State} {sargs : Array Value} {len W : Nat} (x t : Addr) (V : Cell) (n : Nat) (f : Nat → Int32) (z : Int32) (fm : Value) (i : Nat) (htab : tab.before sargs s = true) (hfr : 4 ≤ R.frames) (hlo : W + 53 ≤ R.locals) :
    Back l R p e below s sargs yN len W (fun A₁ a₁ => A₁.cells + 0 ≤ R.cells ∧ A₁.slots + 0 ≤ R.slots ∧ P x t V n f z fm i a₁ A₁.U) (fun A₁ _ v₁ B₁ => E f i v₁ A₁.U B₁.U ∧ B₁.locs = A₁.locs ++ [] ∧ B₁.cells = A₁.cells + 0 ∧ B₁.slots = A₁.slots + 0) :=
  (law l x t V n f z fm i).pays htab hfr (by omega)
end ChN
end StrChars
namespace StrChars.Road
open Jvm Sem ClassFile Op Lib Jvm.Stand Jvm.Free Jvm.Free.XT
open Jvm.Lib.Cold (StaticIs)
/-- the words of String.charAt(int), the Latin-1 road alone -/
abbrev wordsChN : List Jvm.Cond := [.code ChN.yN ChN.yB 2 (some .char), .initialized ST, .fieldLink ST 9 ST "value" "[B", .fieldLink ST 38 ST "COMPACT_STRINGS" "Z", .fieldLink ST 15 ST "coder" "B", .code IsL.yN IsL.yB 1 (some .boolean), .methodLink ST 492 IsL.yN, .declares IsL.yN, .selects ST IsL.yN IsL.yN, .instanceMethod IsL.yN,
  .methodLink ST 495 LChA.yN, .static LChA.yN, .code LChA.yN LChA.yB 2 (some .char), .initialized "java/lang/StringLatin1", .methodLink "java/lang/StringLatin1" 9 JO.Str_checkIndex.yN, .static JO.Str_checkIndex.yN, .code JO.Str_checkIndex.yN JO.Str_checkIndex.yB 2 none,
  .fieldLink ST 1053 "jdk/internal/util/Preconditions" "SIOOBE_FORMATTER" "Ljava/util/function/BiFunction;", .methodLink ST 1059 JC.PreCheck.yN, .static JC.PreCheck.yN, .code JC.PreCheck.yN JC.PreCheck.yB 3 (some .int), .initialized "jdk/internal/util/Preconditions"]
theorem tabChN_of {a : Array Value} {s : State} (h : ∀ w ∈ wordsChN, w.before a s = true) : ChN.tab.before a s = true := by
  have hp : JC.PreCheck.tab.before a s = true := unparts (wk h (.code JC.PreCheck.yN JC.PreCheck.yB 3 (some .int))) (wks h (.initialized JC.PreCheck.yN.cls :: JC.PreCheck.site))
  have qk := consq hp h
  have hk : JO.Str_checkIndex.tab.before a s = true := unparts (wk qk (.code JO.Str_checkIndex.yN JO.Str_checkIndex.yB 2 none)) (wks qk (.initialized JO.Str_checkIndex.yN.cls :: JO.Str_checkIndex.site))
  have ql := consq hk h
  have hl : LChA.tab.before a s = true := unparts (wk ql (.code LChA.yN LChA.yB 2 (some .char))) (wks ql (.initialized LChA.yN.cls :: LChA.site))
  have hi : IsL.tab.before a s = true := unparts (wk h (.code IsL.yN IsL.yB 1 (some .boolean))) (wks h (.initialized IsL.yN.cls :: IsL.site))
  have q := consq hi (consq hl h)
  exact unparts (wk q (.code ChN.yN ChN.yB 2 (some .char))) (wks q (.initialized ChN.yN.cls :: ChN.site))
theorem movedChN {Z s : State} {a0 args : Array Value} (hZ : Z.Warmed39 s.vm) (hw : ∀ d ∈ wordsChN, d.before a0 Z = true) : ∀ d ∈ wordsChN, d.before args s = true := fun d hd => by
  have t : ∀ d ∈ wordsChN, (d.onTables && d.keepsFace) = true := by decide +kernel
  exact RoadKit.mv hZ (hw d hd) (t d hd)
/-- **charAt(i) OF A LATIN-1 STRING**, i < n: the char -/
theorem chN {p : Program} {l : Launch} {e : Env} {R : Room} {s : State} {args : Array Value} {below : List Frame} {len W : Nat} {Z : State} {a0 : Array Value} {h : Heap} (hZ : Z.Warmed39 s.vm) (hw : ∀ d ∈ wordsChN, d.before a0 Z = true) {kI : Nat} (wi : (Jvm.Cond.instantiable ST kI).before a0 Z = true)
    {x t : Addr} {kb : ClassId} {cs : List Int32} {N2 z : Int32} {vs : List Value} {fm : Value} {i : Nat} {j : Int32} (E : RoadKit.Exa Z h x ST) (V : RoadKit.Fld Z h x ST "value" "[B" (.ref t)) (C : RoadKit.Fld Z h x ST "coder" "B" (.int 0)) (K : RoadKit.Arv Z h t kb .byte N2 vs (.int 0)) (hc : CodA cs 0 N2 vs) (hb : ∀ c ∈ cs, ¬ c < 0 ∧ ¬ (65535 : Int32) < c)
    (S : RoadKit.Sta Z h ST "COMPACT_STRINGS" "Z" (.int z)) (hz : ¬ z = 0) (F : RoadKit.Sta Z h "jdk/internal/util/Preconditions" "SIOOBE_FORMATTER" "Ljava/util/function/BiFunction;" fm) (rf : fm.isRef = true) (l2 : cs.length ≤ 4000) (hi : i < cs.length) (hj : j = Int32.ofNat i) (hfr : 4 ≤ R.frames) (hlo : W + 53 ≤ R.locals) :
    Back l R p e below s args (⟨"java/lang/String", "charAt", "(I)C"⟩ : MethodName) len W (fun P a => a = #[.ref x, .int j] ∧ P.U.heap = h ∧ P.cells + 0 ≤ R.cells ∧ P.slots + 0 ≤ R.slots)
      (fun P _ v B => ∃ L, (v = some (.int (cs.getD i 0)) ∧ L = [] ∧ B.U.heap = h) ∧ B.locs = P.locs ++ L ∧ B.cells = P.cells + 0 ∧ B.slots = P.slots + 0) := by
  subst hj
  intro m meth c P g ig mk a X hg hsize hdg hW hn hp'
  obtain ⟨rfl, rfl, r1, r2⟩ := hp'
  have al : Z.vm.Alike P.U.vm := hZ.alike.trans X.warmed.alike
  obtain ⟨A, hx⟩ := txt_of wi al E V C K hc hb l2
  obtain ⟨v, B, X', ⟨⟨hv, hh⟩, hl, hk, hs⟩, st⟩ := ChN.pays x t A cs.length (fun j => cs.getD j 0) z fm i (tabChN_of (movedChN hZ hw)) hfr hlo m meth c P g ig mk _ X hg hsize hdg hW hn ⟨r1, r2, rfl, hx, hi, sta_is al S, hz, sta_is al F, rf⟩
  exact ⟨v, B, X', ⟨[], ⟨hv, rfl, hh⟩, hl, hk, hs⟩, st⟩
/-- what backV says of its String, as the contracts of this text ask it: cs's low bytes, coder 0 -/
theorem codOf {cs : List Int32} {n : Nat} (hn : cs.length = n) (hb : ∀ c ∈ cs, ¬ 255 < c) : CodA cs 0 (Int32.ofNat n) ((cs.map lo8).map Value.int) := Or.inl ⟨rfl, by rw [hn], by simp [List.map_map, Function.comp_def], hb⟩
end StrChars.Road
end Jvm.Pilot.@@N@@
namespace Jvm.Pilot.@@N@@
open Jvm Sem ClassFile Op Lib Jvm.Stand Jvm.Free Jvm.LawKit Jvm.RoadKit
section New
variable {p : Program} {l : Launch} {e : Env} {R : Room} {s : State} {m : MethodId} {args : Array Value} {below : List Frame} {meth : Method} {c : Code} {T : State} {locs : List Loc} {cells slots : Nat}
theorem retI (X : Stand p l e R s m args below meth c T locs cells slots) (hx : p.tables.exec = Jvm.exec) {pc : Nat} {Ls : Array Slot} {z : Int32} {rest : List Value} (hret : meth.sig.returnType = some .int) (hd : decode c.code pc = .ok (.ireturn, 1)) {fs : List Frame}
    (hl : ∀ (f : JFrame) (acts : List Action), f.method = m → f.locked = none → f.entered = [] → (doReturn e (T.setTop f) acts (some (.int z))).1 = T.setFrames fs) : Steps p.tables e below (T.setTop (mkF m pc Ls (.int z :: rest))) (T.setFrames fs) :=
  retOut X hx hret rfl (Or.inl ⟨rfl, Or.inl rfl, z, rfl⟩) hd hl
end New
end Jvm.Pilot.@@N@@
namespace Jvm.Pilot.@@N@@
open Jvm Jvm.ClassFile Sem Op Lib Jvm.Free Jvm.Stand Jvm.LawKit Jvm.RoadKit Bundle Jvm.Pilot.@@N@@.Jvm.D
theorem S.iload {tb : Tables} [Ours tb] {e : Env} {below : List Frame} {T t : State} {m : MethodId} {c : Code} {pc : Nat} {L : Array Slot} {S : List Value} (h : At T m c below) (hx : tb.exec = Jvm.exec) {k : Nat} {v : Int32} (hd : decode c.code pc = .ok (.iload k, 2)) (hl : L[k]? = some (.val (.int v))) (hr : Steps tb e below (T.setTop (mkF m (pc + 2) L (.int v :: S))) t) : Steps tb e below (T.setTop (mkF m pc L (S))) t := XS.iload h hx rfl hd hl hr
theorem S.iloadN {tb : Tables} [Ours tb] {e : Env} {below : List Frame} {T t : State} {m : MethodId} {c : Code} {pc : Nat} {L : Array Slot} {S : List Value} (h : At T m c below) (hx : tb.exec = Jvm.exec) {k : Fin 4} {v : Int32} (hd : decode c.code pc = .ok (.iload_n k, 1)) (hl : L[k.val]? = some (.val (.int v))) (hr : Steps tb e below (T.setTop (mkF m (pc + 1) L (.int v :: S))) t) : Steps tb e below (T.setTop (mkF m pc L (S))) t := XS.iloadN h hx rfl hd hl hr
theorem S.lload {tb : Tables} [Ours tb] {e : Env} {below : List Frame} {T t : State} {m : MethodId} {c : Code} {pc : Nat} {L : Array Slot} {S : List Value} (h : At T m c below) (hx : tb.exec = Jvm.exec) {k : Nat} {v : Int64} (hd : decode c.code pc = .ok (.lload k, 2)) (hl : L[k]? = some (.val (.long v))) (hr : Steps tb e below (T.setTop (mkF m (pc + 2) L (.long v :: S))) t) : Steps tb e below (T.setTop (mkF m pc L (S))) t := XS.lload h hx rfl hd hl hr
theorem S.lloadN {tb : Tables} [Ours tb] {e : Env} {below : List Frame} {T t : State} {m : MethodId} {c : Code} {pc : Nat} {L : Array Slot} {S : List Value} (h : At T m c below) (hx : tb.exec = Jvm.exec) {k : Fin 4} {v : Int64} (hd : decode c.code pc = .ok (.lload_n k, 1)) (hl : L[k.val]? = some (.val (.long v))) (hr : Steps tb e below (T.setTop (mkF m (pc + 1) L (.long v :: S))) t) : Steps tb e below (T.setTop (mkF m pc L (S))) t := XS.lloadN h hx rfl hd hl hr
theorem S.aload {tb : Tables} [Ours tb] {e : Env} {below : List Frame} {T t : State} {m : MethodId} {c : Code} {pc : Nat} {L : Array Slot} {S : List Value} (h : At T m c below) (hx : tb.exec = Jvm.exec) {k : Nat} {v : Value} (hd : decode c.code pc = .ok (.aload k, 2)) (hl : L[k]? = some (.val v)) (hv : v.isRef = true) (hr : Steps tb e below (T.setTop (mkF m (pc + 2) L (v :: S))) t) : Steps tb e below (T.setTop (mkF m pc L (S))) t := XS.aload h hx rfl hd hl hv hr
theorem S.aloadN {tb : Tables} [Ours tb] {e : Env} {below : List Frame} {T t : State} {m : MethodId} {c : Code} {pc : Nat} {L : Array Slot} {S : List Value} (h : At T m c below) (hx : tb.exec = Jvm.exec) {k : Fin 4} {v : Value} (hd : decode c.code pc = .ok (.aload_n k, 1)) (hl : L[k.val]? = some (.val v)) (hv : v.isRef = true) (hr : Steps tb e below (T.setTop (mkF m (pc + 1) L (v :: S))) t) : Steps tb e below (T.setTop (mkF m pc L (S))) t := XS.aloadN h hx rfl hd hl hv hr
theorem S.istore {tb : Tables} [Ours tb] {e : Env} {below : List Frame} {T t : State} {m : MethodId} {c : Code} {pc : Nat} {L : Array Slot} {S : List Value} (h : At T m c below) (hx : tb.exec = Jvm.exec) {k : Nat} {x : Int32} (hd : decode c.code pc = .ok (.istore k, 2)) (L' : Array Slot) (hl : storeLocals L k (.int x) = some L') (hr : Steps tb e below (T.setTop (mkF m (pc + 2) L' (S))) t) : Steps tb e below (T.setTop (mkF m pc L (.int x :: S))) t := XS.istore h hx rfl hd rfl hl hr
theorem S.istoreN {tb : Tables} [Ours tb] {e : Env} {below : List Frame} {T t : State} {m : MethodId} {c : Code} {pc : Nat} {L : Array Slot} {S : List Value} (h : At T m c below) (hx : tb.exec = Jvm.exec) {k : Fin 4} {x : Int32} (hd : decode c.code pc = .ok (.istore_n k, 1)) (L' : Array Slot) (hl : storeLocals L k.val (.int x) = some L') (hr : Steps tb e below (T.setTop (mkF m (pc + 1) L' (S))) t) : Steps tb e below (T.setTop (mkF m pc L (.int x :: S))) t := XS.istoreN h hx rfl hd rfl hl hr
theorem S.lstore {tb : Tables} [Ours tb] {e : Env} {below : List Frame} {T t : State} {m : MethodId} {c : Code} {pc : Nat} {L : Array Slot} {S : List Value} (h : At T m c below) (hx : tb.exec = Jvm.exec) {k : Nat} {x : Int64} (hd : decode c.code pc = .ok (.lstore k, 2)) (L' : Array Slot) (hl : storeLocals L k (.long x) = some L') (hr : Steps tb e below (T.setTop (mkF m (pc + 2) L' (S))) t) : Steps tb e below (T.setTop (mkF m pc L (.long x :: S))) t := XS.lstore h hx rfl hd rfl hl hr
theorem S.lstoreN {tb : Tables} [Ours tb] {e : Env} {below : List Frame} {T t : State} {m : MethodId} {c : Code} {pc : Nat} {L : Array Slot} {S : List Value} (h : At T m c below) (hx : tb.exec = Jvm.exec) {k : Fin 4} {x : Int64} (hd : decode c.code pc = .ok (.lstore_n k, 1)) (L' : Array Slot) (hl : storeLocals L k.val (.long x) = some L') (hr : Steps tb e below (T.setTop (mkF m (pc + 1) L' (S))) t) : Steps tb e below (T.setTop (mkF m pc L (.long x :: S))) t := XS.lstoreN h hx rfl hd rfl hl hr
theorem S.astore {tb : Tables} [Ours tb] {e : Env} {below : List Frame} {T t : State} {m : MethodId} {c : Code} {pc : Nat} {L : Array Slot} {S : List Value} (h : At T m c below) (hx : tb.exec = Jvm.exec) {k : Nat} {x : Value} (hd : decode c.code pc = .ok (.astore k, 2)) (hv : x.isRef = true) (L' : Array Slot) (hl : storeLocals L k x = some L') (hr : Steps tb e below (T.setTop (mkF m (pc + 2) L' (S))) t) : Steps tb e below (T.setTop (mkF m pc L (x :: S))) t := XS.astore h hx rfl hd rfl hv hl hr
theorem S.astoreN {tb : Tables} [Ours tb] {e : Env} {below : List Frame} {T t : State} {m : MethodId} {c : Code} {pc : Nat} {L : Array Slot} {S : List Value} (h : At T m c below) (hx : tb.exec = Jvm.exec) {k : Fin 4} {x : Value} (hd : decode c.code pc = .ok (.astore_n k, 1)) (hv : x.isRef = true) (L' : Array Slot) (hl : storeLocals L k.val x = some L') (hr : Steps tb e below (T.setTop (mkF m (pc + 1) L' (S))) t) : Steps tb e below (T.setTop (mkF m pc L (x :: S))) t := XS.astoreN h hx rfl hd rfl hv hl hr
theorem S.iconst {tb : Tables} [Ours tb] {e : Env} {below : List Frame} {T t : State} {m : MethodId} {c : Code} {pc : Nat} {L : Array Slot} {S : List Value} (h : At T m c below) (hx : tb.exec = Jvm.exec) {i : Int} (v : Int32) (hd : decode c.code pc = .ok (.iconst i, 1)) (hv : Int32.ofInt i = v) (hr : Steps tb e below (T.setTop (mkF m (pc + 1) L (.int v :: S))) t) : Steps tb e below (T.setTop (mkF m pc L (S))) t := XS.iconst h hx rfl hd (hv ▸ hr)
theorem S.bipush {tb : Tables} [Ours tb] {e : Env} {below : List Frame} {T t : State} {m : MethodId} {c : Code} {pc : Nat} {L : Array Slot} {S : List Value} (h : At T m c below) (hx : tb.exec = Jvm.exec) {i : Int} (v : Int32) (hd : decode c.code pc = .ok (.bipush i, 2)) (hv : (Int8.ofInt i).toInt32 = v) (hr : Steps tb e below (T.setTop (mkF m (pc + 2) L (.int v :: S))) t) : Steps tb e below (T.setTop (mkF m pc L (S))) t := XS.bipush h hx rfl hd (hv ▸ hr)
theorem S.sipush {tb : Tables} [Ours tb] {e : Env} {below : List Frame} {T t : State} {m : MethodId} {c : Code} {pc : Nat} {L : Array Slot} {S : List Value} (h : At T m c below) (hx : tb.exec = Jvm.exec) {i : Int} (v : Int32) (hd : decode c.code pc = .ok (.sipush i, 3)) (hv : (Int16.ofInt i).toInt32 = v) (hr : Steps tb e below (T.setTop (mkF m (pc + 3) L (.int v :: S))) t) : Steps tb e below (T.setTop (mkF m pc L (S))) t := XS.sipush h hx rfl hd (hv ▸ hr)
theorem S.lconst {tb : Tables} [Ours tb] {e : Env} {below : List Frame} {T t : State} {m : MethodId} {c : Code} {pc : Nat} {L : Array Slot} {S : List Value} (h : At T m c below) (hx : tb.exec = Jvm.exec) {k : Fin 2} (v : Int64) (hd : decode c.code pc = .ok (.lconst k, 1)) (hv : Int64.ofNat k = v) (hr : Steps tb e below (T.setTop (mkF m (pc + 1) L (.long v :: S))) t) : Steps tb e below (T.setTop (mkF m pc L (S))) t := XS.lconst h hx rfl hd (hv ▸ hr)
theorem S.aconstNull {tb : Tables} [Ours tb] {e : Env} {below : List Frame} {T t : State} {m : MethodId} {c : Code} {pc : Nat} {L : Array Slot} {S : List Value} (h : At T m c below) (hx : tb.exec = Jvm.exec)  (hd : decode c.code pc = .ok (.aconst_null, 1)) (hr : Steps tb e below (T.setTop (mkF m (pc + 1) L (.null :: S))) t) : Steps tb e below (T.setTop (mkF m pc L (S))) t := XS.aconstNull h hx rfl hd hr
theorem S.iadd {tb : Tables} [Ours tb] {e : Env} {below : List Frame} {T t : State} {m : MethodId} {c : Code} {pc : Nat} {L : Array Slot} {S : List Value} (h : At T m c below) (hx : tb.exec = Jvm.exec) {x y : Int32} (hd : decode c.code pc = .ok (.iadd, 1)) (hr : Steps tb e below (T.setTop (mkF m (pc + 1) L (.int (x + y) :: S))) t) : Steps tb e below (T.setTop (mkF m pc L (.int y :: .int x :: S))) t := XS.iadd h hx rfl hd rfl hr
theorem S.isub {tb : Tables} [Ours tb] {e : Env} {below : List Frame} {T t : State} {m : MethodId} {c : Code} {pc : Nat} {L : Array Slot} {S : List Value} (h : At T m c below) (hx : tb.exec = Jvm.exec) {x y : Int32} (hd : decode c.code pc = .ok (.isub, 1)) (hr : Steps tb e below (T.setTop (mkF m (pc + 1) L (.int (x - y) :: S))) t) : Steps tb e below (T.setTop (mkF m pc L (.int y :: .int x :: S))) t := XS.isub h hx rfl hd rfl hr
theorem S.imul {tb : Tables} [Ours tb] {e : Env} {below : List Frame} {T t : State} {m : MethodId} {c : Code} {pc : Nat} {L : Array Slot} {S : List Value} (h : At T m c below) (hx : tb.exec = Jvm.exec) {x y : Int32} (hd : decode c.code pc = .ok (.imul, 1)) (hr : Steps tb e below (T.setTop (mkF m (pc + 1) L (.int (x * y) :: S))) t) : Steps tb e below (T.setTop (mkF m pc L (.int y :: .int x :: S))) t := XS.imul h hx rfl hd rfl hr
theorem S.iand {tb : Tables} [Ours tb] {e : Env} {below : List Frame} {T t : State} {m : MethodId} {c : Code} {pc : Nat} {L : Array Slot} {S : List Value} (h : At T m c below) (hx : tb.exec = Jvm.exec) {x y : Int32} (hd : decode c.code pc = .ok (.iand, 1)) (hr : Steps tb e below (T.setTop (mkF m (pc + 1) L (.int (x &&& y) :: S))) t) : Steps tb e below (T.setTop (mkF m pc L (.int y :: .int x :: S))) t := XS.iand h hx rfl hd rfl hr
theorem S.ior {tb : Tables} [Ours tb] {e : Env} {below : List Frame} {T t : State} {m : MethodId} {c : Code} {pc : Nat} {L : Array Slot} {S : List Value} (h : At T m c below) (hx : tb.exec = Jvm.exec) {x y : Int32} (hd : decode c.code pc = .ok (.ior, 1)) (hr : Steps tb e below (T.setTop (mkF m (pc + 1) L (.int (x ||| y) :: S))) t) : Steps tb e below (T.setTop (mkF m pc L (.int y :: .int x :: S))) t := XS.ior h hx rfl hd rfl hr
theorem S.ixor {tb : Tables} [Ours tb] {e : Env} {below : List Frame} {T t : State} {m : MethodId} {c : Code} {pc : Nat} {L : Array Slot} {S : List Value} (h : At T m c below) (hx : tb.exec = Jvm.exec) {x y : Int32} (hd : decode c.code pc = .ok (.ixor, 1)) (hr : Steps tb e below (T.setTop (mkF m (pc + 1) L (.int (x ^^^ y) :: S))) t) : Steps tb e below (T.setTop (mkF m pc L (.int y :: .int x :: S))) t := XS.ixor h hx rfl hd rfl hr
theorem S.ladd {tb : Tables} [Ours tb] {e : Env} {below : List Frame} {T t : State} {m : MethodId} {c : Code} {pc : Nat} {L : Array Slot} {S : List Value} (h : At T m c below) (hx : tb.exec = Jvm.exec) {x y : Int64} (hd : decode c.code pc = .ok (.ladd, 1)) (hr : Steps tb e below (T.setTop (mkF m (pc + 1) L (.long (x + y) :: S))) t) : Steps tb e below (T.setTop (mkF m pc L (.long y :: .long x :: S))) t := XS.ladd h hx rfl hd rfl hr
theorem S.lsub {tb : Tables} [Ours tb] {e : Env} {below : List Frame} {T t : State} {m : MethodId} {c : Code} {pc : Nat} {L : Array Slot} {S : List Value} (h : At T m c below) (hx : tb.exec = Jvm.exec) {x y : Int64} (hd : decode c.code pc = .ok (.lsub, 1)) (hr : Steps tb e below (T.setTop (mkF m (pc + 1) L (.long (x - y) :: S))) t) : Steps tb e below (T.setTop (mkF m pc L (.long y :: .long x :: S))) t := XS.lsub h hx rfl hd rfl hr
theorem S.lmul {tb : Tables} [Ours tb] {e : Env} {below : List Frame} {T t : State} {m : MethodId} {c : Code} {pc : Nat} {L : Array Slot} {S : List Value} (h : At T m c below) (hx : tb.exec = Jvm.exec) {x y : Int64} (hd : decode c.code pc = .ok (.lmul, 1)) (hr : Steps tb e below (T.setTop (mkF m (pc + 1) L (.long (x * y) :: S))) t) : Steps tb e below (T.setTop (mkF m pc L (.long y :: .long x :: S))) t := XS.lmul h hx rfl hd rfl hr
theorem S.land {tb : Tables} [Ours tb] {e : Env} {below : List Frame} {T t : State} {m : MethodId} {c : Code} {pc : Nat} {L : Array Slot} {S : List Value} (h : At T m c below) (hx : tb.exec = Jvm.exec) {x y : Int64} (hd : decode c.code pc = .ok (.land, 1)) (hr : Steps tb e below (T.setTop (mkF m (pc + 1) L (.long (x &&& y) :: S))) t) : Steps tb e below (T.setTop (mkF m pc L (.long y :: .long x :: S))) t := XS.land h hx rfl hd rfl hr
theorem S.lor {tb : Tables} [Ours tb] {e : Env} {below : List Frame} {T t : State} {m : MethodId} {c : Code} {pc : Nat} {L : Array Slot} {S : List Value} (h : At T m c below) (hx : tb.exec = Jvm.exec) {x y : Int64} (hd : decode c.code pc = .ok (.lor, 1)) (hr : Steps tb e below (T.setTop (mkF m (pc + 1) L (.long (x ||| y) :: S))) t) : Steps tb e below (T.setTop (mkF m pc L (.long y :: .long x :: S))) t := XS.lor h hx rfl hd rfl hr
theorem S.lxor {tb : Tables} [Ours tb] {e : Env} {below : List Frame} {T t : State} {m : MethodId} {c : Code} {pc : Nat} {L : Array Slot} {S : List Value} (h : At T m c below) (hx : tb.exec = Jvm.exec) {x y : Int64} (hd : decode c.code pc = .ok (.lxor, 1)) (hr : Steps tb e below (T.setTop (mkF m (pc + 1) L (.long (x ^^^ y) :: S))) t) : Steps tb e below (T.setTop (mkF m pc L (.long y :: .long x :: S))) t := XS.lxor h hx rfl hd rfl hr
theorem S.iaddV {tb : Tables} [Ours tb] {e : Env} {below : List Frame} {T t : State} {m : MethodId} {c : Code} {pc : Nat} {L : Array Slot} {S : List Value} (h : At T m c below) (hx : tb.exec = Jvm.exec) {x y : Int32} (v : Int32) (hd : decode c.code pc = .ok (.iadd, 1)) (hv : x + y = v) (hr : Steps tb e below (T.setTop (mkF m (pc + 1) L (.int v :: S))) t) : Steps tb e below (T.setTop (mkF m pc L (.int y :: .int x :: S))) t := XS.iadd h hx rfl hd rfl (hv ▸ hr)
theorem S.isubV {tb : Tables} [Ours tb] {e : Env} {below : List Frame} {T t : State} {m : MethodId} {c : Code} {pc : Nat} {L : Array Slot} {S : List Value} (h : At T m c below) (hx : tb.exec = Jvm.exec) {x y : Int32} (v : Int32) (hd : decode c.code pc = .ok (.isub, 1)) (hv : x - y = v) (hr : Steps tb e below (T.setTop (mkF m (pc + 1) L (.int v :: S))) t) : Steps tb e below (T.setTop (mkF m pc L (.int y :: .int x :: S))) t := XS.isub h hx rfl hd rfl (hv ▸ hr)
theorem S.imulV {tb : Tables} [Ours tb] {e : Env} {below : List Frame} {T t : State} {m : MethodId} {c : Code} {pc : Nat} {L : Array Slot} {S : List Value} (h : At T m c below) (hx : tb.exec = Jvm.exec) {x y : Int32} (v : Int32) (hd : decode c.code pc = .ok (.imul, 1)) (hv : x * y = v) (hr : Steps tb e below (T.setTop (mkF m (pc + 1) L (.int v :: S))) t) : Steps tb e below (T.setTop (mkF m pc L (.int y :: .int x :: S))) t := XS.imul h hx rfl hd rfl (hv ▸ hr)
theorem S.ishl {tb : Tables} [Ours tb] {e : Env} {below : List Frame} {T t : State} {m : MethodId} {c : Code} {pc : Nat} {L : Array Slot} {S : List Value} (h : At T m c below) (hx : tb.exec = Jvm.exec) {x : Int32} {y : Int32} (hd : decode c.code pc = .ok (.ishl, 1)) (hr : Steps tb e below (T.setTop (mkF m (pc + 1) L (.int (x <<< (y &&& 31)) :: S))) t) : Steps tb e below (T.setTop (mkF m pc L (.int y :: .int x :: S))) t := XS.ishl h hx rfl hd rfl hr
theorem S.ishr {tb : Tables} [Ours tb] {e : Env} {below : List Frame} {T t : State} {m : MethodId} {c : Code} {pc : Nat} {L : Array Slot} {S : List Value} (h : At T m c below) (hx : tb.exec = Jvm.exec) {x : Int32} {y : Int32} (hd : decode c.code pc = .ok (.ishr, 1)) (hr : Steps tb e below (T.setTop (mkF m (pc + 1) L (.int (x >>> (y &&& 31)) :: S))) t) : Steps tb e below (T.setTop (mkF m pc L (.int y :: .int x :: S))) t := XS.ishr h hx rfl hd rfl hr
theorem S.iushr {tb : Tables} [Ours tb] {e : Env} {below : List Frame} {T t : State} {m : MethodId} {c : Code} {pc : Nat} {L : Array Slot} {S : List Value} (h : At T m c below) (hx : tb.exec = Jvm.exec) {x : Int32} {y : Int32} (hd : decode c.code pc = .ok (.iushr, 1)) (hr : Steps tb e below (T.setTop (mkF m (pc + 1) L (.int ((x.toUInt32 >>> (y &&& 31).toUInt32).toInt32) :: S))) t) : Steps tb e below (T.setTop (mkF m pc L (.int y :: .int x :: S))) t := XS.iushr h hx rfl hd rfl hr
theorem S.lshl {tb : Tables} [Ours tb] {e : Env} {below : List Frame} {T t : State} {m : MethodId} {c : Code} {pc : Nat} {L : Array Slot} {S : List Value} (h : At T m c below) (hx : tb.exec = Jvm.exec) {x : Int64} {y : Int32} (hd : decode c.code pc = .ok (.lshl, 1)) (hr : Steps tb e below (T.setTop (mkF m (pc + 1) L (.long (x <<< (y &&& 0x3f).toInt64) :: S))) t) : Steps tb e below (T.setTop (mkF m pc L (.int y :: .long x :: S))) t := XS.lshl h hx rfl hd rfl hr
theorem S.lshr {tb : Tables} [Ours tb] {e : Env} {below : List Frame} {T t : State} {m : MethodId} {c : Code} {pc : Nat} {L : Array Slot} {S : List Value} (h : At T m c below) (hx : tb.exec = Jvm.exec) {x : Int64} {y : Int32} (hd : decode c.code pc = .ok (.lshr, 1)) (hr : Steps tb e below (T.setTop (mkF m (pc + 1) L (.long (x >>> (y &&& 0x3f).toInt64) :: S))) t) : Steps tb e below (T.setTop (mkF m pc L (.int y :: .long x :: S))) t := XS.lshr h hx rfl hd rfl hr
theorem S.lushr {tb : Tables} [Ours tb] {e : Env} {below : List Frame} {T t : State} {m : MethodId} {c : Code} {pc : Nat} {L : Array Slot} {S : List Value} (h : At T m c below) (hx : tb.exec = Jvm.exec) {x : Int64} {y : Int32} (hd : decode c.code pc = .ok (.lushr, 1)) (hr : Steps tb e below (T.setTop (mkF m (pc + 1) L (.long ((x.toUInt64 >>> (y &&& 0x3f).toInt64.toUInt64).toInt64) :: S))) t) : Steps tb e below (T.setTop (mkF m pc L (.int y :: .long x :: S))) t := XS.lushr h hx rfl hd rfl hr
theorem S.i2c {tb : Tables} [Ours tb] {e : Env} {below : List Frame} {T t : State} {m : MethodId} {c : Code} {pc : Nat} {L : Array Slot} {S : List Value} (h : At T m c below) (hx : tb.exec = Jvm.exec) {x : Int32} (hd : decode c.code pc = .ok (.i2c, 1)) (hr : Steps tb e below (T.setTop (mkF m (pc + 1) L (.int (x.toUInt32.toUInt16.toUInt32.toInt32) :: S))) t) : Steps tb e below (T.setTop (mkF m pc L (.int x :: S))) t := XS.i2c h hx rfl hd rfl hr
theorem S.i2b {tb : Tables} [Ours tb] {e : Env} {below : List Frame} {T t : State} {m : MethodId} {c : Code} {pc : Nat} {L : Array Slot} {S : List Value} (h : At T m c below) (hx : tb.exec = Jvm.exec) {x : Int32} (hd : decode c.code pc = .ok (.i2b, 1)) (hr : Steps tb e below (T.setTop (mkF m (pc + 1) L (.int (x.toInt8.toInt32) :: S))) t) : Steps tb e below (T.setTop (mkF m pc L (.int x :: S))) t := XS.i2b h hx rfl hd rfl hr
theorem S.i2l {tb : Tables} [Ours tb] {e : Env} {below : List Frame} {T t : State} {m : MethodId} {c : Code} {pc : Nat} {L : Array Slot} {S : List Value} (h : At T m c below) (hx : tb.exec = Jvm.exec) {x : Int32} (hd : decode c.code pc = .ok (.i2l, 1)) (hr : Steps tb e below (T.setTop (mkF m (pc + 1) L (.long (x.toInt64) :: S))) t) : Steps tb e below (T.setTop (mkF m pc L (.int x :: S))) t := XS.i2l h hx rfl hd rfl hr
theorem S.l2i {tb : Tables} [Ours tb] {e : Env} {below : List Frame} {T t : State} {m : MethodId} {c : Code} {pc : Nat} {L : Array Slot} {S : List Value} (h : At T m c below) (hx : tb.exec = Jvm.exec) {x : Int64} (hd : decode c.code pc = .ok (.l2i, 1)) (hr : Steps tb e below (T.setTop (mkF m (pc + 1) L (.int (x.toInt32) :: S))) t) : Steps tb e below (T.setTop (mkF m pc L (.long x :: S))) t := XS.l2i h hx rfl hd rfl hr
theorem S.ineg {tb : Tables} [Ours tb] {e : Env} {below : List Frame} {T t : State} {m : MethodId} {c : Code} {pc : Nat} {L : Array Slot} {S : List Value} (h : At T m c below) (hx : tb.exec = Jvm.exec) {x : Int32} (hd : decode c.code pc = .ok (.ineg, 1)) (hr : Steps tb e below (T.setTop (mkF m (pc + 1) L (.int (-x) :: S))) t) : Steps tb e below (T.setTop (mkF m pc L (.int x :: S))) t := XS.ineg h hx rfl hd rfl hr
theorem S.i2cM {tb : Tables} [Ours tb] {e : Env} {below : List Frame} {T t : State} {m : MethodId} {c : Code} {pc : Nat} {L : Array Slot} {S : List Value} (h : At T m c below) (hx : tb.exec = Jvm.exec) {x : Int32} (hd : decode c.code pc = .ok (.i2c, 1)) (hr : Steps tb e below (T.setTop (mkF m (pc + 1) L (.int (x &&& 255) :: S))) t) : Steps tb e below (T.setTop (mkF m pc L (.int (x &&& 255) :: S))) t := XS.i2c h hx rfl hd rfl (by rw [i2c_mask]; exact hr)
theorem S.iinc {tb : Tables} [Ours tb] {e : Env} {below : List Frame} {T t : State} {m : MethodId} {c : Code} {pc : Nat} {L : Array Slot} {S : List Value} (h : At T m c below) (hx : tb.exec = Jvm.exec) {k : Nat} {d : Int} {x : Int32} (v : Int32) (hd : decode c.code pc = .ok (.iinc k d, 3)) (hl : L[k]? = some (.val (.int x))) (hv : x + Int32.ofInt d = v) (L' : Array Slot) (hl' : storeLocals L k (.int v) = some L') (hr : Steps tb e below (T.setTop (mkF m (pc + 3) L' (S))) t) : Steps tb e below (T.setTop (mkF m pc L (S))) t := XS.iinc h hx rfl hd hl (hv ▸ hl') hr
theorem S.dup {tb : Tables} [Ours tb] {e : Env} {below : List Frame} {T t : State} {m : MethodId} {c : Code} {pc : Nat} {L : Array Slot} {S : List Value} (h : At T m c below) (hx : tb.exec = Jvm.exec) {x : Value} (hd : decode c.code pc = .ok (.dup, 1)) (hc : x.category = 1) (hr : Steps tb e below (T.setTop (mkF m (pc + 1) L (x :: x :: S))) t) : Steps tb e below (T.setTop (mkF m pc L (x :: S))) t := XS.dup h hx rfl hd rfl hc hr
theorem S.pop {tb : Tables} [Ours tb] {e : Env} {below : List Frame} {T t : State} {m : MethodId} {c : Code} {pc : Nat} {L : Array Slot} {S : List Value} (h : At T m c below) (hx : tb.exec = Jvm.exec) {x : Value} (hd : decode c.code pc = .ok (.pop, 1)) (hc : x.category = 1) (hr : Steps tb e below (T.setTop (mkF m (pc + 1) L (S))) t) : Steps tb e below (T.setTop (mkF m pc L (x :: S))) t := XS.pop h hx rfl hd rfl hc hr
theorem S.lcmp {tb : Tables} [Ours tb] {e : Env} {below : List Frame} {T t : State} {m : MethodId} {c : Code} {pc : Nat} {L : Array Slot} {S : List Value} (h : At T m c below) (hx : tb.exec = Jvm.exec) {x y : Int64} (hd : decode c.code pc = .ok (.lcmp, 1)) (hr : Steps tb e below (T.setTop (mkF m (pc + 1) L (.int (if x > y then 1 else if x = y then 0 else -1) :: S))) t) : Steps tb e below (T.setTop (mkF m pc L (.long y :: .long x :: S))) t := XS.lcmp h hx rfl hd rfl hr
theorem S.goto {tb : Tables} [Ours tb] {e : Env} {below : List Frame} {T t : State} {m : MethodId} {c : Code} {pc : Nat} {L : Array Slot} {S : List Value} (h : At T m c below) (hx : tb.exec = Jvm.exec) {o : Int} (pc' : Nat) (hd : decode c.code pc = .ok (.goto o, 3)) (ho : 0 ≤ (pc : Int) + o) (hp : ((pc : Int) + o).toNat = pc') (hr : Steps tb e below (T.setTop (mkF m (pc') L (S))) t) : Steps tb e below (T.setTop (mkF m pc L (S))) t := XS.goto h hx rfl rfl hd ho hp hr
theorem S.ifYes {tb : Tables} [Ours tb] {e : Env} {below : List Frame} {T t : State} {m : MethodId} {c : Code} {pc : Nat} {L : Array Slot} {S : List Value} (h : At T m c below) (hx : tb.exec = Jvm.exec) {cd : ClassFile.Cond} {x : Int32} {o : Int} (pc' : Nat) (hd : decode c.code pc = .ok (.ifCond cd o, 3)) (hc : ifCond.holds cd x = true) (ho : 0 ≤ (pc : Int) + o) (hp : ((pc : Int) + o).toNat = pc') (hr : Steps tb e below (T.setTop (mkF m (pc') L (S))) t) : Steps tb e below (T.setTop (mkF m pc L (.int x :: S))) t := XS.ifYes h hx rfl rfl hd rfl hc ho hp hr
theorem S.ifNo {tb : Tables} [Ours tb] {e : Env} {below : List Frame} {T t : State} {m : MethodId} {c : Code} {pc : Nat} {L : Array Slot} {S : List Value} (h : At T m c below) (hx : tb.exec = Jvm.exec) {cd : ClassFile.Cond} {x : Int32} {o : Int} (hd : decode c.code pc = .ok (.ifCond cd o, 3)) (hc : ifCond.holds cd x = false) (hr : Steps tb e below (T.setTop (mkF m (pc + 3) L (S))) t) : Steps tb e below (T.setTop (mkF m pc L (.int x :: S))) t := XS.ifNo h hx rfl hd rfl hc hr
theorem S.icmpYes {tb : Tables} [Ours tb] {e : Env} {below : List Frame} {T t : State} {m : MethodId} {c : Code} {pc : Nat} {L : Array Slot} {S : List Value} (h : At T m c below) (hx : tb.exec = Jvm.exec) {cd : ClassFile.Cond} {x y : Int32} {o : Int} (pc' : Nat) (hd : decode c.code pc = .ok (.if_icmp cd o, 3)) (hc : if_icmp.holds cd x y = true) (ho : 0 ≤ (pc : Int) + o) (hp : ((pc : Int) + o).toNat = pc') (hr : Steps tb e below (T.setTop (mkF m (pc') L (S))) t) : Steps tb e below (T.setTop (mkF m pc L (.int y :: .int x :: S))) t := XS.icmpYes h hx rfl rfl hd rfl hc ho hp hr
theorem S.icmpNo {tb : Tables} [Ours tb] {e : Env} {below : List Frame} {T t : State} {m : MethodId} {c : Code} {pc : Nat} {L : Array Slot} {S : List Value} (h : At T m c below) (hx : tb.exec = Jvm.exec) {cd : ClassFile.Cond} {x y : Int32} {o : Int} (hd : decode c.code pc = .ok (.if_icmp cd o, 3)) (hc : if_icmp.holds cd x y = false) (hr : Steps tb e below (T.setTop (mkF m (pc + 3) L (S))) t) : Steps tb e below (T.setTop (mkF m pc L (.int y :: .int x :: S))) t := XS.icmpNo h hx rfl hd rfl hc hr
theorem S.ifnullYes {tb : Tables} [Ours tb] {e : Env} {below : List Frame} {T t : State} {m : MethodId} {c : Code} {pc : Nat} {L : Array Slot} {S : List Value} (h : At T m c below) (hx : tb.exec = Jvm.exec) {o : Int} (pc' : Nat) (hd : decode c.code pc = .ok (.ifnull o, 3)) (ho : 0 ≤ (pc : Int) + o) (hp : ((pc : Int) + o).toNat = pc') (hr : Steps tb e below (T.setTop (mkF m (pc') L (S))) t) : Steps tb e below (T.setTop (mkF m pc L (.null :: S))) t := XS.ifnullYes h hx rfl rfl hd rfl ho hp hr
theorem S.ifnullNo {tb : Tables} [Ours tb] {e : Env} {below : List Frame} {T t : State} {m : MethodId} {c : Code} {pc : Nat} {L : Array Slot} {S : List Value} (h : At T m c below) (hx : tb.exec = Jvm.exec) {o : Int} {b : Addr} (hd : decode c.code pc = .ok (.ifnull o, 3)) (hr : Steps tb e below (T.setTop (mkF m (pc + 3) L (S))) t) : Steps tb e below (T.setTop (mkF m pc L (.ref b :: S))) t := XS.ifnullNo h hx rfl hd rfl hr
theorem S.ifnonnullYes {tb : Tables} [Ours tb] {e : Env} {below : List Frame} {T t : State} {m : MethodId} {c : Code} {pc : Nat} {L : Array Slot} {S : List Value} (h : At T m c below) (hx : tb.exec = Jvm.exec) {o : Int} {b : Addr} (pc' : Nat) (hd : decode c.code pc = .ok (.ifnonnull o, 3)) (ho : 0 ≤ (pc : Int) + o) (hp : ((pc : Int) + o).toNat = pc') (hr : Steps tb e below (T.setTop (mkF m (pc') L (S))) t) : Steps tb e below (T.setTop (mkF m pc L (.ref b :: S))) t := XS.ifnonnullYes h hx rfl rfl hd rfl ho hp hr
theorem S.ifnonnullNo {tb : Tables} [Ours tb] {e : Env} {below : List Frame} {T t : State} {m : MethodId} {c : Code} {pc : Nat} {L : Array Slot} {S : List Value} (h : At T m c below) (hx : tb.exec = Jvm.exec) {o : Int} (hd : decode c.code pc = .ok (.ifnonnull o, 3)) (hr : Steps tb e below (T.setTop (mkF m (pc + 3) L (S))) t) : Steps tb e below (T.setTop (mkF m pc L (.null :: S))) t := XS.ifnonnullNo h hx rfl hd rfl hr
end Jvm.Pilot.@@N@@
namespace Jvm.Pilot.@@N@@
open Jvm Jvm.ClassFile Sem Op Lib Jvm.Free Jvm.Stand Jvm.LawKit Jvm.RoadKit Bundle Jvm.Pilot.@@N@@.Jvm.D
section OwnKit
variable {p : Program} {l : Launch} {e : Env} {R : Room} {s : State} {m : MethodId} {args : Array Value} {below : List Frame} {meth : Method} {c : Code} {Z : State} {a0 : Array Value} {EL : List (String × Nat)} {n0 : Nat} {own : String} {nw : Bool} {st : State} {vm0 : Vm} {h : Heap} {g g' : JFrame} {cells slots : Nat}
/-- where a walk stands: the heap h, the frame g, so many cells and slots made; nw: nothing interned since its start -/
def Wk (p : Program) (l : Launch) (e : Env) (R : Room) (s : State) (m : MethodId) (args : Array Value) (below : List Frame) (meth : Method) (c : Code) (Z : State) (a0 : Array Value) (EL : List (String × Nat)) (n0 : Nat) (own : String) (nw : Bool) (st : State) (vm0 : Vm) (h : Heap) (g : JFrame) (cells slots : Nat) : Prop :=
  ∃ (T : State) (locs : List Loc) (k0 : Nat), Stand p l e R (s.setVm vm0) m args below meth c T locs cells slots ∧ T.heap = h ∧ s.Since vm0 k0 ∧ k0 ≤ h.size ∧ Z.Warmed39 vm0 ∧ vm0.findClass own = some m.cls ∧ Fr n0 locs ∧ (nw = true → vm0 = s.vm) ∧ EW Z a0 EL ∧ CHr Z EL s.vm s.heap vm0 h ∧ p.tables.exec = Jvm.exec ∧ ∀ t, Steps p.tables e below (T.setTop g) t → Steps p.tables e below st t
theorem exlt {h : Heap} {a : Addr} {C : String} (E : Exa Z h a C) : h.size > a := E.lt
theorem arlt {h : Heap} {a : Addr} {k : ClassId} {ty : FieldType} {z : Int32} {vs : List Value} {d : Value} (V : Arv Z h a k ty z vs d) : h.size > a := V.lt
theorem nne {a b : Nat} (h : a < b ∨ b < a) : a ≠ b := by omega
theorem safe0 {vm : Vm} {h : Heap} {x : Addr} : Safe Z [] vm h x := fun ⟨_, hp, _⟩ => nomatch hp
theorem chv0 {vm : Vm} {h : Heap} : CHv Z [] vm h := fun _ hp => nomatch hp
theorem Wk.start {x : MethodName} {S : Spec} {code : ByteArray} {maxLocals : Nat} {ret : Option FieldType} {s₁ : State} (Bd : BodyLoose p l x S code maxLocals ret e s m args below meth c s₁) (hZ : Z.Warmed39 s.vm) (hh : s.heap = h) (hE : EW Z a0 EL) (hC : CHv Z EL s.vm h) (ef : entryFrame m args maxLocals = g) (R : Room) (hR : S.room = R) :
    Wk p l e R s m args below meth c Z a0 EL n0 x.cls nw (s₁.setTop (entryFrame m args maxLocals)) s.vm h g 0 0 := by
  subst hh hR
  exact ⟨s₁, [], s.heap.size, Stand.of_body Bd, by rw [Bd.state]; rfl, (State.WarmedH.refl s).since _, Nat.le_refl _, hZ, findClass_of_methodNamed Bd.named, Fr.nil _, fun _ => rfl, hE, CHr.refl hC, Bd.exec, fun t k => castTop ef k⟩
theorem Wk.hZ (w : Wk p l e R s m args below meth c Z a0 EL n0 own nw st vm0 h g cells slots) : Z.Warmed39 (s.setVm vm0).vm := by
  obtain ⟨T, locs, k0, X, eT, hS, hk, hZ, hown, N, hnw, hE, hC, hx, pre⟩ := w; exact hZ
theorem Wk.al (w : Wk p l e R s m args below meth c Z a0 EL n0 own nw st vm0 h g cells slots) : Z.vm.Alike vm0 := State.Warmed39.alike (s := Z) w.hZ
theorem Wk.chv (w : Wk p l e R s m args below meth c Z a0 EL n0 own nw st vm0 h g cells slots) : CHv Z EL vm0 h := by
  obtain ⟨T, locs, k0, X, eT, hS, hk, hZ, hown, N, hnw, hE, hC, hx, pre⟩ := w; exact hC.1
theorem Wk.pure (w : Wk p l e R s m args below meth c Z a0 EL n0 own nw st vm0 h g cells slots) (g' : JFrame)
    (k : ∀ {T : State} {locs : List Loc} {t : State}, Stand p l e R (s.setVm vm0) m args below meth c T locs cells slots → T.heap = h → Z.Warmed39 (s.setVm vm0).vm → (s.setVm vm0).vm.findClass own = some m.cls → Steps p.tables e below (T.setTop g') t → Steps p.tables e below (T.setTop g) t) :
    Wk p l e R s m args below meth c Z a0 EL n0 own nw st vm0 h g' cells slots := by
  obtain ⟨T, locs, k0, X, eT, hS, hk, hZ, hown, N, hnw, hE, hC, hx, pre⟩ := w
  exact ⟨T, locs, k0, X, eT, hS, hk, hZ, hown, N, hnw, hE, hC, hx, fun t q => pre t (k X eT hZ hown q)⟩
/-- a step that moves the tables alone -/
theorem Wk.same (w : Wk p l e R s m args below meth c Z a0 EL n0 own nw st vm0 h g cells slots) (g' : JFrame)
    (k : ∀ {T : State} {locs : List Loc}, Stand p l e R (s.setVm vm0) m args below meth c T locs cells slots → T.heap = h → Z.Warmed39 (s.setVm vm0).vm → (s.setVm vm0).vm.findClass own = some m.cls → ∃ T', Stand p l e R (s.setVm vm0) m args below meth c T' locs cells slots ∧ T'.heap = h ∧ ∀ t, Steps p.tables e below (T'.setTop g') t → Steps p.tables e below (T.setTop g) t) :
    Wk p l e R s m args below meth c Z a0 EL n0 own nw st vm0 h g' cells slots := by
  obtain ⟨T, locs, k0, X, eT, hS, hk, hZ, hown, N, hnw, hE, hC, hx, pre⟩ := w
  obtain ⟨T', X', e', q⟩ := k X eT hZ hown
  exact ⟨T', locs, k0, X', e', hS, hk, hZ, hown, N, hnw, hE, hC, hx, fun t z => pre t (q t z)⟩
theorem Wk.more (w : Wk p l e R s m args below meth c Z a0 EL n0 own nw st vm0 h g cells slots) {k n : Nat} (hc : cells ≤ k) (hn : slots ≤ n) : Wk p l e R s m args below meth c Z a0 EL n0 own nw st vm0 h g k n := by
  obtain ⟨T, locs, k0, X, eT, hS, hk, hZ, hown, N, hnw, hE, hC, hx, pre⟩ := w
  exact ⟨T, locs, k0, X.mono hc hn, eT, hS, hk, hZ, hown, N, hnw, hE, hC, hx, pre⟩
theorem Wk.newO (w : Wk p l e R s m args below meth c Z a0 EL n0 own nw st vm0 h g cells slots) (hx : p.tables.exec = Jvm.exec) {C : String} {index n : Nat} (w1 : (Cond.classLink own index C).before a0 Z = true) (w2 : (Cond.instantiable C n).before a0 Z = true) (w3 : (Cond.initialized C).before a0 Z = true)
    (hg : g.method = m) (hd : decode c.code g.pc = .ok (.new index, 3)) (hc : cells + 1 ≤ R.cells) (hl : slots + n ≤ R.slots) (g' : Addr → JFrame) (hg' : ∀ x, g' x = { g with pc := g.pc + 3, stack := .ref x :: g.stack }) :
    ∃ (x : Nat) (h' : Heap), x = h.size ∧ Ext h h' ∧ h'.size > x ∧ Exa Z h' x C ∧ (∀ {O nm d : String} {ty : FieldType}, Laid Z a0 C O nm d → parseFieldDescriptor d = some ty → Fld Z h' x O nm d (defaultValue ty)) ∧ Safe Z EL vm0 h' x ∧ Wk p l e R s m args below meth c Z a0 EL n0 own nw st vm0 h' (g' x) (cells + 1) (slots + n) := by
  obtain ⟨T, locs, k0, X, eT, hS, hk, hZ, hown, N, hnw, hE, hC, -, pre⟩ := w
  obtain ⟨T', h', X', e', E, A, D, -, st'⟩ := RoadKit.newO X hx hZ hown w1 w2 w3 eT hg hd hc hl
  exact ⟨h.size, h', rfl, E, A.lt, A, D, Safe.ext E hC.1 (Safe.new (Nat.le_refl _)), T', locs, k0, X', e', hS, Nat.le_trans hk E.1, hZ, hown, N, hnw, hE, hC.trans (CHr.ext E hC.1), hx, fun t k => pre t (st' t (hg' h.size ▸ k))⟩
theorem Wk.newP (w : Wk p l e R s m args below meth c Z a0 EL n0 own nw st vm0 h g cells slots) (hx : p.tables.exec = Jvm.exec) {aty : ArrayType} (w1 : (Cond.arrayClass (newarray.typeOf aty)).before a0 Z = true) (hg : g.method = m) (hd : decode c.code g.pc = .ok (.newarray aty, 2)) {n : Int32} {rest : List Value} (hs : g.stack = .int n :: rest)
    (hn : ¬ n < 0) (cap : Nat) (hcap : n.toNatClampNeg ≤ cap) (hb : cap * 8 ≤ 536870912) (hc : cells + 1 ≤ R.cells) (hl : slots + cap ≤ R.slots) (g' : Addr → JFrame) (hg' : ∀ x, g' x = { g with pc := g.pc + 2, stack := .ref x :: rest }) :
    ∃ (x : Nat) (h' : Heap) (k : ClassId), x = h.size ∧ Ext h h' ∧ h'.size > x ∧ Arv Z h' x k (newarray.typeOf aty) n [] (defaultValue (newarray.typeOf aty)) ∧ Safe Z EL vm0 h' x ∧ Wk p l e R s m args below meth c Z a0 EL n0 own nw st vm0 h' (g' x) (cells + 1) (slots + cap) := by
  obtain ⟨T, locs, k0, X, eT, hS, hk, hZ, hown, N, hnw, hE, hC, -, pre⟩ := w
  obtain ⟨T', h', k, X', e', E, A, st'⟩ := RoadKit.newP X hx hZ w1 eT hg hd hs hn hcap hb hc hl
  exact ⟨h.size, h', k, rfl, E, A.lt, Arv.new A hn, Safe.ext E hC.1 (Safe.new (Nat.le_refl _)), T', locs, k0, X', e', hS, Nat.le_trans hk E.1, hZ, hown, N, hnw, hE, hC.trans (CHr.ext E hC.1), hx, fun t q => pre t (st' t (hg' h.size ▸ q))⟩
theorem Wk.putF (w : Wk p l e R s m args below meth c Z a0 EL n0 own nw st vm0 h g cells slots) (hx : p.tables.exec = Jvm.exec) {R0 O n d host C : String} {index kk : Nat} {ty : FieldType} (w1 : (Cond.fieldLink own index R0 n d).before a0 Z = true ∨ (Cond.fieldLinkNest own index R0 n d host).before a0 Z = true) (via : Via Z R0 O n d)
    {a : Addr} {v old : Value} (F : Fld Z h a O n d old) (E : Exa Z h a C) (L : (Cond.lays C O n d).before a0 Z = true ∨ ((Cond.laysFinal C O n d).before a0 Z = true ∧ own = O ∧ meth.name = "<init>")) (wi : (Cond.instantiable C kk).before a0 Z = true)
    (hty : parseFieldDescriptor d = some ty) (hn : narrow ty v = v) (hf : fits ty v = true) (hg : g.method = m) {rest : List Value} (hs : g.stack = v :: .ref a :: rest) (hd : decode c.code g.pc = .ok (.putfield index, 3)) (na : n0 ≤ a) (sf : Safe Z EL vm0 h a) (g' : JFrame) (hg' : g' = { g with pc := g.pc + 3, stack := rest }) :
    ∃ h', Wr h h' a (RoadKit.slotOf Z O n d) v ∧ h'.size = h.size ∧ Fld Z h' a O n d v ∧ Wk p l e R s m args below meth c Z a0 EL n0 own nw st vm0 h' g' cells slots := by
  obtain ⟨T, locs, k0, X, eT, hS, hk, hZ, hown, N, hnw, hE, hC, -, pre⟩ := w
  obtain ⟨T', h', X', e', W, st'⟩ := RoadKit.putF X hx hZ hown w1 via eT F E L wi hty hn hf hg hs hd
  exact ⟨h', W, W.size, F.same W, T', _, k0, X', e', hS, by rw [W.size]; exact hk, hZ, hown, Fr.snoc X' N na, hnw, hE, hC.trans (CHr.wr W sf hC.1), hx, fun t q => pre t (st' t (hg' ▸ q))⟩
theorem Wk.putFN (w : Wk p l e R s m args below meth c Z a0 EL n0 own nw st vm0 h g cells slots) (hx : p.tables.exec = Jvm.exec) {R0 O n d C : String} {index kk : Nat} {ty : FieldType} (w1 : (Cond.fieldLink own index R0 n d).before a0 Z = true) (via : Via Z R0 O n d)
    {a : Addr} {v old : Value} (v' : Value) (F : Fld Z h a O n d old) (E : Exa Z h a C) (L : (Cond.lays C O n d).before a0 Z = true ∨ ((Cond.laysFinal C O n d).before a0 Z = true ∧ own = O ∧ meth.name = "<init>")) (wi : (Cond.instantiable C kk).before a0 Z = true)
    (hty : parseFieldDescriptor d = some ty) (hn : narrow ty v = v') (hf : fits ty v' = true) (hg : g.method = m) {rest : List Value} (hs : g.stack = v :: .ref a :: rest) (hd : decode c.code g.pc = .ok (.putfield index, 3)) (na : n0 ≤ a) (sf : Safe Z EL vm0 h a) (g' : JFrame) (hg' : g' = { g with pc := g.pc + 3, stack := rest }) :
    ∃ h', Wr h h' a (RoadKit.slotOf Z O n d) v' ∧ h'.size = h.size ∧ Fld Z h' a O n d v' ∧ Wk p l e R s m args below meth c Z a0 EL n0 own nw st vm0 h' g' cells slots := by
  obtain ⟨T, locs, k0, X, eT, hS, hk, hZ, hown, N, hnw, hE, hC, -, pre⟩ := w
  obtain ⟨T', h', X', e', W, st'⟩ := RoadKit.putFN X hx hZ hown w1 via eT F E L wi hty hn hf hg hs hd
  exact ⟨h', W, W.size, F.same W, T', _, k0, X', e', hS, by rw [W.size]; exact hk, hZ, hown, Fr.snoc X' N na, hnw, hE, hC.trans (CHr.wr W sf hC.1), hx, fun t q => pre t (st' t (hg' ▸ q))⟩
theorem Wk.stC (w : Wk p l e R s m args below meth c Z a0 EL n0 own nw st vm0 h g cells slots) (hx : p.tables.exec = Jvm.exec) {a : Addr} {k : ClassId} {z : Int32} {vs : List Value} {dv : Value} (V : Arv Z h a k .char z vs dv) {j x : Int32} (i : Nat) (hj : j.toNatClampNeg = i) (hi : i < vs.length) (hin : ¬ j < 0 ∧ j < z)
    (hg : g.method = m) {rest : List Value} (hs : g.stack = .int x :: .int j :: .ref a :: rest) (hd : decode c.code g.pc = .ok (.castore, 1)) (na : n0 ≤ a) (g' : JFrame) (hg' : g' = { g with pc := g.pc + 1, stack := rest }) :
    ∃ h', Wr h h' a j.toNatClampNeg (.int (nar .char x)) ∧ h'.size = h.size ∧ Arv Z h' a k .char z (vs.set i (.int (nar .char x))) dv ∧ Wk p l e R s m args below meth c Z a0 EL n0 own nw st vm0 h' g' cells slots := by
  obtain ⟨T, locs, k0, X, eT, hS, hk, hZ, hown, N, hnw, hE, hC, -, pre⟩ := w
  obtain ⟨cl, A, q, S, M, H, U⟩ := id V
  obtain ⟨T', h', X', e', W, st'⟩ := RoadKit.stC X hx hZ eT A (inb_of S hin) hg hs hd
  exact ⟨h', W, W.size, Arv.set A q S M H U (fits_nar_char _) W i hj hi, T', _, k0, X', e', hS, by rw [W.size]; exact hk, hZ, hown, Fr.snoc X' N na, hnw, hE, hC.trans (CHr.wr W (Safe.arv (State.Warmed39.alike (s := Z) hZ) V (by decide)) hC.1), hx, fun t q => pre t (st' t (hg' ▸ q))⟩
theorem Wk.stI (w : Wk p l e R s m args below meth c Z a0 EL n0 own nw st vm0 h g cells slots) (hx : p.tables.exec = Jvm.exec) {a : Addr} {k : ClassId} {z : Int32} {vs : List Value} {dv : Value} (V : Arv Z h a k .int z vs dv) {j x : Int32} (i : Nat) (hj : j.toNatClampNeg = i) (hi : i < vs.length) (hin : ¬ j < 0 ∧ j < z)
    (hg : g.method = m) {rest : List Value} (hs : g.stack = .int x :: .int j :: .ref a :: rest) (hd : decode c.code g.pc = .ok (.iastore, 1)) (na : n0 ≤ a) (g' : JFrame) (hg' : g' = { g with pc := g.pc + 1, stack := rest }) :
    ∃ h', Wr h h' a j.toNatClampNeg (.int x) ∧ h'.size = h.size ∧ Arv Z h' a k .int z (vs.set i (.int x)) dv ∧ Wk p l e R s m args below meth c Z a0 EL n0 own nw st vm0 h' g' cells slots := by
  obtain ⟨T, locs, k0, X, eT, hS, hk, hZ, hown, N, hnw, hE, hC, -, pre⟩ := w
  obtain ⟨cl, A, q, S, M, H, U⟩ := id V
  obtain ⟨T', h', X', e', W, st'⟩ := RoadKit.stI X hx hZ eT A (inb_of S hin) hg hs hd
  exact ⟨h', W, W.size, Arv.set A q S M H U rfl W i hj hi, T', _, k0, X', e', hS, by rw [W.size]; exact hk, hZ, hown, Fr.snoc X' N na, hnw, hE, hC.trans (CHr.wr W (Safe.arv (State.Warmed39.alike (s := Z) hZ) V (by decide)) hC.1), hx, fun t q => pre t (st' t (hg' ▸ q))⟩
theorem Wk.stB (w : Wk p l e R s m args below meth c Z a0 EL n0 own nw st vm0 h g cells slots) (hx : p.tables.exec = Jvm.exec) {a : Addr} {k : ClassId} {z : Int32} {vs : List Value} {dv : Value} (V : Arv Z h a k .byte z vs dv) (sf : Safe Z EL vm0 h a) {j x : Int32} (i : Nat) (hj : j.toNatClampNeg = i) (hi : i < vs.length) (hin : ¬ j < 0 ∧ j < z)
    (hg : g.method = m) {rest : List Value} (hs : g.stack = .int x :: .int j :: .ref a :: rest) (hd : decode c.code g.pc = .ok (.bastore, 1)) (na : n0 ≤ a) (g' : JFrame) (hg' : g' = { g with pc := g.pc + 1, stack := rest }) :
    ∃ h', Wr h h' a j.toNatClampNeg (.int x.toInt8.toInt32) ∧ h'.size = h.size ∧ Arv Z h' a k .byte z (vs.set i (.int x.toInt8.toInt32)) dv ∧ Wk p l e R s m args below meth c Z a0 EL n0 own nw st vm0 h' g' cells slots := by
  obtain ⟨T, locs, k0, X, eT, hS, hk, hZ, hown, N, hnw, hE, hC, -, pre⟩ := w
  obtain ⟨cl, A, q, S, M, H, U⟩ := id V
  obtain ⟨T', h', X', e', W, st'⟩ := RoadKit.stB X hx hZ eT A (inb_of S hin) hg hs hd
  exact ⟨h', W, W.size, Arv.set A q S M H U (fits_nar_byte _) W i hj hi, T', _, k0, X', e', hS, by rw [W.size]; exact hk, hZ, hown, Fr.snoc X' N na, hnw, hE, hC.trans (CHr.wr W sf hC.1), hx, fun t q => pre t (st' t (hg' ▸ q))⟩
/-! single steps that read an array -/
section Reads
variable {T : State} {locs : List Loc} {target : State}
theorem caV (X : Stand p l e R s m args below meth c T locs cells slots) (hx : p.tables.exec = Jvm.exec) (eT : T.heap = h) (hZ : Z.Warmed39 s.vm) {a : Addr} {k : ClassId} {z : Int32} {vs : List Value} {dv v : Value} (V : Arv Z h a k .char z vs dv) {j : Int32} (hin : ¬ j < 0 ∧ j < z) (hv : vs.getD j.toNatClampNeg dv = v)
    (hg : g.method = m) {rest : List Value} (hs : g.stack = .int j :: .ref a :: rest) (hd : decode c.code g.pc = .ok (.caload, 1)) (hr : Steps p.tables e below (T.setTop { g with pc := g.pc + 1, stack := v :: rest }) target) : Steps p.tables e below (T.setTop g) target := by
  obtain ⟨cl, A, q, S, M, H, U⟩ := V
  exact X.caload hx (by rw [eT]; exact A.1) (State.isArrayOf_alike hZ.alike A.2.1) A.2.2 (inb_of S hin) (H.at (inb_of S hin) hv) hg hs hd _ hr
theorem iaV (X : Stand p l e R s m args below meth c T locs cells slots) (hx : p.tables.exec = Jvm.exec) (eT : T.heap = h) (hZ : Z.Warmed39 s.vm) {a : Addr} {k : ClassId} {z : Int32} {vs : List Value} {dv v : Value} (V : Arv Z h a k .int z vs dv) {j : Int32} (hin : ¬ j < 0 ∧ j < z) (hv : vs.getD j.toNatClampNeg dv = v)
    (hg : g.method = m) {rest : List Value} (hs : g.stack = .int j :: .ref a :: rest) (hd : decode c.code g.pc = .ok (.iaload, 1)) (hr : Steps p.tables e below (T.setTop { g with pc := g.pc + 1, stack := v :: rest }) target) : Steps p.tables e below (T.setTop g) target := by
  obtain ⟨cl, A, q, S, M, H, U⟩ := V
  exact X.iaload hx (by rw [eT]; exact A.1) (State.isArrayOf_alike hZ.alike A.2.1) A.2.2 (inb_of S hin) (H.at (inb_of S hin) hv) hg hs hd _ hr
theorem baV (X : Stand p l e R s m args below meth c T locs cells slots) (hx : p.tables.exec = Jvm.exec) (eT : T.heap = h) (hZ : Z.Warmed39 s.vm) {a : Addr} {k : ClassId} {z : Int32} {vs : List Value} {dv v : Value} (V : Arv Z h a k .byte z vs dv) {j : Int32} (hin : ¬ j < 0 ∧ j < z) (hv : vs.getD j.toNatClampNeg dv = v)
    (hg : g.method = m) {rest : List Value} (hs : g.stack = .int j :: .ref a :: rest) (hd : decode c.code g.pc = .ok (.baload, 1)) (hr : Steps p.tables e below (T.setTop { g with pc := g.pc + 1, stack := v :: rest }) target) : Steps p.tables e below (T.setTop g) target := by
  obtain ⟨cl, A, q, S, M, H, U⟩ := V
  exact X.baloadBytes hx (by rw [eT]; exact A.1) (State.isArrayOf_alike hZ.alike A.2.1) A.2.2 (inb_of S hin) (H.at (inb_of S hin) hv) hg hs hd _ hr
theorem aaV (X : Stand p l e R s m args below meth c T locs cells slots) (hx : p.tables.exec = Jvm.exec) (eT : T.heap = h) (hZ : Z.Warmed39 s.vm) {a : Addr} {k : ClassId} {z : Int32} {vs : List Value} {dv v : Value} {ty : FieldType} (V : Arv Z h a k ty z vs dv) (hty : ty.isReference = true) {j : Int32} (hin : ¬ j < 0 ∧ j < z) (hv : vs.getD j.toNatClampNeg dv = v)
    (hg : g.method = m) {rest : List Value} (hs : g.stack = .int j :: .ref a :: rest) (hd : decode c.code g.pc = .ok (.aaload, 1)) (hr : Steps p.tables e below (T.setTop { g with pc := g.pc + 1, stack := v :: rest }) target) : Steps p.tables e below (T.setTop g) target := by
  obtain ⟨cl, A, q, S, M, H, U⟩ := V
  exact X.aaload hx (by rw [eT]; exact A.1) (State.isArrayOf_alike hZ.alike A.2.1) hty A.2.2 (inb_of S hin) (H.at (inb_of S hin) hv) hg hs hd _ hr
theorem alenV (X : Stand p l e R s m args below meth c T locs cells slots) (hx : p.tables.exec = Jvm.exec) (eT : T.heap = h) (hZ : Z.Warmed39 s.vm) {a : Addr} {k : ClassId} {z : Int32} {vs : List Value} {dv : Value} {ty : FieldType} (V : Arv Z h a k ty z vs dv)
    (hg : g.method = m) {rest : List Value} (hs : g.stack = .ref a :: rest) (hd : decode c.code g.pc = .ok (.arraylength, 1)) (hr : Steps p.tables e below (T.setTop { g with pc := g.pc + 1, stack := .int z :: rest }) target) : Steps p.tables e below (T.setTop g) target := by
  obtain ⟨cl, A, q, S, M, H, U⟩ := V
  exact X.arraylength hx (by rw [eT]; exact A.1) (State.isArrayOf_alike hZ.alike A.2.1) hg hs hd _ (by rw [len_of S M]; exact hr)
end Reads
/-! calls -/
/-- who pays a call: nothing interned -/
def Pay (l : Launch) (R : Room) (p : Program) (e : Env) (below : List Frame) (s : State) (args : Array Value) (y : MethodName) (W : Nat) (as' : List Value) (h : Heap) (kc ks n0 : Nat) (wr : List Addr) (Q : Option Value → Heap → Prop) : Prop :=
  Back l R p e below s args y 3 W (fun P a => a = as'.toArray ∧ P.U.heap = h ∧ P.cells + kc ≤ R.cells ∧ P.slots + ks ≤ R.slots) (fun P _ v B => ∃ L, (Q v B.U.heap ∧ Keep h B.U.heap wr ∧ Fr n0 L) ∧ B.locs = P.locs ++ L ∧ B.cells = P.cells + kc ∧ B.slots = P.slots + ks)
/-- a contract: nothing interned -/
def NMet (l : Launch) (Z : State) (y : MethodName) (bytes : ByteArray) (maxL : Nat) (ret : Option FieldType) (ws : List Jvm.Cond) (rm : Room) (as' : List Value) (h : Heap) (n0 : Nat) (wr : List Addr) (Q : Option Value → Heap → Prop) : Prop :=
  MetFree l y (head1 (Jvm.Cond.code y bytes maxL ret :: ws) rm) (fun a U => a = as'.toArray ∧ Z.Warmed39 U.vm ∧ U.heap = h) (fun _ _ _ _ _ => True) (fun _ U o U' => ∃ v L, o = .returned v ∧ (Q v U'.heap ∧ Keep h U'.heap wr ∧ Fr n0 L) ∧ FrameEnd U o U' L rm.cells rm.slots)
theorem NMet.pay {y : MethodName} {bytes : ByteArray} {maxL : Nat} {ret : Option FieldType} {rm : Room} {as' : List Value} {wr : List Addr} {Q : Option Value → Heap → Prop} {W : Nat} (M : NMet l Z y bytes maxL ret [] rm as' h n0 wr Q) (hZ : Z.Warmed39 s.vm) (wc : (Cond.code y bytes maxL ret).before a0 Z = true) (wz : (Cond.initialized y.cls).before a0 Z = true) (hf : rm.frames + 1 ≤ R.frames) (hl : W + (maxL + 11) + rm.locals ≤ R.locals) :
    Pay l R p e below s args y W as' h rm.cells rm.slots n0 wr Q := backOf (a0 := a0) (Q := fun v h' L => Q v h' ∧ Keep h h' wr ∧ Fr n0 L) M hZ wc wz hf hl
theorem Wk.callS (w : Wk p l e R s m args below meth c Z a0 EL n0 own nw st vm0 h g cells slots) (hx : p.tables.exec = Jvm.exec) {y : MethodName} {bytes : ByteArray} {maxL : Nat} {ret : Option FieldType} {index W kc ks : Nat} {as' : List Value} {wr : List Addr} {Q : Option Value → Heap → Prop}
    (w1 : (Cond.methodLink own index y).before a0 Z = true) (w2 : (Cond.static y).before a0 Z = true) (w3 : (Cond.initialized y.cls).before a0 Z = true) (w4 : (Cond.code y bytes maxL ret).before a0 Z = true) (hy : y.cls ≠ "java/lang/invoke/MethodHandle" ∧ y.cls ≠ "java/lang/invoke/VarHandle")
    (P : Pay l R p e below (s.setVm vm0) args y W as' h kc ks n0 wr Q) (hg : g.method = m) (hsize : g.locals.size = c.maxLocals) (rest : List Value) (hlen : ∀ sig, parseMethodDescriptor y.desc = some sig → as'.length = sig.parameters.length) (hstack : g.stack = as'.reverse ++ rest) (hW : 2 * g.monitorRoom + (rest.map fun v => v.category).sum ≤ W)
    (hd : decode c.code g.pc = .ok (.invokestatic index, 3)) (hc : cells + kc ≤ R.cells) (hl : slots + ks ≤ R.slots) (sf : ∀ x ∈ wr, Safe Z EL vm0 h x) (g' : Option Value → JFrame) (hg' : ∀ v, g' v = { g with pc := g.pc + 3, stack := v.toList ++ rest }) :
    ∃ v h', Q v h' ∧ Keep h h' wr ∧ h.size ≤ h'.size ∧ Wk p l e R s m args below meth c Z a0 EL n0 own nw st vm0 h' (g' v) (cells + kc) (slots + ks) := by
  obtain ⟨T, locs, k0, X, eT, hS, hk, hZ, hown, N, hnw, hE, hC, -, pre⟩ := w
  have hZ' : Z.Warmed39 (s.setVm vm0).vm := hZ
  obtain ⟨v, _, ⟨T', L', k', n'⟩, -, X', ⟨L, ⟨hQ, hK, hN⟩, l1, l2, l3⟩, st'⟩ := Jvm.LawKit.callS X hx (y := y) hown (mvT hZ' w1) (mvT hZ' w2) (mvT hZ' w3) (mvT hZ' w4) hy P hg hsize hlen hstack hW hd (fun _ _ => ⟨rfl, eT, hc, hl⟩)
  dsimp only [Pt.U, Pt.locs, Pt.cells, Pt.slots] at X' l1 l2 l3 st' hQ hK
  subst l1 l2 l3
  exact ⟨v, T'.heap, hQ, hK, hK.1, T', _, k0, X', rfl, hS, Nat.le_trans hk hK.1, hZ, hown, Fr.app N hN, hnw, hE, hC.trans (CHr.keep hK sf hC.1), hx, fun t k => pre t (st' t (hg' v ▸ k))⟩
theorem Wk.callI (w : Wk p l e R s m args below meth c Z a0 EL n0 own nw st vm0 h g cells slots) (hx : p.tables.exec = Jvm.exec) {y : MethodName} {bytes : ByteArray} {maxL : Nat} {index W kc ks : Nat} {a : Addr} {as' : List Value} {wr : List Addr} {Q : Option Value → Heap → Prop}
    (hy1 : y.name = "<init>") (w1 : (Cond.methodLink own index y).before a0 Z = true) (w2 : (Cond.instanceMethod y).before a0 Z = true) (w4 : (Cond.code y bytes maxL none).before a0 Z = true) (hy : y.cls ≠ "java/lang/invoke/MethodHandle" ∧ y.cls ≠ "java/lang/invoke/VarHandle")
    (P : Pay l R p e below (s.setVm vm0) args y W (.ref a :: as') h kc ks n0 wr Q) (hg : g.method = m) (hsize : g.locals.size = c.maxLocals) (rest : List Value) (hlen : ∀ sig, parseMethodDescriptor y.desc = some sig → as'.length = sig.parameters.length) (hstack : g.stack = as'.reverse ++ .ref a :: rest) (hW : 2 * g.monitorRoom + (rest.map fun v => v.category).sum ≤ W)
    (hd : decode c.code g.pc = .ok (.invokespecial index, 3)) (hc : cells + kc ≤ R.cells) (hl : slots + ks ≤ R.slots) (sf : ∀ x ∈ wr, Safe Z EL vm0 h x) (g' : Option Value → JFrame) (hg' : ∀ v, g' v = { g with pc := g.pc + 3, stack := v.toList ++ rest }) :
    ∃ v h', Q v h' ∧ Keep h h' wr ∧ h.size ≤ h'.size ∧ Wk p l e R s m args below meth c Z a0 EL n0 own nw st vm0 h' (g' v) (cells + kc) (slots + ks) := by
  obtain ⟨T, locs, k0, X, eT, hS, hk, hZ, hown, N, hnw, hE, hC, -, pre⟩ := w
  have hZ' : Z.Warmed39 (s.setVm vm0).vm := hZ
  obtain ⟨v, _, ⟨T', L', k', n'⟩, -, X', ⟨L, ⟨hQ, hK, hN⟩, l1, l2, l3⟩, st'⟩ := X.specialBack hx (y := y) hy1 hown (mvT hZ' w1) (mvT hZ' w2) (mvT hZ' w4) hy P hg hsize (Steps.refl _) hlen hstack hW hd (fun _ _ => ⟨rfl, eT, hc, hl⟩)
  dsimp only [Pt.U, Pt.locs, Pt.cells, Pt.slots] at X' l1 l2 l3 st' hQ hK
  subst l1 l2 l3
  exact ⟨v, T'.heap, hQ, hK, hK.1, T', _, k0, X', rfl, hS, Nat.le_trans hk hK.1, hZ, hown, Fr.app N hN, hnw, hE, hC.trans (CHr.keep hK sf hC.1), hx, fun t k => pre t (st'.trans (hg' v ▸ k))⟩
theorem Wk.callV (w : Wk p l e R s m args below meth c Z a0 EL n0 own nw st vm0 h g cells slots) (hx : p.tables.exec = Jvm.exec) {C : String} {y z : MethodName} {index W kc ks : Nat} {a : Addr} {as' : List Value} {wr : List Addr} {Q : Option Value → Heap → Prop}
    (w1 : (Cond.methodLink own index y).before a0 Z = true) (w2 : (Cond.declares y).before a0 Z = true) (w3 : (Cond.selects C y z).before a0 Z = true) (w4 : (Cond.instanceMethod z).before a0 Z = true) (nf : NotFace (s.setVm vm0) y) (hy : y.cls ≠ "java/lang/invoke/MethodHandle" ∧ y.cls ≠ "java/lang/invoke/VarHandle")
    (P : Pay l R p e below (s.setVm vm0) args z W (.ref a :: as') h kc ks n0 wr Q) (E : Exa Z h a C) (hg : g.method = m) (hsize : g.locals.size = c.maxLocals) (rest : List Value) (hlen : ∀ sig, parseMethodDescriptor y.desc = some sig → as'.length = sig.parameters.length) (hstack : g.stack = as'.reverse ++ .ref a :: rest) (hW : 2 * g.monitorRoom + (rest.map fun v => v.category).sum ≤ W)
    (hd : decode c.code g.pc = .ok (.invokevirtual index, 3)) (hc : cells + kc ≤ R.cells) (hl : slots + ks ≤ R.slots) (sf : ∀ x ∈ wr, Safe Z EL vm0 h x) (g' : Option Value → JFrame) (hg' : ∀ v, g' v = { g with pc := g.pc + 3, stack := v.toList ++ rest }) :
    ∃ v h', Q v h' ∧ Keep h h' wr ∧ h.size ≤ h'.size ∧ Wk p l e R s m args below meth c Z a0 EL n0 own nw st vm0 h' (g' v) (cells + kc) (slots + ks) := by
  obtain ⟨T, locs, k0, X, eT, hS, hk, hZ, hown, N, hnw, hE, hC, -, pre⟩ := w
  have hZ' : Z.Warmed39 (s.setVm vm0).vm := hZ
  obtain ⟨cB, kB, q1, -, q3⟩ := isOf (s := s.setVm vm0) hZ' eT E
  obtain ⟨v, _, ⟨T', L', k', n'⟩, -, X', ⟨L, ⟨hQ, hK, hN⟩, l1, l2, l3⟩, st'⟩ := X.virtualBack hx (y := y) (z := z) hown (mvT hZ' w1) (mvT hZ' w2) nf (mvT hZ' w3) (mvT hZ' w4) hy P q1 q3 hg hsize (Steps.refl _) hlen hstack hW hd (fun _ _ => ⟨rfl, eT, hc, hl⟩)
  dsimp only [Pt.U, Pt.locs, Pt.cells, Pt.slots] at X' l1 l2 l3 st' hQ hK
  subst l1 l2 l3
  exact ⟨v, T'.heap, hQ, hK, hK.1, T', _, k0, X', rfl, hS, Nat.le_trans hk hK.1, hZ, hown, Fr.app N hN, hnw, hE, hC.trans (CHr.keep hK sf hC.1), hx, fun t k => pre t (st'.trans (hg' v ▸ k))⟩
theorem sfNil {x : Addr} : x ∈ ([] : List Addr) → Safe Z EL vm0 h x := fun q => nomatch q
theorem sfOne {a : Addr} (sf : Safe Z EL vm0 h a) : ∀ x ∈ [a], Safe Z EL vm0 h x := fun x q => by cases List.mem_singleton.mp q; exact sf
theorem Wk.nf (w : Wk p l e R s m args below meth c Z a0 EL n0 own nw st vm0 h g cells slots) {C : String} {y : MethodName} (w3 : (Cond.selects C y y).before a0 Z = true) : NotFace (s.setVm vm0) y := notFace_of_selects (args := #[]) (mvT (s := s.setVm vm0) w.hZ w3)
/-! the end of a body -/
theorem Wk.out (w : Wk p l e R s m args below meth c Z a0 EL n0 own nw st vm0 h g cells slots) {v : Option Value} (hv : meth.sig.returnType = none → v = none) (hlk : meth.locks = false)
    (hret : ∀ {T : State} {locs : List Loc} {fs : List Frame}, Stand p l e R (s.setVm vm0) m args below meth c T locs cells slots → (∀ (f : JFrame) (acts : List Action), f.method = m → f.locked = none → f.entered = [] → (doReturn e (T.setTop f) acts v).1 = T.setFrames fs) → Steps p.tables e below (T.setTop g) (T.setFrames fs)) :
    ∃ s₂ L, Steps p.tables e below st s₂ ∧ s₂.status = .running ∧ Ended s₂ below (.returned v) ∧ s₂.heap = h ∧ Fr n0 L ∧ (nw = true → FrameEnd s (.returned v) s₂ L cells slots) ∧ ReturnedEndW s (.returned v) s₂ L cells slots ∧ CHr Z EL s.vm s.heap s₂.vm s₂.heap := by
  obtain ⟨T, locs, k0, X, eT, hS, hk, hZ, hown, N, hnw, hE, hC, hx, pre⟩ := w
  subst eT
  obtain ⟨fs, hr, h1, h2, hW, hs⟩ := X.leave hv hlk
  obtain ⟨b1, b2, b3⟩ := hS.ended (U := T.setFrames fs) hW hk hs
  refine ⟨T.setFrames fs, locs, pre _ (hret X hr), h1, h2, rfl, N, fun q => ?_, ⟨⟨v, rfl⟩, b1, b2, b3⟩, hC.trans (show CHr Z EL vm0 T.heap (T.setFrames fs).vm (T.setFrames fs).heap from CHv.at (T := T) X hZ hE hC.1)⟩
  have e0 := hnw q
  subst e0
  exact ⟨⟨v, rfl⟩, hW, hs⟩
theorem Wk.endN (w : Wk p l e R s m args below meth c Z a0 EL n0 own true st vm0 h g cells slots) {v : Option Value} {Q : Option Value → Heap → Prop} {wr : List Addr} {h0 : Heap} {kc ks : Nat} (hv : meth.sig.returnType = none → v = none) (hlk : meth.locks = false)
    (hret : ∀ {T : State} {locs : List Loc} {fs : List Frame}, Stand p l e R (s.setVm vm0) m args below meth c T locs cells slots → (∀ (f : JFrame) (acts : List Action), f.method = m → f.locked = none → f.entered = [] → (doReturn e (T.setTop f) acts v).1 = T.setFrames fs) → Steps p.tables e below (T.setTop g) (T.setFrames fs))
    (hc : cells ≤ kc) (hl : slots ≤ ks) (hQ : Q v h) (hK : Keep h0 h wr) :
    ∃ s₂ o, Steps p.tables e below st s₂ ∧ s₂.status = .running ∧ Ended s₂ below o ∧ ∃ v L, o = .returned v ∧ (Q v s₂.heap ∧ Keep h0 s₂.heap wr ∧ Fr n0 L) ∧ FrameEnd s o s₂ L kc ks := by
  obtain ⟨s₂, L, h1, h2, h3, h4, h5, h6, -, -⟩ := w.out hv hlk hret
  have F := h6 rfl
  exact ⟨s₂, _, h1, h2, h3, v, L, rfl, ⟨h4 ▸ hQ, h4 ▸ hK, h5⟩, F.1, F.2.1, F.2.2.mono hc hl⟩
def EndsN (p : Program) (e : Env) (below : List Frame) (st s : State) (n0 : Nat) (h0 : Heap) (wr : List Addr) (Q : Option Value → Heap → Prop) (kc ks : Nat) : Prop :=
  ∃ s₂ o, Steps p.tables e below st s₂ ∧ s₂.status = .running ∧ Ended s₂ below o ∧ ∃ v L, o = .returned v ∧ (Q v s₂.heap ∧ Keep h0 s₂.heap wr ∧ Fr n0 L) ∧ FrameEnd s o s₂ L kc ks
end OwnKit
end Jvm.Pilot.@@N@@
namespace Jvm.Pilot.@@N@@
open Jvm Jvm.ClassFile Sem Op Lib Jvm.Free Jvm.Stand Jvm.LawKit Jvm.RoadKit Bundle Jvm.Pilot.@@N@@.Jvm.D
section OwnWide
variable {p : Program} {l : Launch} {e : Env} {R : Room} {s : State} {m : MethodId} {args : Array Value} {below : List Frame} {meth : Method} {c : Code} {Z : State} {a0 : Array Value} {EL : List (String × Nat)} {n0 : Nat} {own : String} {nw : Bool} {st : State} {vm0 : Vm} {h : Heap} {g g' : JFrame} {cells slots : Nat}
theorem chs {vm1 : Vm} {h' : Heap} (A : CHr Z EL vm0 h vm1 h') {x : Nat} (hx : h.size > x) (S : Safe Z EL vm0 h x) : Safe Z EL vm1 h' x := A.safe hx S
/-- who pays a call that may intern -/
def PayW (l : Launch) (R : Room) (p : Program) (e : Env) (below : List Frame) (s : State) (args : Array Value) (y : MethodName) (W : Nat) (as' : List Value) (h : Heap) (kc ks n0 : Nat) (wr : List Addr) (Q : Option Value → Heap → Prop) (Z : State) (EL : List (String × Nat)) (vm0 : Vm) : Prop :=
  BackS l R p e below s args y 3 W (fun P a => a = as'.toArray ∧ P.U.heap = h ∧ P.cells + kc ≤ R.cells ∧ P.slots + ks ≤ R.slots) (fun P _ v B => ∃ L, (Q v B.U.heap ∧ Keep h B.U.heap wr ∧ Fr n0 L) ∧ B.locs = P.locs ++ L ∧ B.cells = P.cells + kc ∧ B.slots = P.slots + ks ∧ CHr Z EL vm0 h B.U.vm B.U.heap)
/-- a contract of a body that may intern -/
def WMet (l : Launch) (Z : State) (EL : List (String × Nat)) (y : MethodName) (bytes : ByteArray) (maxL : Nat) (ret : Option FieldType) (ws : List Jvm.Cond) (rm : Room) (as' : List Value) (h : Heap) (n0 : Nat) (sf : List Addr) (wr : List Addr) (Q : Option Value → Heap → Prop) : Prop :=
  MetFree l y (head1 (Jvm.Cond.code y bytes maxL ret :: ws) rm) (fun a U => a = as'.toArray ∧ Z.Warmed39 U.vm ∧ U.heap = h ∧ CHv Z EL U.vm h ∧ ∀ x ∈ sf, Safe Z EL U.vm h x) (fun _ _ _ _ _ => True) (fun _ U o U' => ∃ v L, o = .returned v ∧ (Q v U'.heap ∧ Keep h U'.heap wr ∧ Fr n0 L) ∧ CHr Z EL U.vm U.heap U'.vm U'.heap ∧ ReturnedEndW U o U' L rm.cells rm.slots)
theorem Wk.ew (w : Wk p l e R s m args below meth c Z a0 EL n0 own nw st vm0 h g cells slots) : EW Z a0 EL := by
  obtain ⟨T, locs, k0, X, eT, hS, hk, hZ, hown, N, hnw, hE, hC, hx, pre⟩ := w; exact hE
theorem WMet.pay {y : MethodName} {bytes : ByteArray} {maxL : Nat} {ret : Option FieldType} {rm : Room} {as' : List Value} {sf wr : List Addr} {Q : Option Value → Heap → Prop} {W : Nat} (M : WMet l Z EL y bytes maxL ret [] rm as' h n0 sf wr Q)
    (hw : Wk p l e R s m args below meth c Z a0 EL n0 own nw st vm0 h g cells slots) (wc : (Cond.code y bytes maxL ret).before a0 Z = true) (wz : (Cond.initialized y.cls).before a0 Z = true) (hf : rm.frames + 1 ≤ R.frames) (hl : W + (maxL + 11) + rm.locals ≤ R.locals) (hsf : ∀ x ∈ sf, h.size > x ∧ Safe Z EL vm0 h x) :
    PayW l R p e below (s.setVm vm0) args y W as' h rm.cells rm.slots n0 wr Q Z EL vm0 := by
  have hZ : Z.Warmed39 vm0 := hw.hZ
  have hEL := hw.ew
  have H := hw.chv
  refine BackS.of_freeW (bytes := bytes) (maxL := maxL) (ret := ret) (E := fun _ first o t L k n => k = rm.cells ∧ n = rm.slots ∧ (∃ v, o = .returned v ∧ (Q v t.heap ∧ Keep h t.heap wr ∧ Fr n0 L)) ∧ CHr Z EL first.vm first.heap t.vm t.heap) M hf hl ?_ ?_ ?_ ?_ ?_
  · intro m meth c A a Y hp
    have hU : Z.Warmed39 A.U.vm := wtrans (s := s.setVm vm0) hZ Y.warmed
    exact ⟨by show (Cond.and _ .tt).before a A.U = true; rw [Cond.before_and, mv hU wc]; rfl, mv hU wc, mv hU wz, hp.2.2.1, hp.2.2.2⟩
  · intro m meth c A a g mk Y hp
    have C := CHv.at Y hZ hEL H
    exact ⟨hp.1, wtrans (s := s.setVm vm0) hZ Y.warmed, hp.2.1, C.1, fun x hx => C.safe (hsf x hx).1 (hsf x hx).2⟩
  · exact fun _ _ _ _ _ _ _ _ _ => trivial
  · exact fun _ _ _ _ ⟨v, L, h1, h2, h3, h4⟩ => ⟨L, _, _, h4, rfl, rfl, ⟨v, h1, h2⟩, h3⟩
  · intro m meth c A a g mk v t L k n Y hp _ _ q
    obtain ⟨e1, e2, ⟨v', e3, e4⟩, e5⟩ := q
    cases e3; subst e1 e2
    refine ⟨L, e4, rfl, rfl, rfl, (CHv.at Y hZ hEL H).trans ?_⟩
    rw [← hp.2.1]; exact e5
theorem Wk.callSW (w : Wk p l e R s m args below meth c Z a0 EL n0 own false st vm0 h g cells slots) (hx : p.tables.exec = Jvm.exec) {y : MethodName} {bytes : ByteArray} {maxL : Nat} {ret : Option FieldType} {index W kc ks : Nat} {as' : List Value} {wr : List Addr} {Q : Option Value → Heap → Prop}
    (w1 : (Cond.methodLink own index y).before a0 Z = true) (w2 : (Cond.static y).before a0 Z = true) (w3 : (Cond.initialized y.cls).before a0 Z = true) (w4 : (Cond.code y bytes maxL ret).before a0 Z = true) (hy : y.cls ≠ "java/lang/invoke/MethodHandle" ∧ y.cls ≠ "java/lang/invoke/VarHandle")
    (P : PayW l R p e below (s.setVm vm0) args y W as' h kc ks n0 wr Q Z EL vm0) (hg : g.method = m) (hsize : g.locals.size = c.maxLocals) (rest : List Value) (hlen : ∀ sig, parseMethodDescriptor y.desc = some sig → as'.length = sig.parameters.length) (hstack : g.stack = as'.reverse ++ rest) (hW : 2 * g.monitorRoom + (rest.map fun v => v.category).sum ≤ W)
    (hd : decode c.code g.pc = .ok (.invokestatic index, 3)) (hc : cells + kc ≤ R.cells) (hl : slots + ks ≤ R.slots) (g' : Option Value → JFrame) (hg' : ∀ v, g' v = { g with pc := g.pc + 3, stack := v.toList ++ rest }) :
    ∃ v vm1 h', Q v h' ∧ Keep h h' wr ∧ h.size ≤ h'.size ∧ CHr Z EL vm0 h vm1 h' ∧ Wk p l e R s m args below meth c Z a0 EL n0 own false st vm1 h' (g' v) (cells + kc) (slots + ks) := by
  obtain ⟨T, locs, k0, X, eT, hS, hk, hZ, hown, N, hnw, hE, hC, -, pre⟩ := w
  have hZ' : Z.Warmed39 (s.setVm vm0).vm := hZ
  obtain ⟨v, _, ⟨T', L', k', n'⟩, -, X', hS', hgr, ⟨L, ⟨hQ, hK, hN⟩, l1, l2, l3, hC'⟩, st'⟩ := RoadKit.callSS X hx (y := y) hown (mvT hZ' w1) (mvT hZ' w2) (mvT hZ' w3) (mvT hZ' w4) hy P hg hsize hlen hstack hW hd (fun _ _ => ⟨rfl, eT, hc, hl⟩)
  dsimp only [Pt.U, Pt.locs, Pt.cells, Pt.slots] at X' l1 l2 l3 st' hQ hK hS' hgr hC'
  subst l1 l2 l3
  obtain ⟨X2, S2, Z2, O2⟩ := rebS (own := own) (n1 := T.heap.size) hS (by rw [eT]; exact hk) X' hS' hgr hZ' hown
  exact ⟨v, T'.vm, T'.heap, hQ, hK, hK.1, hC', T', _, T'.heap.size, X2, rfl, S2, Nat.le_refl _, Z2, O2, Fr.app N hN, (fun q => nomatch q), hE, hC.trans hC', hx, fun t k => pre t (st'.trans (hg' v ▸ k))⟩
theorem Wk.callIW (w : Wk p l e R s m args below meth c Z a0 EL n0 own false st vm0 h g cells slots) (hx : p.tables.exec = Jvm.exec) {y : MethodName} {bytes : ByteArray} {maxL : Nat} {index W kc ks : Nat} {a : Addr} {as' : List Value} {wr : List Addr} {Q : Option Value → Heap → Prop}
    (hy1 : y.name = "<init>") (w1 : (Cond.methodLink own index y).before a0 Z = true) (w2 : (Cond.instanceMethod y).before a0 Z = true) (w4 : (Cond.code y bytes maxL none).before a0 Z = true) (hy : y.cls ≠ "java/lang/invoke/MethodHandle" ∧ y.cls ≠ "java/lang/invoke/VarHandle")
    (P : PayW l R p e below (s.setVm vm0) args y W (.ref a :: as') h kc ks n0 wr Q Z EL vm0) (hg : g.method = m) (hsize : g.locals.size = c.maxLocals) (rest : List Value) (hlen : ∀ sig, parseMethodDescriptor y.desc = some sig → as'.length = sig.parameters.length) (hstack : g.stack = as'.reverse ++ .ref a :: rest) (hW : 2 * g.monitorRoom + (rest.map fun v => v.category).sum ≤ W)
    (hd : decode c.code g.pc = .ok (.invokespecial index, 3)) (hc : cells + kc ≤ R.cells) (hl : slots + ks ≤ R.slots) (g' : Option Value → JFrame) (hg' : ∀ v, g' v = { g with pc := g.pc + 3, stack := v.toList ++ rest }) :
    ∃ v vm1 h', Q v h' ∧ Keep h h' wr ∧ h.size ≤ h'.size ∧ CHr Z EL vm0 h vm1 h' ∧ Wk p l e R s m args below meth c Z a0 EL n0 own false st vm1 h' (g' v) (cells + kc) (slots + ks) := by
  obtain ⟨T, locs, k0, X, eT, hS, hk, hZ, hown, N, hnw, hE, hC, -, pre⟩ := w
  have hZ' : Z.Warmed39 (s.setVm vm0).vm := hZ
  obtain ⟨v, _, ⟨T', L', k', n'⟩, -, X', hS', hgr, ⟨L, ⟨hQ, hK, hN⟩, l1, l2, l3, hC'⟩, st'⟩ := X.specialBackS hx (y := y) hy1 hown (mvT hZ' w1) (mvT hZ' w2) (mvT hZ' w4) hy P hg hsize (Steps.refl _) hlen hstack hW hd (fun _ _ => ⟨rfl, eT, hc, hl⟩)
  dsimp only [Pt.U, Pt.locs, Pt.cells, Pt.slots] at X' l1 l2 l3 st' hQ hK hS' hgr hC'
  subst l1 l2 l3
  obtain ⟨X2, S2, Z2, O2⟩ := rebS (own := own) (n1 := T.heap.size) hS (by rw [eT]; exact hk) X' hS' hgr hZ' hown
  exact ⟨v, T'.vm, T'.heap, hQ, hK, hK.1, hC', T', _, T'.heap.size, X2, rfl, S2, Nat.le_refl _, Z2, O2, Fr.app N hN, (fun q => nomatch q), hE, hC.trans hC', hx, fun t k => pre t (st'.trans (hg' v ▸ k))⟩
theorem Wk.callVW (w : Wk p l e R s m args below meth c Z a0 EL n0 own false st vm0 h g cells slots) (hx : p.tables.exec = Jvm.exec) {C : String} {y z : MethodName} {index W kc ks : Nat} {a : Addr} {as' : List Value} {wr : List Addr} {Q : Option Value → Heap → Prop}
    (w1 : (Cond.methodLink own index y).before a0 Z = true) (w2 : (Cond.declares y).before a0 Z = true) (w3 : (Cond.selects C y z).before a0 Z = true) (w4 : (Cond.instanceMethod z).before a0 Z = true) (nf : NotFace (s.setVm vm0) y) (hy : y.cls ≠ "java/lang/invoke/MethodHandle" ∧ y.cls ≠ "java/lang/invoke/VarHandle")
    (P : PayW l R p e below (s.setVm vm0) args z W (.ref a :: as') h kc ks n0 wr Q Z EL vm0) (E : Exa Z h a C) (hg : g.method = m) (hsize : g.locals.size = c.maxLocals) (rest : List Value) (hlen : ∀ sig, parseMethodDescriptor y.desc = some sig → as'.length = sig.parameters.length) (hstack : g.stack = as'.reverse ++ .ref a :: rest) (hW : 2 * g.monitorRoom + (rest.map fun v => v.category).sum ≤ W)
    (hd : decode c.code g.pc = .ok (.invokevirtual index, 3)) (hc : cells + kc ≤ R.cells) (hl : slots + ks ≤ R.slots) (g' : Option Value → JFrame) (hg' : ∀ v, g' v = { g with pc := g.pc + 3, stack := v.toList ++ rest }) :
    ∃ v vm1 h', Q v h' ∧ Keep h h' wr ∧ h.size ≤ h'.size ∧ CHr Z EL vm0 h vm1 h' ∧ Wk p l e R s m args below meth c Z a0 EL n0 own false st vm1 h' (g' v) (cells + kc) (slots + ks) := by
  obtain ⟨T, locs, k0, X, eT, hS, hk, hZ, hown, N, hnw, hE, hC, -, pre⟩ := w
  have hZ' : Z.Warmed39 (s.setVm vm0).vm := hZ
  obtain ⟨cB, kB, q1, -, q3⟩ := isOf (s := s.setVm vm0) hZ' eT E
  obtain ⟨v, _, ⟨T', L', k', n'⟩, -, X', hS', hgr, ⟨L, ⟨hQ, hK, hN⟩, l1, l2, l3, hC'⟩, st'⟩ := X.virtualBackS hx (y := y) (z := z) hown (mvT hZ' w1) (mvT hZ' w2) nf (mvT hZ' w3) (mvT hZ' w4) hy P q1 q3 hg hsize (Steps.refl _) hlen hstack hW hd (fun _ _ => ⟨rfl, eT, hc, hl⟩)
  dsimp only [Pt.U, Pt.locs, Pt.cells, Pt.slots] at X' l1 l2 l3 st' hQ hK hS' hgr hC'
  subst l1 l2 l3
  obtain ⟨X2, S2, Z2, O2⟩ := rebS (own := own) (n1 := T.heap.size) hS (by rw [eT]; exact hk) X' hS' hgr hZ' hown
  exact ⟨v, T'.vm, T'.heap, hQ, hK, hK.1, hC', T', _, T'.heap.size, X2, rfl, S2, Nat.le_refl _, Z2, O2, Fr.app N hN, (fun q => nomatch q), hE, hC.trans hC', hx, fun t k => pre t (st'.trans (hg' v ▸ k))⟩
/-- ldc of a String constant whose text is read -/
theorem Wk.ldcCH (w : Wk p l e R s m args below meth c Z a0 EL n0 own false st vm0 h g cells slots) (hx : p.tables.exec = Jvm.exec) {text : String} {index : Nat} (w1 : (Cond.stringLink own index text).before a0 Z = true) (wS : ∀ a ∈ Bundle.stringAtoms, a.before a0 Z = true) (hmem : (own, index) ∈ EL)
    {vs : List Value} {z : Int32} (ht : (∀ c ∈ text.toList, c.toNat < 256) ∧ text.toList.map (fun c => Value.int (Jvm.Lit.byteI c.toNat.toUInt16)) = vs) (hz : ¬ z < 0) (hl : z.toNatClampNeg = vs.length)
    (hg : g.method = m) (hd : decode c.code g.pc = .ok (.ldc index, 2)) (n : Nat) (hn : 4 * text.toList.length ≤ n) (hbig : n ≤ 536870912) (hc : cells + 2 ≤ R.cells) (hl' : slots + (n + 4) ≤ R.slots) (g' : Addr → JFrame) (hg' : ∀ x, g' x = { g with pc := g.pc + 2, stack := .ref x :: g.stack }) :
    ∃ (a : Nat) (vm1 : Vm) (h' : Heap) (b : Nat) (k : ClassId), Ext h h' ∧ Exa Z h' a "java/lang/String" ∧ Fld Z h' a "java/lang/String" "coder" "B" (.int 0) ∧ Fld Z h' a "java/lang/String" "value" "[B" (.ref b) ∧ Arv Z h' b k .byte z vs (.int 0) ∧ h'.size > a ∧ h'.size > b ∧ CHr Z EL vm0 h vm1 h' ∧ (∀ x : Nat, Safe Z EL vm1 h' x → x ≠ a ∧ x ≠ b) ∧
      Wk p l e R s m args below meth c Z a0 EL n0 own false st vm1 h' (g' a) (cells + 2) (slots + (n + 4)) := by
  obtain ⟨T, locs, k0, X, eT, hS, hk, hZ, hown, N, hnw, hE, hC, -, pre⟩ := w
  obtain ⟨a, T', h', k1, b, k, X', e', E, hS', hk', hZ', hown', q1, q2, q3, q4, q5, q6, q7, -, q8, st'⟩ := RoadKit.ldcCH X hx hZ hown w1 wS eT hS hk hE hmem hC.1 ht hz hl hg hd hn hbig hc hl'
  exact ⟨a, T'.vm, h', b, k, E, q1, q2, q3, q4, q5, q6, q7, q8, T', locs, k1, X', e', hS', hk', hZ', hown', N, (fun q => nomatch q), hE, hC.trans q7, hx, fun t k => pre t (st' t (hg' a ▸ k))⟩
/-- ldc of a String constant, opaque -/
theorem Wk.ldcOH (w : Wk p l e R s m args below meth c Z a0 EL n0 own false st vm0 h g cells slots) (hx : p.tables.exec = Jvm.exec) {text : String} {index : Nat} (w1 : (Cond.stringLink own index text).before a0 Z = true) (wS : ∀ a ∈ Bundle.stringAtoms, a.before a0 Z = true)
    (hg : g.method = m) (hd : decode c.code g.pc = .ok (.ldc index, 2)) (n : Nat) (hn : 4 * text.toList.length ≤ n) (hbig : n ≤ 536870912) (hc : cells + 2 ≤ R.cells) (hl' : slots + (n + 4) ≤ R.slots) (g' : Addr → JFrame) (hg' : ∀ x, g' x = { g with pc := g.pc + 2, stack := .ref x :: g.stack }) :
    ∃ (a : Nat) (vm1 : Vm) (h' : Heap), Ext h h' ∧ CHr Z EL vm0 h vm1 h' ∧ Wk p l e R s m args below meth c Z a0 EL n0 own false st vm1 h' (g' a) (cells + 2) (slots + (n + 4)) := by
  obtain ⟨T, locs, k0, X, eT, hS, hk, hZ, hown, N, hnw, hE, hC, -, pre⟩ := w
  obtain ⟨a, T', h', k1, X', e', E, hS', hk', hZ', hown', q7, -, st'⟩ := RoadKit.ldcOH X hx hZ hown w1 wS eT hS hk hE hC.1 hg hd hn hbig hc hl'
  exact ⟨a, T'.vm, h', E, q7, T', locs, k1, X', e', hS', hk', hZ', hown', N, (fun q => nomatch q), hE, hC.trans q7, hx, fun t k => pre t (st' t (hg' a ▸ k))⟩
theorem Wk.endW (w : Wk p l e R s m args below meth c Z a0 EL n0 own nw st vm0 h g cells slots) {v : Option Value} {Q : Option Value → Heap → Prop} {wr : List Addr} {h0 : Heap} {kc ks : Nat} (hv : meth.sig.returnType = none → v = none) (hlk : meth.locks = false)
    (hret : ∀ {T : State} {locs : List Loc} {fs : List Frame}, Stand p l e R (s.setVm vm0) m args below meth c T locs cells slots → (∀ (f : JFrame) (acts : List Action), f.method = m → f.locked = none → f.entered = [] → (doReturn e (T.setTop f) acts v).1 = T.setFrames fs) → Steps p.tables e below (T.setTop g) (T.setFrames fs))
    (hc : cells ≤ kc) (hl : slots ≤ ks) (hQ : Q v h) (hK : Keep h0 h wr) :
    ∃ s₂ o, Steps p.tables e below st s₂ ∧ s₂.status = .running ∧ Ended s₂ below o ∧ ∃ v L, o = .returned v ∧ (Q v s₂.heap ∧ Keep h0 s₂.heap wr ∧ Fr n0 L) ∧ CHr Z EL s.vm s.heap s₂.vm s₂.heap ∧ ReturnedEndW s o s₂ L kc ks := by
  obtain ⟨s₂, L, h1, h2, h3, h4, h5, -, h6, h7⟩ := w.out hv hlk hret
  exact ⟨s₂, _, h1, h2, h3, v, L, rfl, ⟨h4 ▸ hQ, h4 ▸ hK, h5⟩, h7, h6.1, h6.2.1, h6.2.2.1, h6.2.2.2.mono hc hl⟩
def EndsW (p : Program) (e : Env) (below : List Frame) (st s : State) (Z : State) (EL : List (String × Nat)) (n0 : Nat) (h0 : Heap) (wr : List Addr) (Q : Option Value → Heap → Prop) (kc ks : Nat) : Prop :=
  ∃ s₂ o, Steps p.tables e below st s₂ ∧ s₂.status = .running ∧ Ended s₂ below o ∧ ∃ v L, o = .returned v ∧ (Q v s₂.heap ∧ Keep h0 s₂.heap wr ∧ Fr n0 L) ∧ CHr Z EL s.vm s.heap s₂.vm s₂.heap ∧ ReturnedEndW s o s₂ L kc ks
end OwnWide
end Jvm.Pilot.@@N@@
namespace Jvm.Pilot.@@N@@
open Jvm Jvm.ClassFile Sem Op Lib Jvm.Free Jvm.Stand Jvm.LawKit Jvm.RoadKit Bundle Jvm.Pilot.@@N@@.Jvm.D
section OwnClone
variable {p : Program} {l : Launch} {e : Env} {R : Room} {s : State} {m : MethodId} {args : Array Value} {below : List Frame} {meth : Method} {c : Code} {Z : State} {a0 : Array Value} {EL : List (String × Nat)} {n0 : Nat} {own : String} {nw : Bool} {st : State} {vm0 : Vm} {h : Heap} {g g' : JFrame} {cells slots : Nat}
theorem Wk.cloneR (w : Wk p l e R s m args below meth c Z a0 EL n0 own nw st vm0 h g cells slots) (hx : p.tables.exec = Jvm.exec) {ad : String} {index : Nat}
    (w1 : (Cond.methodLink own index ⟨ad, "clone", "()Ljava/lang/Object;"⟩).before a0 Z = true) (w2 : (Cond.sameMethod ad "java/lang/Object" "clone" "()Ljava/lang/Object;").before a0 Z = true) (w3 : (Cond.native ⟨"java/lang/Object", "clone", "()Ljava/lang/Object;"⟩).before a0 Z = true)
    (w4 : (Cond.instanceMethod ⟨"java/lang/Object", "clone", "()Ljava/lang/Object;"⟩).before a0 Z = true) (w5 : (Cond.selects ad ⟨ad, "clone", "()Ljava/lang/Object;"⟩ ⟨"java/lang/Object", "clone", "()Ljava/lang/Object;"⟩).before a0 Z = true) (w6 : (Cond.castable ad "java/lang/Cloneable").before a0 Z = true)
    {a : Addr} {k : ClassId} {ty : FieldType} {z : Int32} {vs : List Value} {dv : Value} (V : Arv Z h a k ty z vs dv) (E : Exa Z h a ad) (hg : g.method = m) (hsize : g.locals.size = c.maxLocals) {rest : List Value} (hst : g.stack = .ref a :: rest) (hd : decode c.code g.pc = .ok (.invokevirtual index, 3))
    (hf : 1 ≤ R.frames) {W : Nat} (hW : 2 * g.monitorRoom + (rest.map fun v => v.category).sum ≤ W) (hl : W + 14 ≤ R.locals) (cap : Nat) (hcap : z.toNatClampNeg ≤ cap) (hc : cells + 1 ≤ R.cells) (hsl : slots + cap ≤ R.slots) (g' : Addr → JFrame) (hg' : ∀ x, g' x = { g with pc := g.pc + 3, stack := .ref x :: rest }) :
    ∃ (x : Nat) (h' : Heap), x = h.size ∧ Ext h h' ∧ h'.size > x ∧ Arv Z h' x k ty z vs dv ∧ Exa Z h' x ad ∧ Wk p l e R s m args below meth c Z a0 EL n0 own nw st vm0 h' (g' x) (cells + 1) (slots + cap) := by
  obtain ⟨T, locs, k0, X, eT, hS, hk, hZ, hown, N, hnw, hE, hC, -, pre⟩ := w
  obtain ⟨cl, A, q1, S, q3, H, G⟩ := V
  have FC : FitC Z cl := fitC_of A fun i hi v hv => by rw [H i hi] at hv; cases hv; exact G i hi
  obtain ⟨T', h', X', e', ex, A', E', st'⟩ := cloneA X hx hZ hown w1 w2 w3 w4 w5 w6 eT A E FC hg hsize hst hd hf hW hl (by rw [S]; exact hcap) hc hsl
  exact ⟨h.size, h', rfl, ex, E'.lt, ⟨cloneOf cl, A', q1, S, q3, H, G⟩, E', T', locs, k0, X', e', hS, Nat.le_trans hk ex.1, hZ, hown, N, hnw, hE, hC.trans (CHr.ext ex hC.1), hx, fun t q => pre t (st' t (hg' h.size ▸ q))⟩
end OwnClone
end Jvm.Pilot.@@N@@
namespace Jvm.Pilot.@@N@@
open Jvm Jvm.ClassFile Sem Op Lib Jvm.Free Jvm.Stand Jvm.LawKit Jvm.RoadKit Bundle Jvm.Pilot.@@N@@.Jvm.D
section OwnStrB
variable {p : Program} {l : Launch} {e : Env} {R : Room} {s : State} {args : Array Value} {below : List Frame} {Z : State} {a0 : Array Value} {n0 : Nat} {h h' : Heap} {W : Nat} {x : Nat} {cs : List Int32} {b : Nat}
theorem up255 {c : Int32} (q : ¬ (255 : Int32) < c) : ¬ (65535 : Int32) < c := fun r => q (by rw [Int32.lt_iff_toInt_lt] at r ⊢; have e1 : (65535 : Int32).toInt = 65535 := rfl; have e2 : (255 : Int32).toInt = 255 := rfl; omega)
/-- the object x is a String of Latin-1 chars cs; it and its bytes lie below b -/
def Str (Z : State) (h : Heap) (x : Nat) (cs : List Int32) (b : Nat) : Prop := ∃ (t : Nat) (kb : ClassId), Exa Z h x "java/lang/String" ∧ Fld Z h x "java/lang/String" "value" "[B" (.ref t) ∧ Fld Z h x "java/lang/String" "coder" "B" (.int 0) ∧ Arv Z h t kb .byte (Int32.ofNat cs.length) ((cs.map (fun c => c.toInt8.toInt32)).map Value.int) (.int 0) ∧ (∀ c ∈ cs, ¬ c < 0 ∧ ¬ (255 : Int32) < c) ∧ cs.length ≤ 4000 ∧ b > x ∧ b > t
theorem Str.exa (F : Str Z h x cs b) : Exa Z h x "java/lang/String" := by obtain ⟨t, kb, E, r⟩ := F; exact E
theorem Str.lt (F : Str Z h x cs b) : b > x := by obtain ⟨t, kb, -, -, -, -, -, -, q, -⟩ := F; exact q
theorem Str.rng (F : Str Z h x cs b) : ∀ c ∈ cs, ¬ c < 0 ∧ ¬ (255 : Int32) < c := by obtain ⟨t, kb, -, -, -, -, q, -⟩ := F; exact q
theorem Str.len (F : Str Z h x cs b) : cs.length ≤ 4000 := by obtain ⟨t, kb, -, -, -, -, -, q, -⟩ := F; exact q
theorem Str.more (F : Str Z h x cs b) {b' : Nat} (q : b ≤ b') : Str Z h x cs b' := by
  obtain ⟨t, kb, E, V, C, K, r2, r3, r4, r5⟩ := F
  exact ⟨t, kb, E, V, C, K, r2, r3, Nat.lt_of_lt_of_le r4 q, Nat.lt_of_lt_of_le r5 q⟩
theorem Str.ext (F : Str Z h x cs b) (X : Ext h h') : Str Z h' x cs b := by
  obtain ⟨t, kb, E, V, C, K, r⟩ := F
  exact ⟨t, kb, E.ext X, V.ext X, C.ext X, K.ext X, r⟩
theorem Str.keep (F : Str Z h x cs b) {ws : List Addr} (X : Keep h h' ws) (q : ∀ y ∈ ws, b ≤ y) : Str Z h' x cs b := by
  obtain ⟨t, kb, E, V, C, K, r2, r3, r4, r5⟩ := F
  have nx : x ∉ ws := fun z => by have := q x z; omega
  have nt : t ∉ ws := fun z => by have := q t z; omega
  exact ⟨t, kb, E.keep X, V.keep X nx, C.keep X nx, K.keep X nt, r2, r3, r4, r5⟩
theorem Str.wr (F : Str Z h x cs b) {a : Addr} {sl : Nat} {v : Value} (X : Wr h h' a sl v) (q : b ≤ a) : Str Z h' x cs b := F.keep (Keep.of_wr X) (fun y hy => by cases List.mem_singleton.mp hy; exact q)
theorem Str.keepO (F : Str Z h x cs b) {y : Nat} (X : Keep h h' [y]) {C : String} {n : Nat} (E : Exa Z h y C) (hC : C ≠ "java/lang/String") (wi : (Jvm.Cond.instantiable C n).before a0 Z = true) : Str Z h' x cs b := by
  obtain ⟨t, kb, E', V, C', K, r2, r3, r4, r5⟩ := F
  have nx : x ∉ [y] := fun z => by cases List.mem_singleton.mp z; exact Exa.ne E E' hC rfl
  have nt : t ∉ [y] := fun z => by cases List.mem_singleton.mp z; exact Exa.neArv E K wi rfl
  exact ⟨t, kb, E'.keep X, V.keep X nx, C'.keep X nx, K.keep X nt, r2, r3, r4, r5⟩
theorem Str.of (E : Exa Z h x "java/lang/String") {t : Addr} {kb : ClassId} {z : Int32} {vs : List Value} (V : Fld Z h x "java/lang/String" "value" "[B" (.ref t)) (C : Fld Z h x "java/lang/String" "coder" "B" (.int 0)) (K : Arv Z h t kb .byte z vs (.int 0)) (hz : z = Int32.ofNat cs.length) (hv : vs = (cs.map (fun c => c.toInt8.toInt32)).map Value.int) (hp : ∀ c ∈ cs, ¬ c < 0 ∧ ¬ (255 : Int32) < c) (hl : cs.length ≤ 4000) (h1 : b > x) (h2 : b > t) : Str Z h x cs b :=
  ⟨t, kb, E, V, C, by subst hz hv; exact K, hp, hl, h1, h2⟩
end OwnStrB
end Jvm.Pilot.@@N@@
namespace Jvm.Pilot.@@N@@
open Jvm Jvm.ClassFile Sem Op Lib Jvm.Free Jvm.Stand Jvm.LawKit Jvm.RoadKit Bundle Jvm.Pilot.@@N@@.Jvm.D
section OwnStr
variable {p : Program} {l : Launch} {e : Env} {R : Room} {s : State} {args : Array Value} {below : List Frame} {Z : State} {a0 : Array Value} {n0 : Nat} {h h' : Heap} {W : Nat}
theorem nar_i2c (x : Int32) : nar .char (x.toUInt32.toUInt16.toUInt32.toInt32) = x.toUInt32.toUInt16.toUInt32.toInt32 := by simp only [nar, UInt32.toUInt32_toInt32, UInt16.toUInt16_toUInt32]
theorem nar_255 (x : Int32) : nar .char (x &&& (255 : Int32)) = x &&& (255 : Int32) := i2c_mask x
theorem and255_rng (x : Int32) : ¬ (x &&& (255 : Int32)) < 0 ∧ ¬ (255 : Int32) < (x &&& (255 : Int32)) := by
  have q := c_and x (255 : Int32) (by decide)
  have e1 : (255 : Int32).toInt = 255 := rfl
  have e2 : (0 : Int32).toInt = 0 := rfl
  simp only [Int32.lt_iff_toInt_lt, e1, e2] at q ⊢
  omega
theorem rng_ite {P : Prop} [Decidable P] {a b : Int32} (h1 : ¬ a < 0 ∧ ¬ (255 : Int32) < a) (h2 : ¬ b < 0 ∧ ¬ (255 : Int32) < b) : ¬ (if P then a else b) < 0 ∧ ¬ (255 : Int32) < (if P then a else b) := by split <;> assumption
theorem nar_rng {x : Int32} (h : ¬ x < 0 ∧ ¬ (255 : Int32) < x) : nar .char x = x := by
  have e : x = x &&& 255 := by
    apply Int32.toInt_inj.mp
    have q := c_mask x 255 8 (by decide) (by decide)
    simp only [Int32.lt_iff_toInt_lt, show (255 : Int32).toInt = 255 from rfl, show (0 : Int32).toInt = 0 from rfl] at h
    rw [q]; omega
  rw [e]; exact nar_255 x
/-- the JDK's statics that the sheet's sets name -/
def SetsOk (Z : State) : Prop := ∃ (G1 : Int32) (G3 : Value), Sta Z Z.heap "java/lang/String" "COMPACT_STRINGS" "Z" (.int G1) ∧ ¬ (G1 = (0 : Int32)) ∧ Sta Z Z.heap "jdk/internal/util/Preconditions" "SIOOBE_FORMATTER" "Ljava/util/function/BiFunction;" G3 ∧ G3.isRef = true
theorem payNew (hG : SetsOk Z) (hZ : Z.Warmed39 s.vm) (hws : ∀ d ∈ StrChars.Road.words, d.before a0 Z = true) (wi : (Jvm.Cond.instantiable "java/lang/String" 4).before a0 Z = true)
    {x b : Nat} {kC : ClassId} {d v0 c0 : Value} {N : Int32} (cs : List Int32) (n : Nat) (hx0 : n0 ≤ x) (E : Exa Z h x "java/lang/String") (V : Fld Z h x "java/lang/String" "value" "[B" v0) (C : Fld Z h x "java/lang/String" "coder" "B" c0) (K : Arv Z h b kC .char N (cs.map Value.int) d) (X0 : Old Z n0 h)
    (hn : cs.length = n) (hN : N = Int32.ofNat n) (l0 : 0 < n) (l2 : n ≤ 4000) (hp : ∀ c ∈ cs, ¬ c < 0 ∧ ¬ (255 : Int32) < c) (hfr : 4 ≤ R.frames) (hlo : W + 65 ≤ R.locals) :
    Pay l R p e below s args (⟨"java/lang/String", "<init>", "([C)V"⟩ : MethodName) W [.ref x, .ref b] h 1 n n0 [x] (fun v h' => v = none ∧ Str Z h' x cs h'.size) := by
  obtain ⟨G1, G3, S1, P1, -, -⟩ := hG
  refine Back.mono (StrChars.Road.backV (n0 := n0) (bs := cs.map (fun c => c.toInt8.toInt32)) hZ hws wi hx0 (by have := X0.1; have := X0.2.1; omega) E V C K (S1.ext X0.2) P1 hn hN l0 l2 hp rfl hfr hlo) (fun P a hp => hp) (fun P a v B hp' hq => ?_)
  obtain ⟨L, ⟨q1, q2, q3, q4, q5, t, kb, q6, q7, q8, q9, q10⟩, r1, r2, r3⟩ := hq
  exact ⟨L, ⟨⟨q1, Str.of q4 q9 q5 q10 (by rw [hN, hn]) rfl hp (by omega) q4.lt q10.lt⟩, q3, q2⟩, r1, r2, r3⟩
end OwnStr
end Jvm.Pilot.@@N@@
namespace Jvm.Pilot.@@N@@
open Jvm Jvm.ClassFile Sem Op Lib Jvm.Free Jvm.Stand Jvm.LawKit Jvm.RoadKit Bundle Jvm.Pilot.@@N@@.Jvm.D
section OwnPay
variable {p : Program} {l : Launch} {e : Env} {R : Room} {s : State} {args : Array Value} {below : List Frame} {Z : State} {a0 : Array Value} {n0 : Nat} {h h' : Heap} {W : Nat} {x : Nat} {cs : List Int32} {b : Nat}
theorem payLen (hG : SetsOk Z) (hZ : Z.Warmed39 s.vm) (hws : ∀ d ∈ StrChars.Road.wordsLen, d.before a0 Z = true) (wi : (Jvm.Cond.instantiable "java/lang/String" 4).before a0 Z = true) (F : Str Z h x cs b) (X0 : Old Z n0 h) (hfr : 2 ≤ R.frames) (hlo : W + 25 ≤ R.locals) :
    Pay l R p e below s args (⟨"java/lang/String", "length", "()I"⟩ : MethodName) W [.ref x] h 0 0 n0 [] (fun v h' => v = some (.int (Int32.ofNat cs.length)) ∧ h = h') := by
  obtain ⟨G1, G3, S1, P1, -, -⟩ := hG
  obtain ⟨t, kb, E, V, C, K, r2, r3, r4, r5⟩ := F
  have r1 := StrChars.Road.codOf (cs := cs) rfl (fun c hc => (r2 c hc).2)
  have r2' : ∀ c ∈ cs, ¬ c < 0 ∧ ¬ (65535 : Int32) < c := fun c hc => ⟨(r2 c hc).1, up255 (r2 c hc).2⟩
  refine Back.mono (StrChars.Road.lenW hZ hws wi E V C K r1 r2' (S1.ext X0.2) P1 r3 hfr hlo) (fun P a hp => hp) (fun P a v B hp hq => ?_)
  obtain ⟨L, ⟨q1, rfl, q3⟩, s1, s2, s3⟩ := hq
  exact ⟨[], ⟨⟨q1, q3.symm⟩, by rw [q3]; exact Keep.refl _ _, Fr.nil _⟩, s1, s2, s3⟩
theorem payCh (hG : SetsOk Z) (hZ : Z.Warmed39 s.vm) (hws : ∀ d ∈ StrChars.Road.wordsChN, d.before a0 Z = true) (wi : (Jvm.Cond.instantiable "java/lang/String" 4).before a0 Z = true) (F : Str Z h x cs b) (X0 : Old Z n0 h) (i : Nat) {j : Int32} (hi : i < cs.length) (hj : j = Int32.ofNat i) (hfr : 4 ≤ R.frames) (hlo : W + 53 ≤ R.locals) :
    Pay l R p e below s args (⟨"java/lang/String", "charAt", "(I)C"⟩ : MethodName) W [.ref x, .int j] h 0 0 n0 [] (fun v h' => v = some (.int (cs.getD i 0)) ∧ h = h') := by
  obtain ⟨G1, G3, S1, P1, S3, P3⟩ := hG
  obtain ⟨t, kb, E, V, C, K, r2, r3, r4, r5⟩ := F
  have r1 := StrChars.Road.codOf (cs := cs) rfl (fun c hc => (r2 c hc).2)
  have r2' : ∀ c ∈ cs, ¬ c < 0 ∧ ¬ (65535 : Int32) < c := fun c hc => ⟨(r2 c hc).1, up255 (r2 c hc).2⟩
  refine Back.mono (StrChars.Road.chN hZ hws wi E V C K r1 r2' (S1.ext X0.2) P1 (S3.ext X0.2) P3 r3 hi hj hfr hlo) (fun P a hp => hp) (fun P a v B hp hq => ?_)
  obtain ⟨L, ⟨q1, rfl, q3⟩, s1, s2, s3⟩ := hq
  exact ⟨[], ⟨⟨q1, q3.symm⟩, by rw [q3]; exact Keep.refl _ _, Fr.nil _⟩, s1, s2, s3⟩
theorem payEq (hG : SetsOk Z) (hZ : Z.Warmed39 s.vm) (hws : ∀ d ∈ StrChars.Road.wordsEq, d.before a0 Z = true) (wi : (Jvm.Cond.instantiable "java/lang/String" 4).before a0 Z = true) (F : Str Z h x cs b) {y : Nat} {ds : List Int32} {b' : Nat} (F' : Str Z h y ds b') (X0 : Old Z n0 h) (hfr : 2 ≤ R.frames) (hlo : W + 28 ≤ R.locals) :
    Pay l R p e below s args (⟨"java/lang/String", "equals", "(Ljava/lang/Object;)Z"⟩ : MethodName) W [.ref x, .ref y] h 0 0 n0 [] (fun v h' => v = some (.int (if cs = ds then 1 else 0)) ∧ h = h') := by
  obtain ⟨G1, G3, S1, P1, -, -⟩ := hG
  obtain ⟨t, kb, E, V, C, K, r2, r3, r4, r5⟩ := F
  have r1 := StrChars.Road.codOf (cs := cs) rfl (fun c hc => (r2 c hc).2)
  have r2' : ∀ c ∈ cs, ¬ c < 0 ∧ ¬ (65535 : Int32) < c := fun c hc => ⟨(r2 c hc).1, up255 (r2 c hc).2⟩
  obtain ⟨t', kb', E', V', C', K', u2, u3, u4, u5⟩ := F'
  have u1 := StrChars.Road.codOf (cs := ds) rfl (fun c hc => (u2 c hc).2)
  have u2' : ∀ c ∈ ds, ¬ c < 0 ∧ ¬ (65535 : Int32) < c := fun c hc => ⟨(u2 c hc).1, up255 (u2 c hc).2⟩
  refine Back.mono (StrChars.Road.eqW hZ hws wi E V C K r1 r2' r3 E' V' C' K' u1 u2' u3 (S1.ext X0.2) P1 hfr hlo) (fun P a hp => hp) (fun P a v B hp hq => ?_)
  obtain ⟨L, ⟨q1, rfl, q3⟩, s1, s2, s3⟩ := hq
  refine ⟨[], ⟨⟨?_, q3.symm⟩, by rw [q3]; exact Keep.refl _ _, Fr.nil _⟩, s1, s2, s3⟩
  rcases q1 with ⟨q, r⟩ | ⟨q, r⟩
  · rw [q, if_pos r]
  · rw [q, if_neg r]
end OwnPay
end Jvm.Pilot.@@N@@
namespace Jvm.Pilot.@@N@@
open Jvm Jvm.ClassFile Sem Op Lib Jvm.Free Jvm.Stand Jvm.LawKit Jvm.RoadKit Bundle Jvm.Pilot.@@N@@.Jvm.D
section OwnStart
variable {s : State} {args : Array Value} {cs : List Int32}
theorem cell_of_arr {sd : Addr} {SA : Cell} (h : s.arrayAt? sd = some SA) : s.heap[sd]? = some SA := by
  simp only [State.arrayAt?, Option.bind_eq_bind] at h
  cases q : s.heap[sd]? with
  | none => simp [q] at h
  | some x => simp only [q, Option.bind_some] at h; grind
/-- the words of a sheet on a String whose chars it names -/
theorem str_start {t : Term} {x : Addr} (hf : Fit s) (ev : t.eval args s none [] s = some (.ref x)) (ex : (Cond.exactly t "java/lang/String").value args s none s [] = some true) (ec : (Cond.eq (Term.field t "java/lang/String" "coder" "B") (.int 0)).value args s none s [] = some true)
    (ea : (Cond.arrayOf (Term.field t "java/lang/String" "value" "[B") .byte).value args s none s [] = some true) {z : Int32} (el : (Cond.eq (.length (Term.field t "java/lang/String" "value" "[B")) (.int z)).value args s none s [] = some true) (hz : z = Int32.ofNat cs.length) (hl : cs.length ≤ 4000)
    (ee : ∀ j, j < cs.length → (Cond.eq (.elem (Term.field t "java/lang/String" "value" "[B") (.int (Int32.ofNat j))) (.int (cs.getD j 0))).value args s none s [] = some true) (hb : cs.map (fun c => c.toInt8.toInt32) = cs) (hr : ∀ c ∈ cs, ¬ c < 0 ∧ ¬ (255 : Int32) < c) : Str s s.heap x cs s.heap.size := by
  have hcod := Cond.eq_int (Cond.before_iff.mpr ec) rfl
  have hlen := Cond.eq_int (Cond.before_iff.mpr el) rfl
  rw [fld_at ev] at hcod
  obtain ⟨sd, SA, hev, harrAt, -⟩ := Term.length_spec hlen
  have h31 := SBG.length_lt hev harrAt hlen
  obtain ⟨c, A⟩ := Arr.start hev ea
  have hcell := cell_of_arr harrAt
  obtain rfl : SA = c := Option.some.inj (hcell.symm.trans A.1)
  have hsz : SA.slots.size = cs.length := by
    have e0 : ∀ V : Term, V.eval args s none [] s = some (.ref sd) → (Term.length V).eval args s none [] s = some (.int (Int32.ofNat SA.slots.size)) := fun V q => by simp [Term.eval, q, harrAt, h31]
    have e := e0 _ hev
    have h2 : Int32.ofNat SA.slots.size = Int32.ofNat cs.length := by rw [hz] at hlen; simpa using Option.some.inj (e.symm.trans hlen)
    have := congrArg Int32.toInt h2
    rw [Int32.toInt_ofNat_small h31, Int32.toInt_ofNat_small (by omega)] at this; omega
  have hat : ∀ j, j < cs.length → SA.slots[j]? = some (.int (cs.getD j 0)) := fun j hj => by
    have e1 := Cond.eq_int (Cond.before_iff.mpr (ee j hj)) rfl
    rw [SBG.elem_at (ix := .int (Int32.ofNat j)) hev harrAt (by omega) h31 rfl] at e1; exact e1
  have ez : (Int32.ofNat cs.length).toInt = cs.length := Int32.toInt_ofNat_of_lt (by omega)
  have H : Has SA (cs.map Value.int) (.int 0) := fun j hj => by
    rw [hat j (by omega)]; simp [show j < cs.length by omega, List.getD_eq_getElem?_getD]
  have K : Arv s s.heap sd SA.cls .byte (Int32.ofNat cs.length) (cs.map Value.int) (.int 0) := by
    refine ⟨SA, A, rfl, ?_, ?_, H, fun j hj => ?_⟩
    · rw [hsz]; show cs.length = (Int32.ofNat cs.length).toInt.toNat; omega
    · rw [Int32.lt_iff_toInt_lt, ez]; show ¬ (cs.length : Int) < 0; omega
    · have e1 : (Nat.toInt32 j).toNatClampNeg = j := by simp only [Int32.toNatClampNeg, len_toInt (Nat.lt_trans hj h31)]; rfl
      exact elem_fits (j := Nat.toInt32 j) hf A (idx_in hj h31) (by rw [e1]; exact H j hj)
  have E := Exa.start ev ex
  rw [fld_at ev] at hev
  exact Str.of E (Fld.start hev) (Fld.start hcod) K rfl (by rw [hb]) hr hl E.lt K.lt
/-- an array whose length and components a sheet names -/
theorem arv_start {t : Term} {x : Addr} {ty : FieldType} {vs : List Value} {dv : Value} (hf : Fit s) (ev : t.eval args s none [] s = some (.ref x)) (ea : (Cond.arrayOf t ty).value args s none s [] = some true) {z : Int32} (el : (Cond.eq (.length t) (.int z)).value args s none s [] = some true) (hz : z = Int32.ofNat vs.length) (hl : vs.length ≤ 4000)
    (ee : ∀ j, j < vs.length → (Term.elem t (.int (Int32.ofNat j))).eval args s none [] s = some (vs.getD j dv)) : ∃ k, Arv s s.heap x k ty z vs dv := by
  have hlen := Cond.eq_int (Cond.before_iff.mpr el) rfl
  obtain ⟨sd, SA, hev, harrAt, -⟩ := Term.length_spec hlen
  obtain rfl : x = sd := by have := ev.symm.trans hev; simpa using this
  have h31 := SBG.length_lt hev harrAt hlen
  obtain ⟨c, A⟩ := Arr.start hev ea
  have hcell := cell_of_arr harrAt
  obtain rfl : SA = c := Option.some.inj (hcell.symm.trans A.1)
  subst hz
  have hsz : SA.slots.size = vs.length := by
    have e0 : ∀ V : Term, V.eval args s none [] s = some (.ref x) → (Term.length V).eval args s none [] s = some (.int (Int32.ofNat SA.slots.size)) := fun V q => by simp [Term.eval, q, harrAt, h31]
    have e := e0 _ hev
    have h2 : Int32.ofNat SA.slots.size = Int32.ofNat vs.length := by simpa using Option.some.inj (e.symm.trans hlen)
    have := congrArg Int32.toInt h2
    rw [Int32.toInt_ofNat_small h31, Int32.toInt_ofNat_small (by omega)] at this; omega
  have hat : ∀ j, j < vs.length → SA.slots[j]? = some (vs.getD j dv) := fun j hj => by
    have e1 := ee j hj
    rw [SBG.elem_at (ix := .int (Int32.ofNat j)) hev harrAt (by omega) h31 rfl] at e1; exact e1
  have ez : (Int32.ofNat vs.length).toInt = vs.length := Int32.toInt_ofNat_of_lt (by omega)
  have H : Has SA vs dv := fun j hj => by rw [hat j (by omega)]
  refine ⟨SA.cls, SA, A, rfl, ?_, ?_, H, fun j hj => ?_⟩
  · rw [hsz]; show vs.length = (Int32.ofNat vs.length).toInt.toNat; omega
  · rw [Int32.lt_iff_toInt_lt, ez]; show ¬ (vs.length : Int) < 0; omega
  · have e1 : (Nat.toInt32 j).toNatClampNeg = j := by simp only [Int32.toNatClampNeg, len_toInt (Nat.lt_trans hj h31)]; rfl
    exact elem_fits (j := Nat.toInt32 j) hf A (idx_in hj h31) (by rw [e1]; exact H j hj)
theorem eq_at {a b : Term} {v : Value} (h : (Cond.eq a b).value args s none s [] = some true) (hb : b.eval args s none [] s = some v) (hv : v.isRef = true) : a.eval args s none [] s = some v := Cond.eq_refs (Cond.before_iff.mpr h) hb hv
end OwnStart
end Jvm.Pilot.@@N@@
namespace Jvm.Pilot.@@N@@
open Jvm Jvm.ClassFile Sem Op Lib Jvm.Free Jvm.Stand Jvm.LawKit Jvm.RoadKit Bundle Jvm.Pilot.@@N@@.Jvm.D
theorem de2_0 : decode jdk_42_method_149_code 0 = .ok (.aload_n 0, 1) := by decide +kernel
theorem de2_1 : decode jdk_42_method_149_code 1 = .ok (.invokespecial 1, 3) := by decide +kernel
theorem de2_4 : decode jdk_42_method_149_code 4 = .ok (.iload_n 3, 1) := by decide +kernel
theorem de2_5 : decode jdk_42_method_149_code 5 = .ok (.ifCond .ne 22, 3) := by decide +kernel
theorem de2_8 : decode jdk_42_method_149_code 8 = .ok (.aload_n 0, 1) := by decide +kernel
theorem de2_9 : decode jdk_42_method_149_code 9 = .ok (.ldc 7, 2) := by decide +kernel
theorem de2_11 : decode jdk_42_method_149_code 11 = .ok (.getfield 9, 3) := by decide +kernel
theorem de2_14 : decode jdk_42_method_149_code 14 = .ok (.putfield 9, 3) := by decide +kernel
theorem de2_17 : decode jdk_42_method_149_code 17 = .ok (.aload_n 0, 1) := by decide +kernel
theorem de2_18 : decode jdk_42_method_149_code 18 = .ok (.ldc 7, 2) := by decide +kernel
theorem de2_20 : decode jdk_42_method_149_code 20 = .ok (.getfield 15, 3) := by decide +kernel
theorem de2_23 : decode jdk_42_method_149_code 23 = .ok (.putfield 15, 3) := by decide +kernel
theorem de2_26 : decode jdk_42_method_149_code 26 = .ok (.return_, 1) := by decide +kernel
theorem efe2 (m : MethodId) (x0 : Nat) (x1 : Nat) (x2 : Int32) (x3 : Int32) : entryFrame m #[(.ref x0), (.ref x1), (.int x2), (.int x3), .null] 6 = mkF m 0 #[.val (.ref x0), .val (.ref x1), .val (.int x2), .val (.int x3), .val .null, .unset] [] := by first | (simp [entryFrame, mkF, argsToLocals, Value.category, maxLocals]; done) | rfl
theorem pn_0 : plainFor (⟨"java/lang/String", "<init>", "([CIILjava/lang/Void;)V"⟩ : MethodName) = true := by first | decide +kernel | (apply plainFor_of_name; simp [plainName, overriddenIn]; done)
set_option maxRecDepth 65536 in
set_option maxHeartbeats 40000000 in
theorem rme2 (l : Launch) (Z : State) (a0 : Array Value) (hw : ∀ d ∈ tables_1, d.before a0 Z = true) (hE : EW Z a0 consts_1) (x b : Nat) (h0 : Heap) (n0 : Nat) (Z0 : n0 ≤ h0.size) (gx : n0 ≤ x) (E0 : Exa Z h0 x "java/lang/String") (F01 : Fld Z h0 x "java/lang/String" "value" "[B" .null) (F02 : Fld Z h0 x "java/lang/String" "coder" "B" (.int (0 : Int32))) :
    WMet l Z consts_1 (⟨"java/lang/String", "<init>", "([CIILjava/lang/Void;)V"⟩ : MethodName) jdk_42_method_149_code 6 none [] ({ frames := 1, cells := 4, slots := 8, locals := 12 } : Room) [(.ref x), (.ref b), (.int (0 : Int32)), (.int (0 : Int32)), .null] h0 n0 [x] [x] (fun v h => v = none ∧ Str Z h x [] h.size) := by
  refine MetFree.of_bodySF pn_0 hisR ?_
  intro p e s m args below meth c s₁ Bd hml0 hP hK
  obtain ⟨rfl, hZ, hh, hC, hSf⟩ := hP
  have hx := Bd.exec
  have hby := Bd.bytes
  have hml : c.maxLocals = 6 := hml0
  have hnm := (name_of_methodNamed Bd.named Bd.method).1
  have w0 := Wk.start (a0 := a0) (EL := consts_1) (n0 := n0) (nw := false) Bd hZ hh hE hC (efe2 m x b (0 : Int32) (0 : Int32)) ({ frames := 1, cells := 4, slots := 8, locals := 12 } : Room) rfl
  have K0 : Keep h0 h0 [x] := Keep.refl _ _
  have lt_x := exlt E0
  have hS : ∀ d ∈ Bundle.stringAtoms, d.before a0 Z = true := fun d hd => hw d ((by decide +kernel : ∀ d ∈ Bundle.stringAtoms, d ∈ tables_1) d hd)
  have w1 := w0.pure (mkF m 1 #[.val (.ref x), .val (.ref b), .val (.int (0 : Int32)), .val (.int (0 : Int32)), .val .null, .unset] [(.ref x)]) (fun X eT hZ hown k => by
      show Steps _ _ _ (State.setTop _ (mkF m 0 #[.val (.ref x), .val (.ref b), .val (.int (0 : Int32)), .val (.int (0 : Int32)), .val .null, .unset] [])) _
      refine S.aloadN X.here hx (hb hby de2_0) rfl rfl ?_
      exact k)
  have w2 := w1.same (mkF m 4 #[.val (.ref x), .val (.ref b), .val (.int (0 : Int32)), .val (.int (0 : Int32)), .val .null, .unset] []) (fun X eT hZ hown => initO X hx hZ hown (hw _ (List.mem_of_getElem? (i := 59) rfl)) (hw _ (List.mem_of_getElem? (i := 60) rfl)) (hw _ (List.mem_of_getElem? (i := 61) rfl)) eT (g := (mkF m 1 #[.val (.ref x), .val (.ref b), .val (.int (0 : Int32)), .val (.int (0 : Int32)), .val .null, .unset] [(.ref x)])) rfl (by rw [hml]; rfl) rfl (hb hby de2_1) (by decide) (W := 0) (by show 2 * 0 + _ ≤ _; exact Nat.le_of_eq rfl) (by decide))
  have w3 := w2.pure (mkF m 9 #[.val (.ref x), .val (.ref b), .val (.int (0 : Int32)), .val (.int (0 : Int32)), .val .null, .unset] [(.ref x)]) (fun X eT hZ hown k => by
      show Steps _ _ _ (State.setTop _ (mkF m 4 #[.val (.ref x), .val (.ref b), .val (.int (0 : Int32)), .val (.int (0 : Int32)), .val .null, .unset] [])) _
      refine S.iloadN X.here hx (hb hby de2_4) rfl ?_
      refine S.ifNo X.here hx (hb hby de2_5) (by decide) ?_
      refine S.aloadN X.here hx (hb hby de2_8) rfl rfl ?_
      exact k)
  obtain ⟨b4, vm4, h4, t4, k4, E4, A4, F4c, F4v, V4, l4, m4, C4, N4, w4⟩ := w3.ldcCH hx (text := "") (hw _ (List.mem_of_getElem? (i := 139) rfl)) hS (List.mem_of_getElem? (i := 2) rfl) (vs := []) (z := (0 : Int32)) ⟨by decide, by decide⟩ (by decide) (by decide) rfl (hb hby de2_9) 0 (by decide) (by decide) (by decide) (by decide) (fun xq => (mkF m 11 #[.val (.ref x), .val (.ref b), .val (.int (0 : Int32)), .val (.int (0 : Int32)), .val .null, .unset] (.ref xq :: [(.ref x)]))) (fun _ => rfl)
  have z4 := E4.1
  have K5 : Keep h0 h4 [x] := K0.ext E4
  have F6 := chs C4 (by omega) (hSf _ (List.mem_of_getElem? (i := 0) rfl))
  have N4_x := N4 x F6
  have S4 : Str Z h4 b4 [] h4.size := Str.of A4 F4v F4c V4 rfl rfl (fun _ q => nomatch q) (by decide) l4 m4
  have w7 := w4.same (mkF m 14 #[.val (.ref x), .val (.ref b), .val (.int (0 : Int32)), .val (.int (0 : Int32)), .val .null, .unset] [(.ref t4), (.ref x)]) (fun X eT hZ hown => getF X hx hZ hown (host := "") (Or.inl (hw _ (List.mem_of_getElem? (i := 13) rfl))) Via.refl eT F4v (g := (mkF m 11 #[.val (.ref x), .val (.ref b), .val (.int (0 : Int32)), .val (.int (0 : Int32)), .val .null, .unset] [(.ref b4), (.ref x)])) rfl rfl (hb hby de2_11))
  have F8 := F01.ext E4
  have F9 := E0.ext E4
  obtain ⟨h10, W10, z10, F10, w10⟩ := w7.putF hx (host := "") (Or.inl (hw _ (List.mem_of_getElem? (i := 13) rfl))) Via.refl F8 F9 (Or.inr ⟨(hw _ (List.mem_of_getElem? (i := 4) rfl)), rfl, hnm⟩) (hw _ (List.mem_of_getElem? (i := 2) rfl)) (ty := (.array .byte)) (by decide) rfl rfl rfl rfl (hb hby de2_14) (by omega) F6 (mkF m 17 #[.val (.ref x), .val (.ref b), .val (.int (0 : Int32)), .val (.int (0 : Int32)), .val .null, .unset] []) rfl
  have K11 : Keep h0 h10 [x] := K5.wr W10 (Or.inl (List.mem_of_getElem? (i := 0) rfl))
  have w12 := w10.pure (mkF m 18 #[.val (.ref x), .val (.ref b), .val (.int (0 : Int32)), .val (.int (0 : Int32)), .val .null, .unset] [(.ref x)]) (fun X eT hZ hown k => by
      show Steps _ _ _ (State.setTop _ (mkF m 17 #[.val (.ref x), .val (.ref b), .val (.int (0 : Int32)), .val (.int (0 : Int32)), .val .null, .unset] [])) _
      refine S.aloadN X.here hx (hb hby de2_17) rfl rfl ?_
      exact k)
  obtain ⟨b13, vm13, h13, t13, k13, E13, A13, F13c, F13v, V13, l13, m13, C13, N13, w13⟩ := w12.ldcCH hx (text := "") (hw _ (List.mem_of_getElem? (i := 139) rfl)) hS (List.mem_of_getElem? (i := 2) rfl) (vs := []) (z := (0 : Int32)) ⟨by decide, by decide⟩ (by decide) (by decide) rfl (hb hby de2_18) 0 (by decide) (by decide) (by decide) (by decide) (fun xq => (mkF m 20 #[.val (.ref x), .val (.ref b), .val (.int (0 : Int32)), .val (.int (0 : Int32)), .val .null, .unset] (.ref xq :: [(.ref x)]))) (fun _ => rfl)
  have z13 := E13.1
  have K14 : Keep h0 h13 [x] := K11.ext E13
  have F15 := Safe.wr W10 F6 w7.chv F6
  have F16 := chs C13 (by omega) F15
  have N13_x := N13 x F16
  have S13 : Str Z h13 b13 [] h13.size := Str.of A13 F13v F13c V13 rfl rfl (fun _ q => nomatch q) (by decide) l13 m13
  have w17 := w13.same (mkF m 23 #[.val (.ref x), .val (.ref b), .val (.int (0 : Int32)), .val (.int (0 : Int32)), .val .null, .unset] [(.int (0 : Int32)), (.ref x)]) (fun X eT hZ hown => getF X hx hZ hown (host := "") (Or.inl (hw _ (List.mem_of_getElem? (i := 20) rfl))) Via.refl eT F13c (g := (mkF m 20 #[.val (.ref x), .val (.ref b), .val (.int (0 : Int32)), .val (.int (0 : Int32)), .val .null, .unset] [(.ref b13), (.ref x)])) rfl rfl (hb hby de2_20))
  have F18 := F02.ext E4
  have F19 := F18.other W10 (Or.inr (slot_ne (Or.inr (hw _ (List.mem_of_getElem? (i := 5) rfl))) (Or.inr (hw _ (List.mem_of_getElem? (i := 4) rfl))) (by decide) (t := .byte) (t' := (.array .byte)) (by decide) (by decide)))
  have F20 := F19.ext E13
  have F21 := F9.wr W10
  have F22 := F21.ext E13
  obtain ⟨h23, W23, z23, F23, w23⟩ := w17.putFN hx (hw _ (List.mem_of_getElem? (i := 20) rfl)) Via.refl (.int (0 : Int32)) F20 F22 (Or.inr ⟨(hw _ (List.mem_of_getElem? (i := 5) rfl)), rfl, hnm⟩) (hw _ (List.mem_of_getElem? (i := 2) rfl)) (ty := .byte) (by decide) rfl rfl rfl rfl (hb hby de2_23) (by omega) F16 (mkF m 26 #[.val (.ref x), .val (.ref b), .val (.int (0 : Int32)), .val (.int (0 : Int32)), .val .null, .unset] []) rfl
  have K24 : Keep h0 h23 [x] := K14.wr W23 (Or.inl (List.mem_of_getElem? (i := 0) rfl))
  have F25 := F22.wr W23
  have F26 := F10.ext E13
  have F27 := F26.other W23 (Or.inr (slot_ne (Or.inr (hw _ (List.mem_of_getElem? (i := 4) rfl))) (Or.inr (hw _ (List.mem_of_getElem? (i := 5) rfl))) (by decide) (t := (.array .byte)) (t' := .byte) (by decide) (by decide)))
  have F28 := V4.other W10 (nne (by omega))
  have F29 := F28.ext E13
  have F30 := F29.other W23 (nne (by omega))
  exact w23.endW (v := none) (Q := (fun v h => v = none ∧ Str Z h x [] h.size)) (wr := [x]) (h0 := h0) (fun _ => rfl) Bd.notSynchronized (fun X hr => X.returnOut hx Bd.returns (hb hby de2_26) hr) (by decide) (by decide) ⟨rfl, Str.of F25 F27 F23 F30 rfl rfl (fun _ q => nomatch q) (Nat.le_of_ble_eq_true rfl) (exlt F25) (arlt F30)⟩ K24
theorem pd_0 : parseMethodDescriptor "([CIILjava/lang/Void;)V" = some ⟨[(.array .char), .int, .int, (.object "java/lang/Void")], none⟩ := by decide +kernel
theorem de1_0 : decode jdk_42_method_3_code 0 = .ok (.aload_n 0, 1) := by decide +kernel
theorem de1_1 : decode jdk_42_method_3_code 1 = .ok (.aload_n 1, 1) := by decide +kernel
theorem de1_2 : decode jdk_42_method_3_code 2 = .ok (.iconst 0, 1) := by decide +kernel
theorem de1_3 : decode jdk_42_method_3_code 3 = .ok (.aload_n 1, 1) := by decide +kernel
theorem de1_4 : decode jdk_42_method_3_code 4 = .ok (.arraylength, 1) := by decide +kernel
theorem de1_5 : decode jdk_42_method_3_code 5 = .ok (.aconst_null, 1) := by decide +kernel
theorem de1_6 : decode jdk_42_method_3_code 6 = .ok (.invokespecial 27, 3) := by decide +kernel
theorem de1_9 : decode jdk_42_method_3_code 9 = .ok (.return_, 1) := by decide +kernel
theorem efe1 (m : MethodId) (x0 : Nat) (x1 : Nat) : entryFrame m #[(.ref x0), (.ref x1)] 2 = mkF m 0 #[.val (.ref x0), .val (.ref x1)] [] := by first | (simp [entryFrame, mkF, argsToLocals, Value.category, maxLocals]; done) | rfl
theorem pn_1 : plainFor (⟨"java/lang/String", "<init>", "([C)V"⟩ : MethodName) = true := by first | decide +kernel | (apply plainFor_of_name; simp [plainName, overriddenIn]; done)
set_option maxRecDepth 65536 in
set_option maxHeartbeats 40000000 in
theorem rme1 (l : Launch) (Z : State) (a0 : Array Value) (hw : ∀ d ∈ tables_1, d.before a0 Z = true) (hE : EW Z a0 consts_1) (x b : Nat) (k : ClassId) (h0 : Heap) (n0 : Nat) (Z0 : n0 ≤ h0.size) (gx : n0 ≤ x) (E0 : Exa Z h0 x "java/lang/String") (F01 : Fld Z h0 x "java/lang/String" "value" "[B" .null) (F02 : Fld Z h0 x "java/lang/String" "coder" "B" (.int (0 : Int32))) (V0 : Arv Z h0 b k .char (0 : Int32) [] (.int (0 : Int32))) :
    WMet l Z consts_1 (⟨"java/lang/String", "<init>", "([C)V"⟩ : MethodName) jdk_42_method_3_code 2 none [] ({ frames := 2, cells := 4, slots := 8, locals := 29 } : Room) [(.ref x), (.ref b)] h0 n0 [x] [x] (fun v h => v = none ∧ Str Z h x [] h.size) := by
  refine MetFree.of_bodySF pn_1 hisR ?_
  intro p e s m args below meth c s₁ Bd hml0 hP hK
  obtain ⟨rfl, hZ, hh, hC, hSf⟩ := hP
  have hx := Bd.exec
  have hby := Bd.bytes
  have hml : c.maxLocals = 2 := hml0
  have hnm := (name_of_methodNamed Bd.named Bd.method).1
  have w0 := Wk.start (a0 := a0) (EL := consts_1) (n0 := n0) (nw := false) Bd hZ hh hE hC (efe1 m x b) ({ frames := 2, cells := 4, slots := 8, locals := 29 } : Room) rfl
  have K0 : Keep h0 h0 [x] := Keep.refl _ _
  have lt_x := exlt E0
  have lt_b := arlt V0
  have w1 := w0.pure (mkF m 6 #[.val (.ref x), .val (.ref b)] [.null, (.int (0 : Int32)), (.int (0 : Int32)), (.ref b), (.ref x)]) (fun X eT hZ hown k => by
      show Steps _ _ _ (State.setTop _ (mkF m 0 #[.val (.ref x), .val (.ref b)] [])) _
      refine S.aloadN X.here hx (hb hby de1_0) rfl rfl ?_
      refine S.aloadN X.here hx (hb hby de1_1) rfl rfl ?_
      refine S.iconst X.here hx (0 : Int32) (hb hby de1_2) rfl ?_
      refine S.aloadN X.here hx (hb hby de1_3) rfl rfl ?_
      refine alenV X hx eT hZ V0 rfl rfl (hb hby de1_4) ?_
      show Steps _ _ _ (State.setTop _ (mkF m 5 #[.val (.ref x), .val (.ref b)] [(.int (0 : Int32)), (.int (0 : Int32)), (.ref b), (.ref x)])) _
      refine S.aconstNull X.here hx (hb hby de1_5) ?_
      exact k)
  obtain ⟨v2, vm2, h2, Q2, K2, z2, C2, w2⟩ := w1.callIW hx (y := (⟨"java/lang/String", "<init>", "([CIILjava/lang/Void;)V"⟩ : MethodName)) (W := 0) rfl (hw _ (List.mem_of_getElem? (i := 55) rfl)) (hw _ (List.mem_of_getElem? (i := 56) rfl)) (hw _ (List.mem_of_getElem? (i := 58) rfl)) (by decide) ((rme2 l Z a0 hw hE x b h0 n0 (by omega) (by omega) E0 F01 F02).pay w1 (hw _ (List.mem_of_getElem? (i := 58) rfl)) (hw _ (List.mem_of_getElem? (i := 1) rfl)) (by decide) (by decide) (allS ⟨by omega, (hSf _ (List.mem_of_getElem? (i := 0) rfl))⟩ all0)) rfl (by rw [hml]; rfl) [] (lenOf pd_0 rfl) rfl (by show 2 * 0 + _ ≤ _; exact Nat.le_of_eq rfl) (hb hby de1_6) (by decide) (by decide)  (fun rv => (mkF m 9 #[.val (.ref x), .val (.ref b)] (rv.toList ++ []))) (fun _ => rfl)
  obtain ⟨rfl, G2⟩ := Q2
  have K3 : Keep h0 h2 [x] := K0.trans K2 (allS (Or.inl (List.mem_of_getElem? (i := 0) rfl)) (fun _ q => nomatch q))
  have lt_x := G2.lt
  exact w2.endW (v := none) (Q := (fun v h => v = none ∧ Str Z h x [] h.size)) (wr := [x]) (h0 := h0) (fun _ => rfl) Bd.notSynchronized (fun X hr => X.returnOut hx Bd.returns (hb hby de1_9) hr) (by decide) (by decide) ⟨rfl, G2⟩ K3
theorem ite_ne {P : Prop} [Decidable P] (h : ¬ (if P then (1 : Int32) else (0 : Int32)) = (0 : Int32)) : P := by
  by_cases q : P
  · exact q
  · rw [if_neg q] at h; exact absurd rfl h
theorem ite_eq {P : Prop} [Decidable P] (h : (if P then (1 : Int32) else (0 : Int32)) = (0 : Int32)) : ¬ P := fun q => by rw [if_pos q] at h; exact absurd h (by decide)
def own_at (bs : List Int32) (j cc : Int32) : Int32 := if j < Int32.ofNat bs.length then bs.getD j.toNatClampNeg 0 else cc
theorem own_getD_rng {bs : List Int32} (hb : ∀ c ∈ bs, ¬ c < 0 ∧ ¬ (255 : Int32) < c) (i : Nat) : ¬ bs.getD i 0 < 0 ∧ ¬ (255 : Int32) < bs.getD i 0 := by
  rw [List.getD_eq_getElem?_getD]
  cases q : bs[i]? with
  | none => decide
  | some c => exact hb c (List.mem_of_getElem? q)
theorem own_at_rng {bs : List Int32} {j cc : Int32} (hb : ∀ c ∈ bs, ¬ c < 0 ∧ ¬ (255 : Int32) < c) (hc : ¬ cc < 0 ∧ ¬ (255 : Int32) < cc) : ¬ own_at bs j cc < 0 ∧ ¬ (255 : Int32) < own_at bs j cc := by
  unfold own_at; split
  · exact own_getD_rng hb _
  · exact hc
theorem own_idx {j : Int32} {n : Nat} (h0 : ¬ j < 0) (h1 : j < Int32.ofNat n) (hn : n ≤ 4000) : j.toNatClampNeg < n ∧ j = Int32.ofNat j.toNatClampNeg := by
  have e : (Int32.ofNat n).toInt = n := Int32.toInt_ofNat_of_lt (by omega)
  simp only [Int32.lt_iff_toInt_lt, e, show (0 : Int32).toInt = 0 from rfl] at h0 h1
  have q : j.toNatClampNeg = j.toInt.toNat := rfl
  refine ⟨by omega, Int32.toInt_inj.mp ?_⟩
  rw [Int32.toInt_ofNat_of_lt (by omega)]; omega
theorem own_m9 (n : Int32) : ¬ ((n &&& (2147483647 : Int32)) % (9 : Int32)) < 0 ∧ ((n &&& (2147483647 : Int32)) % (9 : Int32)) < (9 : Int32) := by
  have q := c_and n (2147483647 : Int32) (by decide)
  have r := (c_irem (n &&& (2147483647 : Int32)) (9 : Int32) 9 rfl).1 q.1
  simp only [Int32.lt_iff_toInt_lt, show (0 : Int32).toInt = 0 from rfl, show (9 : Int32).toInt = 9 from rfl]
  omega
theorem own_nine {cs : List Int32} (h : cs.length = 9) : ∃ c0 c1 c2 c3 c4 c5 c6 c7 c8, cs = [c0, c1, c2, c3, c4, c5, c6, c7, c8] := by
  match cs, h with
  | [c0, c1, c2, c3, c4, c5, c6, c7, c8], _ => exact ⟨c0, c1, c2, c3, c4, c5, c6, c7, c8, rfl⟩
theorem own_rng9 {c0 c1 c2 c3 c4 c5 c6 c7 c8 : Int32} (r0 : ¬ c0 < 0 ∧ ¬ (255 : Int32) < c0) (r1 : ¬ c1 < 0 ∧ ¬ (255 : Int32) < c1) (r2 : ¬ c2 < 0 ∧ ¬ (255 : Int32) < c2) (r3 : ¬ c3 < 0 ∧ ¬ (255 : Int32) < c3) (r4 : ¬ c4 < 0 ∧ ¬ (255 : Int32) < c4) (r5 : ¬ c5 < 0 ∧ ¬ (255 : Int32) < c5) (r6 : ¬ c6 < 0 ∧ ¬ (255 : Int32) < c6) (r7 : ¬ c7 < 0 ∧ ¬ (255 : Int32) < c7) (r8 : ¬ c8 < 0 ∧ ¬ (255 : Int32) < c8) : ∀ c ∈ [c0, c1, c2, c3, c4, c5, c6, c7, c8], ¬ c < 0 ∧ ¬ (255 : Int32) < c := by
  simp only [List.forall_mem_cons]; exact ⟨r0, r1, r2, r3, r4, r5, r6, r7, r8, fun _ q => nomatch q⟩
theorem own_rngS {cs : List Int32} (hr : ∀ c ∈ cs, ¬ c < 0 ∧ ¬ (255 : Int32) < c) {i : Nat} {d : Int32} (hd : ¬ d < 0 ∧ ¬ (255 : Int32) < d) : ∀ c ∈ cs.set i d, ¬ c < 0 ∧ ¬ (255 : Int32) < c := fun c q => by
  rcases List.mem_or_eq_of_mem_set q with q | rfl
  · exact hr c q
  · exact hd
def own_C : List Int32 := [(67 : Int32), (108 : Int32), (97 : Int32), (115 : Int32), (115 : Int32)]
def own_P : List Int32 := [(80 : Int32), (114 : Int32), (111 : Int32), (112 : Int32), (101 : Int32), (114 : Int32), (116 : Int32), (121 : Int32)]
def own_of (cs : List Int32) (oc op : Nat) : Value := if own_C = cs then .ref oc else if own_P = cs then .ref op else .null
theorem pd_1 : parseMethodDescriptor "()I" = some ⟨[], some .int⟩ := by decide +kernel
theorem pd_2 : parseMethodDescriptor "(I)C" = some ⟨[.int], some .char⟩ := by decide +kernel
theorem dat_0 : decode method_3_code 0 = .ok (.iload_n 1, 1) := by decide +kernel
theorem dat_1 : decode method_3_code 1 = .ok (.aload_n 0, 1) := by decide +kernel
theorem dat_2 : decode method_3_code 2 = .ok (.invokevirtual 11, 3) := by decide +kernel
theorem dat_5 : decode method_3_code 5 = .ok (.if_icmp .ge 11, 3) := by decide +kernel
theorem dat_8 : decode method_3_code 8 = .ok (.aload_n 0, 1) := by decide +kernel
theorem dat_9 : decode method_3_code 9 = .ok (.iload_n 1, 1) := by decide +kernel
theorem dat_10 : decode method_3_code 10 = .ok (.invokevirtual 55, 3) := by decide +kernel
theorem dat_13 : decode method_3_code 13 = .ok (.goto 4, 3) := by decide +kernel
theorem dat_16 : decode method_3_code 16 = .ok (.iload_n 2, 1) := by decide +kernel
theorem dat_17 : decode method_3_code 17 = .ok (.ireturn, 1) := by decide +kernel
theorem efat (m : MethodId) (x0 : Nat) (x1 : Int32) (x2 : Int32) : entryFrame m #[(.ref x0), (.int x1), (.int x2)] 3 = mkF m 0 #[.val (.ref x0), .val (.int x1), .val (.int x2)] [] := by first | (simp [entryFrame, mkF, argsToLocals, Value.category, maxLocals]; done) | rfl
theorem pn_2 : plainFor (⟨"com/example/unified_lexicon/unifiedlexicon/core/KindOfWrittenPinLaw", "at", "(Ljava/lang/String;IC)C"⟩ : MethodName) = true := by first | decide +kernel | (apply plainFor_of_name; simp [plainName, overriddenIn]; done)
set_option maxRecDepth 65536 in
set_option maxHeartbeats 40000000 in
theorem rmat (l : Launch) (Z : State) (a0 : Array Value) (hw : ∀ d ∈ tables_1, d.before a0 Z = true) (x : Nat) (bs : List Int32) (b : Nat) (j cc : Int32) (h0 : Heap) (n0 : Nat) (Z0 : n0 ≤ h0.size) (hG : SetsOk Z) (X0 : Old Z n0 h0) (Sx : Str Z h0 x bs b) (hj0 : ¬ j < 0) (hcc : ¬ cc < 0 ∧ ¬ (255 : Int32) < cc) :
    NMet l Z (⟨"com/example/unified_lexicon/unifiedlexicon/core/KindOfWrittenPinLaw", "at", "(Ljava/lang/String;IC)C"⟩ : MethodName) method_3_code 3 (some .char) [] ({ frames := 4, cells := 0, slots := 0, locals := 53 } : Room) [(.ref x), (.int j), (.int cc)] h0 n0 [] (fun v h => v = some (.int (own_at bs j cc)) ∧ h0 = h) := by
  refine MetFree.of_bodySF pn_2 hisR ?_
  intro p e s m args below meth c s₁ Bd hml0 hP hK
  obtain ⟨rfl, hZ, hh⟩ := hP
  have hx := Bd.exec
  have hby := Bd.bytes
  have hml : c.maxLocals = 3 := hml0
  have hnm := (name_of_methodNamed Bd.named Bd.method).1
  have w0 := Wk.start (a0 := a0) (EL := []) (n0 := n0) (nw := true) Bd hZ hh EW.nil chv0 (efat m x j cc) ({ frames := 4, cells := 0, slots := 0, locals := 53 } : Room) rfl
  have K0 : Keep h0 h0 [] := Keep.refl _ _
  have lt_Sx := Sx.lt
  have hq_lenW : ∀ d ∈ StrChars.Road.wordsLen, d.before a0 Z = true := fun d hd => hw d ((by decide +kernel : ∀ d ∈ StrChars.Road.wordsLen, d ∈ tables_1) d hd)
  have hq_chN : ∀ d ∈ StrChars.Road.wordsChN, d.before a0 Z = true := fun d hd => hw d ((by decide +kernel : ∀ d ∈ StrChars.Road.wordsChN, d ∈ tables_1) d hd)
  have w1 := w0.pure (mkF m 2 #[.val (.ref x), .val (.int j), .val (.int cc)] [(.ref x), (.int j)]) (fun X eT hZ hown k => by
      show Steps _ _ _ (State.setTop _ (mkF m 0 #[.val (.ref x), .val (.int j), .val (.int cc)] [])) _
      refine S.iloadN X.here hx (hb hby dat_0) rfl ?_
      refine S.aloadN X.here hx (hb hby dat_1) rfl rfl ?_
      exact k)
  obtain ⟨v2, h2, Q2, K2, z2, w2⟩ := w1.callV hx (C := "java/lang/String") (y := (⟨"java/lang/String", "length", "()I"⟩ : MethodName)) (z := (⟨"java/lang/String", "length", "()I"⟩ : MethodName)) (W := 1) (hw _ (List.mem_of_getElem? (i := 8) rfl)) (hw _ (List.mem_of_getElem? (i := 9) rfl)) (hw _ (List.mem_of_getElem? (i := 11) rfl)) (hw _ (List.mem_of_getElem? (i := 10) rfl)) (w1.nf (hw _ (List.mem_of_getElem? (i := 11) rfl))) (by decide) (payLen hG w1.hZ hq_lenW (hw _ (List.mem_of_getElem? (i := 2) rfl)) Sx X0 (by decide) (by decide)) Sx.exa rfl (by rw [hml]; rfl) [(.int j)] (lenOf pd_1 rfl) rfl (by show 2 * 0 + _ ≤ _; exact Nat.le_of_eq rfl) (hb hby dat_2) (by decide) (by decide) (fun _ q => nomatch q) (fun rv => (mkF m 5 #[.val (.ref x), .val (.int j), .val (.int cc)] (rv.toList ++ [(.int j)]))) (fun _ => rfl)
  obtain ⟨rfl, rfl⟩ := Q2
  by_cases hc3 : j < (Int32.ofNat bs.length)
  · have w4 := w2.pure (mkF m 10 #[.val (.ref x), .val (.int j), .val (.int cc)] [(.int j), (.ref x)]) (fun X eT hZ hown k => by
        show Steps _ _ _ (State.setTop _ (mkF m 5 #[.val (.ref x), .val (.int j), .val (.int cc)] [(.int (Int32.ofNat bs.length)), (.int j)])) _
        refine S.icmpNo X.here hx (hb hby dat_5) (tlt hc3).2.1 ?_
        refine S.aloadN X.here hx (hb hby dat_8) rfl rfl ?_
        refine S.iloadN X.here hx (hb hby dat_9) rfl ?_
        exact k)
    obtain ⟨v5, h5, Q5, K5, z5, w5⟩ := w4.callV hx (C := "java/lang/String") (y := (⟨"java/lang/String", "charAt", "(I)C"⟩ : MethodName)) (z := (⟨"java/lang/String", "charAt", "(I)C"⟩ : MethodName)) (W := 0) (hw _ (List.mem_of_getElem? (i := 26) rfl)) (hw _ (List.mem_of_getElem? (i := 27) rfl)) (hw _ (List.mem_of_getElem? (i := 29) rfl)) (hw _ (List.mem_of_getElem? (i := 28) rfl)) (w4.nf (hw _ (List.mem_of_getElem? (i := 29) rfl))) (by decide) (payCh hG w4.hZ hq_chN (hw _ (List.mem_of_getElem? (i := 2) rfl)) Sx X0 j.toNatClampNeg (own_idx hj0 hc3 Sx.len).1 (own_idx hj0 hc3 Sx.len).2 (by decide) (by decide)) Sx.exa rfl (by rw [hml]; rfl) [] (lenOf pd_2 rfl) rfl (by show 2 * 0 + _ ≤ _; exact Nat.le_of_eq rfl) (hb hby dat_10) (by decide) (by decide) (fun _ q => nomatch q) (fun rv => (mkF m 13 #[.val (.ref x), .val (.int j), .val (.int cc)] (rv.toList ++ []))) (fun _ => rfl)
    obtain ⟨rfl, rfl⟩ := Q5
    have w6 := w5.pure (mkF m 17 #[.val (.ref x), .val (.int j), .val (.int cc)] [(.int (bs.getD j.toNatClampNeg 0))]) (fun X eT hZ hown k => by
        show Steps _ _ _ (State.setTop _ (mkF m 13 #[.val (.ref x), .val (.int j), .val (.int cc)] [(.int (bs.getD j.toNatClampNeg 0))])) _
        refine S.goto X.here hx 17 (hb hby dat_13) (by decide) (by decide) ?_
        exact k)
    exact w6.endN (v := some (.int (nar .char (bs.getD j.toNatClampNeg 0)))) (Q := (fun v h => v = some (.int (own_at bs j cc)) ∧ h0 = h)) (wr := []) (h0 := h0) (fun h => by rw [Bd.returns] at h; cases h) Bd.notSynchronized (fun X hr => retN X hx (t := .char) Bd.returns (by simp) (hb hby dat_17) hr) (by decide) (by decide) ⟨by rw [nar_rng (own_getD_rng Sx.rng _), show own_at bs j cc = (bs.getD j.toNatClampNeg 0) from if_pos hc3], rfl⟩ K0
  · have w7 := w2.pure (mkF m 17 #[.val (.ref x), .val (.int j), .val (.int cc)] [(.int cc)]) (fun X eT hZ hown k => by
        show Steps _ _ _ (State.setTop _ (mkF m 5 #[.val (.ref x), .val (.int j), .val (.int cc)] [(.int (Int32.ofNat bs.length)), (.int j)])) _
        refine S.icmpYes X.here hx 16 (hb hby dat_5) (flt hc3).2.1 (by decide) (by decide) ?_
        refine S.iloadN X.here hx (hb hby dat_16) rfl ?_
        exact k)
    exact w7.endN (v := some (.int (nar .char cc))) (Q := (fun v h => v = some (.int (own_at bs j cc)) ∧ h0 = h)) (wr := []) (h0 := h0) (fun h => by rw [Bd.returns] at h; cases h) Bd.notSynchronized (fun X hr => retN X hx (t := .char) Bd.returns (by simp) (hb hby dat_17) hr) (by decide) (by decide) ⟨by rw [nar_rng hcc, show own_at bs j cc = cc from if_neg hc3], rfl⟩ K0
theorem pd_3 : parseMethodDescriptor "([C)V" = some ⟨[(.array .char)], none⟩ := by decide +kernel
theorem dsr_0 : decode method_4_code 0 = .ok (.iload_n 1, 1) := by decide +kernel
theorem dsr_1 : decode method_4_code 1 = .ok (.ifCond .ne 14, 3) := by decide +kernel
theorem dsr_4 : decode method_4_code 4 = .ok (.new 12, 3) := by decide +kernel
theorem dsr_7 : decode method_4_code 7 = .ok (.dup, 1) := by decide +kernel
theorem dsr_8 : decode method_4_code 8 = .ok (.iconst 0, 1) := by decide +kernel
theorem dsr_9 : decode method_4_code 9 = .ok (.newarray .char, 2) := by decide +kernel
theorem dsr_11 : decode method_4_code 11 = .ok (.invokespecial 59, 3) := by decide +kernel
theorem dsr_14 : decode method_4_code 14 = .ok (.areturn, 1) := by decide +kernel
theorem dsr_15 : decode method_4_code 15 = .ok (.iload_n 1, 1) := by decide +kernel
theorem dsr_16 : decode method_4_code 16 = .ok (.iconst 1, 1) := by decide +kernel
theorem dsr_17 : decode method_4_code 17 = .ok (.if_icmp .ne 20, 3) := by decide +kernel
theorem dsr_20 : decode method_4_code 20 = .ok (.new 12, 3) := by decide +kernel
theorem dsr_23 : decode method_4_code 23 = .ok (.dup, 1) := by decide +kernel
theorem dsr_24 : decode method_4_code 24 = .ok (.iconst 1, 1) := by decide +kernel
theorem dsr_25 : decode method_4_code 25 = .ok (.newarray .char, 2) := by decide +kernel
theorem dsr_27 : decode method_4_code 27 = .ok (.dup, 1) := by decide +kernel
theorem dsr_28 : decode method_4_code 28 = .ok (.iconst 0, 1) := by decide +kernel
theorem dsr_29 : decode method_4_code 29 = .ok (.aload_n 0, 1) := by decide +kernel
theorem dsr_30 : decode method_4_code 30 = .ok (.iconst 0, 1) := by decide +kernel
theorem dsr_31 : decode method_4_code 31 = .ok (.caload, 1) := by decide +kernel
theorem dsr_32 : decode method_4_code 32 = .ok (.castore, 1) := by decide +kernel
theorem dsr_33 : decode method_4_code 33 = .ok (.invokespecial 59, 3) := by decide +kernel
theorem dsr_36 : decode method_4_code 36 = .ok (.areturn, 1) := by decide +kernel
theorem dsr_37 : decode method_4_code 37 = .ok (.iload_n 1, 1) := by decide +kernel
theorem dsr_38 : decode method_4_code 38 = .ok (.iconst 2, 1) := by decide +kernel
theorem dsr_39 : decode method_4_code 39 = .ok (.if_icmp .ne 26, 3) := by decide +kernel
theorem dsr_42 : decode method_4_code 42 = .ok (.new 12, 3) := by decide +kernel
theorem dsr_45 : decode method_4_code 45 = .ok (.dup, 1) := by decide +kernel
theorem dsr_46 : decode method_4_code 46 = .ok (.iconst 2, 1) := by decide +kernel
theorem dsr_47 : decode method_4_code 47 = .ok (.newarray .char, 2) := by decide +kernel
theorem dsr_49 : decode method_4_code 49 = .ok (.dup, 1) := by decide +kernel
theorem dsr_50 : decode method_4_code 50 = .ok (.iconst 0, 1) := by decide +kernel
theorem dsr_51 : decode method_4_code 51 = .ok (.aload_n 0, 1) := by decide +kernel
theorem dsr_52 : decode method_4_code 52 = .ok (.iconst 0, 1) := by decide +kernel
theorem dsr_53 : decode method_4_code 53 = .ok (.caload, 1) := by decide +kernel
theorem dsr_54 : decode method_4_code 54 = .ok (.castore, 1) := by decide +kernel
theorem dsr_55 : decode method_4_code 55 = .ok (.dup, 1) := by decide +kernel
theorem dsr_56 : decode method_4_code 56 = .ok (.iconst 1, 1) := by decide +kernel
theorem dsr_57 : decode method_4_code 57 = .ok (.aload_n 0, 1) := by decide +kernel
theorem dsr_58 : decode method_4_code 58 = .ok (.iconst 1, 1) := by decide +kernel
theorem dsr_59 : decode method_4_code 59 = .ok (.caload, 1) := by decide +kernel
theorem dsr_60 : decode method_4_code 60 = .ok (.castore, 1) := by decide +kernel
theorem dsr_61 : decode method_4_code 61 = .ok (.invokespecial 59, 3) := by decide +kernel
theorem dsr_64 : decode method_4_code 64 = .ok (.areturn, 1) := by decide +kernel
theorem dsr_65 : decode method_4_code 65 = .ok (.iload_n 1, 1) := by decide +kernel
theorem dsr_66 : decode method_4_code 66 = .ok (.iconst 3, 1) := by decide +kernel
theorem dsr_67 : decode method_4_code 67 = .ok (.if_icmp .ne 32, 3) := by decide +kernel
theorem dsr_70 : decode method_4_code 70 = .ok (.new 12, 3) := by decide +kernel
theorem dsr_73 : decode method_4_code 73 = .ok (.dup, 1) := by decide +kernel
theorem dsr_74 : decode method_4_code 74 = .ok (.iconst 3, 1) := by decide +kernel
theorem dsr_75 : decode method_4_code 75 = .ok (.newarray .char, 2) := by decide +kernel
theorem dsr_77 : decode method_4_code 77 = .ok (.dup, 1) := by decide +kernel
theorem dsr_78 : decode method_4_code 78 = .ok (.iconst 0, 1) := by decide +kernel
theorem dsr_79 : decode method_4_code 79 = .ok (.aload_n 0, 1) := by decide +kernel
theorem dsr_80 : decode method_4_code 80 = .ok (.iconst 0, 1) := by decide +kernel
theorem dsr_81 : decode method_4_code 81 = .ok (.caload, 1) := by decide +kernel
theorem dsr_82 : decode method_4_code 82 = .ok (.castore, 1) := by decide +kernel
theorem dsr_83 : decode method_4_code 83 = .ok (.dup, 1) := by decide +kernel
theorem dsr_84 : decode method_4_code 84 = .ok (.iconst 1, 1) := by decide +kernel
theorem dsr_85 : decode method_4_code 85 = .ok (.aload_n 0, 1) := by decide +kernel
theorem dsr_86 : decode method_4_code 86 = .ok (.iconst 1, 1) := by decide +kernel
theorem dsr_87 : decode method_4_code 87 = .ok (.caload, 1) := by decide +kernel
theorem dsr_88 : decode method_4_code 88 = .ok (.castore, 1) := by decide +kernel
theorem dsr_89 : decode method_4_code 89 = .ok (.dup, 1) := by decide +kernel
theorem dsr_90 : decode method_4_code 90 = .ok (.iconst 2, 1) := by decide +kernel
theorem dsr_91 : decode method_4_code 91 = .ok (.aload_n 0, 1) := by decide +kernel
theorem dsr_92 : decode method_4_code 92 = .ok (.iconst 2, 1) := by decide +kernel
theorem dsr_93 : decode method_4_code 93 = .ok (.caload, 1) := by decide +kernel
theorem dsr_94 : decode method_4_code 94 = .ok (.castore, 1) := by decide +kernel
theorem dsr_95 : decode method_4_code 95 = .ok (.invokespecial 59, 3) := by decide +kernel
theorem dsr_98 : decode method_4_code 98 = .ok (.areturn, 1) := by decide +kernel
theorem dsr_99 : decode method_4_code 99 = .ok (.iload_n 1, 1) := by decide +kernel
theorem dsr_100 : decode method_4_code 100 = .ok (.iconst 4, 1) := by decide +kernel
theorem dsr_101 : decode method_4_code 101 = .ok (.if_icmp .ne 38, 3) := by decide +kernel
theorem dsr_104 : decode method_4_code 104 = .ok (.new 12, 3) := by decide +kernel
theorem dsr_107 : decode method_4_code 107 = .ok (.dup, 1) := by decide +kernel
theorem dsr_108 : decode method_4_code 108 = .ok (.iconst 4, 1) := by decide +kernel
theorem dsr_109 : decode method_4_code 109 = .ok (.newarray .char, 2) := by decide +kernel
theorem dsr_111 : decode method_4_code 111 = .ok (.dup, 1) := by decide +kernel
theorem dsr_112 : decode method_4_code 112 = .ok (.iconst 0, 1) := by decide +kernel
theorem dsr_113 : decode method_4_code 113 = .ok (.aload_n 0, 1) := by decide +kernel
theorem dsr_114 : decode method_4_code 114 = .ok (.iconst 0, 1) := by decide +kernel
theorem dsr_115 : decode method_4_code 115 = .ok (.caload, 1) := by decide +kernel
theorem dsr_116 : decode method_4_code 116 = .ok (.castore, 1) := by decide +kernel
theorem dsr_117 : decode method_4_code 117 = .ok (.dup, 1) := by decide +kernel
theorem dsr_118 : decode method_4_code 118 = .ok (.iconst 1, 1) := by decide +kernel
theorem dsr_119 : decode method_4_code 119 = .ok (.aload_n 0, 1) := by decide +kernel
theorem dsr_120 : decode method_4_code 120 = .ok (.iconst 1, 1) := by decide +kernel
theorem dsr_121 : decode method_4_code 121 = .ok (.caload, 1) := by decide +kernel
theorem dsr_122 : decode method_4_code 122 = .ok (.castore, 1) := by decide +kernel
theorem dsr_123 : decode method_4_code 123 = .ok (.dup, 1) := by decide +kernel
theorem dsr_124 : decode method_4_code 124 = .ok (.iconst 2, 1) := by decide +kernel
theorem dsr_125 : decode method_4_code 125 = .ok (.aload_n 0, 1) := by decide +kernel
theorem dsr_126 : decode method_4_code 126 = .ok (.iconst 2, 1) := by decide +kernel
theorem dsr_127 : decode method_4_code 127 = .ok (.caload, 1) := by decide +kernel
theorem dsr_128 : decode method_4_code 128 = .ok (.castore, 1) := by decide +kernel
theorem dsr_129 : decode method_4_code 129 = .ok (.dup, 1) := by decide +kernel
theorem dsr_130 : decode method_4_code 130 = .ok (.iconst 3, 1) := by decide +kernel
theorem dsr_131 : decode method_4_code 131 = .ok (.aload_n 0, 1) := by decide +kernel
theorem dsr_132 : decode method_4_code 132 = .ok (.iconst 3, 1) := by decide +kernel
theorem dsr_133 : decode method_4_code 133 = .ok (.caload, 1) := by decide +kernel
theorem dsr_134 : decode method_4_code 134 = .ok (.castore, 1) := by decide +kernel
theorem dsr_135 : decode method_4_code 135 = .ok (.invokespecial 59, 3) := by decide +kernel
theorem dsr_138 : decode method_4_code 138 = .ok (.areturn, 1) := by decide +kernel
theorem dsr_139 : decode method_4_code 139 = .ok (.iload_n 1, 1) := by decide +kernel
theorem dsr_140 : decode method_4_code 140 = .ok (.iconst 5, 1) := by decide +kernel
theorem dsr_141 : decode method_4_code 141 = .ok (.if_icmp .ne 44, 3) := by decide +kernel
theorem dsr_144 : decode method_4_code 144 = .ok (.new 12, 3) := by decide +kernel
theorem dsr_147 : decode method_4_code 147 = .ok (.dup, 1) := by decide +kernel
theorem dsr_148 : decode method_4_code 148 = .ok (.iconst 5, 1) := by decide +kernel
theorem dsr_149 : decode method_4_code 149 = .ok (.newarray .char, 2) := by decide +kernel
theorem dsr_151 : decode method_4_code 151 = .ok (.dup, 1) := by decide +kernel
theorem dsr_152 : decode method_4_code 152 = .ok (.iconst 0, 1) := by decide +kernel
theorem dsr_153 : decode method_4_code 153 = .ok (.aload_n 0, 1) := by decide +kernel
theorem dsr_154 : decode method_4_code 154 = .ok (.iconst 0, 1) := by decide +kernel
theorem dsr_155 : decode method_4_code 155 = .ok (.caload, 1) := by decide +kernel
theorem dsr_156 : decode method_4_code 156 = .ok (.castore, 1) := by decide +kernel
theorem dsr_157 : decode method_4_code 157 = .ok (.dup, 1) := by decide +kernel
theorem dsr_158 : decode method_4_code 158 = .ok (.iconst 1, 1) := by decide +kernel
theorem dsr_159 : decode method_4_code 159 = .ok (.aload_n 0, 1) := by decide +kernel
theorem dsr_160 : decode method_4_code 160 = .ok (.iconst 1, 1) := by decide +kernel
theorem dsr_161 : decode method_4_code 161 = .ok (.caload, 1) := by decide +kernel
theorem dsr_162 : decode method_4_code 162 = .ok (.castore, 1) := by decide +kernel
theorem dsr_163 : decode method_4_code 163 = .ok (.dup, 1) := by decide +kernel
theorem dsr_164 : decode method_4_code 164 = .ok (.iconst 2, 1) := by decide +kernel
theorem dsr_165 : decode method_4_code 165 = .ok (.aload_n 0, 1) := by decide +kernel
theorem dsr_166 : decode method_4_code 166 = .ok (.iconst 2, 1) := by decide +kernel
theorem dsr_167 : decode method_4_code 167 = .ok (.caload, 1) := by decide +kernel
theorem dsr_168 : decode method_4_code 168 = .ok (.castore, 1) := by decide +kernel
theorem dsr_169 : decode method_4_code 169 = .ok (.dup, 1) := by decide +kernel
theorem dsr_170 : decode method_4_code 170 = .ok (.iconst 3, 1) := by decide +kernel
theorem dsr_171 : decode method_4_code 171 = .ok (.aload_n 0, 1) := by decide +kernel
theorem dsr_172 : decode method_4_code 172 = .ok (.iconst 3, 1) := by decide +kernel
theorem dsr_173 : decode method_4_code 173 = .ok (.caload, 1) := by decide +kernel
theorem dsr_174 : decode method_4_code 174 = .ok (.castore, 1) := by decide +kernel
theorem dsr_175 : decode method_4_code 175 = .ok (.dup, 1) := by decide +kernel
theorem dsr_176 : decode method_4_code 176 = .ok (.iconst 4, 1) := by decide +kernel
theorem dsr_177 : decode method_4_code 177 = .ok (.aload_n 0, 1) := by decide +kernel
theorem dsr_178 : decode method_4_code 178 = .ok (.iconst 4, 1) := by decide +kernel
theorem dsr_179 : decode method_4_code 179 = .ok (.caload, 1) := by decide +kernel
theorem dsr_180 : decode method_4_code 180 = .ok (.castore, 1) := by decide +kernel
theorem dsr_181 : decode method_4_code 181 = .ok (.invokespecial 59, 3) := by decide +kernel
theorem dsr_184 : decode method_4_code 184 = .ok (.areturn, 1) := by decide +kernel
theorem dsr_185 : decode method_4_code 185 = .ok (.iload_n 1, 1) := by decide +kernel
theorem dsr_186 : decode method_4_code 186 = .ok (.bipush 6, 2) := by decide +kernel
theorem dsr_188 : decode method_4_code 188 = .ok (.if_icmp .ne 51, 3) := by decide +kernel
theorem dsr_191 : decode method_4_code 191 = .ok (.new 12, 3) := by decide +kernel
theorem dsr_194 : decode method_4_code 194 = .ok (.dup, 1) := by decide +kernel
theorem dsr_195 : decode method_4_code 195 = .ok (.bipush 6, 2) := by decide +kernel
theorem dsr_197 : decode method_4_code 197 = .ok (.newarray .char, 2) := by decide +kernel
theorem dsr_199 : decode method_4_code 199 = .ok (.dup, 1) := by decide +kernel
theorem dsr_200 : decode method_4_code 200 = .ok (.iconst 0, 1) := by decide +kernel
theorem dsr_201 : decode method_4_code 201 = .ok (.aload_n 0, 1) := by decide +kernel
theorem dsr_202 : decode method_4_code 202 = .ok (.iconst 0, 1) := by decide +kernel
theorem dsr_203 : decode method_4_code 203 = .ok (.caload, 1) := by decide +kernel
theorem dsr_204 : decode method_4_code 204 = .ok (.castore, 1) := by decide +kernel
theorem dsr_205 : decode method_4_code 205 = .ok (.dup, 1) := by decide +kernel
theorem dsr_206 : decode method_4_code 206 = .ok (.iconst 1, 1) := by decide +kernel
theorem dsr_207 : decode method_4_code 207 = .ok (.aload_n 0, 1) := by decide +kernel
theorem dsr_208 : decode method_4_code 208 = .ok (.iconst 1, 1) := by decide +kernel
theorem dsr_209 : decode method_4_code 209 = .ok (.caload, 1) := by decide +kernel
theorem dsr_210 : decode method_4_code 210 = .ok (.castore, 1) := by decide +kernel
theorem dsr_211 : decode method_4_code 211 = .ok (.dup, 1) := by decide +kernel
theorem dsr_212 : decode method_4_code 212 = .ok (.iconst 2, 1) := by decide +kernel
theorem dsr_213 : decode method_4_code 213 = .ok (.aload_n 0, 1) := by decide +kernel
theorem dsr_214 : decode method_4_code 214 = .ok (.iconst 2, 1) := by decide +kernel
theorem dsr_215 : decode method_4_code 215 = .ok (.caload, 1) := by decide +kernel
theorem dsr_216 : decode method_4_code 216 = .ok (.castore, 1) := by decide +kernel
theorem dsr_217 : decode method_4_code 217 = .ok (.dup, 1) := by decide +kernel
theorem dsr_218 : decode method_4_code 218 = .ok (.iconst 3, 1) := by decide +kernel
theorem dsr_219 : decode method_4_code 219 = .ok (.aload_n 0, 1) := by decide +kernel
theorem dsr_220 : decode method_4_code 220 = .ok (.iconst 3, 1) := by decide +kernel
theorem dsr_221 : decode method_4_code 221 = .ok (.caload, 1) := by decide +kernel
theorem dsr_222 : decode method_4_code 222 = .ok (.castore, 1) := by decide +kernel
theorem dsr_223 : decode method_4_code 223 = .ok (.dup, 1) := by decide +kernel
theorem dsr_224 : decode method_4_code 224 = .ok (.iconst 4, 1) := by decide +kernel
theorem dsr_225 : decode method_4_code 225 = .ok (.aload_n 0, 1) := by decide +kernel
theorem dsr_226 : decode method_4_code 226 = .ok (.iconst 4, 1) := by decide +kernel
theorem dsr_227 : decode method_4_code 227 = .ok (.caload, 1) := by decide +kernel
theorem dsr_228 : decode method_4_code 228 = .ok (.castore, 1) := by decide +kernel
theorem dsr_229 : decode method_4_code 229 = .ok (.dup, 1) := by decide +kernel
theorem dsr_230 : decode method_4_code 230 = .ok (.iconst 5, 1) := by decide +kernel
theorem dsr_231 : decode method_4_code 231 = .ok (.aload_n 0, 1) := by decide +kernel
theorem dsr_232 : decode method_4_code 232 = .ok (.iconst 5, 1) := by decide +kernel
theorem dsr_233 : decode method_4_code 233 = .ok (.caload, 1) := by decide +kernel
theorem dsr_234 : decode method_4_code 234 = .ok (.castore, 1) := by decide +kernel
theorem dsr_235 : decode method_4_code 235 = .ok (.invokespecial 59, 3) := by decide +kernel
theorem dsr_238 : decode method_4_code 238 = .ok (.areturn, 1) := by decide +kernel
theorem dsr_239 : decode method_4_code 239 = .ok (.iload_n 1, 1) := by decide +kernel
theorem dsr_240 : decode method_4_code 240 = .ok (.bipush 7, 2) := by decide +kernel
theorem dsr_242 : decode method_4_code 242 = .ok (.if_icmp .ne 59, 3) := by decide +kernel
theorem dsr_245 : decode method_4_code 245 = .ok (.new 12, 3) := by decide +kernel
theorem dsr_248 : decode method_4_code 248 = .ok (.dup, 1) := by decide +kernel
theorem dsr_249 : decode method_4_code 249 = .ok (.bipush 7, 2) := by decide +kernel
theorem dsr_251 : decode method_4_code 251 = .ok (.newarray .char, 2) := by decide +kernel
theorem dsr_253 : decode method_4_code 253 = .ok (.dup, 1) := by decide +kernel
theorem dsr_254 : decode method_4_code 254 = .ok (.iconst 0, 1) := by decide +kernel
theorem dsr_255 : decode method_4_code 255 = .ok (.aload_n 0, 1) := by decide +kernel
theorem dsr_256 : decode method_4_code 256 = .ok (.iconst 0, 1) := by decide +kernel
theorem dsr_257 : decode method_4_code 257 = .ok (.caload, 1) := by decide +kernel
theorem dsr_258 : decode method_4_code 258 = .ok (.castore, 1) := by decide +kernel
theorem dsr_259 : decode method_4_code 259 = .ok (.dup, 1) := by decide +kernel
theorem dsr_260 : decode method_4_code 260 = .ok (.iconst 1, 1) := by decide +kernel
theorem dsr_261 : decode method_4_code 261 = .ok (.aload_n 0, 1) := by decide +kernel
theorem dsr_262 : decode method_4_code 262 = .ok (.iconst 1, 1) := by decide +kernel
theorem dsr_263 : decode method_4_code 263 = .ok (.caload, 1) := by decide +kernel
theorem dsr_264 : decode method_4_code 264 = .ok (.castore, 1) := by decide +kernel
theorem dsr_265 : decode method_4_code 265 = .ok (.dup, 1) := by decide +kernel
theorem dsr_266 : decode method_4_code 266 = .ok (.iconst 2, 1) := by decide +kernel
theorem dsr_267 : decode method_4_code 267 = .ok (.aload_n 0, 1) := by decide +kernel
theorem dsr_268 : decode method_4_code 268 = .ok (.iconst 2, 1) := by decide +kernel
theorem dsr_269 : decode method_4_code 269 = .ok (.caload, 1) := by decide +kernel
theorem dsr_270 : decode method_4_code 270 = .ok (.castore, 1) := by decide +kernel
theorem dsr_271 : decode method_4_code 271 = .ok (.dup, 1) := by decide +kernel
theorem dsr_272 : decode method_4_code 272 = .ok (.iconst 3, 1) := by decide +kernel
theorem dsr_273 : decode method_4_code 273 = .ok (.aload_n 0, 1) := by decide +kernel
theorem dsr_274 : decode method_4_code 274 = .ok (.iconst 3, 1) := by decide +kernel
theorem dsr_275 : decode method_4_code 275 = .ok (.caload, 1) := by decide +kernel
theorem dsr_276 : decode method_4_code 276 = .ok (.castore, 1) := by decide +kernel
theorem dsr_277 : decode method_4_code 277 = .ok (.dup, 1) := by decide +kernel
theorem dsr_278 : decode method_4_code 278 = .ok (.iconst 4, 1) := by decide +kernel
theorem dsr_279 : decode method_4_code 279 = .ok (.aload_n 0, 1) := by decide +kernel
theorem dsr_280 : decode method_4_code 280 = .ok (.iconst 4, 1) := by decide +kernel
theorem dsr_281 : decode method_4_code 281 = .ok (.caload, 1) := by decide +kernel
theorem dsr_282 : decode method_4_code 282 = .ok (.castore, 1) := by decide +kernel
theorem dsr_283 : decode method_4_code 283 = .ok (.dup, 1) := by decide +kernel
theorem dsr_284 : decode method_4_code 284 = .ok (.iconst 5, 1) := by decide +kernel
theorem dsr_285 : decode method_4_code 285 = .ok (.aload_n 0, 1) := by decide +kernel
theorem dsr_286 : decode method_4_code 286 = .ok (.iconst 5, 1) := by decide +kernel
theorem dsr_287 : decode method_4_code 287 = .ok (.caload, 1) := by decide +kernel
theorem dsr_288 : decode method_4_code 288 = .ok (.castore, 1) := by decide +kernel
theorem dsr_289 : decode method_4_code 289 = .ok (.dup, 1) := by decide +kernel
theorem dsr_290 : decode method_4_code 290 = .ok (.bipush 6, 2) := by decide +kernel
theorem dsr_292 : decode method_4_code 292 = .ok (.aload_n 0, 1) := by decide +kernel
theorem dsr_293 : decode method_4_code 293 = .ok (.bipush 6, 2) := by decide +kernel
theorem dsr_295 : decode method_4_code 295 = .ok (.caload, 1) := by decide +kernel
theorem dsr_296 : decode method_4_code 296 = .ok (.castore, 1) := by decide +kernel
theorem dsr_297 : decode method_4_code 297 = .ok (.invokespecial 59, 3) := by decide +kernel
theorem dsr_300 : decode method_4_code 300 = .ok (.areturn, 1) := by decide +kernel
theorem dsr_301 : decode method_4_code 301 = .ok (.iload_n 1, 1) := by decide +kernel
theorem dsr_302 : decode method_4_code 302 = .ok (.bipush 8, 2) := by decide +kernel
theorem dsr_304 : decode method_4_code 304 = .ok (.if_icmp .ne 67, 3) := by decide +kernel
theorem dsr_307 : decode method_4_code 307 = .ok (.new 12, 3) := by decide +kernel
theorem dsr_310 : decode method_4_code 310 = .ok (.dup, 1) := by decide +kernel
theorem dsr_311 : decode method_4_code 311 = .ok (.bipush 8, 2) := by decide +kernel
theorem dsr_313 : decode method_4_code 313 = .ok (.newarray .char, 2) := by decide +kernel
theorem dsr_315 : decode method_4_code 315 = .ok (.dup, 1) := by decide +kernel
theorem dsr_316 : decode method_4_code 316 = .ok (.iconst 0, 1) := by decide +kernel
theorem dsr_317 : decode method_4_code 317 = .ok (.aload_n 0, 1) := by decide +kernel
theorem dsr_318 : decode method_4_code 318 = .ok (.iconst 0, 1) := by decide +kernel
theorem dsr_319 : decode method_4_code 319 = .ok (.caload, 1) := by decide +kernel
theorem dsr_320 : decode method_4_code 320 = .ok (.castore, 1) := by decide +kernel
theorem dsr_321 : decode method_4_code 321 = .ok (.dup, 1) := by decide +kernel
theorem dsr_322 : decode method_4_code 322 = .ok (.iconst 1, 1) := by decide +kernel
theorem dsr_323 : decode method_4_code 323 = .ok (.aload_n 0, 1) := by decide +kernel
theorem dsr_324 : decode method_4_code 324 = .ok (.iconst 1, 1) := by decide +kernel
theorem dsr_325 : decode method_4_code 325 = .ok (.caload, 1) := by decide +kernel
theorem dsr_326 : decode method_4_code 326 = .ok (.castore, 1) := by decide +kernel
theorem dsr_327 : decode method_4_code 327 = .ok (.dup, 1) := by decide +kernel
theorem dsr_328 : decode method_4_code 328 = .ok (.iconst 2, 1) := by decide +kernel
theorem dsr_329 : decode method_4_code 329 = .ok (.aload_n 0, 1) := by decide +kernel
theorem dsr_330 : decode method_4_code 330 = .ok (.iconst 2, 1) := by decide +kernel
theorem dsr_331 : decode method_4_code 331 = .ok (.caload, 1) := by decide +kernel
theorem dsr_332 : decode method_4_code 332 = .ok (.castore, 1) := by decide +kernel
theorem dsr_333 : decode method_4_code 333 = .ok (.dup, 1) := by decide +kernel
theorem dsr_334 : decode method_4_code 334 = .ok (.iconst 3, 1) := by decide +kernel
theorem dsr_335 : decode method_4_code 335 = .ok (.aload_n 0, 1) := by decide +kernel
theorem dsr_336 : decode method_4_code 336 = .ok (.iconst 3, 1) := by decide +kernel
theorem dsr_337 : decode method_4_code 337 = .ok (.caload, 1) := by decide +kernel
theorem dsr_338 : decode method_4_code 338 = .ok (.castore, 1) := by decide +kernel
theorem dsr_339 : decode method_4_code 339 = .ok (.dup, 1) := by decide +kernel
theorem dsr_340 : decode method_4_code 340 = .ok (.iconst 4, 1) := by decide +kernel
theorem dsr_341 : decode method_4_code 341 = .ok (.aload_n 0, 1) := by decide +kernel
theorem dsr_342 : decode method_4_code 342 = .ok (.iconst 4, 1) := by decide +kernel
theorem dsr_343 : decode method_4_code 343 = .ok (.caload, 1) := by decide +kernel
theorem dsr_344 : decode method_4_code 344 = .ok (.castore, 1) := by decide +kernel
theorem dsr_345 : decode method_4_code 345 = .ok (.dup, 1) := by decide +kernel
theorem dsr_346 : decode method_4_code 346 = .ok (.iconst 5, 1) := by decide +kernel
theorem dsr_347 : decode method_4_code 347 = .ok (.aload_n 0, 1) := by decide +kernel
theorem dsr_348 : decode method_4_code 348 = .ok (.iconst 5, 1) := by decide +kernel
theorem dsr_349 : decode method_4_code 349 = .ok (.caload, 1) := by decide +kernel
theorem dsr_350 : decode method_4_code 350 = .ok (.castore, 1) := by decide +kernel
theorem dsr_351 : decode method_4_code 351 = .ok (.dup, 1) := by decide +kernel
theorem dsr_352 : decode method_4_code 352 = .ok (.bipush 6, 2) := by decide +kernel
theorem dsr_354 : decode method_4_code 354 = .ok (.aload_n 0, 1) := by decide +kernel
theorem dsr_355 : decode method_4_code 355 = .ok (.bipush 6, 2) := by decide +kernel
theorem dsr_357 : decode method_4_code 357 = .ok (.caload, 1) := by decide +kernel
theorem dsr_358 : decode method_4_code 358 = .ok (.castore, 1) := by decide +kernel
theorem dsr_359 : decode method_4_code 359 = .ok (.dup, 1) := by decide +kernel
theorem dsr_360 : decode method_4_code 360 = .ok (.bipush 7, 2) := by decide +kernel
theorem dsr_362 : decode method_4_code 362 = .ok (.aload_n 0, 1) := by decide +kernel
theorem dsr_363 : decode method_4_code 363 = .ok (.bipush 7, 2) := by decide +kernel
theorem dsr_365 : decode method_4_code 365 = .ok (.caload, 1) := by decide +kernel
theorem dsr_366 : decode method_4_code 366 = .ok (.castore, 1) := by decide +kernel
theorem dsr_367 : decode method_4_code 367 = .ok (.invokespecial 59, 3) := by decide +kernel
theorem dsr_370 : decode method_4_code 370 = .ok (.areturn, 1) := by decide +kernel
theorem dsr_371 : decode method_4_code 371 = .ok (.new 12, 3) := by decide +kernel
theorem dsr_374 : decode method_4_code 374 = .ok (.dup, 1) := by decide +kernel
theorem dsr_375 : decode method_4_code 375 = .ok (.bipush 9, 2) := by decide +kernel
theorem dsr_377 : decode method_4_code 377 = .ok (.newarray .char, 2) := by decide +kernel
theorem dsr_379 : decode method_4_code 379 = .ok (.dup, 1) := by decide +kernel
theorem dsr_380 : decode method_4_code 380 = .ok (.iconst 0, 1) := by decide +kernel
theorem dsr_381 : decode method_4_code 381 = .ok (.aload_n 0, 1) := by decide +kernel
theorem dsr_382 : decode method_4_code 382 = .ok (.iconst 0, 1) := by decide +kernel
theorem dsr_383 : decode method_4_code 383 = .ok (.caload, 1) := by decide +kernel
theorem dsr_384 : decode method_4_code 384 = .ok (.castore, 1) := by decide +kernel
theorem dsr_385 : decode method_4_code 385 = .ok (.dup, 1) := by decide +kernel
theorem dsr_386 : decode method_4_code 386 = .ok (.iconst 1, 1) := by decide +kernel
theorem dsr_387 : decode method_4_code 387 = .ok (.aload_n 0, 1) := by decide +kernel
theorem dsr_388 : decode method_4_code 388 = .ok (.iconst 1, 1) := by decide +kernel
theorem dsr_389 : decode method_4_code 389 = .ok (.caload, 1) := by decide +kernel
theorem dsr_390 : decode method_4_code 390 = .ok (.castore, 1) := by decide +kernel
theorem dsr_391 : decode method_4_code 391 = .ok (.dup, 1) := by decide +kernel
theorem dsr_392 : decode method_4_code 392 = .ok (.iconst 2, 1) := by decide +kernel
theorem dsr_393 : decode method_4_code 393 = .ok (.aload_n 0, 1) := by decide +kernel
theorem dsr_394 : decode method_4_code 394 = .ok (.iconst 2, 1) := by decide +kernel
theorem dsr_395 : decode method_4_code 395 = .ok (.caload, 1) := by decide +kernel
theorem dsr_396 : decode method_4_code 396 = .ok (.castore, 1) := by decide +kernel
theorem dsr_397 : decode method_4_code 397 = .ok (.dup, 1) := by decide +kernel
theorem dsr_398 : decode method_4_code 398 = .ok (.iconst 3, 1) := by decide +kernel
theorem dsr_399 : decode method_4_code 399 = .ok (.aload_n 0, 1) := by decide +kernel
theorem dsr_400 : decode method_4_code 400 = .ok (.iconst 3, 1) := by decide +kernel
theorem dsr_401 : decode method_4_code 401 = .ok (.caload, 1) := by decide +kernel
theorem dsr_402 : decode method_4_code 402 = .ok (.castore, 1) := by decide +kernel
theorem dsr_403 : decode method_4_code 403 = .ok (.dup, 1) := by decide +kernel
theorem dsr_404 : decode method_4_code 404 = .ok (.iconst 4, 1) := by decide +kernel
theorem dsr_405 : decode method_4_code 405 = .ok (.aload_n 0, 1) := by decide +kernel
theorem dsr_406 : decode method_4_code 406 = .ok (.iconst 4, 1) := by decide +kernel
theorem dsr_407 : decode method_4_code 407 = .ok (.caload, 1) := by decide +kernel
theorem dsr_408 : decode method_4_code 408 = .ok (.castore, 1) := by decide +kernel
theorem dsr_409 : decode method_4_code 409 = .ok (.dup, 1) := by decide +kernel
theorem dsr_410 : decode method_4_code 410 = .ok (.iconst 5, 1) := by decide +kernel
theorem dsr_411 : decode method_4_code 411 = .ok (.aload_n 0, 1) := by decide +kernel
theorem dsr_412 : decode method_4_code 412 = .ok (.iconst 5, 1) := by decide +kernel
theorem dsr_413 : decode method_4_code 413 = .ok (.caload, 1) := by decide +kernel
theorem dsr_414 : decode method_4_code 414 = .ok (.castore, 1) := by decide +kernel
theorem dsr_415 : decode method_4_code 415 = .ok (.dup, 1) := by decide +kernel
theorem dsr_416 : decode method_4_code 416 = .ok (.bipush 6, 2) := by decide +kernel
theorem dsr_418 : decode method_4_code 418 = .ok (.aload_n 0, 1) := by decide +kernel
theorem dsr_419 : decode method_4_code 419 = .ok (.bipush 6, 2) := by decide +kernel
theorem dsr_421 : decode method_4_code 421 = .ok (.caload, 1) := by decide +kernel
theorem dsr_422 : decode method_4_code 422 = .ok (.castore, 1) := by decide +kernel
theorem dsr_423 : decode method_4_code 423 = .ok (.dup, 1) := by decide +kernel
theorem dsr_424 : decode method_4_code 424 = .ok (.bipush 7, 2) := by decide +kernel
theorem dsr_426 : decode method_4_code 426 = .ok (.aload_n 0, 1) := by decide +kernel
theorem dsr_427 : decode method_4_code 427 = .ok (.bipush 7, 2) := by decide +kernel
theorem dsr_429 : decode method_4_code 429 = .ok (.caload, 1) := by decide +kernel
theorem dsr_430 : decode method_4_code 430 = .ok (.castore, 1) := by decide +kernel
theorem dsr_431 : decode method_4_code 431 = .ok (.dup, 1) := by decide +kernel
theorem dsr_432 : decode method_4_code 432 = .ok (.bipush 8, 2) := by decide +kernel
theorem dsr_434 : decode method_4_code 434 = .ok (.aload_n 0, 1) := by decide +kernel
theorem dsr_435 : decode method_4_code 435 = .ok (.bipush 8, 2) := by decide +kernel
theorem dsr_437 : decode method_4_code 437 = .ok (.caload, 1) := by decide +kernel
theorem dsr_438 : decode method_4_code 438 = .ok (.castore, 1) := by decide +kernel
theorem dsr_439 : decode method_4_code 439 = .ok (.invokespecial 59, 3) := by decide +kernel
theorem dsr_442 : decode method_4_code 442 = .ok (.areturn, 1) := by decide +kernel
theorem efsr (m : MethodId) (x0 : Nat) (x1 : Int32) : entryFrame m #[(.ref x0), (.int x1)] 2 = mkF m 0 #[.val (.ref x0), .val (.int x1)] [] := by first | (simp [entryFrame, mkF, argsToLocals, Value.category, maxLocals]; done) | rfl
theorem pn_3 : plainFor (⟨"com/example/unified_lexicon/unifiedlexicon/core/KindOfWrittenPinLaw", "str", "([CI)Ljava/lang/String;"⟩ : MethodName) = true := by first | decide +kernel | (apply plainFor_of_name; simp [plainName, overriddenIn]; done)
set_option maxRecDepth 65536 in
set_option maxHeartbeats 40000000 in
theorem rmsr (l : Launch) (Z : State) (a0 : Array Value) (hw : ∀ d ∈ tables_1, d.before a0 Z = true) (hE : EW Z a0 consts_1) (a : Nat) (k : ClassId) (n c0 c1 c2 c3 c4 c5 c6 c7 c8 : Int32) (h0 : Heap) (n0 : Nat) (Z0 : n0 ≤ h0.size) (hG : SetsOk Z) (X0 : Old Z n0 h0) (V0 : Arv Z h0 a k .char (9 : Int32) [(.int c0), (.int c1), (.int c2), (.int c3), (.int c4), (.int c5), (.int c6), (.int c7), (.int c8)] (.int (0 : Int32))) (r0 : ¬ c0 < 0 ∧ ¬ (255 : Int32) < c0) (r1 : ¬ c1 < 0 ∧ ¬ (255 : Int32) < c1) (r2 : ¬ c2 < 0 ∧ ¬ (255 : Int32) < c2) (r3 : ¬ c3 < 0 ∧ ¬ (255 : Int32) < c3) (r4 : ¬ c4 < 0 ∧ ¬ (255 : Int32) < c4) (r5 : ¬ c5 < 0 ∧ ¬ (255 : Int32) < c5) (r6 : ¬ c6 < 0 ∧ ¬ (255 : Int32) < c6) (r7 : ¬ c7 < 0 ∧ ¬ (255 : Int32) < c7) (r8 : ¬ c8 < 0 ∧ ¬ (255 : Int32) < c8) :
    WMet l Z consts_1 (⟨"com/example/unified_lexicon/unifiedlexicon/core/KindOfWrittenPinLaw", "str", "([CI)Ljava/lang/String;"⟩ : MethodName) method_4_code 2 (some (.object "java/lang/String")) [] ({ frames := 4, cells := 6, slots := 22, locals := 66 } : Room) [(.ref a), (.int n)] h0 n0 [] [] (fun v h => ∃ x cs, v = some (.ref x) ∧ n0 ≤ x ∧ Str Z h x cs h.size) := by
  refine MetFree.of_bodySF pn_3 hisR ?_
  intro p e s m args below meth c s₁ Bd hml0 hP hK
  obtain ⟨rfl, hZ, hh, hC, hSf⟩ := hP
  have hx := Bd.exec
  have hby := Bd.bytes
  have hml : c.maxLocals = 2 := hml0
  have hnm := (name_of_methodNamed Bd.named Bd.method).1
  have w0 := Wk.start (a0 := a0) (EL := consts_1) (n0 := n0) (nw := false) Bd hZ hh hE hC (efsr m a n) ({ frames := 4, cells := 6, slots := 22, locals := 66 } : Room) rfl
  have K0 : Keep h0 h0 [] := Keep.refl _ _
  have lt_V0 := arlt V0
  have hq_backV : ∀ d ∈ StrChars.Road.words, d.before a0 Z = true := fun d hd => hw d ((by decide +kernel : ∀ d ∈ StrChars.Road.words, d ∈ tables_1) d hd)
  have w1 := w0.pure (mkF m 1 #[.val (.ref a), .val (.int n)] [(.int n)]) (fun X eT hZ hown k => by
      show Steps _ _ _ (State.setTop _ (mkF m 0 #[.val (.ref a), .val (.int n)] [])) _
      refine S.iloadN X.here hx (hb hby dsr_0) rfl ?_
      exact k)
  by_cases hc2 : n = (0 : Int32)
  · have w3 := w1.pure (mkF m 4 #[.val (.ref a), .val (.int n)] []) (fun X eT hZ hown k => by
        show Steps _ _ _ (State.setTop _ (mkF m 1 #[.val (.ref a), .val (.int n)] [(.int n)])) _
        refine S.ifNo X.here hx (hb hby dsr_1) ((if0 _ _).trans (teq hc2).2) ?_
        exact k)
    obtain ⟨b4, h4, g4, E4, l4, A4, D4, y4, w4⟩ := w3.newO hx (hw _ (List.mem_of_getElem? (i := 51) rfl)) (hw _ (List.mem_of_getElem? (i := 2) rfl)) (hw _ (List.mem_of_getElem? (i := 1) rfl)) rfl (hb hby dsr_4) (by decide) (by decide) (fun xq => (mkF m 7 #[.val (.ref a), .val (.int n)] (.ref xq :: []))) (fun _ => rfl)
    have z4 := E4.1
    have K5 : Keep h0 h4 [] := K0.ext E4
    have D4_4 : Fld Z h4 b4 "java/lang/String" "value" "[B" .null := D4 (Or.inr (hw _ (List.mem_of_getElem? (i := 4) rfl))) (ty := (.array .byte)) (by decide)
    have D4_5 : Fld Z h4 b4 "java/lang/String" "coder" "B" (.int (0 : Int32)) := D4 (Or.inr (hw _ (List.mem_of_getElem? (i := 5) rfl))) (ty := .byte) (by decide)
    have w6 := w4.pure (mkF m 9 #[.val (.ref a), .val (.int n)] [(.int (0 : Int32)), (.ref b4), (.ref b4)]) (fun X eT hZ hown k => by
        show Steps _ _ _ (State.setTop _ (mkF m 7 #[.val (.ref a), .val (.int n)] [(.ref b4)])) _
        refine S.dup X.here hx (hb hby dsr_7) rfl ?_
        refine S.iconst X.here hx (0 : Int32) (hb hby dsr_8) rfl ?_
        exact k)
    obtain ⟨b7, h7, k7, g7, E7, l7, A7, y7, w7⟩ := w6.newP hx (hw _ (List.mem_of_getElem? (i := 21) rfl)) rfl (hb hby dsr_9) rfl (by decide) 0 (by decide) (by decide) (by decide) (by decide) (fun xq => (mkF m 11 #[.val (.ref a), .val (.int n)] (.ref xq :: [(.ref b4), (.ref b4)]))) (fun _ => rfl)
    have z7 := E7.1
    have K8 : Keep h0 h7 [] := K5.ext E7
    have V7 : Arv Z h7 b7 k7 .char (0 : Int32) [] (.int (0 : Int32)) := A7.pad (pad_rep [] (.int (0 : Int32)) 0)
    have F9 := A4.ext E7
    have F10 := D4_4.ext E7
    have F11 := D4_5.ext E7
    have F12 := Safe.ext E7 w6.chv y4
    obtain ⟨v13, vm13, h13, Q13, K13, z13, C13, w13⟩ := w7.callIW hx (y := (⟨"java/lang/String", "<init>", "([C)V"⟩ : MethodName)) (W := 1) rfl (hw _ (List.mem_of_getElem? (i := 52) rfl)) (hw _ (List.mem_of_getElem? (i := 53) rfl)) (hw _ (List.mem_of_getElem? (i := 54) rfl)) (by decide) ((rme1 l Z a0 hw hE b4 b7 k7 h7 n0 (by omega) (by omega) F9 F10 F11 V7).pay w7 (hw _ (List.mem_of_getElem? (i := 54) rfl)) (hw _ (List.mem_of_getElem? (i := 1) rfl)) (by decide) (by decide) (allS ⟨by omega, F12⟩ all0)) rfl (by rw [hml]; rfl) [(.ref b4)] (lenOf pd_3 rfl) rfl (by show 2 * 0 + _ ≤ _; exact Nat.le_of_eq rfl) (hb hby dsr_11) (by decide) (by decide)  (fun rv => (mkF m 14 #[.val (.ref a), .val (.int n)] (rv.toList ++ [(.ref b4)]))) (fun _ => rfl)
    obtain ⟨rfl, G13⟩ := Q13
    have K14 : Keep h0 h13 [] := K8.trans K13 (allS (Or.inr (by omega)) (fun _ q => nomatch q))
    have lt_b4 := G13.lt
    exact w13.endW (v := some (.ref b4)) (Q := (fun v h => ∃ x cs, v = some (.ref x) ∧ n0 ≤ x ∧ Str Z h x cs h.size)) (wr := []) (h0 := h0) (fun h => by rw [Bd.returns] at h; cases h) Bd.notSynchronized (fun X hr => X.areturnOut hx rfl Bd.returns rfl (hb hby dsr_14) hr) (by decide) (by decide) ⟨b4, [], rfl, by omega, G13.more (by omega)⟩ K14
  · have w15 := w1.pure (mkF m 17 #[.val (.ref a), .val (.int n)] [(.int (1 : Int32)), (.int n)]) (fun X eT hZ hown k => by
        show Steps _ _ _ (State.setTop _ (mkF m 1 #[.val (.ref a), .val (.int n)] [(.int n)])) _
        refine S.ifYes X.here hx 15 (hb hby dsr_1) ((if0 _ _).trans (feq hc2).2) (by decide) (by decide) ?_
        refine S.iloadN X.here hx (hb hby dsr_15) rfl ?_
        refine S.iconst X.here hx (1 : Int32) (hb hby dsr_16) rfl ?_
        exact k)
    by_cases hc16 : n = (1 : Int32)
    · have w17 := w15.pure (mkF m 20 #[.val (.ref a), .val (.int n)] []) (fun X eT hZ hown k => by
          show Steps _ _ _ (State.setTop _ (mkF m 17 #[.val (.ref a), .val (.int n)] [(.int (1 : Int32)), (.int n)])) _
          refine S.icmpNo X.here hx (hb hby dsr_17) (teq hc16).2 ?_
          exact k)
      obtain ⟨b18, h18, g18, E18, l18, A18, D18, y18, w18⟩ := w17.newO hx (hw _ (List.mem_of_getElem? (i := 51) rfl)) (hw _ (List.mem_of_getElem? (i := 2) rfl)) (hw _ (List.mem_of_getElem? (i := 1) rfl)) rfl (hb hby dsr_20) (by decide) (by decide) (fun xq => (mkF m 23 #[.val (.ref a), .val (.int n)] (.ref xq :: []))) (fun _ => rfl)
      have z18 := E18.1
      have K19 : Keep h0 h18 [] := K0.ext E18
      have D18_4 : Fld Z h18 b18 "java/lang/String" "value" "[B" .null := D18 (Or.inr (hw _ (List.mem_of_getElem? (i := 4) rfl))) (ty := (.array .byte)) (by decide)
      have D18_5 : Fld Z h18 b18 "java/lang/String" "coder" "B" (.int (0 : Int32)) := D18 (Or.inr (hw _ (List.mem_of_getElem? (i := 5) rfl))) (ty := .byte) (by decide)
      have w20 := w18.pure (mkF m 25 #[.val (.ref a), .val (.int n)] [(.int (1 : Int32)), (.ref b18), (.ref b18)]) (fun X eT hZ hown k => by
          show Steps _ _ _ (State.setTop _ (mkF m 23 #[.val (.ref a), .val (.int n)] [(.ref b18)])) _
          refine S.dup X.here hx (hb hby dsr_23) rfl ?_
          refine S.iconst X.here hx (1 : Int32) (hb hby dsr_24) rfl ?_
          exact k)
      obtain ⟨b21, h21, k21, g21, E21, l21, A21, y21, w21⟩ := w20.newP hx (hw _ (List.mem_of_getElem? (i := 21) rfl)) rfl (hb hby dsr_25) rfl (by decide) 1 (by decide) (by decide) (by decide) (by decide) (fun xq => (mkF m 27 #[.val (.ref a), .val (.int n)] (.ref xq :: [(.ref b18), (.ref b18)]))) (fun _ => rfl)
      have z21 := E21.1
      have K22 : Keep h0 h21 [] := K19.ext E21
      have V21 : Arv Z h21 b21 k21 .char (1 : Int32) [(.int (0 : Int32))] (.int (0 : Int32)) := A21.pad (pad_rep [] (.int (0 : Int32)) 1)
      have F23 := V0.ext E18
      have F24 := F23.ext E21
      have w25 := w21.pure (mkF m 32 #[.val (.ref a), .val (.int n)] [(.int c0), (.int (0 : Int32)), (.ref b21), (.ref b21), (.ref b18), (.ref b18)]) (fun X eT hZ hown k => by
          show Steps _ _ _ (State.setTop _ (mkF m 27 #[.val (.ref a), .val (.int n)] [(.ref b21), (.ref b18), (.ref b18)])) _
          refine S.dup X.here hx (hb hby dsr_27) rfl ?_
          refine S.iconst X.here hx (0 : Int32) (hb hby dsr_28) rfl ?_
          refine S.aloadN X.here hx (hb hby dsr_29) rfl rfl ?_
          refine S.iconst X.here hx (0 : Int32) (hb hby dsr_30) rfl ?_
          refine caV X hx eT hZ F24 (v := (.int c0)) ⟨by decide, by decide⟩ rfl rfl rfl (hb hby dsr_31) ?_
          show Steps _ _ _ (State.setTop _ (mkF m 32 #[.val (.ref a), .val (.int n)] [(.int c0), (.int (0 : Int32)), (.ref b21), (.ref b21), (.ref b18), (.ref b18)])) _
          exact k)
      obtain ⟨h26, W26, z26, V26, w26⟩ := w25.stC hx V21 0 rfl (Nat.le_of_ble_eq_true rfl) ⟨by decide, by decide⟩ rfl rfl (hb hby dsr_32) (by omega) (mkF m 33 #[.val (.ref a), .val (.int n)] [(.ref b21), (.ref b18), (.ref b18)]) rfl
      rw [nar_rng r0] at V26
      have U26 : Arv Z h26 b21 k21 .char (1 : Int32) [(.int c0)] (.int (0 : Int32)) := V26
      have K27 : Keep h0 h26 [] := K22.wr W26 (Or.inr (by omega))
      have F28 := A18.ext E21
      have F29 := F28.wr W26
      have F30 := D18_4.ext E21
      have F31 := F30.other W26 (Or.inl (nne (by omega)))
      have F32 := D18_5.ext E21
      have F33 := F32.other W26 (Or.inl (nne (by omega)))
      have F34 := X0.ext E18
      have F35 := F34.ext E21
      have F36 := F35.wr W26 (by omega)
      have r37 : ∀ c ∈ ([c0] : List Int32), ¬ c < 0 ∧ ¬ (255 : Int32) < c := (List.forall_mem_cons.mpr ⟨r0, (fun _ q => nomatch q)⟩)
      have F39 := Safe.ext E21 w20.chv y18
      have F40 := Safe.wr W26 (Safe.arv w25.al V21 (by decide)) w25.chv F39
      obtain ⟨v38, h38, Q38, K38, z38, w38⟩ := w26.callI hx (y := (⟨"java/lang/String", "<init>", "([C)V"⟩ : MethodName)) (W := 1) rfl (hw _ (List.mem_of_getElem? (i := 52) rfl)) (hw _ (List.mem_of_getElem? (i := 53) rfl)) (hw _ (List.mem_of_getElem? (i := 54) rfl)) (by decide) (payNew hG w26.hZ hq_backV (hw _ (List.mem_of_getElem? (i := 2) rfl)) [c0] 1 (by omega) F29 F31 F33 U26 F36 rfl rfl (by decide) (by decide) r37 (by decide) (by decide)) rfl (by rw [hml]; rfl) [(.ref b18)] (lenOf pd_3 rfl) rfl (by show 2 * 0 + _ ≤ _; exact Nat.le_of_eq rfl) (hb hby dsr_33) (by decide) (by decide) (sfS F40 sf0) (fun rv => (mkF m 36 #[.val (.ref a), .val (.int n)] (rv.toList ++ [(.ref b18)]))) (fun _ => rfl)
      obtain ⟨rfl, G38⟩ := Q38
      have K41 : Keep h0 h38 [] := K27.trans K38 (allS (Or.inr (by omega)) (fun _ q => nomatch q))
      have lt_b18 := G38.lt
      exact w38.endW (v := some (.ref b18)) (Q := (fun v h => ∃ x cs, v = some (.ref x) ∧ n0 ≤ x ∧ Str Z h x cs h.size)) (wr := []) (h0 := h0) (fun h => by rw [Bd.returns] at h; cases h) Bd.notSynchronized (fun X hr => X.areturnOut hx rfl Bd.returns rfl (hb hby dsr_36) hr) (by decide) (by decide) ⟨b18, [c0], rfl, by omega, G38.more (by omega)⟩ K41
    · have w42 := w15.pure (mkF m 39 #[.val (.ref a), .val (.int n)] [(.int (2 : Int32)), (.int n)]) (fun X eT hZ hown k => by
          show Steps _ _ _ (State.setTop _ (mkF m 17 #[.val (.ref a), .val (.int n)] [(.int (1 : Int32)), (.int n)])) _
          refine S.icmpYes X.here hx 37 (hb hby dsr_17) (feq hc16).2 (by decide) (by decide) ?_
          refine S.iloadN X.here hx (hb hby dsr_37) rfl ?_
          refine S.iconst X.here hx (2 : Int32) (hb hby dsr_38) rfl ?_
          exact k)
      by_cases hc43 : n = (2 : Int32)
      · have w44 := w42.pure (mkF m 42 #[.val (.ref a), .val (.int n)] []) (fun X eT hZ hown k => by
            show Steps _ _ _ (State.setTop _ (mkF m 39 #[.val (.ref a), .val (.int n)] [(.int (2 : Int32)), (.int n)])) _
            refine S.icmpNo X.here hx (hb hby dsr_39) (teq hc43).2 ?_
            exact k)
        obtain ⟨b45, h45, g45, E45, l45, A45, D45, y45, w45⟩ := w44.newO hx (hw _ (List.mem_of_getElem? (i := 51) rfl)) (hw _ (List.mem_of_getElem? (i := 2) rfl)) (hw _ (List.mem_of_getElem? (i := 1) rfl)) rfl (hb hby dsr_42) (by decide) (by decide) (fun xq => (mkF m 45 #[.val (.ref a), .val (.int n)] (.ref xq :: []))) (fun _ => rfl)
        have z45 := E45.1
        have K46 : Keep h0 h45 [] := K0.ext E45
        have D45_4 : Fld Z h45 b45 "java/lang/String" "value" "[B" .null := D45 (Or.inr (hw _ (List.mem_of_getElem? (i := 4) rfl))) (ty := (.array .byte)) (by decide)
        have D45_5 : Fld Z h45 b45 "java/lang/String" "coder" "B" (.int (0 : Int32)) := D45 (Or.inr (hw _ (List.mem_of_getElem? (i := 5) rfl))) (ty := .byte) (by decide)
        have w47 := w45.pure (mkF m 47 #[.val (.ref a), .val (.int n)] [(.int (2 : Int32)), (.ref b45), (.ref b45)]) (fun X eT hZ hown k => by
            show Steps _ _ _ (State.setTop _ (mkF m 45 #[.val (.ref a), .val (.int n)] [(.ref b45)])) _
            refine S.dup X.here hx (hb hby dsr_45) rfl ?_
            refine S.iconst X.here hx (2 : Int32) (hb hby dsr_46) rfl ?_
            exact k)
        obtain ⟨b48, h48, k48, g48, E48, l48, A48, y48, w48⟩ := w47.newP hx (hw _ (List.mem_of_getElem? (i := 21) rfl)) rfl (hb hby dsr_47) rfl (by decide) 2 (by decide) (by decide) (by decide) (by decide) (fun xq => (mkF m 49 #[.val (.ref a), .val (.int n)] (.ref xq :: [(.ref b45), (.ref b45)]))) (fun _ => rfl)
        have z48 := E48.1
        have K49 : Keep h0 h48 [] := K46.ext E48
        have V48 : Arv Z h48 b48 k48 .char (2 : Int32) [(.int (0 : Int32)), (.int (0 : Int32))] (.int (0 : Int32)) := A48.pad (pad_rep [] (.int (0 : Int32)) 2)
        have F50 := V0.ext E45
        have F51 := F50.ext E48
        have w52 := w48.pure (mkF m 54 #[.val (.ref a), .val (.int n)] [(.int c0), (.int (0 : Int32)), (.ref b48), (.ref b48), (.ref b45), (.ref b45)]) (fun X eT hZ hown k => by
            show Steps _ _ _ (State.setTop _ (mkF m 49 #[.val (.ref a), .val (.int n)] [(.ref b48), (.ref b45), (.ref b45)])) _
            refine S.dup X.here hx (hb hby dsr_49) rfl ?_
            refine S.iconst X.here hx (0 : Int32) (hb hby dsr_50) rfl ?_
            refine S.aloadN X.here hx (hb hby dsr_51) rfl rfl ?_
            refine S.iconst X.here hx (0 : Int32) (hb hby dsr_52) rfl ?_
            refine caV X hx eT hZ F51 (v := (.int c0)) ⟨by decide, by decide⟩ rfl rfl rfl (hb hby dsr_53) ?_
            show Steps _ _ _ (State.setTop _ (mkF m 54 #[.val (.ref a), .val (.int n)] [(.int c0), (.int (0 : Int32)), (.ref b48), (.ref b48), (.ref b45), (.ref b45)])) _
            exact k)
        obtain ⟨h53, W53, z53, V53, w53⟩ := w52.stC hx V48 0 rfl (Nat.le_of_ble_eq_true rfl) ⟨by decide, by decide⟩ rfl rfl (hb hby dsr_54) (by omega) (mkF m 55 #[.val (.ref a), .val (.int n)] [(.ref b48), (.ref b45), (.ref b45)]) rfl
        rw [nar_rng r0] at V53
        have U53 : Arv Z h53 b48 k48 .char (2 : Int32) [(.int c0), (.int (0 : Int32))] (.int (0 : Int32)) := V53
        have K54 : Keep h0 h53 [] := K49.wr W53 (Or.inr (by omega))
        have F55 := F51.other W53 (nne (by omega))
        have w56 := w53.pure (mkF m 60 #[.val (.ref a), .val (.int n)] [(.int c1), (.int (1 : Int32)), (.ref b48), (.ref b48), (.ref b45), (.ref b45)]) (fun X eT hZ hown k => by
            show Steps _ _ _ (State.setTop _ (mkF m 55 #[.val (.ref a), .val (.int n)] [(.ref b48), (.ref b45), (.ref b45)])) _
            refine S.dup X.here hx (hb hby dsr_55) rfl ?_
            refine S.iconst X.here hx (1 : Int32) (hb hby dsr_56) rfl ?_
            refine S.aloadN X.here hx (hb hby dsr_57) rfl rfl ?_
            refine S.iconst X.here hx (1 : Int32) (hb hby dsr_58) rfl ?_
            refine caV X hx eT hZ F55 (v := (.int c1)) ⟨by decide, by decide⟩ rfl rfl rfl (hb hby dsr_59) ?_
            show Steps _ _ _ (State.setTop _ (mkF m 60 #[.val (.ref a), .val (.int n)] [(.int c1), (.int (1 : Int32)), (.ref b48), (.ref b48), (.ref b45), (.ref b45)])) _
            exact k)
        obtain ⟨h57, W57, z57, V57, w57⟩ := w56.stC hx U53 1 rfl (Nat.le_of_ble_eq_true rfl) ⟨by decide, by decide⟩ rfl rfl (hb hby dsr_60) (by omega) (mkF m 61 #[.val (.ref a), .val (.int n)] [(.ref b48), (.ref b45), (.ref b45)]) rfl
        rw [nar_rng r1] at V57
        have U57 : Arv Z h57 b48 k48 .char (2 : Int32) [(.int c0), (.int c1)] (.int (0 : Int32)) := V57
        have K58 : Keep h0 h57 [] := K54.wr W57 (Or.inr (by omega))
        have F59 := A45.ext E48
        have F60 := F59.wr W53
        have F61 := F60.wr W57
        have F62 := D45_4.ext E48
        have F63 := F62.other W53 (Or.inl (nne (by omega)))
        have F64 := F63.other W57 (Or.inl (nne (by omega)))
        have F65 := D45_5.ext E48
        have F66 := F65.other W53 (Or.inl (nne (by omega)))
        have F67 := F66.other W57 (Or.inl (nne (by omega)))
        have F68 := X0.ext E45
        have F69 := F68.ext E48
        have F70 := F69.wr W53 (by omega)
        have F71 := F70.wr W57 (by omega)
        have r72 : ∀ c ∈ ([c0, c1] : List Int32), ¬ c < 0 ∧ ¬ (255 : Int32) < c := (List.forall_mem_cons.mpr ⟨r0, (List.forall_mem_cons.mpr ⟨r1, (fun _ q => nomatch q)⟩)⟩)
        have F74 := Safe.ext E48 w47.chv y45
        have F75 := Safe.wr W53 (Safe.arv w52.al V48 (by decide)) w52.chv F74
        have F76 := Safe.wr W57 (Safe.arv w56.al U53 (by decide)) w56.chv F75
        obtain ⟨v73, h73, Q73, K73, z73, w73⟩ := w57.callI hx (y := (⟨"java/lang/String", "<init>", "([C)V"⟩ : MethodName)) (W := 1) rfl (hw _ (List.mem_of_getElem? (i := 52) rfl)) (hw _ (List.mem_of_getElem? (i := 53) rfl)) (hw _ (List.mem_of_getElem? (i := 54) rfl)) (by decide) (payNew hG w57.hZ hq_backV (hw _ (List.mem_of_getElem? (i := 2) rfl)) [c0, c1] 2 (by omega) F61 F64 F67 U57 F71 rfl rfl (by decide) (by decide) r72 (by decide) (by decide)) rfl (by rw [hml]; rfl) [(.ref b45)] (lenOf pd_3 rfl) rfl (by show 2 * 0 + _ ≤ _; exact Nat.le_of_eq rfl) (hb hby dsr_61) (by decide) (by decide) (sfS F76 sf0) (fun rv => (mkF m 64 #[.val (.ref a), .val (.int n)] (rv.toList ++ [(.ref b45)]))) (fun _ => rfl)
        obtain ⟨rfl, G73⟩ := Q73
        have K77 : Keep h0 h73 [] := K58.trans K73 (allS (Or.inr (by omega)) (fun _ q => nomatch q))
        have lt_b45 := G73.lt
        exact w73.endW (v := some (.ref b45)) (Q := (fun v h => ∃ x cs, v = some (.ref x) ∧ n0 ≤ x ∧ Str Z h x cs h.size)) (wr := []) (h0 := h0) (fun h => by rw [Bd.returns] at h; cases h) Bd.notSynchronized (fun X hr => X.areturnOut hx rfl Bd.returns rfl (hb hby dsr_64) hr) (by decide) (by decide) ⟨b45, [c0, c1], rfl, by omega, G73.more (by omega)⟩ K77
      · have w78 := w42.pure (mkF m 67 #[.val (.ref a), .val (.int n)] [(.int (3 : Int32)), (.int n)]) (fun X eT hZ hown k => by
            show Steps _ _ _ (State.setTop _ (mkF m 39 #[.val (.ref a), .val (.int n)] [(.int (2 : Int32)), (.int n)])) _
            refine S.icmpYes X.here hx 65 (hb hby dsr_39) (feq hc43).2 (by decide) (by decide) ?_
            refine S.iloadN X.here hx (hb hby dsr_65) rfl ?_
            refine S.iconst X.here hx (3 : Int32) (hb hby dsr_66) rfl ?_
            exact k)
        by_cases hc79 : n = (3 : Int32)
        · have w80 := w78.pure (mkF m 70 #[.val (.ref a), .val (.int n)] []) (fun X eT hZ hown k => by
              show Steps _ _ _ (State.setTop _ (mkF m 67 #[.val (.ref a), .val (.int n)] [(.int (3 : Int32)), (.int n)])) _
              refine S.icmpNo X.here hx (hb hby dsr_67) (teq hc79).2 ?_
              exact k)
          obtain ⟨b81, h81, g81, E81, l81, A81, D81, y81, w81⟩ := w80.newO hx (hw _ (List.mem_of_getElem? (i := 51) rfl)) (hw _ (List.mem_of_getElem? (i := 2) rfl)) (hw _ (List.mem_of_getElem? (i := 1) rfl)) rfl (hb hby dsr_70) (by decide) (by decide) (fun xq => (mkF m 73 #[.val (.ref a), .val (.int n)] (.ref xq :: []))) (fun _ => rfl)
          have z81 := E81.1
          have K82 : Keep h0 h81 [] := K0.ext E81
          have D81_4 : Fld Z h81 b81 "java/lang/String" "value" "[B" .null := D81 (Or.inr (hw _ (List.mem_of_getElem? (i := 4) rfl))) (ty := (.array .byte)) (by decide)
          have D81_5 : Fld Z h81 b81 "java/lang/String" "coder" "B" (.int (0 : Int32)) := D81 (Or.inr (hw _ (List.mem_of_getElem? (i := 5) rfl))) (ty := .byte) (by decide)
          have w83 := w81.pure (mkF m 75 #[.val (.ref a), .val (.int n)] [(.int (3 : Int32)), (.ref b81), (.ref b81)]) (fun X eT hZ hown k => by
              show Steps _ _ _ (State.setTop _ (mkF m 73 #[.val (.ref a), .val (.int n)] [(.ref b81)])) _
              refine S.dup X.here hx (hb hby dsr_73) rfl ?_
              refine S.iconst X.here hx (3 : Int32) (hb hby dsr_74) rfl ?_
              exact k)
          obtain ⟨b84, h84, k84, g84, E84, l84, A84, y84, w84⟩ := w83.newP hx (hw _ (List.mem_of_getElem? (i := 21) rfl)) rfl (hb hby dsr_75) rfl (by decide) 3 (by decide) (by decide) (by decide) (by decide) (fun xq => (mkF m 77 #[.val (.ref a), .val (.int n)] (.ref xq :: [(.ref b81), (.ref b81)]))) (fun _ => rfl)
          have z84 := E84.1
          have K85 : Keep h0 h84 [] := K82.ext E84
          have V84 : Arv Z h84 b84 k84 .char (3 : Int32) [(.int (0 : Int32)), (.int (0 : Int32)), (.int (0 : Int32))] (.int (0 : Int32)) := A84.pad (pad_rep [] (.int (0 : Int32)) 3)
          have F86 := V0.ext E81
          have F87 := F86.ext E84
          have w88 := w84.pure (mkF m 82 #[.val (.ref a), .val (.int n)] [(.int c0), (.int (0 : Int32)), (.ref b84), (.ref b84), (.ref b81), (.ref b81)]) (fun X eT hZ hown k => by
              show Steps _ _ _ (State.setTop _ (mkF m 77 #[.val (.ref a), .val (.int n)] [(.ref b84), (.ref b81), (.ref b81)])) _
              refine S.dup X.here hx (hb hby dsr_77) rfl ?_
              refine S.iconst X.here hx (0 : Int32) (hb hby dsr_78) rfl ?_
              refine S.aloadN X.here hx (hb hby dsr_79) rfl rfl ?_
              refine S.iconst X.here hx (0 : Int32) (hb hby dsr_80) rfl ?_
              refine caV X hx eT hZ F87 (v := (.int c0)) ⟨by decide, by decide⟩ rfl rfl rfl (hb hby dsr_81) ?_
              show Steps _ _ _ (State.setTop _ (mkF m 82 #[.val (.ref a), .val (.int n)] [(.int c0), (.int (0 : Int32)), (.ref b84), (.ref b84), (.ref b81), (.ref b81)])) _
              exact k)
          obtain ⟨h89, W89, z89, V89, w89⟩ := w88.stC hx V84 0 rfl (Nat.le_of_ble_eq_true rfl) ⟨by decide, by decide⟩ rfl rfl (hb hby dsr_82) (by omega) (mkF m 83 #[.val (.ref a), .val (.int n)] [(.ref b84), (.ref b81), (.ref b81)]) rfl
          rw [nar_rng r0] at V89
          have U89 : Arv Z h89 b84 k84 .char (3 : Int32) [(.int c0), (.int (0 : Int32)), (.int (0 : Int32))] (.int (0 : Int32)) := V89
          have K90 : Keep h0 h89 [] := K85.wr W89 (Or.inr (by omega))
          have F91 := F87.other W89 (nne (by omega))
          have w92 := w89.pure (mkF m 88 #[.val (.ref a), .val (.int n)] [(.int c1), (.int (1 : Int32)), (.ref b84), (.ref b84), (.ref b81), (.ref b81)]) (fun X eT hZ hown k => by
              show Steps _ _ _ (State.setTop _ (mkF m 83 #[.val (.ref a), .val (.int n)] [(.ref b84), (.ref b81), (.ref b81)])) _
              refine S.dup X.here hx (hb hby dsr_83) rfl ?_
              refine S.iconst X.here hx (1 : Int32) (hb hby dsr_84) rfl ?_
              refine S.aloadN X.here hx (hb hby dsr_85) rfl rfl ?_
              refine S.iconst X.here hx (1 : Int32) (hb hby dsr_86) rfl ?_
              refine caV X hx eT hZ F91 (v := (.int c1)) ⟨by decide, by decide⟩ rfl rfl rfl (hb hby dsr_87) ?_
              show Steps _ _ _ (State.setTop _ (mkF m 88 #[.val (.ref a), .val (.int n)] [(.int c1), (.int (1 : Int32)), (.ref b84), (.ref b84), (.ref b81), (.ref b81)])) _
              exact k)
          obtain ⟨h93, W93, z93, V93, w93⟩ := w92.stC hx U89 1 rfl (Nat.le_of_ble_eq_true rfl) ⟨by decide, by decide⟩ rfl rfl (hb hby dsr_88) (by omega) (mkF m 89 #[.val (.ref a), .val (.int n)] [(.ref b84), (.ref b81), (.ref b81)]) rfl
          rw [nar_rng r1] at V93
          have U93 : Arv Z h93 b84 k84 .char (3 : Int32) [(.int c0), (.int c1), (.int (0 : Int32))] (.int (0 : Int32)) := V93
          have K94 : Keep h0 h93 [] := K90.wr W93 (Or.inr (by omega))
          have F95 := F91.other W93 (nne (by omega))
          have w96 := w93.pure (mkF m 94 #[.val (.ref a), .val (.int n)] [(.int c2), (.int (2 : Int32)), (.ref b84), (.ref b84), (.ref b81), (.ref b81)]) (fun X eT hZ hown k => by
              show Steps _ _ _ (State.setTop _ (mkF m 89 #[.val (.ref a), .val (.int n)] [(.ref b84), (.ref b81), (.ref b81)])) _
              refine S.dup X.here hx (hb hby dsr_89) rfl ?_
              refine S.iconst X.here hx (2 : Int32) (hb hby dsr_90) rfl ?_
              refine S.aloadN X.here hx (hb hby dsr_91) rfl rfl ?_
              refine S.iconst X.here hx (2 : Int32) (hb hby dsr_92) rfl ?_
              refine caV X hx eT hZ F95 (v := (.int c2)) ⟨by decide, by decide⟩ rfl rfl rfl (hb hby dsr_93) ?_
              show Steps _ _ _ (State.setTop _ (mkF m 94 #[.val (.ref a), .val (.int n)] [(.int c2), (.int (2 : Int32)), (.ref b84), (.ref b84), (.ref b81), (.ref b81)])) _
              exact k)
          obtain ⟨h97, W97, z97, V97, w97⟩ := w96.stC hx U93 2 rfl (Nat.le_of_ble_eq_true rfl) ⟨by decide, by decide⟩ rfl rfl (hb hby dsr_94) (by omega) (mkF m 95 #[.val (.ref a), .val (.int n)] [(.ref b84), (.ref b81), (.ref b81)]) rfl
          rw [nar_rng r2] at V97
          have U97 : Arv Z h97 b84 k84 .char (3 : Int32) [(.int c0), (.int c1), (.int c2)] (.int (0 : Int32)) := V97
          have K98 : Keep h0 h97 [] := K94.wr W97 (Or.inr (by omega))
          have F99 := A81.ext E84
          have F100 := F99.wr W89
          have F101 := F100.wr W93
          have F102 := F101.wr W97
          have F103 := D81_4.ext E84
          have F104 := F103.other W89 (Or.inl (nne (by omega)))
          have F105 := F104.other W93 (Or.inl (nne (by omega)))
          have F106 := F105.other W97 (Or.inl (nne (by omega)))
          have F107 := D81_5.ext E84
          have F108 := F107.other W89 (Or.inl (nne (by omega)))
          have F109 := F108.other W93 (Or.inl (nne (by omega)))
          have F110 := F109.other W97 (Or.inl (nne (by omega)))
          have F111 := X0.ext E81
          have F112 := F111.ext E84
          have F113 := F112.wr W89 (by omega)
          have F114 := F113.wr W93 (by omega)
          have F115 := F114.wr W97 (by omega)
          have r116 : ∀ c ∈ ([c0, c1, c2] : List Int32), ¬ c < 0 ∧ ¬ (255 : Int32) < c := (List.forall_mem_cons.mpr ⟨r0, (List.forall_mem_cons.mpr ⟨r1, (List.forall_mem_cons.mpr ⟨r2, (fun _ q => nomatch q)⟩)⟩)⟩)
          have F118 := Safe.ext E84 w83.chv y81
          have F119 := Safe.wr W89 (Safe.arv w88.al V84 (by decide)) w88.chv F118
          have F120 := Safe.wr W93 (Safe.arv w92.al U89 (by decide)) w92.chv F119
          have F121 := Safe.wr W97 (Safe.arv w96.al U93 (by decide)) w96.chv F120
          obtain ⟨v117, h117, Q117, K117, z117, w117⟩ := w97.callI hx (y := (⟨"java/lang/String", "<init>", "([C)V"⟩ : MethodName)) (W := 1) rfl (hw _ (List.mem_of_getElem? (i := 52) rfl)) (hw _ (List.mem_of_getElem? (i := 53) rfl)) (hw _ (List.mem_of_getElem? (i := 54) rfl)) (by decide) (payNew hG w97.hZ hq_backV (hw _ (List.mem_of_getElem? (i := 2) rfl)) [c0, c1, c2] 3 (by omega) F102 F106 F110 U97 F115 rfl rfl (by decide) (by decide) r116 (by decide) (by decide)) rfl (by rw [hml]; rfl) [(.ref b81)] (lenOf pd_3 rfl) rfl (by show 2 * 0 + _ ≤ _; exact Nat.le_of_eq rfl) (hb hby dsr_95) (by decide) (by decide) (sfS F121 sf0) (fun rv => (mkF m 98 #[.val (.ref a), .val (.int n)] (rv.toList ++ [(.ref b81)]))) (fun _ => rfl)
          obtain ⟨rfl, G117⟩ := Q117
          have K122 : Keep h0 h117 [] := K98.trans K117 (allS (Or.inr (by omega)) (fun _ q => nomatch q))
          have lt_b81 := G117.lt
          exact w117.endW (v := some (.ref b81)) (Q := (fun v h => ∃ x cs, v = some (.ref x) ∧ n0 ≤ x ∧ Str Z h x cs h.size)) (wr := []) (h0 := h0) (fun h => by rw [Bd.returns] at h; cases h) Bd.notSynchronized (fun X hr => X.areturnOut hx rfl Bd.returns rfl (hb hby dsr_98) hr) (by decide) (by decide) ⟨b81, [c0, c1, c2], rfl, by omega, G117.more (by omega)⟩ K122
        · have w123 := w78.pure (mkF m 101 #[.val (.ref a), .val (.int n)] [(.int (4 : Int32)), (.int n)]) (fun X eT hZ hown k => by
              show Steps _ _ _ (State.setTop _ (mkF m 67 #[.val (.ref a), .val (.int n)] [(.int (3 : Int32)), (.int n)])) _
              refine S.icmpYes X.here hx 99 (hb hby dsr_67) (feq hc79).2 (by decide) (by decide) ?_
              refine S.iloadN X.here hx (hb hby dsr_99) rfl ?_
              refine S.iconst X.here hx (4 : Int32) (hb hby dsr_100) rfl ?_
              exact k)
          by_cases hc124 : n = (4 : Int32)
          · have w125 := w123.pure (mkF m 104 #[.val (.ref a), .val (.int n)] []) (fun X eT hZ hown k => by
                show Steps _ _ _ (State.setTop _ (mkF m 101 #[.val (.ref a), .val (.int n)] [(.int (4 : Int32)), (.int n)])) _
                refine S.icmpNo X.here hx (hb hby dsr_101) (teq hc124).2 ?_
                exact k)
            obtain ⟨b126, h126, g126, E126, l126, A126, D126, y126, w126⟩ := w125.newO hx (hw _ (List.mem_of_getElem? (i := 51) rfl)) (hw _ (List.mem_of_getElem? (i := 2) rfl)) (hw _ (List.mem_of_getElem? (i := 1) rfl)) rfl (hb hby dsr_104) (by decide) (by decide) (fun xq => (mkF m 107 #[.val (.ref a), .val (.int n)] (.ref xq :: []))) (fun _ => rfl)
            have z126 := E126.1
            have K127 : Keep h0 h126 [] := K0.ext E126
            have D126_4 : Fld Z h126 b126 "java/lang/String" "value" "[B" .null := D126 (Or.inr (hw _ (List.mem_of_getElem? (i := 4) rfl))) (ty := (.array .byte)) (by decide)
            have D126_5 : Fld Z h126 b126 "java/lang/String" "coder" "B" (.int (0 : Int32)) := D126 (Or.inr (hw _ (List.mem_of_getElem? (i := 5) rfl))) (ty := .byte) (by decide)
            have w128 := w126.pure (mkF m 109 #[.val (.ref a), .val (.int n)] [(.int (4 : Int32)), (.ref b126), (.ref b126)]) (fun X eT hZ hown k => by
                show Steps _ _ _ (State.setTop _ (mkF m 107 #[.val (.ref a), .val (.int n)] [(.ref b126)])) _
                refine S.dup X.here hx (hb hby dsr_107) rfl ?_
                refine S.iconst X.here hx (4 : Int32) (hb hby dsr_108) rfl ?_
                exact k)
            obtain ⟨b129, h129, k129, g129, E129, l129, A129, y129, w129⟩ := w128.newP hx (hw _ (List.mem_of_getElem? (i := 21) rfl)) rfl (hb hby dsr_109) rfl (by decide) 4 (by decide) (by decide) (by decide) (by decide) (fun xq => (mkF m 111 #[.val (.ref a), .val (.int n)] (.ref xq :: [(.ref b126), (.ref b126)]))) (fun _ => rfl)
            have z129 := E129.1
            have K130 : Keep h0 h129 [] := K127.ext E129
            have V129 : Arv Z h129 b129 k129 .char (4 : Int32) [(.int (0 : Int32)), (.int (0 : Int32)), (.int (0 : Int32)), (.int (0 : Int32))] (.int (0 : Int32)) := A129.pad (pad_rep [] (.int (0 : Int32)) 4)
            have F131 := V0.ext E126
            have F132 := F131.ext E129
            have w133 := w129.pure (mkF m 116 #[.val (.ref a), .val (.int n)] [(.int c0), (.int (0 : Int32)), (.ref b129), (.ref b129), (.ref b126), (.ref b126)]) (fun X eT hZ hown k => by
                show Steps _ _ _ (State.setTop _ (mkF m 111 #[.val (.ref a), .val (.int n)] [(.ref b129), (.ref b126), (.ref b126)])) _
                refine S.dup X.here hx (hb hby dsr_111) rfl ?_
                refine S.iconst X.here hx (0 : Int32) (hb hby dsr_112) rfl ?_
                refine S.aloadN X.here hx (hb hby dsr_113) rfl rfl ?_
                refine S.iconst X.here hx (0 : Int32) (hb hby dsr_114) rfl ?_
                refine caV X hx eT hZ F132 (v := (.int c0)) ⟨by decide, by decide⟩ rfl rfl rfl (hb hby dsr_115) ?_
                show Steps _ _ _ (State.setTop _ (mkF m 116 #[.val (.ref a), .val (.int n)] [(.int c0), (.int (0 : Int32)), (.ref b129), (.ref b129), (.ref b126), (.ref b126)])) _
                exact k)
            obtain ⟨h134, W134, z134, V134, w134⟩ := w133.stC hx V129 0 rfl (Nat.le_of_ble_eq_true rfl) ⟨by decide, by decide⟩ rfl rfl (hb hby dsr_116) (by omega) (mkF m 117 #[.val (.ref a), .val (.int n)] [(.ref b129), (.ref b126), (.ref b126)]) rfl
            rw [nar_rng r0] at V134
            have U134 : Arv Z h134 b129 k129 .char (4 : Int32) [(.int c0), (.int (0 : Int32)), (.int (0 : Int32)), (.int (0 : Int32))] (.int (0 : Int32)) := V134
            have K135 : Keep h0 h134 [] := K130.wr W134 (Or.inr (by omega))
            have F136 := F132.other W134 (nne (by omega))
            have w137 := w134.pure (mkF m 122 #[.val (.ref a), .val (.int n)] [(.int c1), (.int (1 : Int32)), (.ref b129), (.ref b129), (.ref b126), (.ref b126)]) (fun X eT hZ hown k => by
                show Steps _ _ _ (State.setTop _ (mkF m 117 #[.val (.ref a), .val (.int n)] [(.ref b129), (.ref b126), (.ref b126)])) _
                refine S.dup X.here hx (hb hby dsr_117) rfl ?_
                refine S.iconst X.here hx (1 : Int32) (hb hby dsr_118) rfl ?_
                refine S.aloadN X.here hx (hb hby dsr_119) rfl rfl ?_
                refine S.iconst X.here hx (1 : Int32) (hb hby dsr_120) rfl ?_
                refine caV X hx eT hZ F136 (v := (.int c1)) ⟨by decide, by decide⟩ rfl rfl rfl (hb hby dsr_121) ?_
                show Steps _ _ _ (State.setTop _ (mkF m 122 #[.val (.ref a), .val (.int n)] [(.int c1), (.int (1 : Int32)), (.ref b129), (.ref b129), (.ref b126), (.ref b126)])) _
                exact k)
            obtain ⟨h138, W138, z138, V138, w138⟩ := w137.stC hx U134 1 rfl (Nat.le_of_ble_eq_true rfl) ⟨by decide, by decide⟩ rfl rfl (hb hby dsr_122) (by omega) (mkF m 123 #[.val (.ref a), .val (.int n)] [(.ref b129), (.ref b126), (.ref b126)]) rfl
            rw [nar_rng r1] at V138
            have U138 : Arv Z h138 b129 k129 .char (4 : Int32) [(.int c0), (.int c1), (.int (0 : Int32)), (.int (0 : Int32))] (.int (0 : Int32)) := V138
            have K139 : Keep h0 h138 [] := K135.wr W138 (Or.inr (by omega))
            have F140 := F136.other W138 (nne (by omega))
            have w141 := w138.pure (mkF m 128 #[.val (.ref a), .val (.int n)] [(.int c2), (.int (2 : Int32)), (.ref b129), (.ref b129), (.ref b126), (.ref b126)]) (fun X eT hZ hown k => by
                show Steps _ _ _ (State.setTop _ (mkF m 123 #[.val (.ref a), .val (.int n)] [(.ref b129), (.ref b126), (.ref b126)])) _
                refine S.dup X.here hx (hb hby dsr_123) rfl ?_
                refine S.iconst X.here hx (2 : Int32) (hb hby dsr_124) rfl ?_
                refine S.aloadN X.here hx (hb hby dsr_125) rfl rfl ?_
                refine S.iconst X.here hx (2 : Int32) (hb hby dsr_126) rfl ?_
                refine caV X hx eT hZ F140 (v := (.int c2)) ⟨by decide, by decide⟩ rfl rfl rfl (hb hby dsr_127) ?_
                show Steps _ _ _ (State.setTop _ (mkF m 128 #[.val (.ref a), .val (.int n)] [(.int c2), (.int (2 : Int32)), (.ref b129), (.ref b129), (.ref b126), (.ref b126)])) _
                exact k)
            obtain ⟨h142, W142, z142, V142, w142⟩ := w141.stC hx U138 2 rfl (Nat.le_of_ble_eq_true rfl) ⟨by decide, by decide⟩ rfl rfl (hb hby dsr_128) (by omega) (mkF m 129 #[.val (.ref a), .val (.int n)] [(.ref b129), (.ref b126), (.ref b126)]) rfl
            rw [nar_rng r2] at V142
            have U142 : Arv Z h142 b129 k129 .char (4 : Int32) [(.int c0), (.int c1), (.int c2), (.int (0 : Int32))] (.int (0 : Int32)) := V142
            have K143 : Keep h0 h142 [] := K139.wr W142 (Or.inr (by omega))
            have F144 := F140.other W142 (nne (by omega))
            have w145 := w142.pure (mkF m 134 #[.val (.ref a), .val (.int n)] [(.int c3), (.int (3 : Int32)), (.ref b129), (.ref b129), (.ref b126), (.ref b126)]) (fun X eT hZ hown k => by
                show Steps _ _ _ (State.setTop _ (mkF m 129 #[.val (.ref a), .val (.int n)] [(.ref b129), (.ref b126), (.ref b126)])) _
                refine S.dup X.here hx (hb hby dsr_129) rfl ?_
                refine S.iconst X.here hx (3 : Int32) (hb hby dsr_130) rfl ?_
                refine S.aloadN X.here hx (hb hby dsr_131) rfl rfl ?_
                refine S.iconst X.here hx (3 : Int32) (hb hby dsr_132) rfl ?_
                refine caV X hx eT hZ F144 (v := (.int c3)) ⟨by decide, by decide⟩ rfl rfl rfl (hb hby dsr_133) ?_
                show Steps _ _ _ (State.setTop _ (mkF m 134 #[.val (.ref a), .val (.int n)] [(.int c3), (.int (3 : Int32)), (.ref b129), (.ref b129), (.ref b126), (.ref b126)])) _
                exact k)
            obtain ⟨h146, W146, z146, V146, w146⟩ := w145.stC hx U142 3 rfl (Nat.le_of_ble_eq_true rfl) ⟨by decide, by decide⟩ rfl rfl (hb hby dsr_134) (by omega) (mkF m 135 #[.val (.ref a), .val (.int n)] [(.ref b129), (.ref b126), (.ref b126)]) rfl
            rw [nar_rng r3] at V146
            have U146 : Arv Z h146 b129 k129 .char (4 : Int32) [(.int c0), (.int c1), (.int c2), (.int c3)] (.int (0 : Int32)) := V146
            have K147 : Keep h0 h146 [] := K143.wr W146 (Or.inr (by omega))
            have F148 := A126.ext E129
            have F149 := F148.wr W134
            have F150 := F149.wr W138
            have F151 := F150.wr W142
            have F152 := F151.wr W146
            have F153 := D126_4.ext E129
            have F154 := F153.other W134 (Or.inl (nne (by omega)))
            have F155 := F154.other W138 (Or.inl (nne (by omega)))
            have F156 := F155.other W142 (Or.inl (nne (by omega)))
            have F157 := F156.other W146 (Or.inl (nne (by omega)))
            have F158 := D126_5.ext E129
            have F159 := F158.other W134 (Or.inl (nne (by omega)))
            have F160 := F159.other W138 (Or.inl (nne (by omega)))
            have F161 := F160.other W142 (Or.inl (nne (by omega)))
            have F162 := F161.other W146 (Or.inl (nne (by omega)))
            have F163 := X0.ext E126
            have F164 := F163.ext E129
            have F165 := F164.wr W134 (by omega)
            have F166 := F165.wr W138 (by omega)
            have F167 := F166.wr W142 (by omega)
            have F168 := F167.wr W146 (by omega)
            have r169 : ∀ c ∈ ([c0, c1, c2, c3] : List Int32), ¬ c < 0 ∧ ¬ (255 : Int32) < c := (List.forall_mem_cons.mpr ⟨r0, (List.forall_mem_cons.mpr ⟨r1, (List.forall_mem_cons.mpr ⟨r2, (List.forall_mem_cons.mpr ⟨r3, (fun _ q => nomatch q)⟩)⟩)⟩)⟩)
            have F171 := Safe.ext E129 w128.chv y126
            have F172 := Safe.wr W134 (Safe.arv w133.al V129 (by decide)) w133.chv F171
            have F173 := Safe.wr W138 (Safe.arv w137.al U134 (by decide)) w137.chv F172
            have F174 := Safe.wr W142 (Safe.arv w141.al U138 (by decide)) w141.chv F173
            have F175 := Safe.wr W146 (Safe.arv w145.al U142 (by decide)) w145.chv F174
            obtain ⟨v170, h170, Q170, K170, z170, w170⟩ := w146.callI hx (y := (⟨"java/lang/String", "<init>", "([C)V"⟩ : MethodName)) (W := 1) rfl (hw _ (List.mem_of_getElem? (i := 52) rfl)) (hw _ (List.mem_of_getElem? (i := 53) rfl)) (hw _ (List.mem_of_getElem? (i := 54) rfl)) (by decide) (payNew hG w146.hZ hq_backV (hw _ (List.mem_of_getElem? (i := 2) rfl)) [c0, c1, c2, c3] 4 (by omega) F152 F157 F162 U146 F168 rfl rfl (by decide) (by decide) r169 (by decide) (by decide)) rfl (by rw [hml]; rfl) [(.ref b126)] (lenOf pd_3 rfl) rfl (by show 2 * 0 + _ ≤ _; exact Nat.le_of_eq rfl) (hb hby dsr_135) (by decide) (by decide) (sfS F175 sf0) (fun rv => (mkF m 138 #[.val (.ref a), .val (.int n)] (rv.toList ++ [(.ref b126)]))) (fun _ => rfl)
            obtain ⟨rfl, G170⟩ := Q170
            have K176 : Keep h0 h170 [] := K147.trans K170 (allS (Or.inr (by omega)) (fun _ q => nomatch q))
            have lt_b126 := G170.lt
            exact w170.endW (v := some (.ref b126)) (Q := (fun v h => ∃ x cs, v = some (.ref x) ∧ n0 ≤ x ∧ Str Z h x cs h.size)) (wr := []) (h0 := h0) (fun h => by rw [Bd.returns] at h; cases h) Bd.notSynchronized (fun X hr => X.areturnOut hx rfl Bd.returns rfl (hb hby dsr_138) hr) (by decide) (by decide) ⟨b126, [c0, c1, c2, c3], rfl, by omega, G170.more (by omega)⟩ K176
          · have w177 := w123.pure (mkF m 141 #[.val (.ref a), .val (.int n)] [(.int (5 : Int32)), (.int n)]) (fun X eT hZ hown k => by
                show Steps _ _ _ (State.setTop _ (mkF m 101 #[.val (.ref a), .val (.int n)] [(.int (4 : Int32)), (.int n)])) _
                refine S.icmpYes X.here hx 139 (hb hby dsr_101) (feq hc124).2 (by decide) (by decide) ?_
                refine S.iloadN X.here hx (hb hby dsr_139) rfl ?_
                refine S.iconst X.here hx (5 : Int32) (hb hby dsr_140) rfl ?_
                exact k)
            by_cases hc178 : n = (5 : Int32)
            · have w179 := w177.pure (mkF m 144 #[.val (.ref a), .val (.int n)] []) (fun X eT hZ hown k => by
                  show Steps _ _ _ (State.setTop _ (mkF m 141 #[.val (.ref a), .val (.int n)] [(.int (5 : Int32)), (.int n)])) _
                  refine S.icmpNo X.here hx (hb hby dsr_141) (teq hc178).2 ?_
                  exact k)
              obtain ⟨b180, h180, g180, E180, l180, A180, D180, y180, w180⟩ := w179.newO hx (hw _ (List.mem_of_getElem? (i := 51) rfl)) (hw _ (List.mem_of_getElem? (i := 2) rfl)) (hw _ (List.mem_of_getElem? (i := 1) rfl)) rfl (hb hby dsr_144) (by decide) (by decide) (fun xq => (mkF m 147 #[.val (.ref a), .val (.int n)] (.ref xq :: []))) (fun _ => rfl)
              have z180 := E180.1
              have K181 : Keep h0 h180 [] := K0.ext E180
              have D180_4 : Fld Z h180 b180 "java/lang/String" "value" "[B" .null := D180 (Or.inr (hw _ (List.mem_of_getElem? (i := 4) rfl))) (ty := (.array .byte)) (by decide)
              have D180_5 : Fld Z h180 b180 "java/lang/String" "coder" "B" (.int (0 : Int32)) := D180 (Or.inr (hw _ (List.mem_of_getElem? (i := 5) rfl))) (ty := .byte) (by decide)
              have w182 := w180.pure (mkF m 149 #[.val (.ref a), .val (.int n)] [(.int (5 : Int32)), (.ref b180), (.ref b180)]) (fun X eT hZ hown k => by
                  show Steps _ _ _ (State.setTop _ (mkF m 147 #[.val (.ref a), .val (.int n)] [(.ref b180)])) _
                  refine S.dup X.here hx (hb hby dsr_147) rfl ?_
                  refine S.iconst X.here hx (5 : Int32) (hb hby dsr_148) rfl ?_
                  exact k)
              obtain ⟨b183, h183, k183, g183, E183, l183, A183, y183, w183⟩ := w182.newP hx (hw _ (List.mem_of_getElem? (i := 21) rfl)) rfl (hb hby dsr_149) rfl (by decide) 5 (by decide) (by decide) (by decide) (by decide) (fun xq => (mkF m 151 #[.val (.ref a), .val (.int n)] (.ref xq :: [(.ref b180), (.ref b180)]))) (fun _ => rfl)
              have z183 := E183.1
              have K184 : Keep h0 h183 [] := K181.ext E183
              have V183 : Arv Z h183 b183 k183 .char (5 : Int32) [(.int (0 : Int32)), (.int (0 : Int32)), (.int (0 : Int32)), (.int (0 : Int32)), (.int (0 : Int32))] (.int (0 : Int32)) := A183.pad (pad_rep [] (.int (0 : Int32)) 5)
              have F185 := V0.ext E180
              have F186 := F185.ext E183
              have w187 := w183.pure (mkF m 156 #[.val (.ref a), .val (.int n)] [(.int c0), (.int (0 : Int32)), (.ref b183), (.ref b183), (.ref b180), (.ref b180)]) (fun X eT hZ hown k => by
                  show Steps _ _ _ (State.setTop _ (mkF m 151 #[.val (.ref a), .val (.int n)] [(.ref b183), (.ref b180), (.ref b180)])) _
                  refine S.dup X.here hx (hb hby dsr_151) rfl ?_
                  refine S.iconst X.here hx (0 : Int32) (hb hby dsr_152) rfl ?_
                  refine S.aloadN X.here hx (hb hby dsr_153) rfl rfl ?_
                  refine S.iconst X.here hx (0 : Int32) (hb hby dsr_154) rfl ?_
                  refine caV X hx eT hZ F186 (v := (.int c0)) ⟨by decide, by decide⟩ rfl rfl rfl (hb hby dsr_155) ?_
                  show Steps _ _ _ (State.setTop _ (mkF m 156 #[.val (.ref a), .val (.int n)] [(.int c0), (.int (0 : Int32)), (.ref b183), (.ref b183), (.ref b180), (.ref b180)])) _
                  exact k)
              obtain ⟨h188, W188, z188, V188, w188⟩ := w187.stC hx V183 0 rfl (Nat.le_of_ble_eq_true rfl) ⟨by decide, by decide⟩ rfl rfl (hb hby dsr_156) (by omega) (mkF m 157 #[.val (.ref a), .val (.int n)] [(.ref b183), (.ref b180), (.ref b180)]) rfl
              rw [nar_rng r0] at V188
              have U188 : Arv Z h188 b183 k183 .char (5 : Int32) [(.int c0), (.int (0 : Int32)), (.int (0 : Int32)), (.int (0 : Int32)), (.int (0 : Int32))] (.int (0 : Int32)) := V188
              have K189 : Keep h0 h188 [] := K184.wr W188 (Or.inr (by omega))
              have F190 := F186.other W188 (nne (by omega))
              have w191 := w188.pure (mkF m 162 #[.val (.ref a), .val (.int n)] [(.int c1), (.int (1 : Int32)), (.ref b183), (.ref b183), (.ref b180), (.ref b180)]) (fun X eT hZ hown k => by
                  show Steps _ _ _ (State.setTop _ (mkF m 157 #[.val (.ref a), .val (.int n)] [(.ref b183), (.ref b180), (.ref b180)])) _
                  refine S.dup X.here hx (hb hby dsr_157) rfl ?_
                  refine S.iconst X.here hx (1 : Int32) (hb hby dsr_158) rfl ?_
                  refine S.aloadN X.here hx (hb hby dsr_159) rfl rfl ?_
                  refine S.iconst X.here hx (1 : Int32) (hb hby dsr_160) rfl ?_
                  refine caV X hx eT hZ F190 (v := (.int c1)) ⟨by decide, by decide⟩ rfl rfl rfl (hb hby dsr_161) ?_
                  show Steps _ _ _ (State.setTop _ (mkF m 162 #[.val (.ref a), .val (.int n)] [(.int c1), (.int (1 : Int32)), (.ref b183), (.ref b183), (.ref b180), (.ref b180)])) _
                  exact k)
              obtain ⟨h192, W192, z192, V192, w192⟩ := w191.stC hx U188 1 rfl (Nat.le_of_ble_eq_true rfl) ⟨by decide, by decide⟩ rfl rfl (hb hby dsr_162) (by omega) (mkF m 163 #[.val (.ref a), .val (.int n)] [(.ref b183), (.ref b180), (.ref b180)]) rfl
              rw [nar_rng r1] at V192
              have U192 : Arv Z h192 b183 k183 .char (5 : Int32) [(.int c0), (.int c1), (.int (0 : Int32)), (.int (0 : Int32)), (.int (0 : Int32))] (.int (0 : Int32)) := V192
              have K193 : Keep h0 h192 [] := K189.wr W192 (Or.inr (by omega))
              have F194 := F190.other W192 (nne (by omega))
              have w195 := w192.pure (mkF m 168 #[.val (.ref a), .val (.int n)] [(.int c2), (.int (2 : Int32)), (.ref b183), (.ref b183), (.ref b180), (.ref b180)]) (fun X eT hZ hown k => by
                  show Steps _ _ _ (State.setTop _ (mkF m 163 #[.val (.ref a), .val (.int n)] [(.ref b183), (.ref b180), (.ref b180)])) _
                  refine S.dup X.here hx (hb hby dsr_163) rfl ?_
                  refine S.iconst X.here hx (2 : Int32) (hb hby dsr_164) rfl ?_
                  refine S.aloadN X.here hx (hb hby dsr_165) rfl rfl ?_
                  refine S.iconst X.here hx (2 : Int32) (hb hby dsr_166) rfl ?_
                  refine caV X hx eT hZ F194 (v := (.int c2)) ⟨by decide, by decide⟩ rfl rfl rfl (hb hby dsr_167) ?_
                  show Steps _ _ _ (State.setTop _ (mkF m 168 #[.val (.ref a), .val (.int n)] [(.int c2), (.int (2 : Int32)), (.ref b183), (.ref b183), (.ref b180), (.ref b180)])) _
                  exact k)
              obtain ⟨h196, W196, z196, V196, w196⟩ := w195.stC hx U192 2 rfl (Nat.le_of_ble_eq_true rfl) ⟨by decide, by decide⟩ rfl rfl (hb hby dsr_168) (by omega) (mkF m 169 #[.val (.ref a), .val (.int n)] [(.ref b183), (.ref b180), (.ref b180)]) rfl
              rw [nar_rng r2] at V196
              have U196 : Arv Z h196 b183 k183 .char (5 : Int32) [(.int c0), (.int c1), (.int c2), (.int (0 : Int32)), (.int (0 : Int32))] (.int (0 : Int32)) := V196
              have K197 : Keep h0 h196 [] := K193.wr W196 (Or.inr (by omega))
              have F198 := F194.other W196 (nne (by omega))
              have w199 := w196.pure (mkF m 174 #[.val (.ref a), .val (.int n)] [(.int c3), (.int (3 : Int32)), (.ref b183), (.ref b183), (.ref b180), (.ref b180)]) (fun X eT hZ hown k => by
                  show Steps _ _ _ (State.setTop _ (mkF m 169 #[.val (.ref a), .val (.int n)] [(.ref b183), (.ref b180), (.ref b180)])) _
                  refine S.dup X.here hx (hb hby dsr_169) rfl ?_
                  refine S.iconst X.here hx (3 : Int32) (hb hby dsr_170) rfl ?_
                  refine S.aloadN X.here hx (hb hby dsr_171) rfl rfl ?_
                  refine S.iconst X.here hx (3 : Int32) (hb hby dsr_172) rfl ?_
                  refine caV X hx eT hZ F198 (v := (.int c3)) ⟨by decide, by decide⟩ rfl rfl rfl (hb hby dsr_173) ?_
                  show Steps _ _ _ (State.setTop _ (mkF m 174 #[.val (.ref a), .val (.int n)] [(.int c3), (.int (3 : Int32)), (.ref b183), (.ref b183), (.ref b180), (.ref b180)])) _
                  exact k)
              obtain ⟨h200, W200, z200, V200, w200⟩ := w199.stC hx U196 3 rfl (Nat.le_of_ble_eq_true rfl) ⟨by decide, by decide⟩ rfl rfl (hb hby dsr_174) (by omega) (mkF m 175 #[.val (.ref a), .val (.int n)] [(.ref b183), (.ref b180), (.ref b180)]) rfl
              rw [nar_rng r3] at V200
              have U200 : Arv Z h200 b183 k183 .char (5 : Int32) [(.int c0), (.int c1), (.int c2), (.int c3), (.int (0 : Int32))] (.int (0 : Int32)) := V200
              have K201 : Keep h0 h200 [] := K197.wr W200 (Or.inr (by omega))
              have F202 := F198.other W200 (nne (by omega))
              have w203 := w200.pure (mkF m 180 #[.val (.ref a), .val (.int n)] [(.int c4), (.int (4 : Int32)), (.ref b183), (.ref b183), (.ref b180), (.ref b180)]) (fun X eT hZ hown k => by
                  show Steps _ _ _ (State.setTop _ (mkF m 175 #[.val (.ref a), .val (.int n)] [(.ref b183), (.ref b180), (.ref b180)])) _
                  refine S.dup X.here hx (hb hby dsr_175) rfl ?_
                  refine S.iconst X.here hx (4 : Int32) (hb hby dsr_176) rfl ?_
                  refine S.aloadN X.here hx (hb hby dsr_177) rfl rfl ?_
                  refine S.iconst X.here hx (4 : Int32) (hb hby dsr_178) rfl ?_
                  refine caV X hx eT hZ F202 (v := (.int c4)) ⟨by decide, by decide⟩ rfl rfl rfl (hb hby dsr_179) ?_
                  show Steps _ _ _ (State.setTop _ (mkF m 180 #[.val (.ref a), .val (.int n)] [(.int c4), (.int (4 : Int32)), (.ref b183), (.ref b183), (.ref b180), (.ref b180)])) _
                  exact k)
              obtain ⟨h204, W204, z204, V204, w204⟩ := w203.stC hx U200 4 rfl (Nat.le_of_ble_eq_true rfl) ⟨by decide, by decide⟩ rfl rfl (hb hby dsr_180) (by omega) (mkF m 181 #[.val (.ref a), .val (.int n)] [(.ref b183), (.ref b180), (.ref b180)]) rfl
              rw [nar_rng r4] at V204
              have U204 : Arv Z h204 b183 k183 .char (5 : Int32) [(.int c0), (.int c1), (.int c2), (.int c3), (.int c4)] (.int (0 : Int32)) := V204
              have K205 : Keep h0 h204 [] := K201.wr W204 (Or.inr (by omega))
              have F206 := A180.ext E183
              have F207 := F206.wr W188
              have F208 := F207.wr W192
              have F209 := F208.wr W196
              have F210 := F209.wr W200
              have F211 := F210.wr W204
              have F212 := D180_4.ext E183
              have F213 := F212.other W188 (Or.inl (nne (by omega)))
              have F214 := F213.other W192 (Or.inl (nne (by omega)))
              have F215 := F214.other W196 (Or.inl (nne (by omega)))
              have F216 := F215.other W200 (Or.inl (nne (by omega)))
              have F217 := F216.other W204 (Or.inl (nne (by omega)))
              have F218 := D180_5.ext E183
              have F219 := F218.other W188 (Or.inl (nne (by omega)))
              have F220 := F219.other W192 (Or.inl (nne (by omega)))
              have F221 := F220.other W196 (Or.inl (nne (by omega)))
              have F222 := F221.other W200 (Or.inl (nne (by omega)))
              have F223 := F222.other W204 (Or.inl (nne (by omega)))
              have F224 := X0.ext E180
              have F225 := F224.ext E183
              have F226 := F225.wr W188 (by omega)
              have F227 := F226.wr W192 (by omega)
              have F228 := F227.wr W196 (by omega)
              have F229 := F228.wr W200 (by omega)
              have F230 := F229.wr W204 (by omega)
              have r231 : ∀ c ∈ ([c0, c1, c2, c3, c4] : List Int32), ¬ c < 0 ∧ ¬ (255 : Int32) < c := (List.forall_mem_cons.mpr ⟨r0, (List.forall_mem_cons.mpr ⟨r1, (List.forall_mem_cons.mpr ⟨r2, (List.forall_mem_cons.mpr ⟨r3, (List.forall_mem_cons.mpr ⟨r4, (fun _ q => nomatch q)⟩)⟩)⟩)⟩)⟩)
              have F233 := Safe.ext E183 w182.chv y180
              have F234 := Safe.wr W188 (Safe.arv w187.al V183 (by decide)) w187.chv F233
              have F235 := Safe.wr W192 (Safe.arv w191.al U188 (by decide)) w191.chv F234
              have F236 := Safe.wr W196 (Safe.arv w195.al U192 (by decide)) w195.chv F235
              have F237 := Safe.wr W200 (Safe.arv w199.al U196 (by decide)) w199.chv F236
              have F238 := Safe.wr W204 (Safe.arv w203.al U200 (by decide)) w203.chv F237
              obtain ⟨v232, h232, Q232, K232, z232, w232⟩ := w204.callI hx (y := (⟨"java/lang/String", "<init>", "([C)V"⟩ : MethodName)) (W := 1) rfl (hw _ (List.mem_of_getElem? (i := 52) rfl)) (hw _ (List.mem_of_getElem? (i := 53) rfl)) (hw _ (List.mem_of_getElem? (i := 54) rfl)) (by decide) (payNew hG w204.hZ hq_backV (hw _ (List.mem_of_getElem? (i := 2) rfl)) [c0, c1, c2, c3, c4] 5 (by omega) F211 F217 F223 U204 F230 rfl rfl (by decide) (by decide) r231 (by decide) (by decide)) rfl (by rw [hml]; rfl) [(.ref b180)] (lenOf pd_3 rfl) rfl (by show 2 * 0 + _ ≤ _; exact Nat.le_of_eq rfl) (hb hby dsr_181) (by decide) (by decide) (sfS F238 sf0) (fun rv => (mkF m 184 #[.val (.ref a), .val (.int n)] (rv.toList ++ [(.ref b180)]))) (fun _ => rfl)
              obtain ⟨rfl, G232⟩ := Q232
              have K239 : Keep h0 h232 [] := K205.trans K232 (allS (Or.inr (by omega)) (fun _ q => nomatch q))
              have lt_b180 := G232.lt
              exact w232.endW (v := some (.ref b180)) (Q := (fun v h => ∃ x cs, v = some (.ref x) ∧ n0 ≤ x ∧ Str Z h x cs h.size)) (wr := []) (h0 := h0) (fun h => by rw [Bd.returns] at h; cases h) Bd.notSynchronized (fun X hr => X.areturnOut hx rfl Bd.returns rfl (hb hby dsr_184) hr) (by decide) (by decide) ⟨b180, [c0, c1, c2, c3, c4], rfl, by omega, G232.more (by omega)⟩ K239
            · have w240 := w177.pure (mkF m 188 #[.val (.ref a), .val (.int n)] [(.int (6 : Int32)), (.int n)]) (fun X eT hZ hown k => by
                  show Steps _ _ _ (State.setTop _ (mkF m 141 #[.val (.ref a), .val (.int n)] [(.int (5 : Int32)), (.int n)])) _
                  refine S.icmpYes X.here hx 185 (hb hby dsr_141) (feq hc178).2 (by decide) (by decide) ?_
                  refine S.iloadN X.here hx (hb hby dsr_185) rfl ?_
                  refine S.bipush X.here hx (6 : Int32) (hb hby dsr_186) rfl ?_
                  exact k)
              by_cases hc241 : n = (6 : Int32)
              · have w242 := w240.pure (mkF m 191 #[.val (.ref a), .val (.int n)] []) (fun X eT hZ hown k => by
                    show Steps _ _ _ (State.setTop _ (mkF m 188 #[.val (.ref a), .val (.int n)] [(.int (6 : Int32)), (.int n)])) _
                    refine S.icmpNo X.here hx (hb hby dsr_188) (teq hc241).2 ?_
                    exact k)
                obtain ⟨b243, h243, g243, E243, l243, A243, D243, y243, w243⟩ := w242.newO hx (hw _ (List.mem_of_getElem? (i := 51) rfl)) (hw _ (List.mem_of_getElem? (i := 2) rfl)) (hw _ (List.mem_of_getElem? (i := 1) rfl)) rfl (hb hby dsr_191) (by decide) (by decide) (fun xq => (mkF m 194 #[.val (.ref a), .val (.int n)] (.ref xq :: []))) (fun _ => rfl)
                have z243 := E243.1
                have K244 : Keep h0 h243 [] := K0.ext E243
                have D243_4 : Fld Z h243 b243 "java/lang/String" "value" "[B" .null := D243 (Or.inr (hw _ (List.mem_of_getElem? (i := 4) rfl))) (ty := (.array .byte)) (by decide)
                have D243_5 : Fld Z h243 b243 "java/lang/String" "coder" "B" (.int (0 : Int32)) := D243 (Or.inr (hw _ (List.mem_of_getElem? (i := 5) rfl))) (ty := .byte) (by decide)
                have w245 := w243.pure (mkF m 197 #[.val (.ref a), .val (.int n)] [(.int (6 : Int32)), (.ref b243), (.ref b243)]) (fun X eT hZ hown k => by
                    show Steps _ _ _ (State.setTop _ (mkF m 194 #[.val (.ref a), .val (.int n)] [(.ref b243)])) _
                    refine S.dup X.here hx (hb hby dsr_194) rfl ?_
                    refine S.bipush X.here hx (6 : Int32) (hb hby dsr_195) rfl ?_
                    exact k)
                obtain ⟨b246, h246, k246, g246, E246, l246, A246, y246, w246⟩ := w245.newP hx (hw _ (List.mem_of_getElem? (i := 21) rfl)) rfl (hb hby dsr_197) rfl (by decide) 6 (by decide) (by decide) (by decide) (by decide) (fun xq => (mkF m 199 #[.val (.ref a), .val (.int n)] (.ref xq :: [(.ref b243), (.ref b243)]))) (fun _ => rfl)
                have z246 := E246.1
                have K247 : Keep h0 h246 [] := K244.ext E246
                have V246 : Arv Z h246 b246 k246 .char (6 : Int32) [(.int (0 : Int32)), (.int (0 : Int32)), (.int (0 : Int32)), (.int (0 : Int32)), (.int (0 : Int32)), (.int (0 : Int32))] (.int (0 : Int32)) := A246.pad (pad_rep [] (.int (0 : Int32)) 6)
                have F248 := V0.ext E243
                have F249 := F248.ext E246
                have w250 := w246.pure (mkF m 204 #[.val (.ref a), .val (.int n)] [(.int c0), (.int (0 : Int32)), (.ref b246), (.ref b246), (.ref b243), (.ref b243)]) (fun X eT hZ hown k => by
                    show Steps _ _ _ (State.setTop _ (mkF m 199 #[.val (.ref a), .val (.int n)] [(.ref b246), (.ref b243), (.ref b243)])) _
                    refine S.dup X.here hx (hb hby dsr_199) rfl ?_
                    refine S.iconst X.here hx (0 : Int32) (hb hby dsr_200) rfl ?_
                    refine S.aloadN X.here hx (hb hby dsr_201) rfl rfl ?_
                    refine S.iconst X.here hx (0 : Int32) (hb hby dsr_202) rfl ?_
                    refine caV X hx eT hZ F249 (v := (.int c0)) ⟨by decide, by decide⟩ rfl rfl rfl (hb hby dsr_203) ?_
                    show Steps _ _ _ (State.setTop _ (mkF m 204 #[.val (.ref a), .val (.int n)] [(.int c0), (.int (0 : Int32)), (.ref b246), (.ref b246), (.ref b243), (.ref b243)])) _
                    exact k)
                obtain ⟨h251, W251, z251, V251, w251⟩ := w250.stC hx V246 0 rfl (Nat.le_of_ble_eq_true rfl) ⟨by decide, by decide⟩ rfl rfl (hb hby dsr_204) (by omega) (mkF m 205 #[.val (.ref a), .val (.int n)] [(.ref b246), (.ref b243), (.ref b243)]) rfl
                rw [nar_rng r0] at V251
                have U251 : Arv Z h251 b246 k246 .char (6 : Int32) [(.int c0), (.int (0 : Int32)), (.int (0 : Int32)), (.int (0 : Int32)), (.int (0 : Int32)), (.int (0 : Int32))] (.int (0 : Int32)) := V251
                have K252 : Keep h0 h251 [] := K247.wr W251 (Or.inr (by omega))
                have F253 := F249.other W251 (nne (by omega))
                have w254 := w251.pure (mkF m 210 #[.val (.ref a), .val (.int n)] [(.int c1), (.int (1 : Int32)), (.ref b246), (.ref b246), (.ref b243), (.ref b243)]) (fun X eT hZ hown k => by
                    show Steps _ _ _ (State.setTop _ (mkF m 205 #[.val (.ref a), .val (.int n)] [(.ref b246), (.ref b243), (.ref b243)])) _
                    refine S.dup X.here hx (hb hby dsr_205) rfl ?_
                    refine S.iconst X.here hx (1 : Int32) (hb hby dsr_206) rfl ?_
                    refine S.aloadN X.here hx (hb hby dsr_207) rfl rfl ?_
                    refine S.iconst X.here hx (1 : Int32) (hb hby dsr_208) rfl ?_
                    refine caV X hx eT hZ F253 (v := (.int c1)) ⟨by decide, by decide⟩ rfl rfl rfl (hb hby dsr_209) ?_
                    show Steps _ _ _ (State.setTop _ (mkF m 210 #[.val (.ref a), .val (.int n)] [(.int c1), (.int (1 : Int32)), (.ref b246), (.ref b246), (.ref b243), (.ref b243)])) _
                    exact k)
                obtain ⟨h255, W255, z255, V255, w255⟩ := w254.stC hx U251 1 rfl (Nat.le_of_ble_eq_true rfl) ⟨by decide, by decide⟩ rfl rfl (hb hby dsr_210) (by omega) (mkF m 211 #[.val (.ref a), .val (.int n)] [(.ref b246), (.ref b243), (.ref b243)]) rfl
                rw [nar_rng r1] at V255
                have U255 : Arv Z h255 b246 k246 .char (6 : Int32) [(.int c0), (.int c1), (.int (0 : Int32)), (.int (0 : Int32)), (.int (0 : Int32)), (.int (0 : Int32))] (.int (0 : Int32)) := V255
                have K256 : Keep h0 h255 [] := K252.wr W255 (Or.inr (by omega))
                have F257 := F253.other W255 (nne (by omega))
                have w258 := w255.pure (mkF m 216 #[.val (.ref a), .val (.int n)] [(.int c2), (.int (2 : Int32)), (.ref b246), (.ref b246), (.ref b243), (.ref b243)]) (fun X eT hZ hown k => by
                    show Steps _ _ _ (State.setTop _ (mkF m 211 #[.val (.ref a), .val (.int n)] [(.ref b246), (.ref b243), (.ref b243)])) _
                    refine S.dup X.here hx (hb hby dsr_211) rfl ?_
                    refine S.iconst X.here hx (2 : Int32) (hb hby dsr_212) rfl ?_
                    refine S.aloadN X.here hx (hb hby dsr_213) rfl rfl ?_
                    refine S.iconst X.here hx (2 : Int32) (hb hby dsr_214) rfl ?_
                    refine caV X hx eT hZ F257 (v := (.int c2)) ⟨by decide, by decide⟩ rfl rfl rfl (hb hby dsr_215) ?_
                    show Steps _ _ _ (State.setTop _ (mkF m 216 #[.val (.ref a), .val (.int n)] [(.int c2), (.int (2 : Int32)), (.ref b246), (.ref b246), (.ref b243), (.ref b243)])) _
                    exact k)
                obtain ⟨h259, W259, z259, V259, w259⟩ := w258.stC hx U255 2 rfl (Nat.le_of_ble_eq_true rfl) ⟨by decide, by decide⟩ rfl rfl (hb hby dsr_216) (by omega) (mkF m 217 #[.val (.ref a), .val (.int n)] [(.ref b246), (.ref b243), (.ref b243)]) rfl
                rw [nar_rng r2] at V259
                have U259 : Arv Z h259 b246 k246 .char (6 : Int32) [(.int c0), (.int c1), (.int c2), (.int (0 : Int32)), (.int (0 : Int32)), (.int (0 : Int32))] (.int (0 : Int32)) := V259
                have K260 : Keep h0 h259 [] := K256.wr W259 (Or.inr (by omega))
                have F261 := F257.other W259 (nne (by omega))
                have w262 := w259.pure (mkF m 222 #[.val (.ref a), .val (.int n)] [(.int c3), (.int (3 : Int32)), (.ref b246), (.ref b246), (.ref b243), (.ref b243)]) (fun X eT hZ hown k => by
                    show Steps _ _ _ (State.setTop _ (mkF m 217 #[.val (.ref a), .val (.int n)] [(.ref b246), (.ref b243), (.ref b243)])) _
                    refine S.dup X.here hx (hb hby dsr_217) rfl ?_
                    refine S.iconst X.here hx (3 : Int32) (hb hby dsr_218) rfl ?_
                    refine S.aloadN X.here hx (hb hby dsr_219) rfl rfl ?_
                    refine S.iconst X.here hx (3 : Int32) (hb hby dsr_220) rfl ?_
                    refine caV X hx eT hZ F261 (v := (.int c3)) ⟨by decide, by decide⟩ rfl rfl rfl (hb hby dsr_221) ?_
                    show Steps _ _ _ (State.setTop _ (mkF m 222 #[.val (.ref a), .val (.int n)] [(.int c3), (.int (3 : Int32)), (.ref b246), (.ref b246), (.ref b243), (.ref b243)])) _
                    exact k)
                obtain ⟨h263, W263, z263, V263, w263⟩ := w262.stC hx U259 3 rfl (Nat.le_of_ble_eq_true rfl) ⟨by decide, by decide⟩ rfl rfl (hb hby dsr_222) (by omega) (mkF m 223 #[.val (.ref a), .val (.int n)] [(.ref b246), (.ref b243), (.ref b243)]) rfl
                rw [nar_rng r3] at V263
                have U263 : Arv Z h263 b246 k246 .char (6 : Int32) [(.int c0), (.int c1), (.int c2), (.int c3), (.int (0 : Int32)), (.int (0 : Int32))] (.int (0 : Int32)) := V263
                have K264 : Keep h0 h263 [] := K260.wr W263 (Or.inr (by omega))
                have F265 := F261.other W263 (nne (by omega))
                have w266 := w263.pure (mkF m 228 #[.val (.ref a), .val (.int n)] [(.int c4), (.int (4 : Int32)), (.ref b246), (.ref b246), (.ref b243), (.ref b243)]) (fun X eT hZ hown k => by
                    show Steps _ _ _ (State.setTop _ (mkF m 223 #[.val (.ref a), .val (.int n)] [(.ref b246), (.ref b243), (.ref b243)])) _
                    refine S.dup X.here hx (hb hby dsr_223) rfl ?_
                    refine S.iconst X.here hx (4 : Int32) (hb hby dsr_224) rfl ?_
                    refine S.aloadN X.here hx (hb hby dsr_225) rfl rfl ?_
                    refine S.iconst X.here hx (4 : Int32) (hb hby dsr_226) rfl ?_
                    refine caV X hx eT hZ F265 (v := (.int c4)) ⟨by decide, by decide⟩ rfl rfl rfl (hb hby dsr_227) ?_
                    show Steps _ _ _ (State.setTop _ (mkF m 228 #[.val (.ref a), .val (.int n)] [(.int c4), (.int (4 : Int32)), (.ref b246), (.ref b246), (.ref b243), (.ref b243)])) _
                    exact k)
                obtain ⟨h267, W267, z267, V267, w267⟩ := w266.stC hx U263 4 rfl (Nat.le_of_ble_eq_true rfl) ⟨by decide, by decide⟩ rfl rfl (hb hby dsr_228) (by omega) (mkF m 229 #[.val (.ref a), .val (.int n)] [(.ref b246), (.ref b243), (.ref b243)]) rfl
                rw [nar_rng r4] at V267
                have U267 : Arv Z h267 b246 k246 .char (6 : Int32) [(.int c0), (.int c1), (.int c2), (.int c3), (.int c4), (.int (0 : Int32))] (.int (0 : Int32)) := V267
                have K268 : Keep h0 h267 [] := K264.wr W267 (Or.inr (by omega))
                have F269 := F265.other W267 (nne (by omega))
                have w270 := w267.pure (mkF m 234 #[.val (.ref a), .val (.int n)] [(.int c5), (.int (5 : Int32)), (.ref b246), (.ref b246), (.ref b243), (.ref b243)]) (fun X eT hZ hown k => by
                    show Steps _ _ _ (State.setTop _ (mkF m 229 #[.val (.ref a), .val (.int n)] [(.ref b246), (.ref b243), (.ref b243)])) _
                    refine S.dup X.here hx (hb hby dsr_229) rfl ?_
                    refine S.iconst X.here hx (5 : Int32) (hb hby dsr_230) rfl ?_
                    refine S.aloadN X.here hx (hb hby dsr_231) rfl rfl ?_
                    refine S.iconst X.here hx (5 : Int32) (hb hby dsr_232) rfl ?_
                    refine caV X hx eT hZ F269 (v := (.int c5)) ⟨by decide, by decide⟩ rfl rfl rfl (hb hby dsr_233) ?_
                    show Steps _ _ _ (State.setTop _ (mkF m 234 #[.val (.ref a), .val (.int n)] [(.int c5), (.int (5 : Int32)), (.ref b246), (.ref b246), (.ref b243), (.ref b243)])) _
                    exact k)
                obtain ⟨h271, W271, z271, V271, w271⟩ := w270.stC hx U267 5 rfl (Nat.le_of_ble_eq_true rfl) ⟨by decide, by decide⟩ rfl rfl (hb hby dsr_234) (by omega) (mkF m 235 #[.val (.ref a), .val (.int n)] [(.ref b246), (.ref b243), (.ref b243)]) rfl
                rw [nar_rng r5] at V271
                have U271 : Arv Z h271 b246 k246 .char (6 : Int32) [(.int c0), (.int c1), (.int c2), (.int c3), (.int c4), (.int c5)] (.int (0 : Int32)) := V271
                have K272 : Keep h0 h271 [] := K268.wr W271 (Or.inr (by omega))
                have F273 := A243.ext E246
                have F274 := F273.wr W251
                have F275 := F274.wr W255
                have F276 := F275.wr W259
                have F277 := F276.wr W263
                have F278 := F277.wr W267
                have F279 := F278.wr W271
                have F280 := D243_4.ext E246
                have F281 := F280.other W251 (Or.inl (nne (by omega)))
                have F282 := F281.other W255 (Or.inl (nne (by omega)))
                have F283 := F282.other W259 (Or.inl (nne (by omega)))
                have F284 := F283.other W263 (Or.inl (nne (by omega)))
                have F285 := F284.other W267 (Or.inl (nne (by omega)))
                have F286 := F285.other W271 (Or.inl (nne (by omega)))
                have F287 := D243_5.ext E246
                have F288 := F287.other W251 (Or.inl (nne (by omega)))
                have F289 := F288.other W255 (Or.inl (nne (by omega)))
                have F290 := F289.other W259 (Or.inl (nne (by omega)))
                have F291 := F290.other W263 (Or.inl (nne (by omega)))
                have F292 := F291.other W267 (Or.inl (nne (by omega)))
                have F293 := F292.other W271 (Or.inl (nne (by omega)))
                have F294 := X0.ext E243
                have F295 := F294.ext E246
                have F296 := F295.wr W251 (by omega)
                have F297 := F296.wr W255 (by omega)
                have F298 := F297.wr W259 (by omega)
                have F299 := F298.wr W263 (by omega)
                have F300 := F299.wr W267 (by omega)
                have F301 := F300.wr W271 (by omega)
                have r302 : ∀ c ∈ ([c0, c1, c2, c3, c4, c5] : List Int32), ¬ c < 0 ∧ ¬ (255 : Int32) < c := (List.forall_mem_cons.mpr ⟨r0, (List.forall_mem_cons.mpr ⟨r1, (List.forall_mem_cons.mpr ⟨r2, (List.forall_mem_cons.mpr ⟨r3, (List.forall_mem_cons.mpr ⟨r4, (List.forall_mem_cons.mpr ⟨r5, (fun _ q => nomatch q)⟩)⟩)⟩)⟩)⟩)⟩)
                have F304 := Safe.ext E246 w245.chv y243
                have F305 := Safe.wr W251 (Safe.arv w250.al V246 (by decide)) w250.chv F304
                have F306 := Safe.wr W255 (Safe.arv w254.al U251 (by decide)) w254.chv F305
                have F307 := Safe.wr W259 (Safe.arv w258.al U255 (by decide)) w258.chv F306
                have F308 := Safe.wr W263 (Safe.arv w262.al U259 (by decide)) w262.chv F307
                have F309 := Safe.wr W267 (Safe.arv w266.al U263 (by decide)) w266.chv F308
                have F310 := Safe.wr W271 (Safe.arv w270.al U267 (by decide)) w270.chv F309
                obtain ⟨v303, h303, Q303, K303, z303, w303⟩ := w271.callI hx (y := (⟨"java/lang/String", "<init>", "([C)V"⟩ : MethodName)) (W := 1) rfl (hw _ (List.mem_of_getElem? (i := 52) rfl)) (hw _ (List.mem_of_getElem? (i := 53) rfl)) (hw _ (List.mem_of_getElem? (i := 54) rfl)) (by decide) (payNew hG w271.hZ hq_backV (hw _ (List.mem_of_getElem? (i := 2) rfl)) [c0, c1, c2, c3, c4, c5] 6 (by omega) F279 F286 F293 U271 F301 rfl rfl (by decide) (by decide) r302 (by decide) (by decide)) rfl (by rw [hml]; rfl) [(.ref b243)] (lenOf pd_3 rfl) rfl (by show 2 * 0 + _ ≤ _; exact Nat.le_of_eq rfl) (hb hby dsr_235) (by decide) (by decide) (sfS F310 sf0) (fun rv => (mkF m 238 #[.val (.ref a), .val (.int n)] (rv.toList ++ [(.ref b243)]))) (fun _ => rfl)
                obtain ⟨rfl, G303⟩ := Q303
                have K311 : Keep h0 h303 [] := K272.trans K303 (allS (Or.inr (by omega)) (fun _ q => nomatch q))
                have lt_b243 := G303.lt
                exact w303.endW (v := some (.ref b243)) (Q := (fun v h => ∃ x cs, v = some (.ref x) ∧ n0 ≤ x ∧ Str Z h x cs h.size)) (wr := []) (h0 := h0) (fun h => by rw [Bd.returns] at h; cases h) Bd.notSynchronized (fun X hr => X.areturnOut hx rfl Bd.returns rfl (hb hby dsr_238) hr) (by decide) (by decide) ⟨b243, [c0, c1, c2, c3, c4, c5], rfl, by omega, G303.more (by omega)⟩ K311
              · have w312 := w240.pure (mkF m 242 #[.val (.ref a), .val (.int n)] [(.int (7 : Int32)), (.int n)]) (fun X eT hZ hown k => by
                    show Steps _ _ _ (State.setTop _ (mkF m 188 #[.val (.ref a), .val (.int n)] [(.int (6 : Int32)), (.int n)])) _
                    refine S.icmpYes X.here hx 239 (hb hby dsr_188) (feq hc241).2 (by decide) (by decide) ?_
                    refine S.iloadN X.here hx (hb hby dsr_239) rfl ?_
                    refine S.bipush X.here hx (7 : Int32) (hb hby dsr_240) rfl ?_
                    exact k)
                by_cases hc313 : n = (7 : Int32)
                · have w314 := w312.pure (mkF m 245 #[.val (.ref a), .val (.int n)] []) (fun X eT hZ hown k => by
                      show Steps _ _ _ (State.setTop _ (mkF m 242 #[.val (.ref a), .val (.int n)] [(.int (7 : Int32)), (.int n)])) _
                      refine S.icmpNo X.here hx (hb hby dsr_242) (teq hc313).2 ?_
                      exact k)
                  obtain ⟨b315, h315, g315, E315, l315, A315, D315, y315, w315⟩ := w314.newO hx (hw _ (List.mem_of_getElem? (i := 51) rfl)) (hw _ (List.mem_of_getElem? (i := 2) rfl)) (hw _ (List.mem_of_getElem? (i := 1) rfl)) rfl (hb hby dsr_245) (by decide) (by decide) (fun xq => (mkF m 248 #[.val (.ref a), .val (.int n)] (.ref xq :: []))) (fun _ => rfl)
                  have z315 := E315.1
                  have K316 : Keep h0 h315 [] := K0.ext E315
                  have D315_4 : Fld Z h315 b315 "java/lang/String" "value" "[B" .null := D315 (Or.inr (hw _ (List.mem_of_getElem? (i := 4) rfl))) (ty := (.array .byte)) (by decide)
                  have D315_5 : Fld Z h315 b315 "java/lang/String" "coder" "B" (.int (0 : Int32)) := D315 (Or.inr (hw _ (List.mem_of_getElem? (i := 5) rfl))) (ty := .byte) (by decide)
                  have w317 := w315.pure (mkF m 251 #[.val (.ref a), .val (.int n)] [(.int (7 : Int32)), (.ref b315), (.ref b315)]) (fun X eT hZ hown k => by
                      show Steps _ _ _ (State.setTop _ (mkF m 248 #[.val (.ref a), .val (.int n)] [(.ref b315)])) _
                      refine S.dup X.here hx (hb hby dsr_248) rfl ?_
                      refine S.bipush X.here hx (7 : Int32) (hb hby dsr_249) rfl ?_
                      exact k)
                  obtain ⟨b318, h318, k318, g318, E318, l318, A318, y318, w318⟩ := w317.newP hx (hw _ (List.mem_of_getElem? (i := 21) rfl)) rfl (hb hby dsr_251) rfl (by decide) 7 (by decide) (by decide) (by decide) (by decide) (fun xq => (mkF m 253 #[.val (.ref a), .val (.int n)] (.ref xq :: [(.ref b315), (.ref b315)]))) (fun _ => rfl)
                  have z318 := E318.1
                  have K319 : Keep h0 h318 [] := K316.ext E318
                  have V318 : Arv Z h318 b318 k318 .char (7 : Int32) [(.int (0 : Int32)), (.int (0 : Int32)), (.int (0 : Int32)), (.int (0 : Int32)), (.int (0 : Int32)), (.int (0 : Int32)), (.int (0 : Int32))] (.int (0 : Int32)) := A318.pad (pad_rep [] (.int (0 : Int32)) 7)
                  have F320 := V0.ext E315
                  have F321 := F320.ext E318
                  have w322 := w318.pure (mkF m 258 #[.val (.ref a), .val (.int n)] [(.int c0), (.int (0 : Int32)), (.ref b318), (.ref b318), (.ref b315), (.ref b315)]) (fun X eT hZ hown k => by
                      show Steps _ _ _ (State.setTop _ (mkF m 253 #[.val (.ref a), .val (.int n)] [(.ref b318), (.ref b315), (.ref b315)])) _
                      refine S.dup X.here hx (hb hby dsr_253) rfl ?_
                      refine S.iconst X.here hx (0 : Int32) (hb hby dsr_254) rfl ?_
                      refine S.aloadN X.here hx (hb hby dsr_255) rfl rfl ?_
                      refine S.iconst X.here hx (0 : Int32) (hb hby dsr_256) rfl ?_
                      refine caV X hx eT hZ F321 (v := (.int c0)) ⟨by decide, by decide⟩ rfl rfl rfl (hb hby dsr_257) ?_
                      show Steps _ _ _ (State.setTop _ (mkF m 258 #[.val (.ref a), .val (.int n)] [(.int c0), (.int (0 : Int32)), (.ref b318), (.ref b318), (.ref b315), (.ref b315)])) _
                      exact k)
                  obtain ⟨h323, W323, z323, V323, w323⟩ := w322.stC hx V318 0 rfl (Nat.le_of_ble_eq_true rfl) ⟨by decide, by decide⟩ rfl rfl (hb hby dsr_258) (by omega) (mkF m 259 #[.val (.ref a), .val (.int n)] [(.ref b318), (.ref b315), (.ref b315)]) rfl
                  rw [nar_rng r0] at V323
                  have U323 : Arv Z h323 b318 k318 .char (7 : Int32) [(.int c0), (.int (0 : Int32)), (.int (0 : Int32)), (.int (0 : Int32)), (.int (0 : Int32)), (.int (0 : Int32)), (.int (0 : Int32))] (.int (0 : Int32)) := V323
                  have K324 : Keep h0 h323 [] := K319.wr W323 (Or.inr (by omega))
                  have F325 := F321.other W323 (nne (by omega))
                  have w326 := w323.pure (mkF m 264 #[.val (.ref a), .val (.int n)] [(.int c1), (.int (1 : Int32)), (.ref b318), (.ref b318), (.ref b315), (.ref b315)]) (fun X eT hZ hown k => by
                      show Steps _ _ _ (State.setTop _ (mkF m 259 #[.val (.ref a), .val (.int n)] [(.ref b318), (.ref b315), (.ref b315)])) _
                      refine S.dup X.here hx (hb hby dsr_259) rfl ?_
                      refine S.iconst X.here hx (1 : Int32) (hb hby dsr_260) rfl ?_
                      refine S.aloadN X.here hx (hb hby dsr_261) rfl rfl ?_
                      refine S.iconst X.here hx (1 : Int32) (hb hby dsr_262) rfl ?_
                      refine caV X hx eT hZ F325 (v := (.int c1)) ⟨by decide, by decide⟩ rfl rfl rfl (hb hby dsr_263) ?_
                      show Steps _ _ _ (State.setTop _ (mkF m 264 #[.val (.ref a), .val (.int n)] [(.int c1), (.int (1 : Int32)), (.ref b318), (.ref b318), (.ref b315), (.ref b315)])) _
                      exact k)
                  obtain ⟨h327, W327, z327, V327, w327⟩ := w326.stC hx U323 1 rfl (Nat.le_of_ble_eq_true rfl) ⟨by decide, by decide⟩ rfl rfl (hb hby dsr_264) (by omega) (mkF m 265 #[.val (.ref a), .val (.int n)] [(.ref b318), (.ref b315), (.ref b315)]) rfl
                  rw [nar_rng r1] at V327
                  have U327 : Arv Z h327 b318 k318 .char (7 : Int32) [(.int c0), (.int c1), (.int (0 : Int32)), (.int (0 : Int32)), (.int (0 : Int32)), (.int (0 : Int32)), (.int (0 : Int32))] (.int (0 : Int32)) := V327
                  have K328 : Keep h0 h327 [] := K324.wr W327 (Or.inr (by omega))
                  have F329 := F325.other W327 (nne (by omega))
                  have w330 := w327.pure (mkF m 270 #[.val (.ref a), .val (.int n)] [(.int c2), (.int (2 : Int32)), (.ref b318), (.ref b318), (.ref b315), (.ref b315)]) (fun X eT hZ hown k => by
                      show Steps _ _ _ (State.setTop _ (mkF m 265 #[.val (.ref a), .val (.int n)] [(.ref b318), (.ref b315), (.ref b315)])) _
                      refine S.dup X.here hx (hb hby dsr_265) rfl ?_
                      refine S.iconst X.here hx (2 : Int32) (hb hby dsr_266) rfl ?_
                      refine S.aloadN X.here hx (hb hby dsr_267) rfl rfl ?_
                      refine S.iconst X.here hx (2 : Int32) (hb hby dsr_268) rfl ?_
                      refine caV X hx eT hZ F329 (v := (.int c2)) ⟨by decide, by decide⟩ rfl rfl rfl (hb hby dsr_269) ?_
                      show Steps _ _ _ (State.setTop _ (mkF m 270 #[.val (.ref a), .val (.int n)] [(.int c2), (.int (2 : Int32)), (.ref b318), (.ref b318), (.ref b315), (.ref b315)])) _
                      exact k)
                  obtain ⟨h331, W331, z331, V331, w331⟩ := w330.stC hx U327 2 rfl (Nat.le_of_ble_eq_true rfl) ⟨by decide, by decide⟩ rfl rfl (hb hby dsr_270) (by omega) (mkF m 271 #[.val (.ref a), .val (.int n)] [(.ref b318), (.ref b315), (.ref b315)]) rfl
                  rw [nar_rng r2] at V331
                  have U331 : Arv Z h331 b318 k318 .char (7 : Int32) [(.int c0), (.int c1), (.int c2), (.int (0 : Int32)), (.int (0 : Int32)), (.int (0 : Int32)), (.int (0 : Int32))] (.int (0 : Int32)) := V331
                  have K332 : Keep h0 h331 [] := K328.wr W331 (Or.inr (by omega))
                  have F333 := F329.other W331 (nne (by omega))
                  have w334 := w331.pure (mkF m 276 #[.val (.ref a), .val (.int n)] [(.int c3), (.int (3 : Int32)), (.ref b318), (.ref b318), (.ref b315), (.ref b315)]) (fun X eT hZ hown k => by
                      show Steps _ _ _ (State.setTop _ (mkF m 271 #[.val (.ref a), .val (.int n)] [(.ref b318), (.ref b315), (.ref b315)])) _
                      refine S.dup X.here hx (hb hby dsr_271) rfl ?_
                      refine S.iconst X.here hx (3 : Int32) (hb hby dsr_272) rfl ?_
                      refine S.aloadN X.here hx (hb hby dsr_273) rfl rfl ?_
                      refine S.iconst X.here hx (3 : Int32) (hb hby dsr_274) rfl ?_
                      refine caV X hx eT hZ F333 (v := (.int c3)) ⟨by decide, by decide⟩ rfl rfl rfl (hb hby dsr_275) ?_
                      show Steps _ _ _ (State.setTop _ (mkF m 276 #[.val (.ref a), .val (.int n)] [(.int c3), (.int (3 : Int32)), (.ref b318), (.ref b318), (.ref b315), (.ref b315)])) _
                      exact k)
                  obtain ⟨h335, W335, z335, V335, w335⟩ := w334.stC hx U331 3 rfl (Nat.le_of_ble_eq_true rfl) ⟨by decide, by decide⟩ rfl rfl (hb hby dsr_276) (by omega) (mkF m 277 #[.val (.ref a), .val (.int n)] [(.ref b318), (.ref b315), (.ref b315)]) rfl
                  rw [nar_rng r3] at V335
                  have U335 : Arv Z h335 b318 k318 .char (7 : Int32) [(.int c0), (.int c1), (.int c2), (.int c3), (.int (0 : Int32)), (.int (0 : Int32)), (.int (0 : Int32))] (.int (0 : Int32)) := V335
                  have K336 : Keep h0 h335 [] := K332.wr W335 (Or.inr (by omega))
                  have F337 := F333.other W335 (nne (by omega))
                  have w338 := w335.pure (mkF m 282 #[.val (.ref a), .val (.int n)] [(.int c4), (.int (4 : Int32)), (.ref b318), (.ref b318), (.ref b315), (.ref b315)]) (fun X eT hZ hown k => by
                      show Steps _ _ _ (State.setTop _ (mkF m 277 #[.val (.ref a), .val (.int n)] [(.ref b318), (.ref b315), (.ref b315)])) _
                      refine S.dup X.here hx (hb hby dsr_277) rfl ?_
                      refine S.iconst X.here hx (4 : Int32) (hb hby dsr_278) rfl ?_
                      refine S.aloadN X.here hx (hb hby dsr_279) rfl rfl ?_
                      refine S.iconst X.here hx (4 : Int32) (hb hby dsr_280) rfl ?_
                      refine caV X hx eT hZ F337 (v := (.int c4)) ⟨by decide, by decide⟩ rfl rfl rfl (hb hby dsr_281) ?_
                      show Steps _ _ _ (State.setTop _ (mkF m 282 #[.val (.ref a), .val (.int n)] [(.int c4), (.int (4 : Int32)), (.ref b318), (.ref b318), (.ref b315), (.ref b315)])) _
                      exact k)
                  obtain ⟨h339, W339, z339, V339, w339⟩ := w338.stC hx U335 4 rfl (Nat.le_of_ble_eq_true rfl) ⟨by decide, by decide⟩ rfl rfl (hb hby dsr_282) (by omega) (mkF m 283 #[.val (.ref a), .val (.int n)] [(.ref b318), (.ref b315), (.ref b315)]) rfl
                  rw [nar_rng r4] at V339
                  have U339 : Arv Z h339 b318 k318 .char (7 : Int32) [(.int c0), (.int c1), (.int c2), (.int c3), (.int c4), (.int (0 : Int32)), (.int (0 : Int32))] (.int (0 : Int32)) := V339
                  have K340 : Keep h0 h339 [] := K336.wr W339 (Or.inr (by omega))
                  have F341 := F337.other W339 (nne (by omega))
                  have w342 := w339.pure (mkF m 288 #[.val (.ref a), .val (.int n)] [(.int c5), (.int (5 : Int32)), (.ref b318), (.ref b318), (.ref b315), (.ref b315)]) (fun X eT hZ hown k => by
                      show Steps _ _ _ (State.setTop _ (mkF m 283 #[.val (.ref a), .val (.int n)] [(.ref b318), (.ref b315), (.ref b315)])) _
                      refine S.dup X.here hx (hb hby dsr_283) rfl ?_
                      refine S.iconst X.here hx (5 : Int32) (hb hby dsr_284) rfl ?_
                      refine S.aloadN X.here hx (hb hby dsr_285) rfl rfl ?_
                      refine S.iconst X.here hx (5 : Int32) (hb hby dsr_286) rfl ?_
                      refine caV X hx eT hZ F341 (v := (.int c5)) ⟨by decide, by decide⟩ rfl rfl rfl (hb hby dsr_287) ?_
                      show Steps _ _ _ (State.setTop _ (mkF m 288 #[.val (.ref a), .val (.int n)] [(.int c5), (.int (5 : Int32)), (.ref b318), (.ref b318), (.ref b315), (.ref b315)])) _
                      exact k)
                  obtain ⟨h343, W343, z343, V343, w343⟩ := w342.stC hx U339 5 rfl (Nat.le_of_ble_eq_true rfl) ⟨by decide, by decide⟩ rfl rfl (hb hby dsr_288) (by omega) (mkF m 289 #[.val (.ref a), .val (.int n)] [(.ref b318), (.ref b315), (.ref b315)]) rfl
                  rw [nar_rng r5] at V343
                  have U343 : Arv Z h343 b318 k318 .char (7 : Int32) [(.int c0), (.int c1), (.int c2), (.int c3), (.int c4), (.int c5), (.int (0 : Int32))] (.int (0 : Int32)) := V343
                  have K344 : Keep h0 h343 [] := K340.wr W343 (Or.inr (by omega))
                  have F345 := F341.other W343 (nne (by omega))
                  have w346 := w343.pure (mkF m 296 #[.val (.ref a), .val (.int n)] [(.int c6), (.int (6 : Int32)), (.ref b318), (.ref b318), (.ref b315), (.ref b315)]) (fun X eT hZ hown k => by
                      show Steps _ _ _ (State.setTop _ (mkF m 289 #[.val (.ref a), .val (.int n)] [(.ref b318), (.ref b315), (.ref b315)])) _
                      refine S.dup X.here hx (hb hby dsr_289) rfl ?_
                      refine S.bipush X.here hx (6 : Int32) (hb hby dsr_290) rfl ?_
                      refine S.aloadN X.here hx (hb hby dsr_292) rfl rfl ?_
                      refine S.bipush X.here hx (6 : Int32) (hb hby dsr_293) rfl ?_
                      refine caV X hx eT hZ F345 (v := (.int c6)) ⟨by decide, by decide⟩ rfl rfl rfl (hb hby dsr_295) ?_
                      show Steps _ _ _ (State.setTop _ (mkF m 296 #[.val (.ref a), .val (.int n)] [(.int c6), (.int (6 : Int32)), (.ref b318), (.ref b318), (.ref b315), (.ref b315)])) _
                      exact k)
                  obtain ⟨h347, W347, z347, V347, w347⟩ := w346.stC hx U343 6 rfl (Nat.le_of_ble_eq_true rfl) ⟨by decide, by decide⟩ rfl rfl (hb hby dsr_296) (by omega) (mkF m 297 #[.val (.ref a), .val (.int n)] [(.ref b318), (.ref b315), (.ref b315)]) rfl
                  rw [nar_rng r6] at V347
                  have U347 : Arv Z h347 b318 k318 .char (7 : Int32) [(.int c0), (.int c1), (.int c2), (.int c3), (.int c4), (.int c5), (.int c6)] (.int (0 : Int32)) := V347
                  have K348 : Keep h0 h347 [] := K344.wr W347 (Or.inr (by omega))
                  have F349 := A315.ext E318
                  have F350 := F349.wr W323
                  have F351 := F350.wr W327
                  have F352 := F351.wr W331
                  have F353 := F352.wr W335
                  have F354 := F353.wr W339
                  have F355 := F354.wr W343
                  have F356 := F355.wr W347
                  have F357 := D315_4.ext E318
                  have F358 := F357.other W323 (Or.inl (nne (by omega)))
                  have F359 := F358.other W327 (Or.inl (nne (by omega)))
                  have F360 := F359.other W331 (Or.inl (nne (by omega)))
                  have F361 := F360.other W335 (Or.inl (nne (by omega)))
                  have F362 := F361.other W339 (Or.inl (nne (by omega)))
                  have F363 := F362.other W343 (Or.inl (nne (by omega)))
                  have F364 := F363.other W347 (Or.inl (nne (by omega)))
                  have F365 := D315_5.ext E318
                  have F366 := F365.other W323 (Or.inl (nne (by omega)))
                  have F367 := F366.other W327 (Or.inl (nne (by omega)))
                  have F368 := F367.other W331 (Or.inl (nne (by omega)))
                  have F369 := F368.other W335 (Or.inl (nne (by omega)))
                  have F370 := F369.other W339 (Or.inl (nne (by omega)))
                  have F371 := F370.other W343 (Or.inl (nne (by omega)))
                  have F372 := F371.other W347 (Or.inl (nne (by omega)))
                  have F373 := X0.ext E315
                  have F374 := F373.ext E318
                  have F375 := F374.wr W323 (by omega)
                  have F376 := F375.wr W327 (by omega)
                  have F377 := F376.wr W331 (by omega)
                  have F378 := F377.wr W335 (by omega)
                  have F379 := F378.wr W339 (by omega)
                  have F380 := F379.wr W343 (by omega)
                  have F381 := F380.wr W347 (by omega)
                  have r382 : ∀ c ∈ ([c0, c1, c2, c3, c4, c5, c6] : List Int32), ¬ c < 0 ∧ ¬ (255 : Int32) < c := (List.forall_mem_cons.mpr ⟨r0, (List.forall_mem_cons.mpr ⟨r1, (List.forall_mem_cons.mpr ⟨r2, (List.forall_mem_cons.mpr ⟨r3, (List.forall_mem_cons.mpr ⟨r4, (List.forall_mem_cons.mpr ⟨r5, (List.forall_mem_cons.mpr ⟨r6, (fun _ q => nomatch q)⟩)⟩)⟩)⟩)⟩)⟩)⟩)
                  have F384 := Safe.ext E318 w317.chv y315
                  have F385 := Safe.wr W323 (Safe.arv w322.al V318 (by decide)) w322.chv F384
                  have F386 := Safe.wr W327 (Safe.arv w326.al U323 (by decide)) w326.chv F385
                  have F387 := Safe.wr W331 (Safe.arv w330.al U327 (by decide)) w330.chv F386
                  have F388 := Safe.wr W335 (Safe.arv w334.al U331 (by decide)) w334.chv F387
                  have F389 := Safe.wr W339 (Safe.arv w338.al U335 (by decide)) w338.chv F388
                  have F390 := Safe.wr W343 (Safe.arv w342.al U339 (by decide)) w342.chv F389
                  have F391 := Safe.wr W347 (Safe.arv w346.al U343 (by decide)) w346.chv F390
                  obtain ⟨v383, h383, Q383, K383, z383, w383⟩ := w347.callI hx (y := (⟨"java/lang/String", "<init>", "([C)V"⟩ : MethodName)) (W := 1) rfl (hw _ (List.mem_of_getElem? (i := 52) rfl)) (hw _ (List.mem_of_getElem? (i := 53) rfl)) (hw _ (List.mem_of_getElem? (i := 54) rfl)) (by decide) (payNew hG w347.hZ hq_backV (hw _ (List.mem_of_getElem? (i := 2) rfl)) [c0, c1, c2, c3, c4, c5, c6] 7 (by omega) F356 F364 F372 U347 F381 rfl rfl (by decide) (by decide) r382 (by decide) (by decide)) rfl (by rw [hml]; rfl) [(.ref b315)] (lenOf pd_3 rfl) rfl (by show 2 * 0 + _ ≤ _; exact Nat.le_of_eq rfl) (hb hby dsr_297) (by decide) (by decide) (sfS F391 sf0) (fun rv => (mkF m 300 #[.val (.ref a), .val (.int n)] (rv.toList ++ [(.ref b315)]))) (fun _ => rfl)
                  obtain ⟨rfl, G383⟩ := Q383
                  have K392 : Keep h0 h383 [] := K348.trans K383 (allS (Or.inr (by omega)) (fun _ q => nomatch q))
                  have lt_b315 := G383.lt
                  exact w383.endW (v := some (.ref b315)) (Q := (fun v h => ∃ x cs, v = some (.ref x) ∧ n0 ≤ x ∧ Str Z h x cs h.size)) (wr := []) (h0 := h0) (fun h => by rw [Bd.returns] at h; cases h) Bd.notSynchronized (fun X hr => X.areturnOut hx rfl Bd.returns rfl (hb hby dsr_300) hr) (by decide) (by decide) ⟨b315, [c0, c1, c2, c3, c4, c5, c6], rfl, by omega, G383.more (by omega)⟩ K392
                · have w393 := w312.pure (mkF m 304 #[.val (.ref a), .val (.int n)] [(.int (8 : Int32)), (.int n)]) (fun X eT hZ hown k => by
                      show Steps _ _ _ (State.setTop _ (mkF m 242 #[.val (.ref a), .val (.int n)] [(.int (7 : Int32)), (.int n)])) _
                      refine S.icmpYes X.here hx 301 (hb hby dsr_242) (feq hc313).2 (by decide) (by decide) ?_
                      refine S.iloadN X.here hx (hb hby dsr_301) rfl ?_
                      refine S.bipush X.here hx (8 : Int32) (hb hby dsr_302) rfl ?_
                      exact k)
                  by_cases hc394 : n = (8 : Int32)
                  · have w395 := w393.pure (mkF m 307 #[.val (.ref a), .val (.int n)] []) (fun X eT hZ hown k => by
                        show Steps _ _ _ (State.setTop _ (mkF m 304 #[.val (.ref a), .val (.int n)] [(.int (8 : Int32)), (.int n)])) _
                        refine S.icmpNo X.here hx (hb hby dsr_304) (teq hc394).2 ?_
                        exact k)
                    obtain ⟨b396, h396, g396, E396, l396, A396, D396, y396, w396⟩ := w395.newO hx (hw _ (List.mem_of_getElem? (i := 51) rfl)) (hw _ (List.mem_of_getElem? (i := 2) rfl)) (hw _ (List.mem_of_getElem? (i := 1) rfl)) rfl (hb hby dsr_307) (by decide) (by decide) (fun xq => (mkF m 310 #[.val (.ref a), .val (.int n)] (.ref xq :: []))) (fun _ => rfl)
                    have z396 := E396.1
                    have K397 : Keep h0 h396 [] := K0.ext E396
                    have D396_4 : Fld Z h396 b396 "java/lang/String" "value" "[B" .null := D396 (Or.inr (hw _ (List.mem_of_getElem? (i := 4) rfl))) (ty := (.array .byte)) (by decide)
                    have D396_5 : Fld Z h396 b396 "java/lang/String" "coder" "B" (.int (0 : Int32)) := D396 (Or.inr (hw _ (List.mem_of_getElem? (i := 5) rfl))) (ty := .byte) (by decide)
                    have w398 := w396.pure (mkF m 313 #[.val (.ref a), .val (.int n)] [(.int (8 : Int32)), (.ref b396), (.ref b396)]) (fun X eT hZ hown k => by
                        show Steps _ _ _ (State.setTop _ (mkF m 310 #[.val (.ref a), .val (.int n)] [(.ref b396)])) _
                        refine S.dup X.here hx (hb hby dsr_310) rfl ?_
                        refine S.bipush X.here hx (8 : Int32) (hb hby dsr_311) rfl ?_
                        exact k)
                    obtain ⟨b399, h399, k399, g399, E399, l399, A399, y399, w399⟩ := w398.newP hx (hw _ (List.mem_of_getElem? (i := 21) rfl)) rfl (hb hby dsr_313) rfl (by decide) 8 (by decide) (by decide) (by decide) (by decide) (fun xq => (mkF m 315 #[.val (.ref a), .val (.int n)] (.ref xq :: [(.ref b396), (.ref b396)]))) (fun _ => rfl)
                    have z399 := E399.1
                    have K400 : Keep h0 h399 [] := K397.ext E399
                    have V399 : Arv Z h399 b399 k399 .char (8 : Int32) [(.int (0 : Int32)), (.int (0 : Int32)), (.int (0 : Int32)), (.int (0 : Int32)), (.int (0 : Int32)), (.int (0 : Int32)), (.int (0 : Int32)), (.int (0 : Int32))] (.int (0 : Int32)) := A399.pad (pad_rep [] (.int (0 : Int32)) 8)
                    have F401 := V0.ext E396
                    have F402 := F401.ext E399
                    have w403 := w399.pure (mkF m 320 #[.val (.ref a), .val (.int n)] [(.int c0), (.int (0 : Int32)), (.ref b399), (.ref b399), (.ref b396), (.ref b396)]) (fun X eT hZ hown k => by
                        show Steps _ _ _ (State.setTop _ (mkF m 315 #[.val (.ref a), .val (.int n)] [(.ref b399), (.ref b396), (.ref b396)])) _
                        refine S.dup X.here hx (hb hby dsr_315) rfl ?_
                        refine S.iconst X.here hx (0 : Int32) (hb hby dsr_316) rfl ?_
                        refine S.aloadN X.here hx (hb hby dsr_317) rfl rfl ?_
                        refine S.iconst X.here hx (0 : Int32) (hb hby dsr_318) rfl ?_
                        refine caV X hx eT hZ F402 (v := (.int c0)) ⟨by decide, by decide⟩ rfl rfl rfl (hb hby dsr_319) ?_
                        show Steps _ _ _ (State.setTop _ (mkF m 320 #[.val (.ref a), .val (.int n)] [(.int c0), (.int (0 : Int32)), (.ref b399), (.ref b399), (.ref b396), (.ref b396)])) _
                        exact k)
                    obtain ⟨h404, W404, z404, V404, w404⟩ := w403.stC hx V399 0 rfl (Nat.le_of_ble_eq_true rfl) ⟨by decide, by decide⟩ rfl rfl (hb hby dsr_320) (by omega) (mkF m 321 #[.val (.ref a), .val (.int n)] [(.ref b399), (.ref b396), (.ref b396)]) rfl
                    rw [nar_rng r0] at V404
                    have U404 : Arv Z h404 b399 k399 .char (8 : Int32) [(.int c0), (.int (0 : Int32)), (.int (0 : Int32)), (.int (0 : Int32)), (.int (0 : Int32)), (.int (0 : Int32)), (.int (0 : Int32)), (.int (0 : Int32))] (.int (0 : Int32)) := V404
                    have K405 : Keep h0 h404 [] := K400.wr W404 (Or.inr (by omega))
                    have F406 := F402.other W404 (nne (by omega))
                    have w407 := w404.pure (mkF m 326 #[.val (.ref a), .val (.int n)] [(.int c1), (.int (1 : Int32)), (.ref b399), (.ref b399), (.ref b396), (.ref b396)]) (fun X eT hZ hown k => by
                        show Steps _ _ _ (State.setTop _ (mkF m 321 #[.val (.ref a), .val (.int n)] [(.ref b399), (.ref b396), (.ref b396)])) _
                        refine S.dup X.here hx (hb hby dsr_321) rfl ?_
                        refine S.iconst X.here hx (1 : Int32) (hb hby dsr_322) rfl ?_
                        refine S.aloadN X.here hx (hb hby dsr_323) rfl rfl ?_
                        refine S.iconst X.here hx (1 : Int32) (hb hby dsr_324) rfl ?_
                        refine caV X hx eT hZ F406 (v := (.int c1)) ⟨by decide, by decide⟩ rfl rfl rfl (hb hby dsr_325) ?_
                        show Steps _ _ _ (State.setTop _ (mkF m 326 #[.val (.ref a), .val (.int n)] [(.int c1), (.int (1 : Int32)), (.ref b399), (.ref b399), (.ref b396), (.ref b396)])) _
                        exact k)
                    obtain ⟨h408, W408, z408, V408, w408⟩ := w407.stC hx U404 1 rfl (Nat.le_of_ble_eq_true rfl) ⟨by decide, by decide⟩ rfl rfl (hb hby dsr_326) (by omega) (mkF m 327 #[.val (.ref a), .val (.int n)] [(.ref b399), (.ref b396), (.ref b396)]) rfl
                    rw [nar_rng r1] at V408
                    have U408 : Arv Z h408 b399 k399 .char (8 : Int32) [(.int c0), (.int c1), (.int (0 : Int32)), (.int (0 : Int32)), (.int (0 : Int32)), (.int (0 : Int32)), (.int (0 : Int32)), (.int (0 : Int32))] (.int (0 : Int32)) := V408
                    have K409 : Keep h0 h408 [] := K405.wr W408 (Or.inr (by omega))
                    have F410 := F406.other W408 (nne (by omega))
                    have w411 := w408.pure (mkF m 332 #[.val (.ref a), .val (.int n)] [(.int c2), (.int (2 : Int32)), (.ref b399), (.ref b399), (.ref b396), (.ref b396)]) (fun X eT hZ hown k => by
                        show Steps _ _ _ (State.setTop _ (mkF m 327 #[.val (.ref a), .val (.int n)] [(.ref b399), (.ref b396), (.ref b396)])) _
                        refine S.dup X.here hx (hb hby dsr_327) rfl ?_
                        refine S.iconst X.here hx (2 : Int32) (hb hby dsr_328) rfl ?_
                        refine S.aloadN X.here hx (hb hby dsr_329) rfl rfl ?_
                        refine S.iconst X.here hx (2 : Int32) (hb hby dsr_330) rfl ?_
                        refine caV X hx eT hZ F410 (v := (.int c2)) ⟨by decide, by decide⟩ rfl rfl rfl (hb hby dsr_331) ?_
                        show Steps _ _ _ (State.setTop _ (mkF m 332 #[.val (.ref a), .val (.int n)] [(.int c2), (.int (2 : Int32)), (.ref b399), (.ref b399), (.ref b396), (.ref b396)])) _
                        exact k)
                    obtain ⟨h412, W412, z412, V412, w412⟩ := w411.stC hx U408 2 rfl (Nat.le_of_ble_eq_true rfl) ⟨by decide, by decide⟩ rfl rfl (hb hby dsr_332) (by omega) (mkF m 333 #[.val (.ref a), .val (.int n)] [(.ref b399), (.ref b396), (.ref b396)]) rfl
                    rw [nar_rng r2] at V412
                    have U412 : Arv Z h412 b399 k399 .char (8 : Int32) [(.int c0), (.int c1), (.int c2), (.int (0 : Int32)), (.int (0 : Int32)), (.int (0 : Int32)), (.int (0 : Int32)), (.int (0 : Int32))] (.int (0 : Int32)) := V412
                    have K413 : Keep h0 h412 [] := K409.wr W412 (Or.inr (by omega))
                    have F414 := F410.other W412 (nne (by omega))
                    have w415 := w412.pure (mkF m 338 #[.val (.ref a), .val (.int n)] [(.int c3), (.int (3 : Int32)), (.ref b399), (.ref b399), (.ref b396), (.ref b396)]) (fun X eT hZ hown k => by
                        show Steps _ _ _ (State.setTop _ (mkF m 333 #[.val (.ref a), .val (.int n)] [(.ref b399), (.ref b396), (.ref b396)])) _
                        refine S.dup X.here hx (hb hby dsr_333) rfl ?_
                        refine S.iconst X.here hx (3 : Int32) (hb hby dsr_334) rfl ?_
                        refine S.aloadN X.here hx (hb hby dsr_335) rfl rfl ?_
                        refine S.iconst X.here hx (3 : Int32) (hb hby dsr_336) rfl ?_
                        refine caV X hx eT hZ F414 (v := (.int c3)) ⟨by decide, by decide⟩ rfl rfl rfl (hb hby dsr_337) ?_
                        show Steps _ _ _ (State.setTop _ (mkF m 338 #[.val (.ref a), .val (.int n)] [(.int c3), (.int (3 : Int32)), (.ref b399), (.ref b399), (.ref b396), (.ref b396)])) _
                        exact k)
                    obtain ⟨h416, W416, z416, V416, w416⟩ := w415.stC hx U412 3 rfl (Nat.le_of_ble_eq_true rfl) ⟨by decide, by decide⟩ rfl rfl (hb hby dsr_338) (by omega) (mkF m 339 #[.val (.ref a), .val (.int n)] [(.ref b399), (.ref b396), (.ref b396)]) rfl
                    rw [nar_rng r3] at V416
                    have U416 : Arv Z h416 b399 k399 .char (8 : Int32) [(.int c0), (.int c1), (.int c2), (.int c3), (.int (0 : Int32)), (.int (0 : Int32)), (.int (0 : Int32)), (.int (0 : Int32))] (.int (0 : Int32)) := V416
                    have K417 : Keep h0 h416 [] := K413.wr W416 (Or.inr (by omega))
                    have F418 := F414.other W416 (nne (by omega))
                    have w419 := w416.pure (mkF m 344 #[.val (.ref a), .val (.int n)] [(.int c4), (.int (4 : Int32)), (.ref b399), (.ref b399), (.ref b396), (.ref b396)]) (fun X eT hZ hown k => by
                        show Steps _ _ _ (State.setTop _ (mkF m 339 #[.val (.ref a), .val (.int n)] [(.ref b399), (.ref b396), (.ref b396)])) _
                        refine S.dup X.here hx (hb hby dsr_339) rfl ?_
                        refine S.iconst X.here hx (4 : Int32) (hb hby dsr_340) rfl ?_
                        refine S.aloadN X.here hx (hb hby dsr_341) rfl rfl ?_
                        refine S.iconst X.here hx (4 : Int32) (hb hby dsr_342) rfl ?_
                        refine caV X hx eT hZ F418 (v := (.int c4)) ⟨by decide, by decide⟩ rfl rfl rfl (hb hby dsr_343) ?_
                        show Steps _ _ _ (State.setTop _ (mkF m 344 #[.val (.ref a), .val (.int n)] [(.int c4), (.int (4 : Int32)), (.ref b399), (.ref b399), (.ref b396), (.ref b396)])) _
                        exact k)
                    obtain ⟨h420, W420, z420, V420, w420⟩ := w419.stC hx U416 4 rfl (Nat.le_of_ble_eq_true rfl) ⟨by decide, by decide⟩ rfl rfl (hb hby dsr_344) (by omega) (mkF m 345 #[.val (.ref a), .val (.int n)] [(.ref b399), (.ref b396), (.ref b396)]) rfl
                    rw [nar_rng r4] at V420
                    have U420 : Arv Z h420 b399 k399 .char (8 : Int32) [(.int c0), (.int c1), (.int c2), (.int c3), (.int c4), (.int (0 : Int32)), (.int (0 : Int32)), (.int (0 : Int32))] (.int (0 : Int32)) := V420
                    have K421 : Keep h0 h420 [] := K417.wr W420 (Or.inr (by omega))
                    have F422 := F418.other W420 (nne (by omega))
                    have w423 := w420.pure (mkF m 350 #[.val (.ref a), .val (.int n)] [(.int c5), (.int (5 : Int32)), (.ref b399), (.ref b399), (.ref b396), (.ref b396)]) (fun X eT hZ hown k => by
                        show Steps _ _ _ (State.setTop _ (mkF m 345 #[.val (.ref a), .val (.int n)] [(.ref b399), (.ref b396), (.ref b396)])) _
                        refine S.dup X.here hx (hb hby dsr_345) rfl ?_
                        refine S.iconst X.here hx (5 : Int32) (hb hby dsr_346) rfl ?_
                        refine S.aloadN X.here hx (hb hby dsr_347) rfl rfl ?_
                        refine S.iconst X.here hx (5 : Int32) (hb hby dsr_348) rfl ?_
                        refine caV X hx eT hZ F422 (v := (.int c5)) ⟨by decide, by decide⟩ rfl rfl rfl (hb hby dsr_349) ?_
                        show Steps _ _ _ (State.setTop _ (mkF m 350 #[.val (.ref a), .val (.int n)] [(.int c5), (.int (5 : Int32)), (.ref b399), (.ref b399), (.ref b396), (.ref b396)])) _
                        exact k)
                    obtain ⟨h424, W424, z424, V424, w424⟩ := w423.stC hx U420 5 rfl (Nat.le_of_ble_eq_true rfl) ⟨by decide, by decide⟩ rfl rfl (hb hby dsr_350) (by omega) (mkF m 351 #[.val (.ref a), .val (.int n)] [(.ref b399), (.ref b396), (.ref b396)]) rfl
                    rw [nar_rng r5] at V424
                    have U424 : Arv Z h424 b399 k399 .char (8 : Int32) [(.int c0), (.int c1), (.int c2), (.int c3), (.int c4), (.int c5), (.int (0 : Int32)), (.int (0 : Int32))] (.int (0 : Int32)) := V424
                    have K425 : Keep h0 h424 [] := K421.wr W424 (Or.inr (by omega))
                    have F426 := F422.other W424 (nne (by omega))
                    have w427 := w424.pure (mkF m 358 #[.val (.ref a), .val (.int n)] [(.int c6), (.int (6 : Int32)), (.ref b399), (.ref b399), (.ref b396), (.ref b396)]) (fun X eT hZ hown k => by
                        show Steps _ _ _ (State.setTop _ (mkF m 351 #[.val (.ref a), .val (.int n)] [(.ref b399), (.ref b396), (.ref b396)])) _
                        refine S.dup X.here hx (hb hby dsr_351) rfl ?_
                        refine S.bipush X.here hx (6 : Int32) (hb hby dsr_352) rfl ?_
                        refine S.aloadN X.here hx (hb hby dsr_354) rfl rfl ?_
                        refine S.bipush X.here hx (6 : Int32) (hb hby dsr_355) rfl ?_
                        refine caV X hx eT hZ F426 (v := (.int c6)) ⟨by decide, by decide⟩ rfl rfl rfl (hb hby dsr_357) ?_
                        show Steps _ _ _ (State.setTop _ (mkF m 358 #[.val (.ref a), .val (.int n)] [(.int c6), (.int (6 : Int32)), (.ref b399), (.ref b399), (.ref b396), (.ref b396)])) _
                        exact k)
                    obtain ⟨h428, W428, z428, V428, w428⟩ := w427.stC hx U424 6 rfl (Nat.le_of_ble_eq_true rfl) ⟨by decide, by decide⟩ rfl rfl (hb hby dsr_358) (by omega) (mkF m 359 #[.val (.ref a), .val (.int n)] [(.ref b399), (.ref b396), (.ref b396)]) rfl
                    rw [nar_rng r6] at V428
                    have U428 : Arv Z h428 b399 k399 .char (8 : Int32) [(.int c0), (.int c1), (.int c2), (.int c3), (.int c4), (.int c5), (.int c6), (.int (0 : Int32))] (.int (0 : Int32)) := V428
                    have K429 : Keep h0 h428 [] := K425.wr W428 (Or.inr (by omega))
                    have F430 := F426.other W428 (nne (by omega))
                    have w431 := w428.pure (mkF m 366 #[.val (.ref a), .val (.int n)] [(.int c7), (.int (7 : Int32)), (.ref b399), (.ref b399), (.ref b396), (.ref b396)]) (fun X eT hZ hown k => by
                        show Steps _ _ _ (State.setTop _ (mkF m 359 #[.val (.ref a), .val (.int n)] [(.ref b399), (.ref b396), (.ref b396)])) _
                        refine S.dup X.here hx (hb hby dsr_359) rfl ?_
                        refine S.bipush X.here hx (7 : Int32) (hb hby dsr_360) rfl ?_
                        refine S.aloadN X.here hx (hb hby dsr_362) rfl rfl ?_
                        refine S.bipush X.here hx (7 : Int32) (hb hby dsr_363) rfl ?_
                        refine caV X hx eT hZ F430 (v := (.int c7)) ⟨by decide, by decide⟩ rfl rfl rfl (hb hby dsr_365) ?_
                        show Steps _ _ _ (State.setTop _ (mkF m 366 #[.val (.ref a), .val (.int n)] [(.int c7), (.int (7 : Int32)), (.ref b399), (.ref b399), (.ref b396), (.ref b396)])) _
                        exact k)
                    obtain ⟨h432, W432, z432, V432, w432⟩ := w431.stC hx U428 7 rfl (Nat.le_of_ble_eq_true rfl) ⟨by decide, by decide⟩ rfl rfl (hb hby dsr_366) (by omega) (mkF m 367 #[.val (.ref a), .val (.int n)] [(.ref b399), (.ref b396), (.ref b396)]) rfl
                    rw [nar_rng r7] at V432
                    have U432 : Arv Z h432 b399 k399 .char (8 : Int32) [(.int c0), (.int c1), (.int c2), (.int c3), (.int c4), (.int c5), (.int c6), (.int c7)] (.int (0 : Int32)) := V432
                    have K433 : Keep h0 h432 [] := K429.wr W432 (Or.inr (by omega))
                    have F434 := A396.ext E399
                    have F435 := F434.wr W404
                    have F436 := F435.wr W408
                    have F437 := F436.wr W412
                    have F438 := F437.wr W416
                    have F439 := F438.wr W420
                    have F440 := F439.wr W424
                    have F441 := F440.wr W428
                    have F442 := F441.wr W432
                    have F443 := D396_4.ext E399
                    have F444 := F443.other W404 (Or.inl (nne (by omega)))
                    have F445 := F444.other W408 (Or.inl (nne (by omega)))
                    have F446 := F445.other W412 (Or.inl (nne (by omega)))
                    have F447 := F446.other W416 (Or.inl (nne (by omega)))
                    have F448 := F447.other W420 (Or.inl (nne (by omega)))
                    have F449 := F448.other W424 (Or.inl (nne (by omega)))
                    have F450 := F449.other W428 (Or.inl (nne (by omega)))
                    have F451 := F450.other W432 (Or.inl (nne (by omega)))
                    have F452 := D396_5.ext E399
                    have F453 := F452.other W404 (Or.inl (nne (by omega)))
                    have F454 := F453.other W408 (Or.inl (nne (by omega)))
                    have F455 := F454.other W412 (Or.inl (nne (by omega)))
                    have F456 := F455.other W416 (Or.inl (nne (by omega)))
                    have F457 := F456.other W420 (Or.inl (nne (by omega)))
                    have F458 := F457.other W424 (Or.inl (nne (by omega)))
                    have F459 := F458.other W428 (Or.inl (nne (by omega)))
                    have F460 := F459.other W432 (Or.inl (nne (by omega)))
                    have F461 := X0.ext E396
                    have F462 := F461.ext E399
                    have F463 := F462.wr W404 (by omega)
                    have F464 := F463.wr W408 (by omega)
                    have F465 := F464.wr W412 (by omega)
                    have F466 := F465.wr W416 (by omega)
                    have F467 := F466.wr W420 (by omega)
                    have F468 := F467.wr W424 (by omega)
                    have F469 := F468.wr W428 (by omega)
                    have F470 := F469.wr W432 (by omega)
                    have r471 : ∀ c ∈ ([c0, c1, c2, c3, c4, c5, c6, c7] : List Int32), ¬ c < 0 ∧ ¬ (255 : Int32) < c := (List.forall_mem_cons.mpr ⟨r0, (List.forall_mem_cons.mpr ⟨r1, (List.forall_mem_cons.mpr ⟨r2, (List.forall_mem_cons.mpr ⟨r3, (List.forall_mem_cons.mpr ⟨r4, (List.forall_mem_cons.mpr ⟨r5, (List.forall_mem_cons.mpr ⟨r6, (List.forall_mem_cons.mpr ⟨r7, (fun _ q => nomatch q)⟩)⟩)⟩)⟩)⟩)⟩)⟩)⟩)
                    have F473 := Safe.ext E399 w398.chv y396
                    have F474 := Safe.wr W404 (Safe.arv w403.al V399 (by decide)) w403.chv F473
                    have F475 := Safe.wr W408 (Safe.arv w407.al U404 (by decide)) w407.chv F474
                    have F476 := Safe.wr W412 (Safe.arv w411.al U408 (by decide)) w411.chv F475
                    have F477 := Safe.wr W416 (Safe.arv w415.al U412 (by decide)) w415.chv F476
                    have F478 := Safe.wr W420 (Safe.arv w419.al U416 (by decide)) w419.chv F477
                    have F479 := Safe.wr W424 (Safe.arv w423.al U420 (by decide)) w423.chv F478
                    have F480 := Safe.wr W428 (Safe.arv w427.al U424 (by decide)) w427.chv F479
                    have F481 := Safe.wr W432 (Safe.arv w431.al U428 (by decide)) w431.chv F480
                    obtain ⟨v472, h472, Q472, K472, z472, w472⟩ := w432.callI hx (y := (⟨"java/lang/String", "<init>", "([C)V"⟩ : MethodName)) (W := 1) rfl (hw _ (List.mem_of_getElem? (i := 52) rfl)) (hw _ (List.mem_of_getElem? (i := 53) rfl)) (hw _ (List.mem_of_getElem? (i := 54) rfl)) (by decide) (payNew hG w432.hZ hq_backV (hw _ (List.mem_of_getElem? (i := 2) rfl)) [c0, c1, c2, c3, c4, c5, c6, c7] 8 (by omega) F442 F451 F460 U432 F470 rfl rfl (by decide) (by decide) r471 (by decide) (by decide)) rfl (by rw [hml]; rfl) [(.ref b396)] (lenOf pd_3 rfl) rfl (by show 2 * 0 + _ ≤ _; exact Nat.le_of_eq rfl) (hb hby dsr_367) (by decide) (by decide) (sfS F481 sf0) (fun rv => (mkF m 370 #[.val (.ref a), .val (.int n)] (rv.toList ++ [(.ref b396)]))) (fun _ => rfl)
                    obtain ⟨rfl, G472⟩ := Q472
                    have K482 : Keep h0 h472 [] := K433.trans K472 (allS (Or.inr (by omega)) (fun _ q => nomatch q))
                    have lt_b396 := G472.lt
                    exact w472.endW (v := some (.ref b396)) (Q := (fun v h => ∃ x cs, v = some (.ref x) ∧ n0 ≤ x ∧ Str Z h x cs h.size)) (wr := []) (h0 := h0) (fun h => by rw [Bd.returns] at h; cases h) Bd.notSynchronized (fun X hr => X.areturnOut hx rfl Bd.returns rfl (hb hby dsr_370) hr) (by decide) (by decide) ⟨b396, [c0, c1, c2, c3, c4, c5, c6, c7], rfl, by omega, G472.more (by omega)⟩ K482
                  · have w483 := w393.pure (mkF m 371 #[.val (.ref a), .val (.int n)] []) (fun X eT hZ hown k => by
                        show Steps _ _ _ (State.setTop _ (mkF m 304 #[.val (.ref a), .val (.int n)] [(.int (8 : Int32)), (.int n)])) _
                        refine S.icmpYes X.here hx 371 (hb hby dsr_304) (feq hc394).2 (by decide) (by decide) ?_
                        exact k)
                    obtain ⟨b484, h484, g484, E484, l484, A484, D484, y484, w484⟩ := w483.newO hx (hw _ (List.mem_of_getElem? (i := 51) rfl)) (hw _ (List.mem_of_getElem? (i := 2) rfl)) (hw _ (List.mem_of_getElem? (i := 1) rfl)) rfl (hb hby dsr_371) (by decide) (by decide) (fun xq => (mkF m 374 #[.val (.ref a), .val (.int n)] (.ref xq :: []))) (fun _ => rfl)
                    have z484 := E484.1
                    have K485 : Keep h0 h484 [] := K0.ext E484
                    have D484_4 : Fld Z h484 b484 "java/lang/String" "value" "[B" .null := D484 (Or.inr (hw _ (List.mem_of_getElem? (i := 4) rfl))) (ty := (.array .byte)) (by decide)
                    have D484_5 : Fld Z h484 b484 "java/lang/String" "coder" "B" (.int (0 : Int32)) := D484 (Or.inr (hw _ (List.mem_of_getElem? (i := 5) rfl))) (ty := .byte) (by decide)
                    have w486 := w484.pure (mkF m 377 #[.val (.ref a), .val (.int n)] [(.int (9 : Int32)), (.ref b484), (.ref b484)]) (fun X eT hZ hown k => by
                        show Steps _ _ _ (State.setTop _ (mkF m 374 #[.val (.ref a), .val (.int n)] [(.ref b484)])) _
                        refine S.dup X.here hx (hb hby dsr_374) rfl ?_
                        refine S.bipush X.here hx (9 : Int32) (hb hby dsr_375) rfl ?_
                        exact k)
                    obtain ⟨b487, h487, k487, g487, E487, l487, A487, y487, w487⟩ := w486.newP hx (hw _ (List.mem_of_getElem? (i := 21) rfl)) rfl (hb hby dsr_377) rfl (by decide) 9 (by decide) (by decide) (by decide) (by decide) (fun xq => (mkF m 379 #[.val (.ref a), .val (.int n)] (.ref xq :: [(.ref b484), (.ref b484)]))) (fun _ => rfl)
                    have z487 := E487.1
                    have K488 : Keep h0 h487 [] := K485.ext E487
                    have V487 : Arv Z h487 b487 k487 .char (9 : Int32) [(.int (0 : Int32)), (.int (0 : Int32)), (.int (0 : Int32)), (.int (0 : Int32)), (.int (0 : Int32)), (.int (0 : Int32)), (.int (0 : Int32)), (.int (0 : Int32)), (.int (0 : Int32))] (.int (0 : Int32)) := A487.pad (pad_rep [] (.int (0 : Int32)) 9)
                    have F489 := V0.ext E484
                    have F490 := F489.ext E487
                    have w491 := w487.pure (mkF m 384 #[.val (.ref a), .val (.int n)] [(.int c0), (.int (0 : Int32)), (.ref b487), (.ref b487), (.ref b484), (.ref b484)]) (fun X eT hZ hown k => by
                        show Steps _ _ _ (State.setTop _ (mkF m 379 #[.val (.ref a), .val (.int n)] [(.ref b487), (.ref b484), (.ref b484)])) _
                        refine S.dup X.here hx (hb hby dsr_379) rfl ?_
                        refine S.iconst X.here hx (0 : Int32) (hb hby dsr_380) rfl ?_
                        refine S.aloadN X.here hx (hb hby dsr_381) rfl rfl ?_
                        refine S.iconst X.here hx (0 : Int32) (hb hby dsr_382) rfl ?_
                        refine caV X hx eT hZ F490 (v := (.int c0)) ⟨by decide, by decide⟩ rfl rfl rfl (hb hby dsr_383) ?_
                        show Steps _ _ _ (State.setTop _ (mkF m 384 #[.val (.ref a), .val (.int n)] [(.int c0), (.int (0 : Int32)), (.ref b487), (.ref b487), (.ref b484), (.ref b484)])) _
                        exact k)
                    obtain ⟨h492, W492, z492, V492, w492⟩ := w491.stC hx V487 0 rfl (Nat.le_of_ble_eq_true rfl) ⟨by decide, by decide⟩ rfl rfl (hb hby dsr_384) (by omega) (mkF m 385 #[.val (.ref a), .val (.int n)] [(.ref b487), (.ref b484), (.ref b484)]) rfl
                    rw [nar_rng r0] at V492
                    have U492 : Arv Z h492 b487 k487 .char (9 : Int32) [(.int c0), (.int (0 : Int32)), (.int (0 : Int32)), (.int (0 : Int32)), (.int (0 : Int32)), (.int (0 : Int32)), (.int (0 : Int32)), (.int (0 : Int32)), (.int (0 : Int32))] (.int (0 : Int32)) := V492
                    have K493 : Keep h0 h492 [] := K488.wr W492 (Or.inr (by omega))
                    have F494 := F490.other W492 (nne (by omega))
                    have w495 := w492.pure (mkF m 390 #[.val (.ref a), .val (.int n)] [(.int c1), (.int (1 : Int32)), (.ref b487), (.ref b487), (.ref b484), (.ref b484)]) (fun X eT hZ hown k => by
                        show Steps _ _ _ (State.setTop _ (mkF m 385 #[.val (.ref a), .val (.int n)] [(.ref b487), (.ref b484), (.ref b484)])) _
                        refine S.dup X.here hx (hb hby dsr_385) rfl ?_
                        refine S.iconst X.here hx (1 : Int32) (hb hby dsr_386) rfl ?_
                        refine S.aloadN X.here hx (hb hby dsr_387) rfl rfl ?_
                        refine S.iconst X.here hx (1 : Int32) (hb hby dsr_388) rfl ?_
                        refine caV X hx eT hZ F494 (v := (.int c1)) ⟨by decide, by decide⟩ rfl rfl rfl (hb hby dsr_389) ?_
                        show Steps _ _ _ (State.setTop _ (mkF m 390 #[.val (.ref a), .val (.int n)] [(.int c1), (.int (1 : Int32)), (.ref b487), (.ref b487), (.ref b484), (.ref b484)])) _
                        exact k)
                    obtain ⟨h496, W496, z496, V496, w496⟩ := w495.stC hx U492 1 rfl (Nat.le_of_ble_eq_true rfl) ⟨by decide, by decide⟩ rfl rfl (hb hby dsr_390) (by omega) (mkF m 391 #[.val (.ref a), .val (.int n)] [(.ref b487), (.ref b484), (.ref b484)]) rfl
                    rw [nar_rng r1] at V496
                    have U496 : Arv Z h496 b487 k487 .char (9 : Int32) [(.int c0), (.int c1), (.int (0 : Int32)), (.int (0 : Int32)), (.int (0 : Int32)), (.int (0 : Int32)), (.int (0 : Int32)), (.int (0 : Int32)), (.int (0 : Int32))] (.int (0 : Int32)) := V496
                    have K497 : Keep h0 h496 [] := K493.wr W496 (Or.inr (by omega))
                    have F498 := F494.other W496 (nne (by omega))
                    have w499 := w496.pure (mkF m 396 #[.val (.ref a), .val (.int n)] [(.int c2), (.int (2 : Int32)), (.ref b487), (.ref b487), (.ref b484), (.ref b484)]) (fun X eT hZ hown k => by
                        show Steps _ _ _ (State.setTop _ (mkF m 391 #[.val (.ref a), .val (.int n)] [(.ref b487), (.ref b484), (.ref b484)])) _
                        refine S.dup X.here hx (hb hby dsr_391) rfl ?_
                        refine S.iconst X.here hx (2 : Int32) (hb hby dsr_392) rfl ?_
                        refine S.aloadN X.here hx (hb hby dsr_393) rfl rfl ?_
                        refine S.iconst X.here hx (2 : Int32) (hb hby dsr_394) rfl ?_
                        refine caV X hx eT hZ F498 (v := (.int c2)) ⟨by decide, by decide⟩ rfl rfl rfl (hb hby dsr_395) ?_
                        show Steps _ _ _ (State.setTop _ (mkF m 396 #[.val (.ref a), .val (.int n)] [(.int c2), (.int (2 : Int32)), (.ref b487), (.ref b487), (.ref b484), (.ref b484)])) _
                        exact k)
                    obtain ⟨h500, W500, z500, V500, w500⟩ := w499.stC hx U496 2 rfl (Nat.le_of_ble_eq_true rfl) ⟨by decide, by decide⟩ rfl rfl (hb hby dsr_396) (by omega) (mkF m 397 #[.val (.ref a), .val (.int n)] [(.ref b487), (.ref b484), (.ref b484)]) rfl
                    rw [nar_rng r2] at V500
                    have U500 : Arv Z h500 b487 k487 .char (9 : Int32) [(.int c0), (.int c1), (.int c2), (.int (0 : Int32)), (.int (0 : Int32)), (.int (0 : Int32)), (.int (0 : Int32)), (.int (0 : Int32)), (.int (0 : Int32))] (.int (0 : Int32)) := V500
                    have K501 : Keep h0 h500 [] := K497.wr W500 (Or.inr (by omega))
                    have F502 := F498.other W500 (nne (by omega))
                    have w503 := w500.pure (mkF m 402 #[.val (.ref a), .val (.int n)] [(.int c3), (.int (3 : Int32)), (.ref b487), (.ref b487), (.ref b484), (.ref b484)]) (fun X eT hZ hown k => by
                        show Steps _ _ _ (State.setTop _ (mkF m 397 #[.val (.ref a), .val (.int n)] [(.ref b487), (.ref b484), (.ref b484)])) _
                        refine S.dup X.here hx (hb hby dsr_397) rfl ?_
                        refine S.iconst X.here hx (3 : Int32) (hb hby dsr_398) rfl ?_
                        refine S.aloadN X.here hx (hb hby dsr_399) rfl rfl ?_
                        refine S.iconst X.here hx (3 : Int32) (hb hby dsr_400) rfl ?_
                        refine caV X hx eT hZ F502 (v := (.int c3)) ⟨by decide, by decide⟩ rfl rfl rfl (hb hby dsr_401) ?_
                        show Steps _ _ _ (State.setTop _ (mkF m 402 #[.val (.ref a), .val (.int n)] [(.int c3), (.int (3 : Int32)), (.ref b487), (.ref b487), (.ref b484), (.ref b484)])) _
                        exact k)
                    obtain ⟨h504, W504, z504, V504, w504⟩ := w503.stC hx U500 3 rfl (Nat.le_of_ble_eq_true rfl) ⟨by decide, by decide⟩ rfl rfl (hb hby dsr_402) (by omega) (mkF m 403 #[.val (.ref a), .val (.int n)] [(.ref b487), (.ref b484), (.ref b484)]) rfl
                    rw [nar_rng r3] at V504
                    have U504 : Arv Z h504 b487 k487 .char (9 : Int32) [(.int c0), (.int c1), (.int c2), (.int c3), (.int (0 : Int32)), (.int (0 : Int32)), (.int (0 : Int32)), (.int (0 : Int32)), (.int (0 : Int32))] (.int (0 : Int32)) := V504
                    have K505 : Keep h0 h504 [] := K501.wr W504 (Or.inr (by omega))
                    have F506 := F502.other W504 (nne (by omega))
                    have w507 := w504.pure (mkF m 408 #[.val (.ref a), .val (.int n)] [(.int c4), (.int (4 : Int32)), (.ref b487), (.ref b487), (.ref b484), (.ref b484)]) (fun X eT hZ hown k => by
                        show Steps _ _ _ (State.setTop _ (mkF m 403 #[.val (.ref a), .val (.int n)] [(.ref b487), (.ref b484), (.ref b484)])) _
                        refine S.dup X.here hx (hb hby dsr_403) rfl ?_
                        refine S.iconst X.here hx (4 : Int32) (hb hby dsr_404) rfl ?_
                        refine S.aloadN X.here hx (hb hby dsr_405) rfl rfl ?_
                        refine S.iconst X.here hx (4 : Int32) (hb hby dsr_406) rfl ?_
                        refine caV X hx eT hZ F506 (v := (.int c4)) ⟨by decide, by decide⟩ rfl rfl rfl (hb hby dsr_407) ?_
                        show Steps _ _ _ (State.setTop _ (mkF m 408 #[.val (.ref a), .val (.int n)] [(.int c4), (.int (4 : Int32)), (.ref b487), (.ref b487), (.ref b484), (.ref b484)])) _
                        exact k)
                    obtain ⟨h508, W508, z508, V508, w508⟩ := w507.stC hx U504 4 rfl (Nat.le_of_ble_eq_true rfl) ⟨by decide, by decide⟩ rfl rfl (hb hby dsr_408) (by omega) (mkF m 409 #[.val (.ref a), .val (.int n)] [(.ref b487), (.ref b484), (.ref b484)]) rfl
                    rw [nar_rng r4] at V508
                    have U508 : Arv Z h508 b487 k487 .char (9 : Int32) [(.int c0), (.int c1), (.int c2), (.int c3), (.int c4), (.int (0 : Int32)), (.int (0 : Int32)), (.int (0 : Int32)), (.int (0 : Int32))] (.int (0 : Int32)) := V508
                    have K509 : Keep h0 h508 [] := K505.wr W508 (Or.inr (by omega))
                    have F510 := F506.other W508 (nne (by omega))
                    have w511 := w508.pure (mkF m 414 #[.val (.ref a), .val (.int n)] [(.int c5), (.int (5 : Int32)), (.ref b487), (.ref b487), (.ref b484), (.ref b484)]) (fun X eT hZ hown k => by
                        show Steps _ _ _ (State.setTop _ (mkF m 409 #[.val (.ref a), .val (.int n)] [(.ref b487), (.ref b484), (.ref b484)])) _
                        refine S.dup X.here hx (hb hby dsr_409) rfl ?_
                        refine S.iconst X.here hx (5 : Int32) (hb hby dsr_410) rfl ?_
                        refine S.aloadN X.here hx (hb hby dsr_411) rfl rfl ?_
                        refine S.iconst X.here hx (5 : Int32) (hb hby dsr_412) rfl ?_
                        refine caV X hx eT hZ F510 (v := (.int c5)) ⟨by decide, by decide⟩ rfl rfl rfl (hb hby dsr_413) ?_
                        show Steps _ _ _ (State.setTop _ (mkF m 414 #[.val (.ref a), .val (.int n)] [(.int c5), (.int (5 : Int32)), (.ref b487), (.ref b487), (.ref b484), (.ref b484)])) _
                        exact k)
                    obtain ⟨h512, W512, z512, V512, w512⟩ := w511.stC hx U508 5 rfl (Nat.le_of_ble_eq_true rfl) ⟨by decide, by decide⟩ rfl rfl (hb hby dsr_414) (by omega) (mkF m 415 #[.val (.ref a), .val (.int n)] [(.ref b487), (.ref b484), (.ref b484)]) rfl
                    rw [nar_rng r5] at V512
                    have U512 : Arv Z h512 b487 k487 .char (9 : Int32) [(.int c0), (.int c1), (.int c2), (.int c3), (.int c4), (.int c5), (.int (0 : Int32)), (.int (0 : Int32)), (.int (0 : Int32))] (.int (0 : Int32)) := V512
                    have K513 : Keep h0 h512 [] := K509.wr W512 (Or.inr (by omega))
                    have F514 := F510.other W512 (nne (by omega))
                    have w515 := w512.pure (mkF m 422 #[.val (.ref a), .val (.int n)] [(.int c6), (.int (6 : Int32)), (.ref b487), (.ref b487), (.ref b484), (.ref b484)]) (fun X eT hZ hown k => by
                        show Steps _ _ _ (State.setTop _ (mkF m 415 #[.val (.ref a), .val (.int n)] [(.ref b487), (.ref b484), (.ref b484)])) _
                        refine S.dup X.here hx (hb hby dsr_415) rfl ?_
                        refine S.bipush X.here hx (6 : Int32) (hb hby dsr_416) rfl ?_
                        refine S.aloadN X.here hx (hb hby dsr_418) rfl rfl ?_
                        refine S.bipush X.here hx (6 : Int32) (hb hby dsr_419) rfl ?_
                        refine caV X hx eT hZ F514 (v := (.int c6)) ⟨by decide, by decide⟩ rfl rfl rfl (hb hby dsr_421) ?_
                        show Steps _ _ _ (State.setTop _ (mkF m 422 #[.val (.ref a), .val (.int n)] [(.int c6), (.int (6 : Int32)), (.ref b487), (.ref b487), (.ref b484), (.ref b484)])) _
                        exact k)
                    obtain ⟨h516, W516, z516, V516, w516⟩ := w515.stC hx U512 6 rfl (Nat.le_of_ble_eq_true rfl) ⟨by decide, by decide⟩ rfl rfl (hb hby dsr_422) (by omega) (mkF m 423 #[.val (.ref a), .val (.int n)] [(.ref b487), (.ref b484), (.ref b484)]) rfl
                    rw [nar_rng r6] at V516
                    have U516 : Arv Z h516 b487 k487 .char (9 : Int32) [(.int c0), (.int c1), (.int c2), (.int c3), (.int c4), (.int c5), (.int c6), (.int (0 : Int32)), (.int (0 : Int32))] (.int (0 : Int32)) := V516
                    have K517 : Keep h0 h516 [] := K513.wr W516 (Or.inr (by omega))
                    have F518 := F514.other W516 (nne (by omega))
                    have w519 := w516.pure (mkF m 430 #[.val (.ref a), .val (.int n)] [(.int c7), (.int (7 : Int32)), (.ref b487), (.ref b487), (.ref b484), (.ref b484)]) (fun X eT hZ hown k => by
                        show Steps _ _ _ (State.setTop _ (mkF m 423 #[.val (.ref a), .val (.int n)] [(.ref b487), (.ref b484), (.ref b484)])) _
                        refine S.dup X.here hx (hb hby dsr_423) rfl ?_
                        refine S.bipush X.here hx (7 : Int32) (hb hby dsr_424) rfl ?_
                        refine S.aloadN X.here hx (hb hby dsr_426) rfl rfl ?_
                        refine S.bipush X.here hx (7 : Int32) (hb hby dsr_427) rfl ?_
                        refine caV X hx eT hZ F518 (v := (.int c7)) ⟨by decide, by decide⟩ rfl rfl rfl (hb hby dsr_429) ?_
                        show Steps _ _ _ (State.setTop _ (mkF m 430 #[.val (.ref a), .val (.int n)] [(.int c7), (.int (7 : Int32)), (.ref b487), (.ref b487), (.ref b484), (.ref b484)])) _
                        exact k)
                    obtain ⟨h520, W520, z520, V520, w520⟩ := w519.stC hx U516 7 rfl (Nat.le_of_ble_eq_true rfl) ⟨by decide, by decide⟩ rfl rfl (hb hby dsr_430) (by omega) (mkF m 431 #[.val (.ref a), .val (.int n)] [(.ref b487), (.ref b484), (.ref b484)]) rfl
                    rw [nar_rng r7] at V520
                    have U520 : Arv Z h520 b487 k487 .char (9 : Int32) [(.int c0), (.int c1), (.int c2), (.int c3), (.int c4), (.int c5), (.int c6), (.int c7), (.int (0 : Int32))] (.int (0 : Int32)) := V520
                    have K521 : Keep h0 h520 [] := K517.wr W520 (Or.inr (by omega))
                    have F522 := F518.other W520 (nne (by omega))
                    have w523 := w520.pure (mkF m 438 #[.val (.ref a), .val (.int n)] [(.int c8), (.int (8 : Int32)), (.ref b487), (.ref b487), (.ref b484), (.ref b484)]) (fun X eT hZ hown k => by
                        show Steps _ _ _ (State.setTop _ (mkF m 431 #[.val (.ref a), .val (.int n)] [(.ref b487), (.ref b484), (.ref b484)])) _
                        refine S.dup X.here hx (hb hby dsr_431) rfl ?_
                        refine S.bipush X.here hx (8 : Int32) (hb hby dsr_432) rfl ?_
                        refine S.aloadN X.here hx (hb hby dsr_434) rfl rfl ?_
                        refine S.bipush X.here hx (8 : Int32) (hb hby dsr_435) rfl ?_
                        refine caV X hx eT hZ F522 (v := (.int c8)) ⟨by decide, by decide⟩ rfl rfl rfl (hb hby dsr_437) ?_
                        show Steps _ _ _ (State.setTop _ (mkF m 438 #[.val (.ref a), .val (.int n)] [(.int c8), (.int (8 : Int32)), (.ref b487), (.ref b487), (.ref b484), (.ref b484)])) _
                        exact k)
                    obtain ⟨h524, W524, z524, V524, w524⟩ := w523.stC hx U520 8 rfl (Nat.le_of_ble_eq_true rfl) ⟨by decide, by decide⟩ rfl rfl (hb hby dsr_438) (by omega) (mkF m 439 #[.val (.ref a), .val (.int n)] [(.ref b487), (.ref b484), (.ref b484)]) rfl
                    rw [nar_rng r8] at V524
                    have U524 : Arv Z h524 b487 k487 .char (9 : Int32) [(.int c0), (.int c1), (.int c2), (.int c3), (.int c4), (.int c5), (.int c6), (.int c7), (.int c8)] (.int (0 : Int32)) := V524
                    have K525 : Keep h0 h524 [] := K521.wr W524 (Or.inr (by omega))
                    have F526 := A484.ext E487
                    have F527 := F526.wr W492
                    have F528 := F527.wr W496
                    have F529 := F528.wr W500
                    have F530 := F529.wr W504
                    have F531 := F530.wr W508
                    have F532 := F531.wr W512
                    have F533 := F532.wr W516
                    have F534 := F533.wr W520
                    have F535 := F534.wr W524
                    have F536 := D484_4.ext E487
                    have F537 := F536.other W492 (Or.inl (nne (by omega)))
                    have F538 := F537.other W496 (Or.inl (nne (by omega)))
                    have F539 := F538.other W500 (Or.inl (nne (by omega)))
                    have F540 := F539.other W504 (Or.inl (nne (by omega)))
                    have F541 := F540.other W508 (Or.inl (nne (by omega)))
                    have F542 := F541.other W512 (Or.inl (nne (by omega)))
                    have F543 := F542.other W516 (Or.inl (nne (by omega)))
                    have F544 := F543.other W520 (Or.inl (nne (by omega)))
                    have F545 := F544.other W524 (Or.inl (nne (by omega)))
                    have F546 := D484_5.ext E487
                    have F547 := F546.other W492 (Or.inl (nne (by omega)))
                    have F548 := F547.other W496 (Or.inl (nne (by omega)))
                    have F549 := F548.other W500 (Or.inl (nne (by omega)))
                    have F550 := F549.other W504 (Or.inl (nne (by omega)))
                    have F551 := F550.other W508 (Or.inl (nne (by omega)))
                    have F552 := F551.other W512 (Or.inl (nne (by omega)))
                    have F553 := F552.other W516 (Or.inl (nne (by omega)))
                    have F554 := F553.other W520 (Or.inl (nne (by omega)))
                    have F555 := F554.other W524 (Or.inl (nne (by omega)))
                    have F556 := X0.ext E484
                    have F557 := F556.ext E487
                    have F558 := F557.wr W492 (by omega)
                    have F559 := F558.wr W496 (by omega)
                    have F560 := F559.wr W500 (by omega)
                    have F561 := F560.wr W504 (by omega)
                    have F562 := F561.wr W508 (by omega)
                    have F563 := F562.wr W512 (by omega)
                    have F564 := F563.wr W516 (by omega)
                    have F565 := F564.wr W520 (by omega)
                    have F566 := F565.wr W524 (by omega)
                    have r567 : ∀ c ∈ ([c0, c1, c2, c3, c4, c5, c6, c7, c8] : List Int32), ¬ c < 0 ∧ ¬ (255 : Int32) < c := (List.forall_mem_cons.mpr ⟨r0, (List.forall_mem_cons.mpr ⟨r1, (List.forall_mem_cons.mpr ⟨r2, (List.forall_mem_cons.mpr ⟨r3, (List.forall_mem_cons.mpr ⟨r4, (List.forall_mem_cons.mpr ⟨r5, (List.forall_mem_cons.mpr ⟨r6, (List.forall_mem_cons.mpr ⟨r7, (List.forall_mem_cons.mpr ⟨r8, (fun _ q => nomatch q)⟩)⟩)⟩)⟩)⟩)⟩)⟩)⟩)⟩)
                    have F569 := Safe.ext E487 w486.chv y484
                    have F570 := Safe.wr W492 (Safe.arv w491.al V487 (by decide)) w491.chv F569
                    have F571 := Safe.wr W496 (Safe.arv w495.al U492 (by decide)) w495.chv F570
                    have F572 := Safe.wr W500 (Safe.arv w499.al U496 (by decide)) w499.chv F571
                    have F573 := Safe.wr W504 (Safe.arv w503.al U500 (by decide)) w503.chv F572
                    have F574 := Safe.wr W508 (Safe.arv w507.al U504 (by decide)) w507.chv F573
                    have F575 := Safe.wr W512 (Safe.arv w511.al U508 (by decide)) w511.chv F574
                    have F576 := Safe.wr W516 (Safe.arv w515.al U512 (by decide)) w515.chv F575
                    have F577 := Safe.wr W520 (Safe.arv w519.al U516 (by decide)) w519.chv F576
                    have F578 := Safe.wr W524 (Safe.arv w523.al U520 (by decide)) w523.chv F577
                    obtain ⟨v568, h568, Q568, K568, z568, w568⟩ := w524.callI hx (y := (⟨"java/lang/String", "<init>", "([C)V"⟩ : MethodName)) (W := 1) rfl (hw _ (List.mem_of_getElem? (i := 52) rfl)) (hw _ (List.mem_of_getElem? (i := 53) rfl)) (hw _ (List.mem_of_getElem? (i := 54) rfl)) (by decide) (payNew hG w524.hZ hq_backV (hw _ (List.mem_of_getElem? (i := 2) rfl)) [c0, c1, c2, c3, c4, c5, c6, c7, c8] 9 (by omega) F535 F545 F555 U524 F566 rfl rfl (by decide) (by decide) r567 (by decide) (by decide)) rfl (by rw [hml]; rfl) [(.ref b484)] (lenOf pd_3 rfl) rfl (by show 2 * 0 + _ ≤ _; exact Nat.le_of_eq rfl) (hb hby dsr_439) (by decide) (by decide) (sfS F578 sf0) (fun rv => (mkF m 442 #[.val (.ref a), .val (.int n)] (rv.toList ++ [(.ref b484)]))) (fun _ => rfl)
                    obtain ⟨rfl, G568⟩ := Q568
                    have K579 : Keep h0 h568 [] := K525.trans K568 (allS (Or.inr (by omega)) (fun _ q => nomatch q))
                    have lt_b484 := G568.lt
                    exact w568.endW (v := some (.ref b484)) (Q := (fun v h => ∃ x cs, v = some (.ref x) ∧ n0 ≤ x ∧ Str Z h x cs h.size)) (wr := []) (h0 := h0) (fun h => by rw [Bd.returns] at h; cases h) Bd.notSynchronized (fun X hr => X.areturnOut hx rfl Bd.returns rfl (hb hby dsr_442) hr) (by decide) (by decide) ⟨b484, [c0, c1, c2, c3, c4, c5, c6, c7, c8], rfl, by omega, G568.more (by omega)⟩ K579
theorem dva_0 : decode prog_20_method_1_code 0 = .ok (.getstatic 10, 3) := by decide +kernel
theorem dva_3 : decode prog_20_method_1_code 3 = .ok (.invokevirtual 14, 3) := by decide +kernel
theorem dva_6 : decode prog_20_method_1_code 6 = .ok (.checkcast 15, 3) := by decide +kernel
theorem dva_9 : decode prog_20_method_1_code 9 = .ok (.areturn, 1) := by decide +kernel
theorem efva (m : MethodId)  : entryFrame m #[] 0 = mkF m 0 #[] [] := by first | (simp [entryFrame, mkF, argsToLocals, Value.category, maxLocals]; done) | rfl
theorem pn_4 : plainFor (⟨"com/example/unified_lexicon/unifiedlexicon/core/Profile$Kind", "values", "()[Lcom/example/unified_lexicon/unifiedlexicon/core/Profile$Kind;"⟩ : MethodName) = true := by first | decide +kernel | (apply plainFor_of_name; simp [plainName, overriddenIn]; done)
set_option maxRecDepth 65536 in
set_option maxHeartbeats 40000000 in
theorem rmva (l : Launch) (Z : State) (a0 : Array Value) (hw : ∀ d ∈ tables_1, d.before a0 Z = true) (av oc op : Nat) (kv : ClassId) (h0 : Heap) (n0 : Nat) (Z0 : n0 ≤ h0.size) (X0 : Old Z n0 h0) (SV : Sta Z Z.heap "com/example/unified_lexicon/unifiedlexicon/core/Profile$Kind" "$VALUES" "[Lcom/example/unified_lexicon/unifiedlexicon/core/Profile$Kind;" (.ref av)) (VV : Arv Z h0 av kv (.object "com/example/unified_lexicon/unifiedlexicon/core/Profile$Kind") (2 : Int32) [(.ref oc), (.ref op)] .null) (EV : Exa Z h0 av "[Lcom/example/unified_lexicon/unifiedlexicon/core/Profile$Kind;") :
    NMet l Z (⟨"com/example/unified_lexicon/unifiedlexicon/core/Profile$Kind", "values", "()[Lcom/example/unified_lexicon/unifiedlexicon/core/Profile$Kind;"⟩ : MethodName) prog_20_method_1_code 0 (some (.array (.object "com/example/unified_lexicon/unifiedlexicon/core/Profile$Kind"))) [] ({ frames := 1, cells := 1, slots := 2, locals := 14 } : Room) [] h0 n0 [] (fun v h => ∃ y : Nat, v = some (.ref y) ∧ n0 ≤ y ∧ Arv Z h y kv (.object "com/example/unified_lexicon/unifiedlexicon/core/Profile$Kind") (2 : Int32) [(.ref oc), (.ref op)] .null) := by
  refine MetFree.of_bodySF pn_4 hisR ?_
  intro p e s m args below meth c s₁ Bd hml0 hP hK
  obtain ⟨rfl, hZ, hh⟩ := hP
  have hx := Bd.exec
  have hby := Bd.bytes
  have hml : c.maxLocals = 0 := hml0
  have hnm := (name_of_methodNamed Bd.named Bd.method).1
  have w0 := Wk.start (a0 := a0) (EL := []) (n0 := n0) (nw := true) Bd hZ hh EW.nil chv0 (efva m ) ({ frames := 1, cells := 1, slots := 2, locals := 14 } : Room) rfl
  have K0 : Keep h0 h0 [] := Keep.refl _ _
  have lt_VV := arlt VV
  have lt_EV := exlt EV
  have w1 := w0.same (mkF m 3 #[] [(.ref av)]) (fun X eT hZ hown => getS (host := "") X hx hZ hown (hw _ (List.mem_of_getElem? (i := 89) rfl)) Via.refl eT (SV.ext X0.2) (g := (mkF m 0 #[] [])) rfl (hb hby dva_0))
  obtain ⟨b2, h2, g2, E2, l2, V2, O2, w2⟩ := w1.cloneR hx (hw _ (List.mem_of_getElem? (i := 91) rfl)) (hw _ (List.mem_of_getElem? (i := 92) rfl)) (hw _ (List.mem_of_getElem? (i := 96) rfl)) (hw _ (List.mem_of_getElem? (i := 94) rfl)) (hw _ (List.mem_of_getElem? (i := 95) rfl)) (hw _ (List.mem_of_getElem? (i := 97) rfl)) VV EV rfl (by rw [hml]; rfl) rfl (hb hby dva_3) (by decide) (W := 0) (by show 2 * 0 + _ ≤ _; exact Nat.le_of_eq rfl) (by decide) 2 (by decide) (by decide) (by decide) (fun xq => (mkF m 6 #[] (.ref xq :: []))) (fun _ => rfl)
  have z2 := E2.1
  have K3 : Keep h0 h2 [] := K0.ext E2
  have w4 := w2.same (mkF m 9 #[] [(.ref b2)]) (fun X eT hZ hown => castY X hx hZ hown (hw _ (List.mem_of_getElem? (i := 101) rfl)) eT (Ins.self O2) (g := (mkF m 6 #[] [(.ref b2)])) rfl rfl (hb hby dva_6))
  exact w4.endN (v := some (.ref b2)) (Q := (fun v h => ∃ y : Nat, v = some (.ref y) ∧ n0 ≤ y ∧ Arv Z h y kv (.object "com/example/unified_lexicon/unifiedlexicon/core/Profile$Kind") (2 : Int32) [(.ref oc), (.ref op)] .null)) (wr := []) (h0 := h0) (fun h => by rw [Bd.returns] at h; cases h) Bd.notSynchronized (fun X hr => X.areturnOut hx rfl Bd.returns rfl (hb hby dva_9) hr) (by decide) (by decide) ⟨b2, rfl, by omega, V2⟩ K3
theorem doi_0 : decode jdk_32_method_2_code 0 = .ok (.aload_n 0, 1) := by decide +kernel
theorem doi_1 : decode jdk_32_method_2_code 1 = .ok (.invokespecial 7, 3) := by decide +kernel
theorem doi_4 : decode jdk_32_method_2_code 4 = .ok (.aload_n 0, 1) := by decide +kernel
theorem doi_5 : decode jdk_32_method_2_code 5 = .ok (.aload_n 1, 1) := by decide +kernel
theorem doi_6 : decode jdk_32_method_2_code 6 = .ok (.putfield 13, 3) := by decide +kernel
theorem doi_9 : decode jdk_32_method_2_code 9 = .ok (.return_, 1) := by decide +kernel
theorem efoi (m : MethodId) (x0 : Nat) (x1 : Nat) : entryFrame m #[(.ref x0), (.ref x1)] 2 = mkF m 0 #[.val (.ref x0), .val (.ref x1)] [] := by first | (simp [entryFrame, mkF, argsToLocals, Value.category, maxLocals]; done) | rfl
theorem pn_5 : plainFor (⟨"java/util/Optional", "<init>", "(Ljava/lang/Object;)V"⟩ : MethodName) = true := by first | decide +kernel | (apply plainFor_of_name; simp [plainName, overriddenIn]; done)
set_option maxRecDepth 65536 in
set_option maxHeartbeats 40000000 in
theorem rmoi (l : Launch) (Z : State) (a0 : Array Value) (hw : ∀ d ∈ tables_1, d.before a0 Z = true) (a : Nat) (u : Nat) (h0 : Heap) (n0 : Nat) (Z0 : n0 ≤ h0.size) (ga : n0 ≤ a) (E0 : Exa Z h0 a "java/util/Optional") (F00 : Fld Z h0 a "java/util/Optional" "value" "Ljava/lang/Object;" .null) :
    NMet l Z (⟨"java/util/Optional", "<init>", "(Ljava/lang/Object;)V"⟩ : MethodName) jdk_32_method_2_code 2 none [] ({ frames := 1, cells := 0, slots := 0, locals := 12 } : Room) [(.ref a), (.ref u)] h0 n0 [a] (fun r h => r = none ∧ Exa Z h a "java/util/Optional" ∧ Fld Z h a "java/util/Optional" "value" "Ljava/lang/Object;" (.ref u)) := by
  refine MetFree.of_bodySF pn_5 hisR ?_
  intro p e s m args below meth c s₁ Bd hml0 hP hK
  obtain ⟨rfl, hZ, hh⟩ := hP
  have hx := Bd.exec
  have hby := Bd.bytes
  have hml : c.maxLocals = 2 := hml0
  have hnm := (name_of_methodNamed Bd.named Bd.method).1
  have w0 := Wk.start (a0 := a0) (EL := []) (n0 := n0) (nw := true) Bd hZ hh EW.nil chv0 (efoi m a u) ({ frames := 1, cells := 0, slots := 0, locals := 12 } : Room) rfl
  have K0 : Keep h0 h0 [a] := Keep.refl _ _
  have lt_E0 := exlt E0
  have lt_F00 : h0.size > a := Fld.lt F00
  have w1 := w0.pure (mkF m 1 #[.val (.ref a), .val (.ref u)] [(.ref a)]) (fun X eT hZ hown k => by
      show Steps _ _ _ (State.setTop _ (mkF m 0 #[.val (.ref a), .val (.ref u)] [])) _
      refine S.aloadN X.here hx (hb hby doi_0) rfl rfl ?_
      exact k)
  have w2 := w1.same (mkF m 4 #[.val (.ref a), .val (.ref u)] []) (fun X eT hZ hown => initO X hx hZ hown (hw _ (List.mem_of_getElem? (i := 133) rfl)) (hw _ (List.mem_of_getElem? (i := 60) rfl)) (hw _ (List.mem_of_getElem? (i := 61) rfl)) eT (g := (mkF m 1 #[.val (.ref a), .val (.ref u)] [(.ref a)])) rfl (by rw [hml]; rfl) rfl (hb hby doi_1) (by decide) (W := 0) (by show 2 * 0 + _ ≤ _; exact Nat.le_of_eq rfl) (by decide))
  have w3 := w2.pure (mkF m 6 #[.val (.ref a), .val (.ref u)] [(.ref u), (.ref a)]) (fun X eT hZ hown k => by
      show Steps _ _ _ (State.setTop _ (mkF m 4 #[.val (.ref a), .val (.ref u)] [])) _
      refine S.aloadN X.here hx (hb hby doi_4) rfl rfl ?_
      refine S.aloadN X.here hx (hb hby doi_5) rfl rfl ?_
      exact k)
  obtain ⟨h4, W4, z4, F4, w4⟩ := w3.putF hx (host := "") (Or.inl (hw _ (List.mem_of_getElem? (i := 116) rfl))) Via.refl F00 E0 (Or.inr ⟨(hw _ (List.mem_of_getElem? (i := 117) rfl)), rfl, hnm⟩) (hw _ (List.mem_of_getElem? (i := 124) rfl)) (ty := (.object "java/lang/Object")) (by decide) rfl rfl rfl rfl (hb hby doi_6) (by omega) safe0 (mkF m 9 #[.val (.ref a), .val (.ref u)] []) rfl
  have K5 : Keep h0 h4 [a] := K0.wr W4 (Or.inl (List.mem_of_getElem? (i := 0) rfl))
  have F6 := E0.wr W4
  exact w4.endN (v := none) (Q := (fun r h => r = none ∧ Exa Z h a "java/util/Optional" ∧ Fld Z h a "java/util/Optional" "value" "Ljava/lang/Object;" (.ref u))) (wr := [a]) (h0 := h0) (fun _ => rfl) Bd.notSynchronized (fun X hr => X.returnOut hx Bd.returns (hb hby doi_9) hr) (by decide) (by decide) ⟨rfl, F6, F4⟩ K5
theorem dnn_0 : decode jdk_31_method_10_code 0 = .ok (.aload_n 0, 1) := by decide +kernel
theorem dnn_1 : decode jdk_31_method_10_code 1 = .ok (.ifnonnull 11, 3) := by decide +kernel
theorem dnn_12 : decode jdk_31_method_10_code 12 = .ok (.aload_n 0, 1) := by decide +kernel
theorem dnn_13 : decode jdk_31_method_10_code 13 = .ok (.areturn, 1) := by decide +kernel
theorem efnn (m : MethodId) (x0 : Nat) : entryFrame m #[(.ref x0)] 1 = mkF m 0 #[.val (.ref x0)] [] := by first | (simp [entryFrame, mkF, argsToLocals, Value.category, maxLocals]; done) | rfl
theorem pn_6 : plainFor (⟨"java/util/Objects", "requireNonNull", "(Ljava/lang/Object;)Ljava/lang/Object;"⟩ : MethodName) = true := by first | decide +kernel | (apply plainFor_of_name; simp [plainName, overriddenIn]; done)
set_option maxRecDepth 65536 in
set_option maxHeartbeats 40000000 in
theorem rmnn (l : Launch) (Z : State) (a0 : Array Value) (hw : ∀ d ∈ tables_1, d.before a0 Z = true) (u : Nat) (h0 : Heap) (n0 : Nat) (Z0 : n0 ≤ h0.size)  :
    NMet l Z (⟨"java/util/Objects", "requireNonNull", "(Ljava/lang/Object;)Ljava/lang/Object;"⟩ : MethodName) jdk_31_method_10_code 1 (some (.object "java/lang/Object")) [] ({ frames := 0, cells := 0, slots := 0, locals := 0 } : Room) [(.ref u)] h0 n0 [] (fun v h => v = some (.ref u) ∧ h0 = h) := by
  refine MetFree.of_bodySF pn_6 hisR ?_
  intro p e s m args below meth c s₁ Bd hml0 hP hK
  obtain ⟨rfl, hZ, hh⟩ := hP
  have hx := Bd.exec
  have hby := Bd.bytes
  have hml : c.maxLocals = 1 := hml0
  have hnm := (name_of_methodNamed Bd.named Bd.method).1
  have w0 := Wk.start (a0 := a0) (EL := []) (n0 := n0) (nw := true) Bd hZ hh EW.nil chv0 (efnn m u) ({ frames := 0, cells := 0, slots := 0, locals := 0 } : Room) rfl
  have K0 : Keep h0 h0 [] := Keep.refl _ _
  have w1 := w0.pure (mkF m 13 #[.val (.ref u)] [(.ref u)]) (fun X eT hZ hown k => by
      show Steps _ _ _ (State.setTop _ (mkF m 0 #[.val (.ref u)] [])) _
      refine S.aloadN X.here hx (hb hby dnn_0) rfl rfl ?_
      refine S.ifnonnullYes X.here hx 12 (hb hby dnn_1) (by decide) (by decide) ?_
      refine S.aloadN X.here hx (hb hby dnn_12) rfl rfl ?_
      exact k)
  exact w1.endN (v := some (.ref u)) (Q := (fun v h => v = some (.ref u) ∧ h0 = h)) (wr := []) (h0 := h0) (fun h => by rw [Bd.returns] at h; cases h) Bd.notSynchronized (fun X hr => X.areturnOut hx rfl Bd.returns rfl (hb hby dnn_13) hr) (by decide) (by decide) ⟨rfl, rfl⟩ K0
theorem pd_4 : parseMethodDescriptor "(Ljava/lang/Object;)Ljava/lang/Object;" = some ⟨[(.object "java/lang/Object")], some (.object "java/lang/Object")⟩ := by decide +kernel
theorem pd_5 : parseMethodDescriptor "(Ljava/lang/Object;)V" = some ⟨[(.object "java/lang/Object")], none⟩ := by decide +kernel
theorem dof_0 : decode jdk_32_method_3_code 0 = .ok (.new 2, 3) := by decide +kernel
theorem dof_3 : decode jdk_32_method_3_code 3 = .ok (.dup, 1) := by decide +kernel
theorem dof_4 : decode jdk_32_method_3_code 4 = .ok (.aload_n 0, 1) := by decide +kernel
theorem dof_5 : decode jdk_32_method_3_code 5 = .ok (.invokestatic 17, 3) := by decide +kernel
theorem dof_8 : decode jdk_32_method_3_code 8 = .ok (.invokespecial 23, 3) := by decide +kernel
theorem dof_11 : decode jdk_32_method_3_code 11 = .ok (.areturn, 1) := by decide +kernel
theorem efof (m : MethodId) (x0 : Nat) : entryFrame m #[(.ref x0)] 1 = mkF m 0 #[.val (.ref x0)] [] := by first | (simp [entryFrame, mkF, argsToLocals, Value.category, maxLocals]; done) | rfl
theorem pn_7 : plainFor (⟨"java/util/Optional", "of", "(Ljava/lang/Object;)Ljava/util/Optional;"⟩ : MethodName) = true := by first | decide +kernel | (apply plainFor_of_name; simp [plainName, overriddenIn]; done)
set_option maxRecDepth 65536 in
set_option maxHeartbeats 40000000 in
theorem rmof (l : Launch) (Z : State) (a0 : Array Value) (hw : ∀ d ∈ tables_1, d.before a0 Z = true) (u : Nat) (h0 : Heap) (n0 : Nat) (Z0 : n0 ≤ h0.size) (X0 : Old Z n0 h0) :
    NMet l Z (⟨"java/util/Optional", "of", "(Ljava/lang/Object;)Ljava/util/Optional;"⟩ : MethodName) jdk_32_method_3_code 1 (some (.object "java/util/Optional")) [] ({ frames := 2, cells := 1, slots := 1, locals := 26 } : Room) [(.ref u)] h0 n0 [] (fun r h => ∃ x, r = some (.ref x) ∧ n0 ≤ x ∧ Exa Z h x "java/util/Optional" ∧ Fld Z h x "java/util/Optional" "value" "Ljava/lang/Object;" (.ref u)) := by
  refine MetFree.of_bodySF pn_7 hisR ?_
  intro p e s m args below meth c s₁ Bd hml0 hP hK
  obtain ⟨rfl, hZ, hh⟩ := hP
  have hx := Bd.exec
  have hby := Bd.bytes
  have hml : c.maxLocals = 1 := hml0
  have hnm := (name_of_methodNamed Bd.named Bd.method).1
  have w0 := Wk.start (a0 := a0) (EL := []) (n0 := n0) (nw := true) Bd hZ hh EW.nil chv0 (efof m u) ({ frames := 2, cells := 1, slots := 1, locals := 26 } : Room) rfl
  have K0 : Keep h0 h0 [] := Keep.refl _ _
  obtain ⟨b1, h1, g1, E1, l1, A1, D1, y1, w1⟩ := w0.newO hx (hw _ (List.mem_of_getElem? (i := 123) rfl)) (hw _ (List.mem_of_getElem? (i := 124) rfl)) (hw _ (List.mem_of_getElem? (i := 108) rfl)) rfl (hb hby dof_0) (by decide) (by decide) (fun xq => (mkF m 3 #[.val (.ref u)] (.ref xq :: []))) (fun _ => rfl)
  have z1 := E1.1
  have K2 : Keep h0 h1 [] := K0.ext E1
  have D1_117 : Fld Z h1 b1 "java/util/Optional" "value" "Ljava/lang/Object;" .null := D1 (Or.inr (hw _ (List.mem_of_getElem? (i := 117) rfl))) (ty := (.object "java/lang/Object")) (by decide)
  have w3 := w1.pure (mkF m 5 #[.val (.ref u)] [(.ref u), (.ref b1), (.ref b1)]) (fun X eT hZ hown k => by
      show Steps _ _ _ (State.setTop _ (mkF m 3 #[.val (.ref u)] [(.ref b1)])) _
      refine S.dup X.here hx (hb hby dof_3) rfl ?_
      refine S.aloadN X.here hx (hb hby dof_4) rfl rfl ?_
      exact k)
  obtain ⟨v4, h4, Q4, K4, z4, w4⟩ := w3.callS hx (y := (⟨"java/util/Objects", "requireNonNull", "(Ljava/lang/Object;)Ljava/lang/Object;"⟩ : MethodName)) (W := 2) (hw _ (List.mem_of_getElem? (i := 125) rfl)) (hw _ (List.mem_of_getElem? (i := 126) rfl)) (hw _ (List.mem_of_getElem? (i := 127) rfl)) (hw _ (List.mem_of_getElem? (i := 128) rfl)) (by decide) ((rmnn l Z a0 hw u h1 n0 (by omega) ).pay w3.hZ (hw _ (List.mem_of_getElem? (i := 128) rfl)) (hw _ (List.mem_of_getElem? (i := 127) rfl)) (by decide) (by decide)) rfl (by rw [hml]; rfl) [(.ref b1), (.ref b1)] (lenOf pd_4 rfl) rfl (by show 2 * 0 + _ ≤ _; exact Nat.le_of_eq rfl) (hb hby dof_5) (by decide) (by decide) (fun _ q => nomatch q) (fun rv => (mkF m 8 #[.val (.ref u)] (rv.toList ++ [(.ref b1), (.ref b1)]))) (fun _ => rfl)
  obtain ⟨rfl, rfl⟩ := Q4
  obtain ⟨v5, h5, Q5, K5, z5, w5⟩ := w4.callI hx (y := (⟨"java/util/Optional", "<init>", "(Ljava/lang/Object;)V"⟩ : MethodName)) (W := 1) rfl (hw _ (List.mem_of_getElem? (i := 129) rfl)) (hw _ (List.mem_of_getElem? (i := 130) rfl)) (hw _ (List.mem_of_getElem? (i := 132) rfl)) (by decide) ((rmoi l Z a0 hw b1 u h1 n0 (by omega) (by omega) A1 D1_117).pay w4.hZ (hw _ (List.mem_of_getElem? (i := 132) rfl)) (hw _ (List.mem_of_getElem? (i := 108) rfl)) (by decide) (by decide)) rfl (by rw [hml]; rfl) [(.ref b1)] (lenOf pd_5 rfl) rfl (by show 2 * 0 + _ ≤ _; exact Nat.le_of_eq rfl) (hb hby dof_8) (by decide) (by decide) (fun _ _ => safe0) (fun rv => (mkF m 11 #[.val (.ref u)] (rv.toList ++ [(.ref b1)]))) (fun _ => rfl)
  obtain ⟨rfl, E5x, G5_0⟩ := Q5
  have K6 : Keep h0 h5 [] := K2.trans K5 (allS (Or.inr (by omega)) (fun _ q => nomatch q))
  exact w5.endN (v := some (.ref b1)) (Q := (fun r h => ∃ x, r = some (.ref x) ∧ n0 ≤ x ∧ Exa Z h x "java/util/Optional" ∧ Fld Z h x "java/util/Optional" "value" "Ljava/lang/Object;" (.ref u))) (wr := []) (h0 := h0) (fun h => by rw [Bd.returns] at h; cases h) Bd.notSynchronized (fun X hr => X.areturnOut hx rfl Bd.returns rfl (hb hby dof_11) hr) (by decide) (by decide) ⟨b1, rfl, by omega, E5x, G5_0⟩ K6
theorem dem_0 : decode jdk_32_method_1_code 0 = .ok (.getstatic 1, 3) := by decide +kernel
theorem dem_3 : decode jdk_32_method_1_code 3 = .ok (.astore_n 0, 1) := by decide +kernel
theorem dem_4 : decode jdk_32_method_1_code 4 = .ok (.aload_n 0, 1) := by decide +kernel
theorem dem_5 : decode jdk_32_method_1_code 5 = .ok (.areturn, 1) := by decide +kernel
theorem efem (m : MethodId)  : entryFrame m #[] 1 = mkF m 0 #[.unset] [] := by first | (simp [entryFrame, mkF, argsToLocals, Value.category, maxLocals]; done) | rfl
theorem pn_8 : plainFor (⟨"java/util/Optional", "empty", "()Ljava/util/Optional;"⟩ : MethodName) = true := by first | decide +kernel | (apply plainFor_of_name; simp [plainName, overriddenIn]; done)
set_option maxRecDepth 65536 in
set_option maxHeartbeats 40000000 in
theorem rmem (l : Launch) (Z : State) (a0 : Array Value) (hw : ∀ d ∈ tables_1, d.before a0 Z = true) (oe : Nat) (h0 : Heap) (n0 : Nat) (Z0 : n0 ≤ h0.size) (X0 : Old Z n0 h0) (SE : Sta Z Z.heap "java/util/Optional" "EMPTY" "Ljava/util/Optional;" (.ref oe)) :
    NMet l Z (⟨"java/util/Optional", "empty", "()Ljava/util/Optional;"⟩ : MethodName) jdk_32_method_1_code 1 (some (.object "java/util/Optional")) [] ({ frames := 0, cells := 0, slots := 0, locals := 0 } : Room) [] h0 n0 [] (fun v h => v = some (.ref oe) ∧ h0 = h) := by
  refine MetFree.of_bodySF pn_8 hisR ?_
  intro p e s m args below meth c s₁ Bd hml0 hP hK
  obtain ⟨rfl, hZ, hh⟩ := hP
  have hx := Bd.exec
  have hby := Bd.bytes
  have hml : c.maxLocals = 1 := hml0
  have hnm := (name_of_methodNamed Bd.named Bd.method).1
  have w0 := Wk.start (a0 := a0) (EL := []) (n0 := n0) (nw := true) Bd hZ hh EW.nil chv0 (efem m ) ({ frames := 0, cells := 0, slots := 0, locals := 0 } : Room) rfl
  have K0 : Keep h0 h0 [] := Keep.refl _ _
  have w1 := w0.same (mkF m 3 #[.unset] [(.ref oe)]) (fun X eT hZ hown => getS (host := "") X hx hZ hown (hw _ (List.mem_of_getElem? (i := 110) rfl)) Via.refl eT (SE.ext X0.2) (g := (mkF m 0 #[.unset] [])) rfl (hb hby dem_0))
  have w2 := w1.pure (mkF m 5 #[.val (.ref oe)] [(.ref oe)]) (fun X eT hZ hown k => by
      show Steps _ _ _ (State.setTop _ (mkF m 3 #[.unset] [(.ref oe)])) _
      refine S.astoreN X.here hx (hb hby dem_3) rfl #[.val (.ref oe)] rfl ?_
      refine S.aloadN X.here hx (hb hby dem_4) rfl rfl ?_
      exact k)
  exact w2.endN (v := some (.ref oe)) (Q := (fun v h => v = some (.ref oe) ∧ h0 = h)) (wr := []) (h0 := h0) (fun h => by rw [Bd.returns] at h; cases h) Bd.notSynchronized (fun X hr => X.areturnOut hx rfl Bd.returns rfl (hb hby dem_5) hr) (by decide) (by decide) ⟨rfl, rfl⟩ K0
theorem dipR_0 : decode jdk_32_method_6_code 0 = .ok (.aload_n 0, 1) := by decide +kernel
theorem dipR_1 : decode jdk_32_method_6_code 1 = .ok (.getfield 13, 3) := by decide +kernel
theorem dipR_4 : decode jdk_32_method_6_code 4 = .ok (.ifnull 7, 3) := by decide +kernel
theorem dipR_7 : decode jdk_32_method_6_code 7 = .ok (.iconst 1, 1) := by decide +kernel
theorem dipR_8 : decode jdk_32_method_6_code 8 = .ok (.goto 4, 3) := by decide +kernel
theorem dipR_12 : decode jdk_32_method_6_code 12 = .ok (.ireturn, 1) := by decide +kernel
theorem efipR (m : MethodId) (x0 : Nat) : entryFrame m #[(.ref x0)] 1 = mkF m 0 #[.val (.ref x0)] [] := by first | (simp [entryFrame, mkF, argsToLocals, Value.category, maxLocals]; done) | rfl
theorem pn_9 : plainFor (⟨"java/util/Optional", "isPresent", "()Z"⟩ : MethodName) = true := by first | decide +kernel | (apply plainFor_of_name; simp [plainName, overriddenIn]; done)
set_option maxRecDepth 65536 in
set_option maxHeartbeats 40000000 in
theorem rmipR (l : Launch) (Z : State) (a0 : Array Value) (hw : ∀ d ∈ tables_1, d.before a0 Z = true) (o u : Nat) (h0 : Heap) (n0 : Nat) (Z0 : n0 ≤ h0.size) (F0 : Fld Z h0 o "java/util/Optional" "value" "Ljava/lang/Object;" (.ref u)) :
    NMet l Z (⟨"java/util/Optional", "isPresent", "()Z"⟩ : MethodName) jdk_32_method_6_code 1 (some .boolean) [] ({ frames := 0, cells := 0, slots := 0, locals := 0 } : Room) [(.ref o)] h0 n0 [] (fun v h => v = some (.int (1 : Int32)) ∧ h0 = h) := by
  refine MetFree.of_bodySF pn_9 hisR ?_
  intro p e s m args below meth c s₁ Bd hml0 hP hK
  obtain ⟨rfl, hZ, hh⟩ := hP
  have hx := Bd.exec
  have hby := Bd.bytes
  have hml : c.maxLocals = 1 := hml0
  have hnm := (name_of_methodNamed Bd.named Bd.method).1
  have w0 := Wk.start (a0 := a0) (EL := []) (n0 := n0) (nw := true) Bd hZ hh EW.nil chv0 (efipR m o) ({ frames := 0, cells := 0, slots := 0, locals := 0 } : Room) rfl
  have K0 : Keep h0 h0 [] := Keep.refl _ _
  have lt_F0 : h0.size > o := Fld.lt F0
  have w1 := w0.pure (mkF m 1 #[.val (.ref o)] [(.ref o)]) (fun X eT hZ hown k => by
      show Steps _ _ _ (State.setTop _ (mkF m 0 #[.val (.ref o)] [])) _
      refine S.aloadN X.here hx (hb hby dipR_0) rfl rfl ?_
      exact k)
  have w2 := w1.same (mkF m 4 #[.val (.ref o)] [(.ref u)]) (fun X eT hZ hown => getF X hx hZ hown (host := "") (Or.inl (hw _ (List.mem_of_getElem? (i := 116) rfl))) Via.refl eT F0 (g := (mkF m 1 #[.val (.ref o)] [(.ref o)])) rfl rfl (hb hby dipR_1))
  have w3 := w2.pure (mkF m 12 #[.val (.ref o)] [(.int (1 : Int32))]) (fun X eT hZ hown k => by
      show Steps _ _ _ (State.setTop _ (mkF m 4 #[.val (.ref o)] [(.ref u)])) _
      refine S.ifnullNo X.here hx (hb hby dipR_4) ?_
      refine S.iconst X.here hx (1 : Int32) (hb hby dipR_7) rfl ?_
      refine S.goto X.here hx 12 (hb hby dipR_8) (by decide) (by decide) ?_
      exact k)
  exact w3.endN (v := some (.int (1 : Int32))) (Q := (fun v h => v = some (.int (1 : Int32)) ∧ h0 = h)) (wr := []) (h0 := h0) (fun h => by rw [Bd.returns] at h; cases h) Bd.notSynchronized (fun X hr => retN X hx (t := .boolean) Bd.returns (by simp) (hb hby dipR_12) hr) (by decide) (by decide) ⟨rfl, rfl⟩ K0
theorem dipN_0 : decode jdk_32_method_6_code 0 = .ok (.aload_n 0, 1) := by decide +kernel
theorem dipN_1 : decode jdk_32_method_6_code 1 = .ok (.getfield 13, 3) := by decide +kernel
theorem dipN_4 : decode jdk_32_method_6_code 4 = .ok (.ifnull 7, 3) := by decide +kernel
theorem dipN_11 : decode jdk_32_method_6_code 11 = .ok (.iconst 0, 1) := by decide +kernel
theorem dipN_12 : decode jdk_32_method_6_code 12 = .ok (.ireturn, 1) := by decide +kernel
theorem efipN (m : MethodId) (x0 : Nat) : entryFrame m #[(.ref x0)] 1 = mkF m 0 #[.val (.ref x0)] [] := by first | (simp [entryFrame, mkF, argsToLocals, Value.category, maxLocals]; done) | rfl
set_option maxRecDepth 65536 in
set_option maxHeartbeats 40000000 in
theorem rmipN (l : Launch) (Z : State) (a0 : Array Value) (hw : ∀ d ∈ tables_1, d.before a0 Z = true) (o : Nat) (h0 : Heap) (n0 : Nat) (Z0 : n0 ≤ h0.size) (F0 : Fld Z h0 o "java/util/Optional" "value" "Ljava/lang/Object;" .null) :
    NMet l Z (⟨"java/util/Optional", "isPresent", "()Z"⟩ : MethodName) jdk_32_method_6_code 1 (some .boolean) [] ({ frames := 0, cells := 0, slots := 0, locals := 0 } : Room) [(.ref o)] h0 n0 [] (fun v h => v = some (.int (0 : Int32)) ∧ h0 = h) := by
  refine MetFree.of_bodySF pn_9 hisR ?_
  intro p e s m args below meth c s₁ Bd hml0 hP hK
  obtain ⟨rfl, hZ, hh⟩ := hP
  have hx := Bd.exec
  have hby := Bd.bytes
  have hml : c.maxLocals = 1 := hml0
  have hnm := (name_of_methodNamed Bd.named Bd.method).1
  have w0 := Wk.start (a0 := a0) (EL := []) (n0 := n0) (nw := true) Bd hZ hh EW.nil chv0 (efipN m o) ({ frames := 0, cells := 0, slots := 0, locals := 0 } : Room) rfl
  have K0 : Keep h0 h0 [] := Keep.refl _ _
  have lt_F0 : h0.size > o := Fld.lt F0
  have w1 := w0.pure (mkF m 1 #[.val (.ref o)] [(.ref o)]) (fun X eT hZ hown k => by
      show Steps _ _ _ (State.setTop _ (mkF m 0 #[.val (.ref o)] [])) _
      refine S.aloadN X.here hx (hb hby dipN_0) rfl rfl ?_
      exact k)
  have w2 := w1.same (mkF m 4 #[.val (.ref o)] [.null]) (fun X eT hZ hown => getF X hx hZ hown (host := "") (Or.inl (hw _ (List.mem_of_getElem? (i := 116) rfl))) Via.refl eT F0 (g := (mkF m 1 #[.val (.ref o)] [(.ref o)])) rfl rfl (hb hby dipN_1))
  have w3 := w2.pure (mkF m 12 #[.val (.ref o)] [(.int (0 : Int32))]) (fun X eT hZ hown k => by
      show Steps _ _ _ (State.setTop _ (mkF m 4 #[.val (.ref o)] [.null])) _
      refine S.ifnullYes X.here hx 11 (hb hby dipN_4) (by decide) (by decide) ?_
      refine S.iconst X.here hx (0 : Int32) (hb hby dipN_11) rfl ?_
      exact k)
  exact w3.endN (v := some (.int (0 : Int32))) (Q := (fun v h => v = some (.int (0 : Int32)) ∧ h0 = h)) (wr := []) (h0 := h0) (fun h => by rw [Bd.returns] at h; cases h) Bd.notSynchronized (fun X hr => retN X hx (t := .boolean) Bd.returns (by simp) (hb hby dipN_12) hr) (by decide) (by decide) ⟨rfl, rfl⟩ K0
theorem dgt_0 : decode jdk_32_method_5_code 0 = .ok (.aload_n 0, 1) := by decide +kernel
theorem dgt_1 : decode jdk_32_method_5_code 1 = .ok (.getfield 13, 3) := by decide +kernel
theorem dgt_4 : decode jdk_32_method_5_code 4 = .ok (.ifnonnull 13, 3) := by decide +kernel
theorem dgt_17 : decode jdk_32_method_5_code 17 = .ok (.aload_n 0, 1) := by decide +kernel
theorem dgt_18 : decode jdk_32_method_5_code 18 = .ok (.getfield 13, 3) := by decide +kernel
theorem dgt_21 : decode jdk_32_method_5_code 21 = .ok (.areturn, 1) := by decide +kernel
theorem efgt (m : MethodId) (x0 : Nat) : entryFrame m #[(.ref x0)] 1 = mkF m 0 #[.val (.ref x0)] [] := by first | (simp [entryFrame, mkF, argsToLocals, Value.category, maxLocals]; done) | rfl
theorem pn_10 : plainFor (⟨"java/util/Optional", "get", "()Ljava/lang/Object;"⟩ : MethodName) = true := by first | decide +kernel | (apply plainFor_of_name; simp [plainName, overriddenIn]; done)
set_option maxRecDepth 65536 in
set_option maxHeartbeats 40000000 in
theorem rmgt (l : Launch) (Z : State) (a0 : Array Value) (hw : ∀ d ∈ tables_1, d.before a0 Z = true) (o u : Nat) (h0 : Heap) (n0 : Nat) (Z0 : n0 ≤ h0.size) (F0 : Fld Z h0 o "java/util/Optional" "value" "Ljava/lang/Object;" (.ref u)) :
    NMet l Z (⟨"java/util/Optional", "get", "()Ljava/lang/Object;"⟩ : MethodName) jdk_32_method_5_code 1 (some (.object "java/lang/Object")) [] ({ frames := 0, cells := 0, slots := 0, locals := 0 } : Room) [(.ref o)] h0 n0 [] (fun v h => v = some (.ref u) ∧ h0 = h) := by
  refine MetFree.of_bodySF pn_10 hisR ?_
  intro p e s m args below meth c s₁ Bd hml0 hP hK
  obtain ⟨rfl, hZ, hh⟩ := hP
  have hx := Bd.exec
  have hby := Bd.bytes
  have hml : c.maxLocals = 1 := hml0
  have hnm := (name_of_methodNamed Bd.named Bd.method).1
  have w0 := Wk.start (a0 := a0) (EL := []) (n0 := n0) (nw := true) Bd hZ hh EW.nil chv0 (efgt m o) ({ frames := 0, cells := 0, slots := 0, locals := 0 } : Room) rfl
  have K0 : Keep h0 h0 [] := Keep.refl _ _
  have lt_F0 : h0.size > o := Fld.lt F0
  have w1 := w0.pure (mkF m 1 #[.val (.ref o)] [(.ref o)]) (fun X eT hZ hown k => by
      show Steps _ _ _ (State.setTop _ (mkF m 0 #[.val (.ref o)] [])) _
      refine S.aloadN X.here hx (hb hby dgt_0) rfl rfl ?_
      exact k)
  have w2 := w1.same (mkF m 4 #[.val (.ref o)] [(.ref u)]) (fun X eT hZ hown => getF X hx hZ hown (host := "") (Or.inl (hw _ (List.mem_of_getElem? (i := 116) rfl))) Via.refl eT F0 (g := (mkF m 1 #[.val (.ref o)] [(.ref o)])) rfl rfl (hb hby dgt_1))
  have w3 := w2.pure (mkF m 18 #[.val (.ref o)] [(.ref o)]) (fun X eT hZ hown k => by
      show Steps _ _ _ (State.setTop _ (mkF m 4 #[.val (.ref o)] [(.ref u)])) _
      refine S.ifnonnullYes X.here hx 17 (hb hby dgt_4) (by decide) (by decide) ?_
      refine S.aloadN X.here hx (hb hby dgt_17) rfl rfl ?_
      exact k)
  have w4 := w3.same (mkF m 21 #[.val (.ref o)] [(.ref u)]) (fun X eT hZ hown => getF X hx hZ hown (host := "") (Or.inl (hw _ (List.mem_of_getElem? (i := 116) rfl))) Via.refl eT F0 (g := (mkF m 18 #[.val (.ref o)] [(.ref o)])) rfl rfl (hb hby dgt_18))
  exact w4.endN (v := some (.ref u)) (Q := (fun v h => v = some (.ref u) ∧ h0 = h)) (wr := []) (h0 := h0) (fun h => by rw [Bd.returns] at h; cases h) Bd.notSynchronized (fun X hr => X.areturnOut hx rfl Bd.returns rfl (hb hby dgt_21) hr) (by decide) (by decide) ⟨rfl, rfl⟩ K0
theorem pd_6 : parseMethodDescriptor "()[Lcom/example/unified_lexicon/unifiedlexicon/core/Profile$Kind;" = some ⟨[], some (.array (.object "com/example/unified_lexicon/unifiedlexicon/core/Profile$Kind"))⟩ := by decide +kernel
theorem pd_7 : parseMethodDescriptor "(Ljava/lang/Object;)Z" = some ⟨[(.object "java/lang/Object")], some .boolean⟩ := by decide +kernel
theorem pd_8 : parseMethodDescriptor "()Ljava/util/Optional;" = some ⟨[], some (.object "java/util/Optional")⟩ := by decide +kernel
theorem pd_9 : parseMethodDescriptor "(Ljava/lang/Object;)Ljava/util/Optional;" = some ⟨[(.object "java/lang/Object")], some (.object "java/util/Optional")⟩ := by decide +kernel
theorem dow_0 : decode prog_20_method_5_code 0 = .ok (.invokestatic 33, 3) := by decide +kernel
theorem dow_3 : decode prog_20_method_5_code 3 = .ok (.astore_n 1, 1) := by decide +kernel
theorem dow_4 : decode prog_20_method_5_code 4 = .ok (.aload_n 1, 1) := by decide +kernel
theorem dow_5 : decode prog_20_method_5_code 5 = .ok (.arraylength, 1) := by decide +kernel
theorem dow_6 : decode prog_20_method_5_code 6 = .ok (.istore_n 2, 1) := by decide +kernel
theorem dow_7 : decode prog_20_method_5_code 7 = .ok (.iconst 0, 1) := by decide +kernel
theorem dow_8 : decode prog_20_method_5_code 8 = .ok (.istore_n 3, 1) := by decide +kernel
theorem dow_9 : decode prog_20_method_5_code 9 = .ok (.iload_n 3, 1) := by decide +kernel
theorem dow_10 : decode prog_20_method_5_code 10 = .ok (.iload_n 2, 1) := by decide +kernel
theorem dow_11 : decode prog_20_method_5_code 11 = .ok (.if_icmp .ge 32, 3) := by decide +kernel
theorem dow_14 : decode prog_20_method_5_code 14 = .ok (.aload_n 1, 1) := by decide +kernel
theorem dow_15 : decode prog_20_method_5_code 15 = .ok (.iload_n 3, 1) := by decide +kernel
theorem dow_16 : decode prog_20_method_5_code 16 = .ok (.aaload, 1) := by decide +kernel
theorem dow_17 : decode prog_20_method_5_code 17 = .ok (.astore 4, 2) := by decide +kernel
theorem dow_19 : decode prog_20_method_5_code 19 = .ok (.aload 4, 2) := by decide +kernel
theorem dow_21 : decode prog_20_method_5_code 21 = .ok (.getfield 29, 3) := by decide +kernel
theorem dow_24 : decode prog_20_method_5_code 24 = .ok (.aload_n 0, 1) := by decide +kernel
theorem dow_25 : decode prog_20_method_5_code 25 = .ok (.invokevirtual 37, 3) := by decide +kernel
theorem dow_28 : decode prog_20_method_5_code 28 = .ok (.ifCond .eq 9, 3) := by decide +kernel
theorem dow_31 : decode prog_20_method_5_code 31 = .ok (.aload 4, 2) := by decide +kernel
theorem dow_33 : decode prog_20_method_5_code 33 = .ok (.invokestatic 43, 3) := by decide +kernel
theorem dow_36 : decode prog_20_method_5_code 36 = .ok (.areturn, 1) := by decide +kernel
theorem dow_37 : decode prog_20_method_5_code 37 = .ok (.iinc 3 1, 3) := by decide +kernel
theorem dow_40 : decode prog_20_method_5_code 40 = .ok (.goto (-31), 3) := by decide +kernel
theorem dow_43 : decode prog_20_method_5_code 43 = .ok (.invokestatic 49, 3) := by decide +kernel
theorem dow_46 : decode prog_20_method_5_code 46 = .ok (.areturn, 1) := by decide +kernel
theorem efow (m : MethodId) (x0 : Nat) : entryFrame m #[(.ref x0)] 5 = mkF m 0 #[.val (.ref x0), .unset, .unset, .unset, .unset] [] := by first | (simp [entryFrame, mkF, argsToLocals, Value.category, maxLocals]; done) | rfl
theorem pn_11 : plainFor (⟨"com/example/unified_lexicon/unifiedlexicon/core/Profile$Kind", "ofWritten", "(Ljava/lang/String;)Ljava/util/Optional;"⟩ : MethodName) = true := by first | decide +kernel | (apply plainFor_of_name; simp [plainName, overriddenIn]; done)
set_option maxRecDepth 65536 in
set_option maxHeartbeats 40000000 in
theorem rmow (l : Launch) (Z : State) (a0 : Array Value) (hw : ∀ d ∈ tables_1, d.before a0 Z = true) (x : Nat) (cs : List Int32) (b : Nat) (av oc op xc xp oe : Nat) (kv : ClassId) (h0 : Heap) (n0 : Nat) (Z0 : n0 ≤ h0.size) (hG : SetsOk Z) (X0 : Old Z n0 h0) (SV : Sta Z Z.heap "com/example/unified_lexicon/unifiedlexicon/core/Profile$Kind" "$VALUES" "[Lcom/example/unified_lexicon/unifiedlexicon/core/Profile$Kind;" (.ref av)) (VV : Arv Z h0 av kv (.object "com/example/unified_lexicon/unifiedlexicon/core/Profile$Kind") (2 : Int32) [(.ref oc), (.ref op)] .null) (EV : Exa Z h0 av "[Lcom/example/unified_lexicon/unifiedlexicon/core/Profile$Kind;") (SE : Sta Z Z.heap "java/util/Optional" "EMPTY" "Ljava/util/Optional;" (.ref oe)) (FWc : Fld Z h0 oc "com/example/unified_lexicon/unifiedlexicon/core/Profile$Kind" "written" "Ljava/lang/String;" (.ref xc)) (SWc : Str Z h0 xc own_C n0) (FWp : Fld Z h0 op "com/example/unified_lexicon/unifiedlexicon/core/Profile$Kind" "written" "Ljava/lang/String;" (.ref xp)) (SWp : Str Z h0 xp own_P n0) (EE : Exa Z h0 oe "java/util/Optional") (FE : Fld Z h0 oe "java/util/Optional" "value" "Ljava/lang/Object;" .null) (Sx : Str Z h0 x cs b) :
    NMet l Z (⟨"com/example/unified_lexicon/unifiedlexicon/core/Profile$Kind", "ofWritten", "(Ljava/lang/String;)Ljava/util/Optional;"⟩ : MethodName) prog_20_method_5_code 5 (some (.object "java/util/Optional")) [] ({ frames := 3, cells := 2, slots := 3, locals := 38 } : Room) [(.ref x)] h0 n0 [] (fun v h => ∃ o, v = some (.ref o) ∧ Exa Z h o "java/util/Optional" ∧ Fld Z h o "java/util/Optional" "value" "Ljava/lang/Object;" (own_of cs oc op)) := by
  refine MetFree.of_bodySF pn_11 hisR ?_
  intro p e s m args below meth c s₁ Bd hml0 hP hK
  obtain ⟨rfl, hZ, hh⟩ := hP
  have hx := Bd.exec
  have hby := Bd.bytes
  have hml : c.maxLocals = 5 := hml0
  have hnm := (name_of_methodNamed Bd.named Bd.method).1
  have w0 := Wk.start (a0 := a0) (EL := []) (n0 := n0) (nw := true) Bd hZ hh EW.nil chv0 (efow m x) ({ frames := 3, cells := 2, slots := 3, locals := 38 } : Room) rfl
  have K0 : Keep h0 h0 [] := Keep.refl _ _
  have lt_VV := arlt VV
  have lt_EV := exlt EV
  have lt_FWc : h0.size > oc := Fld.lt FWc
  have lt_SWc := SWc.lt
  have lt_FWp : h0.size > op := Fld.lt FWp
  have lt_SWp := SWp.lt
  have lt_FE : h0.size > oe := Fld.lt FE
  have lt_EE := exlt EE
  have lt_Sx := Sx.lt
  have hq_eqW : ∀ d ∈ StrChars.Road.wordsEq, d.before a0 Z = true := fun d hd => hw d ((by decide +kernel : ∀ d ∈ StrChars.Road.wordsEq, d ∈ tables_1) d hd)
  obtain ⟨v1, h1, Q1, K1, z1, w1⟩ := w0.callS hx (y := (⟨"com/example/unified_lexicon/unifiedlexicon/core/Profile$Kind", "values", "()[Lcom/example/unified_lexicon/unifiedlexicon/core/Profile$Kind;"⟩ : MethodName)) (W := 0) (hw _ (List.mem_of_getElem? (i := 86) rfl)) (hw _ (List.mem_of_getElem? (i := 87) rfl)) (hw _ (List.mem_of_getElem? (i := 84) rfl)) (hw _ (List.mem_of_getElem? (i := 88) rfl)) (by decide) ((rmva l Z a0 hw av oc op kv h0 n0 (by omega) X0 SV VV EV).pay w0.hZ (hw _ (List.mem_of_getElem? (i := 88) rfl)) (hw _ (List.mem_of_getElem? (i := 84) rfl)) (by decide) (by decide)) rfl (by rw [hml]; rfl) [] (lenOf pd_6 rfl) rfl (by show 2 * 0 + _ ≤ _; exact Nat.le_of_eq rfl) (hb hby dow_0) (by decide) (by decide) (fun _ q => nomatch q) (fun rv => (mkF m 3 #[.val (.ref x), .unset, .unset, .unset, .unset] (rv.toList ++ []))) (fun _ => rfl)
  obtain ⟨y1, rfl, gy1, V1⟩ := Q1
  have K2 : Keep h0 h1 [] := K0.trans K1 (fun _ q => nomatch q)
  have lt_y1 := arlt V1
  have w3 := w1.pure (mkF m 21 #[.val (.ref x), .val (.ref y1), .val (.int (2 : Int32)), .val (.int (0 : Int32)), .val (.ref oc)] [(.ref oc)]) (fun X eT hZ hown k => by
      show Steps _ _ _ (State.setTop _ (mkF m 3 #[.val (.ref x), .unset, .unset, .unset, .unset] [(.ref y1)])) _
      refine S.astoreN X.here hx (hb hby dow_3) rfl #[.val (.ref x), .val (.ref y1), .unset, .unset, .unset] rfl ?_
      refine S.aloadN X.here hx (hb hby dow_4) rfl rfl ?_
      refine alenV X hx eT hZ V1 rfl rfl (hb hby dow_5) ?_
      show Steps _ _ _ (State.setTop _ (mkF m 6 #[.val (.ref x), .val (.ref y1), .unset, .unset, .unset] [(.int (2 : Int32))])) _
      refine S.istoreN X.here hx (hb hby dow_6) #[.val (.ref x), .val (.ref y1), .val (.int (2 : Int32)), .unset, .unset] rfl ?_
      refine S.iconst X.here hx (0 : Int32) (hb hby dow_7) rfl ?_
      refine S.istoreN X.here hx (hb hby dow_8) #[.val (.ref x), .val (.ref y1), .val (.int (2 : Int32)), .val (.int (0 : Int32)), .unset] rfl ?_
      refine S.iloadN X.here hx (hb hby dow_9) rfl ?_
      refine S.iloadN X.here hx (hb hby dow_10) rfl ?_
      refine S.icmpNo X.here hx (hb hby dow_11) (by decide) ?_
      refine S.aloadN X.here hx (hb hby dow_14) rfl rfl ?_
      refine S.iloadN X.here hx (hb hby dow_15) rfl ?_
      refine aaV X hx eT hZ V1 rfl (v := (.ref oc)) ⟨by decide, by decide⟩ rfl rfl rfl (hb hby dow_16) ?_
      show Steps _ _ _ (State.setTop _ (mkF m 17 #[.val (.ref x), .val (.ref y1), .val (.int (2 : Int32)), .val (.int (0 : Int32)), .unset] [(.ref oc)])) _
      refine S.astore X.here hx (hb hby dow_17) rfl #[.val (.ref x), .val (.ref y1), .val (.int (2 : Int32)), .val (.int (0 : Int32)), .val (.ref oc)] rfl ?_
      refine S.aload X.here hx (hb hby dow_19) rfl rfl ?_
      exact k)
  have F4 := FWc.keep K1 nin0
  have w5 := w3.same (mkF m 24 #[.val (.ref x), .val (.ref y1), .val (.int (2 : Int32)), .val (.int (0 : Int32)), .val (.ref oc)] [(.ref xc)]) (fun X eT hZ hown => getF X hx hZ hown (host := "") (Or.inl (hw _ (List.mem_of_getElem? (i := 103) rfl))) Via.refl eT F4 (g := (mkF m 21 #[.val (.ref x), .val (.ref y1), .val (.int (2 : Int32)), .val (.int (0 : Int32)), .val (.ref oc)] [(.ref oc)])) rfl rfl (hb hby dow_21))
  have w6 := w5.pure (mkF m 25 #[.val (.ref x), .val (.ref y1), .val (.int (2 : Int32)), .val (.int (0 : Int32)), .val (.ref oc)] [(.ref x), (.ref xc)]) (fun X eT hZ hown k => by
      show Steps _ _ _ (State.setTop _ (mkF m 24 #[.val (.ref x), .val (.ref y1), .val (.int (2 : Int32)), .val (.int (0 : Int32)), .val (.ref oc)] [(.ref xc)])) _
      refine S.aloadN X.here hx (hb hby dow_24) rfl rfl ?_
      exact k)
  have F7 := SWc.keep K1 all0
  have F8 := Sx.keep K1 all0
  have F9 := X0.keep K1 all0
  obtain ⟨v10, h10, Q10, K10, z10, w10⟩ := w6.callV hx (C := "java/lang/String") (y := (⟨"java/lang/String", "equals", "(Ljava/lang/Object;)Z"⟩ : MethodName)) (z := (⟨"java/lang/String", "equals", "(Ljava/lang/Object;)Z"⟩ : MethodName)) (W := 0) (hw _ (List.mem_of_getElem? (i := 105) rfl)) (hw _ (List.mem_of_getElem? (i := 73) rfl)) (hw _ (List.mem_of_getElem? (i := 75) rfl)) (hw _ (List.mem_of_getElem? (i := 74) rfl)) (w6.nf (hw _ (List.mem_of_getElem? (i := 75) rfl))) (by decide) (payEq hG w6.hZ hq_eqW (hw _ (List.mem_of_getElem? (i := 2) rfl)) F7 F8 F9 (by decide) (by decide)) F7.exa rfl (by rw [hml]; rfl) [] (lenOf pd_7 rfl) rfl (by show 2 * 0 + _ ≤ _; exact Nat.le_of_eq rfl) (hb hby dow_25) (by decide) (by decide) (fun _ q => nomatch q) (fun rv => (mkF m 28 #[.val (.ref x), .val (.ref y1), .val (.int (2 : Int32)), .val (.int (0 : Int32)), .val (.ref oc)] (rv.toList ++ []))) (fun _ => rfl)
  obtain ⟨rfl, rfl⟩ := Q10
  by_cases hc11 : (if own_C = cs then (1 : Int32) else (0 : Int32)) = (0 : Int32)
  · have w12 := w10.pure (mkF m 21 #[.val (.ref x), .val (.ref y1), .val (.int (2 : Int32)), .val (.int (1 : Int32)), .val (.ref op)] [(.ref op)]) (fun X eT hZ hown k => by
        show Steps _ _ _ (State.setTop _ (mkF m 28 #[.val (.ref x), .val (.ref y1), .val (.int (2 : Int32)), .val (.int (0 : Int32)), .val (.ref oc)] [(.int (if own_C = cs then (1 : Int32) else (0 : Int32)))])) _
        refine S.ifYes X.here hx 37 (hb hby dow_28) ((if0 _ _).trans (teq hc11).1) (by decide) (by decide) ?_
        refine S.iinc X.here hx (1 : Int32) (hb hby dow_37) rfl rfl #[.val (.ref x), .val (.ref y1), .val (.int (2 : Int32)), .val (.int (1 : Int32)), .val (.ref oc)] rfl ?_
        refine S.goto X.here hx 9 (hb hby dow_40) (by decide) (by decide) ?_
        refine S.iloadN X.here hx (hb hby dow_9) rfl ?_
        refine S.iloadN X.here hx (hb hby dow_10) rfl ?_
        refine S.icmpNo X.here hx (hb hby dow_11) (by decide) ?_
        refine S.aloadN X.here hx (hb hby dow_14) rfl rfl ?_
        refine S.iloadN X.here hx (hb hby dow_15) rfl ?_
        refine aaV X hx eT hZ V1 rfl (v := (.ref op)) ⟨by decide, by decide⟩ rfl rfl rfl (hb hby dow_16) ?_
        show Steps _ _ _ (State.setTop _ (mkF m 17 #[.val (.ref x), .val (.ref y1), .val (.int (2 : Int32)), .val (.int (1 : Int32)), .val (.ref oc)] [(.ref op)])) _
        refine S.astore X.here hx (hb hby dow_17) rfl #[.val (.ref x), .val (.ref y1), .val (.int (2 : Int32)), .val (.int (1 : Int32)), .val (.ref op)] rfl ?_
        refine S.aload X.here hx (hb hby dow_19) rfl rfl ?_
        exact k)
    have F13 := FWp.keep K1 nin0
    have w14 := w12.same (mkF m 24 #[.val (.ref x), .val (.ref y1), .val (.int (2 : Int32)), .val (.int (1 : Int32)), .val (.ref op)] [(.ref xp)]) (fun X eT hZ hown => getF X hx hZ hown (host := "") (Or.inl (hw _ (List.mem_of_getElem? (i := 103) rfl))) Via.refl eT F13 (g := (mkF m 21 #[.val (.ref x), .val (.ref y1), .val (.int (2 : Int32)), .val (.int (1 : Int32)), .val (.ref op)] [(.ref op)])) rfl rfl (hb hby dow_21))
    have w15 := w14.pure (mkF m 25 #[.val (.ref x), .val (.ref y1), .val (.int (2 : Int32)), .val (.int (1 : Int32)), .val (.ref op)] [(.ref x), (.ref xp)]) (fun X eT hZ hown k => by
        show Steps _ _ _ (State.setTop _ (mkF m 24 #[.val (.ref x), .val (.ref y1), .val (.int (2 : Int32)), .val (.int (1 : Int32)), .val (.ref op)] [(.ref xp)])) _
        refine S.aloadN X.here hx (hb hby dow_24) rfl rfl ?_
        exact k)
    have F16 := SWp.keep K1 all0
    obtain ⟨v17, h17, Q17, K17, z17, w17⟩ := w15.callV hx (C := "java/lang/String") (y := (⟨"java/lang/String", "equals", "(Ljava/lang/Object;)Z"⟩ : MethodName)) (z := (⟨"java/lang/String", "equals", "(Ljava/lang/Object;)Z"⟩ : MethodName)) (W := 0) (hw _ (List.mem_of_getElem? (i := 105) rfl)) (hw _ (List.mem_of_getElem? (i := 73) rfl)) (hw _ (List.mem_of_getElem? (i := 75) rfl)) (hw _ (List.mem_of_getElem? (i := 74) rfl)) (w15.nf (hw _ (List.mem_of_getElem? (i := 75) rfl))) (by decide) (payEq hG w15.hZ hq_eqW (hw _ (List.mem_of_getElem? (i := 2) rfl)) F16 F8 F9 (by decide) (by decide)) F16.exa rfl (by rw [hml]; rfl) [] (lenOf pd_7 rfl) rfl (by show 2 * 0 + _ ≤ _; exact Nat.le_of_eq rfl) (hb hby dow_25) (by decide) (by decide) (fun _ q => nomatch q) (fun rv => (mkF m 28 #[.val (.ref x), .val (.ref y1), .val (.int (2 : Int32)), .val (.int (1 : Int32)), .val (.ref op)] (rv.toList ++ []))) (fun _ => rfl)
    obtain ⟨rfl, rfl⟩ := Q17
    by_cases hc18 : (if own_P = cs then (1 : Int32) else (0 : Int32)) = (0 : Int32)
    · have w19 := w17.pure (mkF m 43 #[.val (.ref x), .val (.ref y1), .val (.int (2 : Int32)), .val (.int (2 : Int32)), .val (.ref op)] []) (fun X eT hZ hown k => by
          show Steps _ _ _ (State.setTop _ (mkF m 28 #[.val (.ref x), .val (.ref y1), .val (.int (2 : Int32)), .val (.int (1 : Int32)), .val (.ref op)] [(.int (if own_P = cs then (1 : Int32) else (0 : Int32)))])) _
          refine S.ifYes X.here hx 37 (hb hby dow_28) ((if0 _ _).trans (teq hc18).1) (by decide) (by decide) ?_
          refine S.iinc X.here hx (2 : Int32) (hb hby dow_37) rfl rfl #[.val (.ref x), .val (.ref y1), .val (.int (2 : Int32)), .val (.int (2 : Int32)), .val (.ref op)] rfl ?_
          refine S.goto X.here hx 9 (hb hby dow_40) (by decide) (by decide) ?_
          refine S.iloadN X.here hx (hb hby dow_9) rfl ?_
          refine S.iloadN X.here hx (hb hby dow_10) rfl ?_
          refine S.icmpYes X.here hx 43 (hb hby dow_11) (by decide) (by decide) (by decide) ?_
          exact k)
      obtain ⟨v20, h20, Q20, K20, z20, w20⟩ := w19.callS hx (y := (⟨"java/util/Optional", "empty", "()Ljava/util/Optional;"⟩ : MethodName)) (W := 0) (hw _ (List.mem_of_getElem? (i := 106) rfl)) (hw _ (List.mem_of_getElem? (i := 107) rfl)) (hw _ (List.mem_of_getElem? (i := 108) rfl)) (hw _ (List.mem_of_getElem? (i := 109) rfl)) (by decide) ((rmem l Z a0 hw oe h1 n0 (by omega) F9 SE).pay w19.hZ (hw _ (List.mem_of_getElem? (i := 109) rfl)) (hw _ (List.mem_of_getElem? (i := 108) rfl)) (by decide) (by decide)) rfl (by rw [hml]; rfl) [] (lenOf pd_8 rfl) rfl (by show 2 * 0 + _ ≤ _; exact Nat.le_of_eq rfl) (hb hby dow_43) (by decide) (by decide) (fun _ q => nomatch q) (fun rv => (mkF m 46 #[.val (.ref x), .val (.ref y1), .val (.int (2 : Int32)), .val (.int (2 : Int32)), .val (.ref op)] (rv.toList ++ []))) (fun _ => rfl)
      obtain ⟨rfl, rfl⟩ := Q20
      have F21 := EE.keep K1
      have F22 := FE.keep K1 nin0
      exact w20.endN (v := some (.ref oe)) (Q := (fun v h => ∃ o, v = some (.ref o) ∧ Exa Z h o "java/util/Optional" ∧ Fld Z h o "java/util/Optional" "value" "Ljava/lang/Object;" (own_of cs oc op))) (wr := []) (h0 := h0) (fun h => by rw [Bd.returns] at h; cases h) Bd.notSynchronized (fun X hr => X.areturnOut hx rfl Bd.returns rfl (hb hby dow_46) hr) (by decide) (by decide) ⟨oe, rfl, F21, by rw [show own_of cs oc op = .null from (if_neg (ite_eq hc11)).trans (if_neg (ite_eq hc18))]; exact F22⟩ K2
    · have w23 := w17.pure (mkF m 33 #[.val (.ref x), .val (.ref y1), .val (.int (2 : Int32)), .val (.int (1 : Int32)), .val (.ref op)] [(.ref op)]) (fun X eT hZ hown k => by
          show Steps _ _ _ (State.setTop _ (mkF m 28 #[.val (.ref x), .val (.ref y1), .val (.int (2 : Int32)), .val (.int (1 : Int32)), .val (.ref op)] [(.int (if own_P = cs then (1 : Int32) else (0 : Int32)))])) _
          refine S.ifNo X.here hx (hb hby dow_28) ((if0 _ _).trans (feq hc18).1) ?_
          refine S.aload X.here hx (hb hby dow_31) rfl rfl ?_
          exact k)
      obtain ⟨v24, h24, Q24, K24, z24, w24⟩ := w23.callS hx (y := (⟨"java/util/Optional", "of", "(Ljava/lang/Object;)Ljava/util/Optional;"⟩ : MethodName)) (W := 0) (hw _ (List.mem_of_getElem? (i := 120) rfl)) (hw _ (List.mem_of_getElem? (i := 121) rfl)) (hw _ (List.mem_of_getElem? (i := 108) rfl)) (hw _ (List.mem_of_getElem? (i := 122) rfl)) (by decide) ((rmof l Z a0 hw op h1 n0 (by omega) F9).pay w23.hZ (hw _ (List.mem_of_getElem? (i := 122) rfl)) (hw _ (List.mem_of_getElem? (i := 108) rfl)) (by decide) (by decide)) rfl (by rw [hml]; rfl) [] (lenOf pd_9 rfl) rfl (by show 2 * 0 + _ ≤ _; exact Nat.le_of_eq rfl) (hb hby dow_33) (by decide) (by decide) (fun _ q => nomatch q) (fun rv => (mkF m 36 #[.val (.ref x), .val (.ref y1), .val (.int (2 : Int32)), .val (.int (1 : Int32)), .val (.ref op)] (rv.toList ++ []))) (fun _ => rfl)
      obtain ⟨x24, rfl, gx24, E24x, G24_0⟩ := Q24
      have K25 : Keep h0 h24 [] := K2.trans K24 (fun _ q => nomatch q)
      have lt_x24 := exlt E24x
      exact w24.endN (v := some (.ref x24)) (Q := (fun v h => ∃ o, v = some (.ref o) ∧ Exa Z h o "java/util/Optional" ∧ Fld Z h o "java/util/Optional" "value" "Ljava/lang/Object;" (own_of cs oc op))) (wr := []) (h0 := h0) (fun h => by rw [Bd.returns] at h; cases h) Bd.notSynchronized (fun X hr => X.areturnOut hx rfl Bd.returns rfl (hb hby dow_36) hr) (by decide) (by decide) ⟨x24, rfl, E24x, by rw [show own_of cs oc op = (.ref op) from (if_neg (ite_eq hc11)).trans (if_pos (ite_ne hc18))]; exact G24_0⟩ K25
  · have w26 := w10.pure (mkF m 33 #[.val (.ref x), .val (.ref y1), .val (.int (2 : Int32)), .val (.int (0 : Int32)), .val (.ref oc)] [(.ref oc)]) (fun X eT hZ hown k => by
        show Steps _ _ _ (State.setTop _ (mkF m 28 #[.val (.ref x), .val (.ref y1), .val (.int (2 : Int32)), .val (.int (0 : Int32)), .val (.ref oc)] [(.int (if own_C = cs then (1 : Int32) else (0 : Int32)))])) _
        refine S.ifNo X.here hx (hb hby dow_28) ((if0 _ _).trans (feq hc11).1) ?_
        refine S.aload X.here hx (hb hby dow_31) rfl rfl ?_
        exact k)
    obtain ⟨v27, h27, Q27, K27, z27, w27⟩ := w26.callS hx (y := (⟨"java/util/Optional", "of", "(Ljava/lang/Object;)Ljava/util/Optional;"⟩ : MethodName)) (W := 0) (hw _ (List.mem_of_getElem? (i := 120) rfl)) (hw _ (List.mem_of_getElem? (i := 121) rfl)) (hw _ (List.mem_of_getElem? (i := 108) rfl)) (hw _ (List.mem_of_getElem? (i := 122) rfl)) (by decide) ((rmof l Z a0 hw oc h1 n0 (by omega) F9).pay w26.hZ (hw _ (List.mem_of_getElem? (i := 122) rfl)) (hw _ (List.mem_of_getElem? (i := 108) rfl)) (by decide) (by decide)) rfl (by rw [hml]; rfl) [] (lenOf pd_9 rfl) rfl (by show 2 * 0 + _ ≤ _; exact Nat.le_of_eq rfl) (hb hby dow_33) (by decide) (by decide) (fun _ q => nomatch q) (fun rv => (mkF m 36 #[.val (.ref x), .val (.ref y1), .val (.int (2 : Int32)), .val (.int (0 : Int32)), .val (.ref oc)] (rv.toList ++ []))) (fun _ => rfl)
    obtain ⟨x27, rfl, gx27, E27x, G27_0⟩ := Q27
    have K28 : Keep h0 h27 [] := K2.trans K27 (fun _ q => nomatch q)
    have lt_x27 := exlt E27x
    exact w27.endN (v := some (.ref x27)) (Q := (fun v h => ∃ o, v = some (.ref o) ∧ Exa Z h o "java/util/Optional" ∧ Fld Z h o "java/util/Optional" "value" "Ljava/lang/Object;" (own_of cs oc op))) (wr := []) (h0 := h0) (fun h => by rw [Bd.returns] at h; cases h) Bd.notSynchronized (fun X hr => X.areturnOut hx rfl Bd.returns rfl (hb hby dow_36) hr) (by decide) (by decide) ⟨x27, rfl, E27x, by rw [show own_of cs oc op = (.ref oc) from if_pos (ite_ne hc11)]; exact G27_0⟩ K28
theorem pd_10 : parseMethodDescriptor "([CI)Ljava/lang/String;" = some ⟨[(.array .char), .int], some (.object "java/lang/String")⟩ := by decide +kernel
theorem pd_11 : parseMethodDescriptor "(Ljava/lang/String;)Ljava/util/Optional;" = some ⟨[(.object "java/lang/String")], some (.object "java/util/Optional")⟩ := by decide +kernel
theorem pd_12 : parseMethodDescriptor "()Z" = some ⟨[], some .boolean⟩ := by decide +kernel
theorem pd_13 : parseMethodDescriptor "()Ljava/lang/Object;" = some ⟨[], some (.object "java/lang/Object")⟩ := by decide +kernel
set_option maxRecDepth 65536 in
set_option maxHeartbeats 40000000 in
theorem ptC (l : Launch) (Z : State) (a0 : Array Value) (hw : ∀ d ∈ tables_1, d.before a0 Z = true) (hE : EW Z a0 consts_1) {p : Program} {e : Env} {s s₁ st : State} {m : MethodId} {args : Array Value} {below : List Frame} {meth : Method} {c : Code} {Sp : Spec} (Bd : BodyLoose p l x Sp code maxLocals ret e s m args below meth c s₁) (hml : c.maxLocals = 16) (p0 p1 p2 p3 p4 la lb z cc : Int32) (xa a : Nat) (k : ClassId) (cs : List Int32) (q n : Int32) (av oc op xc xp oe : Nat) (kv : ClassId) (h0 : Heap) (n0 : Nat) (Z0 : n0 ≤ h0.size) {h1 : Heap} {vm1 : Vm}
    (w0 : Wk p l e room_1 s m args below meth c Z a0 consts_1 n0 x.cls false st vm1 h1 (mkF m 252 #[.val (.int p0), .val (.int p1), .val (.int p2), .val (.int p3), .val (.int p4), .val (.int la), .val (.int lb), .val (.ref xa), .val (.int z), .val (.int cc), .val (.ref a), .val (.int q), .val (.int n), .unset, .unset, .unset] []) 8 60) (K0 : Keep h0 h1 []) (Z1 : h0.size ≤ h1.size) (hG : SetsOk Z) (X1 : Old Z n0 h1) (SC : Sta Z Z.heap "com/example/unified_lexicon/unifiedlexicon/core/Profile$Kind" "CLASS" "Lcom/example/unified_lexicon/unifiedlexicon/core/Profile$Kind;" (.ref oc)) (SP : Sta Z Z.heap "com/example/unified_lexicon/unifiedlexicon/core/Profile$Kind" "PROPERTY" "Lcom/example/unified_lexicon/unifiedlexicon/core/Profile$Kind;" (.ref op)) (SV : Sta Z Z.heap "com/example/unified_lexicon/unifiedlexicon/core/Profile$Kind" "$VALUES" "[Lcom/example/unified_lexicon/unifiedlexicon/core/Profile$Kind;" (.ref av)) (VV : Arv Z h1 av kv (.object "com/example/unified_lexicon/unifiedlexicon/core/Profile$Kind") (2 : Int32) [(.ref oc), (.ref op)] .null) (EV : Exa Z h1 av "[Lcom/example/unified_lexicon/unifiedlexicon/core/Profile$Kind;") (SE : Sta Z Z.heap "java/util/Optional" "EMPTY" "Ljava/util/Optional;" (.ref oe)) (FWc : Fld Z h1 oc "com/example/unified_lexicon/unifiedlexicon/core/Profile$Kind" "written" "Ljava/lang/String;" (.ref xc)) (SWc : Str Z h1 xc own_C n0) (FWp : Fld Z h1 op "com/example/unified_lexicon/unifiedlexicon/core/Profile$Kind" "written" "Ljava/lang/String;" (.ref xp)) (SWp : Str Z h1 xp own_P n0) (EE : Exa Z h1 oe "java/util/Optional") (FE : Fld Z h1 oe "java/util/Optional" "value" "Ljava/lang/Object;" .null) (ga : n0 ≤ a) (V1 : Arv Z h1 a k .char (9 : Int32) (cs.map Value.int) (.int (0 : Int32))) (hl : cs.length = 9) (hr : ∀ c ∈ cs, ¬ c < 0 ∧ ¬ (255 : Int32) < c) :
    EndsW p e below st s Z consts_1 n0 h0 [] (fun v h => v = some (.int 1)) room_1.cells room_1.slots := by
  have hx := Bd.exec
  have hby := Bd.bytes
  have hnm := (name_of_methodNamed Bd.named Bd.method).1
  obtain ⟨c0, c1, c2, c3, c4, c5, c6, c7, c8, rfl⟩ := own_nine hl
  have VA : Arv Z h1 a k .char (9 : Int32) [(.int c0), (.int c1), (.int c2), (.int c3), (.int c4), (.int c5), (.int c6), (.int c7), (.int c8)] (.int (0 : Int32)) := V1
  have r0 := hr c0 (List.mem_of_getElem? (i := 0) rfl)
  have r1 := hr c1 (List.mem_of_getElem? (i := 1) rfl)
  have r2 := hr c2 (List.mem_of_getElem? (i := 2) rfl)
  have r3 := hr c3 (List.mem_of_getElem? (i := 3) rfl)
  have r4 := hr c4 (List.mem_of_getElem? (i := 4) rfl)
  have r5 := hr c5 (List.mem_of_getElem? (i := 5) rfl)
  have r6 := hr c6 (List.mem_of_getElem? (i := 6) rfl)
  have r7 := hr c7 (List.mem_of_getElem? (i := 7) rfl)
  have r8 := hr c8 (List.mem_of_getElem? (i := 8) rfl)
  have lt_VV := arlt VV
  have lt_EV := exlt EV
  have lt_FWc : h1.size > oc := Fld.lt FWc
  have lt_SWc := SWc.lt
  have lt_FWp : h1.size > op := Fld.lt FWp
  have lt_SWp := SWp.lt
  have lt_FE : h1.size > oe := Fld.lt FE
  have lt_EE := exlt EE
  have lt_VA := arlt VA
  have hS : ∀ d ∈ Bundle.stringAtoms, d.before a0 Z = true := fun d hd => hw d ((by decide +kernel : ∀ d ∈ Bundle.stringAtoms, d ∈ tables_1) d hd)
  have hq_eqW : ∀ d ∈ StrChars.Road.wordsEq, d.before a0 Z = true := fun d hd => hw d ((by decide +kernel : ∀ d ∈ StrChars.Road.wordsEq, d ∈ tables_1) d hd)
  have w1 := w0.pure (mkF m 256 #[.val (.int p0), .val (.int p1), .val (.int p2), .val (.int p3), .val (.int p4), .val (.int la), .val (.int lb), .val (.ref xa), .val (.int z), .val (.int cc), .val (.ref a), .val (.int q), .val (.int n), .unset, .unset, .unset] [(.int n), (.ref a)]) (fun X eT hZ hown k => by
      show Steps _ _ _ (State.setTop _ (mkF m 252 #[.val (.int p0), .val (.int p1), .val (.int p2), .val (.int p3), .val (.int p4), .val (.int la), .val (.int lb), .val (.ref xa), .val (.int z), .val (.int cc), .val (.ref a), .val (.int q), .val (.int n), .unset, .unset, .unset] [])) _
      refine S.aload X.here hx (hb hby at_252) rfl rfl ?_
      refine S.iload X.here hx (hb hby at_254) rfl ?_
      exact k)
  obtain ⟨v2, vm2, h2, Q2, K2, z2, C2, w2⟩ := w1.callSW hx (y := (⟨"com/example/unified_lexicon/unifiedlexicon/core/KindOfWrittenPinLaw", "str", "([CI)Ljava/lang/String;"⟩ : MethodName)) (W := 0) (hw _ (List.mem_of_getElem? (i := 48) rfl)) (hw _ (List.mem_of_getElem? (i := 49) rfl)) (hw _ (List.mem_of_getElem? (i := 24) rfl)) (hw _ (List.mem_of_getElem? (i := 50) rfl)) (by decide) ((rmsr l Z a0 hw hE a k n c0 c1 c2 c3 c4 c5 c6 c7 c8 h1 n0 (by omega) hG X1 VA r0 r1 r2 r3 r4 r5 r6 r7 r8).pay w1 (hw _ (List.mem_of_getElem? (i := 50) rfl)) (hw _ (List.mem_of_getElem? (i := 24) rfl)) (by decide) (by decide) all0) rfl (by rw [hml]; rfl) [] (lenOf pd_10 rfl) rfl (by show 2 * 0 + _ ≤ _; exact Nat.le_of_eq rfl) (hb hby at_256) (by decide) (by decide)  (fun rv => (mkF m 259 #[.val (.int p0), .val (.int p1), .val (.int p2), .val (.int p3), .val (.int p4), .val (.int la), .val (.int lb), .val (.ref xa), .val (.int z), .val (.int cc), .val (.ref a), .val (.int q), .val (.int n), .unset, .unset, .unset] (rv.toList ++ []))) (fun _ => rfl)
  obtain ⟨x2, cs2, rfl, gx2, S2⟩ := Q2
  have K3 : Keep h0 h2 [] := K0.trans K2 (fun _ q => nomatch q)
  have lt_x2 := S2.lt
  have w4 := w2.pure (mkF m 263 #[.val (.int p0), .val (.int p1), .val (.int p2), .val (.int p3), .val (.int p4), .val (.int la), .val (.int lb), .val (.ref xa), .val (.int z), .val (.int cc), .val (.ref a), .val (.int q), .val (.int n), .val (.ref x2), .unset, .unset] [(.ref x2)]) (fun X eT hZ hown k => by
      show Steps _ _ _ (State.setTop _ (mkF m 259 #[.val (.int p0), .val (.int p1), .val (.int p2), .val (.int p3), .val (.int p4), .val (.int la), .val (.int lb), .val (.ref xa), .val (.int z), .val (.int cc), .val (.ref a), .val (.int q), .val (.int n), .unset, .unset, .unset] [(.ref x2)])) _
      refine S.astore X.here hx (hb hby at_259) rfl #[.val (.int p0), .val (.int p1), .val (.int p2), .val (.int p3), .val (.int p4), .val (.int la), .val (.int lb), .val (.ref xa), .val (.int z), .val (.int cc), .val (.ref a), .val (.int q), .val (.int n), .val (.ref x2), .unset, .unset] rfl ?_
      refine S.aload X.here hx (hb hby at_261) rfl rfl ?_
      exact k)
  obtain ⟨b5, vm5, h5, t5, k5, E5, A5, F5c, F5v, V5, l5, m5, C5, N5, w5⟩ := w4.ldcCH hx (text := "Class") (hw _ (List.mem_of_getElem? (i := 0) rfl)) hS (List.mem_of_getElem? (i := 1) rfl) (vs := [(.int (67 : Int32)), (.int (108 : Int32)), (.int (97 : Int32)), (.int (115 : Int32)), (.int (115 : Int32))]) (z := (5 : Int32)) ⟨by decide, by decide⟩ (by decide) (by decide) rfl (hb hby at_263) 20 (by decide) (by decide) (by decide) (by decide) (fun xq => (mkF m 265 #[.val (.int p0), .val (.int p1), .val (.int p2), .val (.int p3), .val (.int p4), .val (.int la), .val (.int lb), .val (.ref xa), .val (.int z), .val (.int cc), .val (.ref a), .val (.int q), .val (.int n), .val (.ref x2), .unset, .unset] (.ref xq :: [(.ref x2)]))) (fun _ => rfl)
  have z5 := E5.1
  have K6 : Keep h0 h5 [] := K3.ext E5
  have S5 : Str Z h5 b5 [(67 : Int32), (108 : Int32), (97 : Int32), (115 : Int32), (115 : Int32)] h5.size := Str.of A5 F5v F5c V5 rfl rfl (List.forall_mem_cons.mpr ⟨by decide, (List.forall_mem_cons.mpr ⟨by decide, (List.forall_mem_cons.mpr ⟨by decide, (List.forall_mem_cons.mpr ⟨by decide, (List.forall_mem_cons.mpr ⟨by decide, (fun _ q => nomatch q)⟩)⟩)⟩)⟩)⟩) (by decide) l5 m5
  have F7 := S2.ext E5
  have F8 := X1.keep K2 all0
  have F9 := F8.ext E5
  obtain ⟨v10, h10, Q10, K10, z10, w10⟩ := w5.callV hx (C := "java/lang/String") (y := (⟨"java/lang/String", "equals", "(Ljava/lang/Object;)Z"⟩ : MethodName)) (z := (⟨"java/lang/String", "equals", "(Ljava/lang/Object;)Z"⟩ : MethodName)) (W := 0) (hw _ (List.mem_of_getElem? (i := 72) rfl)) (hw _ (List.mem_of_getElem? (i := 73) rfl)) (hw _ (List.mem_of_getElem? (i := 75) rfl)) (hw _ (List.mem_of_getElem? (i := 74) rfl)) (w5.nf (hw _ (List.mem_of_getElem? (i := 75) rfl))) (by decide) (payEq hG w5.hZ hq_eqW (hw _ (List.mem_of_getElem? (i := 2) rfl)) F7 S5 F9 (by decide) (by decide)) F7.exa rfl (by rw [hml]; rfl) [] (lenOf pd_7 rfl) rfl (by show 2 * 0 + _ ≤ _; exact Nat.le_of_eq rfl) (hb hby at_265) (by decide) (by decide) (fun _ q => nomatch q) (fun rv => (mkF m 268 #[.val (.int p0), .val (.int p1), .val (.int p2), .val (.int p3), .val (.int p4), .val (.int la), .val (.int lb), .val (.ref xa), .val (.int z), .val (.int cc), .val (.ref a), .val (.int q), .val (.int n), .val (.ref x2), .unset, .unset] (rv.toList ++ []))) (fun _ => rfl)
  obtain ⟨rfl, rfl⟩ := Q10
  by_cases hc11 : (if cs2 = own_C then (1 : Int32) else (0 : Int32)) = (0 : Int32)
  · have w12 := w10.pure (mkF m 281 #[.val (.int p0), .val (.int p1), .val (.int p2), .val (.int p3), .val (.int p4), .val (.int la), .val (.int lb), .val (.ref xa), .val (.int z), .val (.int cc), .val (.ref a), .val (.int q), .val (.int n), .val (.ref x2), .unset, .unset] [(.ref x2)]) (fun X eT hZ hown k => by
        show Steps _ _ _ (State.setTop _ (mkF m 268 #[.val (.int p0), .val (.int p1), .val (.int p2), .val (.int p3), .val (.int p4), .val (.int la), .val (.int lb), .val (.ref xa), .val (.int z), .val (.int cc), .val (.ref a), .val (.int q), .val (.int n), .val (.ref x2), .unset, .unset] [(.int (if cs2 = own_C then (1 : Int32) else (0 : Int32)))])) _
        refine S.ifYes X.here hx 279 (hb hby at_268) ((if0 _ _).trans (teq hc11).1) (by decide) (by decide) ?_
        refine S.aload X.here hx (hb hby at_279) rfl rfl ?_
        exact k)
    obtain ⟨b13, vm13, h13, t13, k13, E13, A13, F13c, F13v, V13, l13, m13, C13, N13, w13⟩ := w12.ldcCH hx (text := "Property") (hw _ (List.mem_of_getElem? (i := 81) rfl)) hS (List.mem_of_getElem? (i := 0) rfl) (vs := [(.int (80 : Int32)), (.int (114 : Int32)), (.int (111 : Int32)), (.int (112 : Int32)), (.int (101 : Int32)), (.int (114 : Int32)), (.int (116 : Int32)), (.int (121 : Int32))]) (z := (8 : Int32)) ⟨by decide, by decide⟩ (by decide) (by decide) rfl (hb hby at_281) 32 (by decide) (by decide) (by decide) (by decide) (fun xq => (mkF m 283 #[.val (.int p0), .val (.int p1), .val (.int p2), .val (.int p3), .val (.int p4), .val (.int la), .val (.int lb), .val (.ref xa), .val (.int z), .val (.int cc), .val (.ref a), .val (.int q), .val (.int n), .val (.ref x2), .unset, .unset] (.ref xq :: [(.ref x2)]))) (fun _ => rfl)
    have z13 := E13.1
    have K14 : Keep h0 h13 [] := K6.ext E13
    have S13 : Str Z h13 b13 [(80 : Int32), (114 : Int32), (111 : Int32), (112 : Int32), (101 : Int32), (114 : Int32), (116 : Int32), (121 : Int32)] h13.size := Str.of A13 F13v F13c V13 rfl rfl (List.forall_mem_cons.mpr ⟨by decide, (List.forall_mem_cons.mpr ⟨by decide, (List.forall_mem_cons.mpr ⟨by decide, (List.forall_mem_cons.mpr ⟨by decide, (List.forall_mem_cons.mpr ⟨by decide, (List.forall_mem_cons.mpr ⟨by decide, (List.forall_mem_cons.mpr ⟨by decide, (List.forall_mem_cons.mpr ⟨by decide, (fun _ q => nomatch q)⟩)⟩)⟩)⟩)⟩)⟩)⟩)⟩) (by decide) l13 m13
    have F15 := F7.ext E13
    have F16 := F9.ext E13
    obtain ⟨v17, h17, Q17, K17, z17, w17⟩ := w13.callV hx (C := "java/lang/String") (y := (⟨"java/lang/String", "equals", "(Ljava/lang/Object;)Z"⟩ : MethodName)) (z := (⟨"java/lang/String", "equals", "(Ljava/lang/Object;)Z"⟩ : MethodName)) (W := 0) (hw _ (List.mem_of_getElem? (i := 72) rfl)) (hw _ (List.mem_of_getElem? (i := 73) rfl)) (hw _ (List.mem_of_getElem? (i := 75) rfl)) (hw _ (List.mem_of_getElem? (i := 74) rfl)) (w13.nf (hw _ (List.mem_of_getElem? (i := 75) rfl))) (by decide) (payEq hG w13.hZ hq_eqW (hw _ (List.mem_of_getElem? (i := 2) rfl)) F15 S13 F16 (by decide) (by decide)) F15.exa rfl (by rw [hml]; rfl) [] (lenOf pd_7 rfl) rfl (by show 2 * 0 + _ ≤ _; exact Nat.le_of_eq rfl) (hb hby at_283) (by decide) (by decide) (fun _ q => nomatch q) (fun rv => (mkF m 286 #[.val (.int p0), .val (.int p1), .val (.int p2), .val (.int p3), .val (.int p4), .val (.int la), .val (.int lb), .val (.ref xa), .val (.int z), .val (.int cc), .val (.ref a), .val (.int q), .val (.int n), .val (.ref x2), .unset, .unset] (rv.toList ++ []))) (fun _ => rfl)
    obtain ⟨rfl, rfl⟩ := Q17
    by_cases hc18 : (if cs2 = own_P then (1 : Int32) else (0 : Int32)) = (0 : Int32)
    · have w19 := w17.pure (mkF m 302 #[.val (.int p0), .val (.int p1), .val (.int p2), .val (.int p3), .val (.int p4), .val (.int la), .val (.int lb), .val (.ref xa), .val (.int z), .val (.int cc), .val (.ref a), .val (.int q), .val (.int n), .val (.ref x2), .val .null, .unset] [(.ref x2)]) (fun X eT hZ hown k => by
          show Steps _ _ _ (State.setTop _ (mkF m 286 #[.val (.int p0), .val (.int p1), .val (.int p2), .val (.int p3), .val (.int p4), .val (.int la), .val (.int lb), .val (.ref xa), .val (.int z), .val (.int cc), .val (.ref a), .val (.int q), .val (.int n), .val (.ref x2), .unset, .unset] [(.int (if cs2 = own_P then (1 : Int32) else (0 : Int32)))])) _
          refine S.ifYes X.here hx 297 (hb hby at_286) ((if0 _ _).trans (teq hc18).1) (by decide) (by decide) ?_
          refine S.aconstNull X.here hx (hb hby at_297) ?_
          refine S.astore X.here hx (hb hby at_298) rfl #[.val (.int p0), .val (.int p1), .val (.int p2), .val (.int p3), .val (.int p4), .val (.int la), .val (.int lb), .val (.ref xa), .val (.int z), .val (.int cc), .val (.ref a), .val (.int q), .val (.int n), .val (.ref x2), .val .null, .unset] rfl ?_
          refine S.aload X.here hx (hb hby at_300) rfl rfl ?_
          exact k)
      have F20 := VV.keep K2 nin0
      have F21 := F20.ext E5
      have F22 := F21.ext E13
      have F23 := EV.keep K2
      have F24 := F23.ext E5
      have F25 := F24.ext E13
      have F26 := FWc.keep K2 nin0
      have F27 := F26.ext E5
      have F28 := F27.ext E13
      have F29 := SWc.keep K2 all0
      have F30 := F29.ext E5
      have F31 := F30.ext E13
      have F32 := FWp.keep K2 nin0
      have F33 := F32.ext E5
      have F34 := F33.ext E13
      have F35 := SWp.keep K2 all0
      have F36 := F35.ext E5
      have F37 := F36.ext E13
      have F38 := EE.keep K2
      have F39 := F38.ext E5
      have F40 := F39.ext E13
      have F41 := FE.keep K2 nin0
      have F42 := F41.ext E5
      have F43 := F42.ext E13
      obtain ⟨v44, h44, Q44, K44, z44, w44⟩ := w19.callS hx (y := (⟨"com/example/unified_lexicon/unifiedlexicon/core/Profile$Kind", "ofWritten", "(Ljava/lang/String;)Ljava/util/Optional;"⟩ : MethodName)) (W := 0) (hw _ (List.mem_of_getElem? (i := 82) rfl)) (hw _ (List.mem_of_getElem? (i := 83) rfl)) (hw _ (List.mem_of_getElem? (i := 84) rfl)) (hw _ (List.mem_of_getElem? (i := 85) rfl)) (by decide) ((rmow l Z a0 hw x2 cs2 _ av oc op xc xp oe kv h13 n0 (by omega) hG F16 SV F22 F25 SE F28 F31 F34 F37 F40 F43 F15).pay w19.hZ (hw _ (List.mem_of_getElem? (i := 85) rfl)) (hw _ (List.mem_of_getElem? (i := 84) rfl)) (by decide) (by decide)) rfl (by rw [hml]; rfl) [] (lenOf pd_11 rfl) rfl (by show 2 * 0 + _ ≤ _; exact Nat.le_of_eq rfl) (hb hby at_302) (by decide) (by decide) (fun _ q => nomatch q) (fun rv => (mkF m 305 #[.val (.int p0), .val (.int p1), .val (.int p2), .val (.int p3), .val (.int p4), .val (.int la), .val (.int lb), .val (.ref xa), .val (.int z), .val (.int cc), .val (.ref a), .val (.int q), .val (.int n), .val (.ref x2), .val .null, .unset] (rv.toList ++ []))) (fun _ => rfl)
      obtain ⟨o44, rfl, E44o, F44o⟩ := Q44
      have K45 : Keep h0 h44 [] := K14.trans K44 (fun _ q => nomatch q)
      have lt_o44 := exlt E44o
      rw [show own_of cs2 oc op = .null from (if_neg (fun q => ite_eq hc11 q.symm)).trans (if_neg (fun q => ite_eq hc18 q.symm))] at F44o
      have w46 := w44.pure (mkF m 309 #[.val (.int p0), .val (.int p1), .val (.int p2), .val (.int p3), .val (.int p4), .val (.int la), .val (.int lb), .val (.ref xa), .val (.int z), .val (.int cc), .val (.ref a), .val (.int q), .val (.int n), .val (.ref x2), .val .null, .val (.ref o44)] [(.ref o44)]) (fun X eT hZ hown k => by
          show Steps _ _ _ (State.setTop _ (mkF m 305 #[.val (.int p0), .val (.int p1), .val (.int p2), .val (.int p3), .val (.int p4), .val (.int la), .val (.int lb), .val (.ref xa), .val (.int z), .val (.int cc), .val (.ref a), .val (.int q), .val (.int n), .val (.ref x2), .val .null, .unset] [(.ref o44)])) _
          refine S.astore X.here hx (hb hby at_305) rfl #[.val (.int p0), .val (.int p1), .val (.int p2), .val (.int p3), .val (.int p4), .val (.int la), .val (.int lb), .val (.ref xa), .val (.int z), .val (.int cc), .val (.ref a), .val (.int q), .val (.int n), .val (.ref x2), .val .null, .val (.ref o44)] rfl ?_
          refine S.aload X.here hx (hb hby at_307) rfl rfl ?_
          exact k)
      obtain ⟨v47, h47, Q47, K47, z47, w47⟩ := w46.callV hx (C := "java/util/Optional") (y := (⟨"java/util/Optional", "isPresent", "()Z"⟩ : MethodName)) (z := (⟨"java/util/Optional", "isPresent", "()Z"⟩ : MethodName)) (W := 0) (hw _ (List.mem_of_getElem? (i := 111) rfl)) (hw _ (List.mem_of_getElem? (i := 112) rfl)) (hw _ (List.mem_of_getElem? (i := 114) rfl)) (hw _ (List.mem_of_getElem? (i := 113) rfl)) (w46.nf (hw _ (List.mem_of_getElem? (i := 114) rfl))) (by decide) ((rmipN l Z a0 hw o44 h44 n0 (by omega) F44o).pay w46.hZ (hw _ (List.mem_of_getElem? (i := 115) rfl)) (hw _ (List.mem_of_getElem? (i := 108) rfl)) (by decide) (by decide)) E44o rfl (by rw [hml]; rfl) [] (lenOf pd_12 rfl) rfl (by show 2 * 0 + _ ≤ _; exact Nat.le_of_eq rfl) (hb hby at_309) (by decide) (by decide) (fun _ q => nomatch q) (fun rv => (mkF m 312 #[.val (.int p0), .val (.int p1), .val (.int p2), .val (.int p3), .val (.int p4), .val (.int la), .val (.int lb), .val (.ref xa), .val (.int z), .val (.int cc), .val (.ref a), .val (.int q), .val (.int n), .val (.ref x2), .val .null, .val (.ref o44)] (rv.toList ++ []))) (fun _ => rfl)
      obtain ⟨rfl, rfl⟩ := Q47
      have w48 := w47.pure (mkF m 346 #[.val (.int p0), .val (.int p1), .val (.int p2), .val (.int p3), .val (.int p4), .val (.int la), .val (.int lb), .val (.ref xa), .val (.int z), .val (.int cc), .val (.ref a), .val (.int q), .val (.int n), .val (.ref x2), .val .null, .val (.ref o44)] [(.int (1 : Int32))]) (fun X eT hZ hown k => by
          show Steps _ _ _ (State.setTop _ (mkF m 312 #[.val (.int p0), .val (.int p1), .val (.int p2), .val (.int p3), .val (.int p4), .val (.int la), .val (.int lb), .val (.ref xa), .val (.int z), .val (.int cc), .val (.ref a), .val (.int q), .val (.int n), .val (.ref x2), .val .null, .val (.ref o44)] [(.int (0 : Int32))])) _
          refine S.ifYes X.here hx 336 (hb hby at_312) (by decide) (by decide) (by decide) ?_
          refine S.aload X.here hx (hb hby at_336) rfl rfl ?_
          refine S.ifnonnullNo X.here hx (hb hby at_338) ?_
          refine S.iconst X.here hx (1 : Int32) (hb hby at_341) rfl ?_
          refine S.goto X.here hx 346 (hb hby at_342) (by decide) (by decide) ?_
          exact k)
      exact w48.endW (v := some (.int (1 : Int32))) (Q := (fun v h => v = some (.int 1))) (wr := []) (h0 := h0) (fun h => by rw [Bd.returns] at h; cases h) Bd.notSynchronized (fun X hr => retN X hx (t := .boolean) Bd.returns (by simp) (hb hby at_346) hr) (by decide) (by decide) rfl K45
    · have w49 := w17.pure (mkF m 289 #[.val (.int p0), .val (.int p1), .val (.int p2), .val (.int p3), .val (.int p4), .val (.int la), .val (.int lb), .val (.ref xa), .val (.int z), .val (.int cc), .val (.ref a), .val (.int q), .val (.int n), .val (.ref x2), .unset, .unset] []) (fun X eT hZ hown k => by
          show Steps _ _ _ (State.setTop _ (mkF m 286 #[.val (.int p0), .val (.int p1), .val (.int p2), .val (.int p3), .val (.int p4), .val (.int la), .val (.int lb), .val (.ref xa), .val (.int z), .val (.int cc), .val (.ref a), .val (.int q), .val (.int n), .val (.ref x2), .unset, .unset] [(.int (if cs2 = own_P then (1 : Int32) else (0 : Int32)))])) _
          refine S.ifNo X.here hx (hb hby at_286) ((if0 _ _).trans (feq hc18).1) ?_
          exact k)
      have w50 := w49.same (mkF m 292 #[.val (.int p0), .val (.int p1), .val (.int p2), .val (.int p3), .val (.int p4), .val (.int la), .val (.int lb), .val (.ref xa), .val (.int z), .val (.int cc), .val (.ref a), .val (.int q), .val (.int n), .val (.ref x2), .unset, .unset] [(.ref op)]) (fun X eT hZ hown => getS (host := "") X hx hZ hown (hw _ (List.mem_of_getElem? (i := 140) rfl)) Via.refl eT (SP.ext F16.2) (g := (mkF m 289 #[.val (.int p0), .val (.int p1), .val (.int p2), .val (.int p3), .val (.int p4), .val (.int la), .val (.int lb), .val (.ref xa), .val (.int z), .val (.int cc), .val (.ref a), .val (.int q), .val (.int n), .val (.ref x2), .unset, .unset] [])) rfl (hb hby at_289))
      have w51 := w50.pure (mkF m 302 #[.val (.int p0), .val (.int p1), .val (.int p2), .val (.int p3), .val (.int p4), .val (.int la), .val (.int lb), .val (.ref xa), .val (.int z), .val (.int cc), .val (.ref a), .val (.int q), .val (.int n), .val (.ref x2), .val (.ref op), .unset] [(.ref x2)]) (fun X eT hZ hown k => by
          show Steps _ _ _ (State.setTop _ (mkF m 292 #[.val (.int p0), .val (.int p1), .val (.int p2), .val (.int p3), .val (.int p4), .val (.int la), .val (.int lb), .val (.ref xa), .val (.int z), .val (.int cc), .val (.ref a), .val (.int q), .val (.int n), .val (.ref x2), .unset, .unset] [(.ref op)])) _
          refine S.astore X.here hx (hb hby at_292) rfl #[.val (.int p0), .val (.int p1), .val (.int p2), .val (.int p3), .val (.int p4), .val (.int la), .val (.int lb), .val (.ref xa), .val (.int z), .val (.int cc), .val (.ref a), .val (.int q), .val (.int n), .val (.ref x2), .val (.ref op), .unset] rfl ?_
          refine S.goto X.here hx 300 (hb hby at_294) (by decide) (by decide) ?_
          refine S.aload X.here hx (hb hby at_300) rfl rfl ?_
          exact k)
      have F52 := VV.keep K2 nin0
      have F53 := F52.ext E5
      have F54 := F53.ext E13
      have F55 := EV.keep K2
      have F56 := F55.ext E5
      have F57 := F56.ext E13
      have F58 := FWc.keep K2 nin0
      have F59 := F58.ext E5
      have F60 := F59.ext E13
      have F61 := SWc.keep K2 all0
      have F62 := F61.ext E5
      have F63 := F62.ext E13
      have F64 := FWp.keep K2 nin0
      have F65 := F64.ext E5
      have F66 := F65.ext E13
      have F67 := SWp.keep K2 all0
      have F68 := F67.ext E5
      have F69 := F68.ext E13
      have F70 := EE.keep K2
      have F71 := F70.ext E5
      have F72 := F71.ext E13
      have F73 := FE.keep K2 nin0
      have F74 := F73.ext E5
      have F75 := F74.ext E13
      obtain ⟨v76, h76, Q76, K76, z76, w76⟩ := w51.callS hx (y := (⟨"com/example/unified_lexicon/unifiedlexicon/core/Profile$Kind", "ofWritten", "(Ljava/lang/String;)Ljava/util/Optional;"⟩ : MethodName)) (W := 0) (hw _ (List.mem_of_getElem? (i := 82) rfl)) (hw _ (List.mem_of_getElem? (i := 83) rfl)) (hw _ (List.mem_of_getElem? (i := 84) rfl)) (hw _ (List.mem_of_getElem? (i := 85) rfl)) (by decide) ((rmow l Z a0 hw x2 cs2 _ av oc op xc xp oe kv h13 n0 (by omega) hG F16 SV F54 F57 SE F60 F63 F66 F69 F72 F75 F15).pay w51.hZ (hw _ (List.mem_of_getElem? (i := 85) rfl)) (hw _ (List.mem_of_getElem? (i := 84) rfl)) (by decide) (by decide)) rfl (by rw [hml]; rfl) [] (lenOf pd_11 rfl) rfl (by show 2 * 0 + _ ≤ _; exact Nat.le_of_eq rfl) (hb hby at_302) (by decide) (by decide) (fun _ q => nomatch q) (fun rv => (mkF m 305 #[.val (.int p0), .val (.int p1), .val (.int p2), .val (.int p3), .val (.int p4), .val (.int la), .val (.int lb), .val (.ref xa), .val (.int z), .val (.int cc), .val (.ref a), .val (.int q), .val (.int n), .val (.ref x2), .val (.ref op), .unset] (rv.toList ++ []))) (fun _ => rfl)
      obtain ⟨o76, rfl, E76o, F76o⟩ := Q76
      have K77 : Keep h0 h76 [] := K14.trans K76 (fun _ q => nomatch q)
      have lt_o76 := exlt E76o
      rw [show own_of cs2 oc op = (.ref op) from (if_neg (fun q => ite_eq hc11 q.symm)).trans (if_pos (ite_ne hc18).symm)] at F76o
      have w78 := w76.pure (mkF m 309 #[.val (.int p0), .val (.int p1), .val (.int p2), .val (.int p3), .val (.int p4), .val (.int la), .val (.int lb), .val (.ref xa), .val (.int z), .val (.int cc), .val (.ref a), .val (.int q), .val (.int n), .val (.ref x2), .val (.ref op), .val (.ref o76)] [(.ref o76)]) (fun X eT hZ hown k => by
          show Steps _ _ _ (State.setTop _ (mkF m 305 #[.val (.int p0), .val (.int p1), .val (.int p2), .val (.int p3), .val (.int p4), .val (.int la), .val (.int lb), .val (.ref xa), .val (.int z), .val (.int cc), .val (.ref a), .val (.int q), .val (.int n), .val (.ref x2), .val (.ref op), .unset] [(.ref o76)])) _
          refine S.astore X.here hx (hb hby at_305) rfl #[.val (.int p0), .val (.int p1), .val (.int p2), .val (.int p3), .val (.int p4), .val (.int la), .val (.int lb), .val (.ref xa), .val (.int z), .val (.int cc), .val (.ref a), .val (.int q), .val (.int n), .val (.ref x2), .val (.ref op), .val (.ref o76)] rfl ?_
          refine S.aload X.here hx (hb hby at_307) rfl rfl ?_
          exact k)
      obtain ⟨v79, h79, Q79, K79, z79, w79⟩ := w78.callV hx (C := "java/util/Optional") (y := (⟨"java/util/Optional", "isPresent", "()Z"⟩ : MethodName)) (z := (⟨"java/util/Optional", "isPresent", "()Z"⟩ : MethodName)) (W := 0) (hw _ (List.mem_of_getElem? (i := 111) rfl)) (hw _ (List.mem_of_getElem? (i := 112) rfl)) (hw _ (List.mem_of_getElem? (i := 114) rfl)) (hw _ (List.mem_of_getElem? (i := 113) rfl)) (w78.nf (hw _ (List.mem_of_getElem? (i := 114) rfl))) (by decide) ((rmipR l Z a0 hw o76 op h76 n0 (by omega) F76o).pay w78.hZ (hw _ (List.mem_of_getElem? (i := 115) rfl)) (hw _ (List.mem_of_getElem? (i := 108) rfl)) (by decide) (by decide)) E76o rfl (by rw [hml]; rfl) [] (lenOf pd_12 rfl) rfl (by show 2 * 0 + _ ≤ _; exact Nat.le_of_eq rfl) (hb hby at_309) (by decide) (by decide) (fun _ q => nomatch q) (fun rv => (mkF m 312 #[.val (.int p0), .val (.int p1), .val (.int p2), .val (.int p3), .val (.int p4), .val (.int la), .val (.int lb), .val (.ref xa), .val (.int z), .val (.int cc), .val (.ref a), .val (.int q), .val (.int n), .val (.ref x2), .val (.ref op), .val (.ref o76)] (rv.toList ++ []))) (fun _ => rfl)
      obtain ⟨rfl, rfl⟩ := Q79
      have w80 := w79.pure (mkF m 322 #[.val (.int p0), .val (.int p1), .val (.int p2), .val (.int p3), .val (.int p4), .val (.int la), .val (.int lb), .val (.ref xa), .val (.int z), .val (.int cc), .val (.ref a), .val (.int q), .val (.int n), .val (.ref x2), .val (.ref op), .val (.ref o76)] [(.ref o76)]) (fun X eT hZ hown k => by
          show Steps _ _ _ (State.setTop _ (mkF m 312 #[.val (.int p0), .val (.int p1), .val (.int p2), .val (.int p3), .val (.int p4), .val (.int la), .val (.int lb), .val (.ref xa), .val (.int z), .val (.int cc), .val (.ref a), .val (.int q), .val (.int n), .val (.ref x2), .val (.ref op), .val (.ref o76)] [(.int (1 : Int32))])) _
          refine S.ifNo X.here hx (hb hby at_312) (by decide) ?_
          refine S.aload X.here hx (hb hby at_315) rfl rfl ?_
          refine S.ifnullNo X.here hx (hb hby at_317) ?_
          refine S.aload X.here hx (hb hby at_320) rfl rfl ?_
          exact k)
      obtain ⟨v81, h81, Q81, K81, z81, w81⟩ := w80.callV hx (C := "java/util/Optional") (y := (⟨"java/util/Optional", "get", "()Ljava/lang/Object;"⟩ : MethodName)) (z := (⟨"java/util/Optional", "get", "()Ljava/lang/Object;"⟩ : MethodName)) (W := 0) (hw _ (List.mem_of_getElem? (i := 134) rfl)) (hw _ (List.mem_of_getElem? (i := 135) rfl)) (hw _ (List.mem_of_getElem? (i := 137) rfl)) (hw _ (List.mem_of_getElem? (i := 136) rfl)) (w80.nf (hw _ (List.mem_of_getElem? (i := 137) rfl))) (by decide) ((rmgt l Z a0 hw o76 op h76 n0 (by omega) F76o).pay w80.hZ (hw _ (List.mem_of_getElem? (i := 138) rfl)) (hw _ (List.mem_of_getElem? (i := 108) rfl)) (by decide) (by decide)) E76o rfl (by rw [hml]; rfl) [] (lenOf pd_13 rfl) rfl (by show 2 * 0 + _ ≤ _; exact Nat.le_of_eq rfl) (hb hby at_322) (by decide) (by decide) (fun _ q => nomatch q) (fun rv => (mkF m 325 #[.val (.int p0), .val (.int p1), .val (.int p2), .val (.int p3), .val (.int p4), .val (.int la), .val (.int lb), .val (.ref xa), .val (.int z), .val (.int cc), .val (.ref a), .val (.int q), .val (.int n), .val (.ref x2), .val (.ref op), .val (.ref o76)] (rv.toList ++ []))) (fun _ => rfl)
      obtain ⟨rfl, rfl⟩ := Q81
      have w82 := w81.pure (mkF m 335 #[.val (.int p0), .val (.int p1), .val (.int p2), .val (.int p3), .val (.int p4), .val (.int la), .val (.int lb), .val (.ref xa), .val (.int z), .val (.int cc), .val (.ref a), .val (.int q), .val (.int n), .val (.ref x2), .val (.ref op), .val (.ref o76)] [(.int (1 : Int32))]) (fun X eT hZ hown k => by
          show Steps _ _ _ (State.setTop _ (mkF m 325 #[.val (.int p0), .val (.int p1), .val (.int p2), .val (.int p3), .val (.int p4), .val (.int la), .val (.int lb), .val (.ref xa), .val (.int z), .val (.int cc), .val (.ref a), .val (.int q), .val (.int n), .val (.ref x2), .val (.ref op), .val (.ref o76)] [(.ref op)])) _
          refine S.aload X.here hx (hb hby at_325) rfl rfl ?_
          refine acmp X hx rfl rfl rfl (pc0 := 327) (pc' := 330) (same := true) rfl (hb hby at_327) rfl (decide_eq_true rfl) (by decide) rfl ?_
          show Steps _ _ _ (State.setTop _ (mkF m 330 #[.val (.int p0), .val (.int p1), .val (.int p2), .val (.int p3), .val (.int p4), .val (.int la), .val (.int lb), .val (.ref xa), .val (.int z), .val (.int cc), .val (.ref a), .val (.int q), .val (.int n), .val (.ref x2), .val (.ref op), .val (.ref o76)] [])) _
          refine S.iconst X.here hx (1 : Int32) (hb hby at_330) rfl ?_
          refine S.goto X.here hx 335 (hb hby at_331) (by decide) (by decide) ?_
          exact k)
      exact w82.endW (v := some (.int (1 : Int32))) (Q := (fun v h => v = some (.int 1))) (wr := []) (h0 := h0) (fun h => by rw [Bd.returns] at h; cases h) Bd.notSynchronized (fun X hr => retN X hx (t := .boolean) Bd.returns (by simp) (hb hby at_335) hr) (by decide) (by decide) rfl K77
  · have w83 := w10.pure (mkF m 271 #[.val (.int p0), .val (.int p1), .val (.int p2), .val (.int p3), .val (.int p4), .val (.int la), .val (.int lb), .val (.ref xa), .val (.int z), .val (.int cc), .val (.ref a), .val (.int q), .val (.int n), .val (.ref x2), .unset, .unset] []) (fun X eT hZ hown k => by
        show Steps _ _ _ (State.setTop _ (mkF m 268 #[.val (.int p0), .val (.int p1), .val (.int p2), .val (.int p3), .val (.int p4), .val (.int la), .val (.int lb), .val (.ref xa), .val (.int z), .val (.int cc), .val (.ref a), .val (.int q), .val (.int n), .val (.ref x2), .unset, .unset] [(.int (if cs2 = own_C then (1 : Int32) else (0 : Int32)))])) _
        refine S.ifNo X.here hx (hb hby at_268) ((if0 _ _).trans (feq hc11).1) ?_
        exact k)
    have w84 := w83.same (mkF m 274 #[.val (.int p0), .val (.int p1), .val (.int p2), .val (.int p3), .val (.int p4), .val (.int la), .val (.int lb), .val (.ref xa), .val (.int z), .val (.int cc), .val (.ref a), .val (.int q), .val (.int n), .val (.ref x2), .unset, .unset] [(.ref oc)]) (fun X eT hZ hown => getS (host := "") X hx hZ hown (hw _ (List.mem_of_getElem? (i := 119) rfl)) Via.refl eT (SC.ext F9.2) (g := (mkF m 271 #[.val (.int p0), .val (.int p1), .val (.int p2), .val (.int p3), .val (.int p4), .val (.int la), .val (.int lb), .val (.ref xa), .val (.int z), .val (.int cc), .val (.ref a), .val (.int q), .val (.int n), .val (.ref x2), .unset, .unset] [])) rfl (hb hby at_271))
    have w85 := w84.pure (mkF m 302 #[.val (.int p0), .val (.int p1), .val (.int p2), .val (.int p3), .val (.int p4), .val (.int la), .val (.int lb), .val (.ref xa), .val (.int z), .val (.int cc), .val (.ref a), .val (.int q), .val (.int n), .val (.ref x2), .val (.ref oc), .unset] [(.ref x2)]) (fun X eT hZ hown k => by
        show Steps _ _ _ (State.setTop _ (mkF m 274 #[.val (.int p0), .val (.int p1), .val (.int p2), .val (.int p3), .val (.int p4), .val (.int la), .val (.int lb), .val (.ref xa), .val (.int z), .val (.int cc), .val (.ref a), .val (.int q), .val (.int n), .val (.ref x2), .unset, .unset] [(.ref oc)])) _
        refine S.astore X.here hx (hb hby at_274) rfl #[.val (.int p0), .val (.int p1), .val (.int p2), .val (.int p3), .val (.int p4), .val (.int la), .val (.int lb), .val (.ref xa), .val (.int z), .val (.int cc), .val (.ref a), .val (.int q), .val (.int n), .val (.ref x2), .val (.ref oc), .unset] rfl ?_
        refine S.goto X.here hx 300 (hb hby at_276) (by decide) (by decide) ?_
        refine S.aload X.here hx (hb hby at_300) rfl rfl ?_
        exact k)
    have F86 := VV.keep K2 nin0
    have F87 := F86.ext E5
    have F88 := EV.keep K2
    have F89 := F88.ext E5
    have F90 := FWc.keep K2 nin0
    have F91 := F90.ext E5
    have F92 := SWc.keep K2 all0
    have F93 := F92.ext E5
    have F94 := FWp.keep K2 nin0
    have F95 := F94.ext E5
    have F96 := SWp.keep K2 all0
    have F97 := F96.ext E5
    have F98 := EE.keep K2
    have F99 := F98.ext E5
    have F100 := FE.keep K2 nin0
    have F101 := F100.ext E5
    obtain ⟨v102, h102, Q102, K102, z102, w102⟩ := w85.callS hx (y := (⟨"com/example/unified_lexicon/unifiedlexicon/core/Profile$Kind", "ofWritten", "(Ljava/lang/String;)Ljava/util/Optional;"⟩ : MethodName)) (W := 0) (hw _ (List.mem_of_getElem? (i := 82) rfl)) (hw _ (List.mem_of_getElem? (i := 83) rfl)) (hw _ (List.mem_of_getElem? (i := 84) rfl)) (hw _ (List.mem_of_getElem? (i := 85) rfl)) (by decide) ((rmow l Z a0 hw x2 cs2 _ av oc op xc xp oe kv h5 n0 (by omega) hG F9 SV F87 F89 SE F91 F93 F95 F97 F99 F101 F7).pay w85.hZ (hw _ (List.mem_of_getElem? (i := 85) rfl)) (hw _ (List.mem_of_getElem? (i := 84) rfl)) (by decide) (by decide)) rfl (by rw [hml]; rfl) [] (lenOf pd_11 rfl) rfl (by show 2 * 0 + _ ≤ _; exact Nat.le_of_eq rfl) (hb hby at_302) (by decide) (by decide) (fun _ q => nomatch q) (fun rv => (mkF m 305 #[.val (.int p0), .val (.int p1), .val (.int p2), .val (.int p3), .val (.int p4), .val (.int la), .val (.int lb), .val (.ref xa), .val (.int z), .val (.int cc), .val (.ref a), .val (.int q), .val (.int n), .val (.ref x2), .val (.ref oc), .unset] (rv.toList ++ []))) (fun _ => rfl)
    obtain ⟨o102, rfl, E102o, F102o⟩ := Q102
    have K103 : Keep h0 h102 [] := K6.trans K102 (fun _ q => nomatch q)
    have lt_o102 := exlt E102o
    rw [show own_of cs2 oc op = (.ref oc) from if_pos (ite_ne hc11).symm] at F102o
    have w104 := w102.pure (mkF m 309 #[.val (.int p0), .val (.int p1), .val (.int p2), .val (.int p3), .val (.int p4), .val (.int la), .val (.int lb), .val (.ref xa), .val (.int z), .val (.int cc), .val (.ref a), .val (.int q), .val (.int n), .val (.ref x2), .val (.ref oc), .val (.ref o102)] [(.ref o102)]) (fun X eT hZ hown k => by
        show Steps _ _ _ (State.setTop _ (mkF m 305 #[.val (.int p0), .val (.int p1), .val (.int p2), .val (.int p3), .val (.int p4), .val (.int la), .val (.int lb), .val (.ref xa), .val (.int z), .val (.int cc), .val (.ref a), .val (.int q), .val (.int n), .val (.ref x2), .val (.ref oc), .unset] [(.ref o102)])) _
        refine S.astore X.here hx (hb hby at_305) rfl #[.val (.int p0), .val (.int p1), .val (.int p2), .val (.int p3), .val (.int p4), .val (.int la), .val (.int lb), .val (.ref xa), .val (.int z), .val (.int cc), .val (.ref a), .val (.int q), .val (.int n), .val (.ref x2), .val (.ref oc), .val (.ref o102)] rfl ?_
        refine S.aload X.here hx (hb hby at_307) rfl rfl ?_
        exact k)
    obtain ⟨v105, h105, Q105, K105, z105, w105⟩ := w104.callV hx (C := "java/util/Optional") (y := (⟨"java/util/Optional", "isPresent", "()Z"⟩ : MethodName)) (z := (⟨"java/util/Optional", "isPresent", "()Z"⟩ : MethodName)) (W := 0) (hw _ (List.mem_of_getElem? (i := 111) rfl)) (hw _ (List.mem_of_getElem? (i := 112) rfl)) (hw _ (List.mem_of_getElem? (i := 114) rfl)) (hw _ (List.mem_of_getElem? (i := 113) rfl)) (w104.nf (hw _ (List.mem_of_getElem? (i := 114) rfl))) (by decide) ((rmipR l Z a0 hw o102 oc h102 n0 (by omega) F102o).pay w104.hZ (hw _ (List.mem_of_getElem? (i := 115) rfl)) (hw _ (List.mem_of_getElem? (i := 108) rfl)) (by decide) (by decide)) E102o rfl (by rw [hml]; rfl) [] (lenOf pd_12 rfl) rfl (by show 2 * 0 + _ ≤ _; exact Nat.le_of_eq rfl) (hb hby at_309) (by decide) (by decide) (fun _ q => nomatch q) (fun rv => (mkF m 312 #[.val (.int p0), .val (.int p1), .val (.int p2), .val (.int p3), .val (.int p4), .val (.int la), .val (.int lb), .val (.ref xa), .val (.int z), .val (.int cc), .val (.ref a), .val (.int q), .val (.int n), .val (.ref x2), .val (.ref oc), .val (.ref o102)] (rv.toList ++ []))) (fun _ => rfl)
    obtain ⟨rfl, rfl⟩ := Q105
    have w106 := w105.pure (mkF m 322 #[.val (.int p0), .val (.int p1), .val (.int p2), .val (.int p3), .val (.int p4), .val (.int la), .val (.int lb), .val (.ref xa), .val (.int z), .val (.int cc), .val (.ref a), .val (.int q), .val (.int n), .val (.ref x2), .val (.ref oc), .val (.ref o102)] [(.ref o102)]) (fun X eT hZ hown k => by
        show Steps _ _ _ (State.setTop _ (mkF m 312 #[.val (.int p0), .val (.int p1), .val (.int p2), .val (.int p3), .val (.int p4), .val (.int la), .val (.int lb), .val (.ref xa), .val (.int z), .val (.int cc), .val (.ref a), .val (.int q), .val (.int n), .val (.ref x2), .val (.ref oc), .val (.ref o102)] [(.int (1 : Int32))])) _
        refine S.ifNo X.here hx (hb hby at_312) (by decide) ?_
        refine S.aload X.here hx (hb hby at_315) rfl rfl ?_
        refine S.ifnullNo X.here hx (hb hby at_317) ?_
        refine S.aload X.here hx (hb hby at_320) rfl rfl ?_
        exact k)
    obtain ⟨v107, h107, Q107, K107, z107, w107⟩ := w106.callV hx (C := "java/util/Optional") (y := (⟨"java/util/Optional", "get", "()Ljava/lang/Object;"⟩ : MethodName)) (z := (⟨"java/util/Optional", "get", "()Ljava/lang/Object;"⟩ : MethodName)) (W := 0) (hw _ (List.mem_of_getElem? (i := 134) rfl)) (hw _ (List.mem_of_getElem? (i := 135) rfl)) (hw _ (List.mem_of_getElem? (i := 137) rfl)) (hw _ (List.mem_of_getElem? (i := 136) rfl)) (w106.nf (hw _ (List.mem_of_getElem? (i := 137) rfl))) (by decide) ((rmgt l Z a0 hw o102 oc h102 n0 (by omega) F102o).pay w106.hZ (hw _ (List.mem_of_getElem? (i := 138) rfl)) (hw _ (List.mem_of_getElem? (i := 108) rfl)) (by decide) (by decide)) E102o rfl (by rw [hml]; rfl) [] (lenOf pd_13 rfl) rfl (by show 2 * 0 + _ ≤ _; exact Nat.le_of_eq rfl) (hb hby at_322) (by decide) (by decide) (fun _ q => nomatch q) (fun rv => (mkF m 325 #[.val (.int p0), .val (.int p1), .val (.int p2), .val (.int p3), .val (.int p4), .val (.int la), .val (.int lb), .val (.ref xa), .val (.int z), .val (.int cc), .val (.ref a), .val (.int q), .val (.int n), .val (.ref x2), .val (.ref oc), .val (.ref o102)] (rv.toList ++ []))) (fun _ => rfl)
    obtain ⟨rfl, rfl⟩ := Q107
    have w108 := w107.pure (mkF m 335 #[.val (.int p0), .val (.int p1), .val (.int p2), .val (.int p3), .val (.int p4), .val (.int la), .val (.int lb), .val (.ref xa), .val (.int z), .val (.int cc), .val (.ref a), .val (.int q), .val (.int n), .val (.ref x2), .val (.ref oc), .val (.ref o102)] [(.int (1 : Int32))]) (fun X eT hZ hown k => by
        show Steps _ _ _ (State.setTop _ (mkF m 325 #[.val (.int p0), .val (.int p1), .val (.int p2), .val (.int p3), .val (.int p4), .val (.int la), .val (.int lb), .val (.ref xa), .val (.int z), .val (.int cc), .val (.ref a), .val (.int q), .val (.int n), .val (.ref x2), .val (.ref oc), .val (.ref o102)] [(.ref oc)])) _
        refine S.aload X.here hx (hb hby at_325) rfl rfl ?_
        refine acmp X hx rfl rfl rfl (pc0 := 327) (pc' := 330) (same := true) rfl (hb hby at_327) rfl (decide_eq_true rfl) (by decide) rfl ?_
        show Steps _ _ _ (State.setTop _ (mkF m 330 #[.val (.int p0), .val (.int p1), .val (.int p2), .val (.int p3), .val (.int p4), .val (.int la), .val (.int lb), .val (.ref xa), .val (.int z), .val (.int cc), .val (.ref a), .val (.int q), .val (.int n), .val (.ref x2), .val (.ref oc), .val (.ref o102)] [])) _
        refine S.iconst X.here hx (1 : Int32) (hb hby at_330) rfl ?_
        refine S.goto X.here hx 335 (hb hby at_331) (by decide) (by decide) ?_
        exact k)
    exact w108.endW (v := some (.int (1 : Int32))) (Q := (fun v h => v = some (.int 1))) (wr := []) (h0 := h0) (fun h => by rw [Bd.returns] at h; cases h) Bd.notSynchronized (fun X hr => retN X hx (t := .boolean) Bd.returns (by simp) (hb hby at_335) hr) (by decide) (by decide) rfl K103
set_option maxRecDepth 65536 in
set_option maxHeartbeats 40000000 in
theorem ptB (l : Launch) (Z : State) (a0 : Array Value) (hw : ∀ d ∈ tables_1, d.before a0 Z = true) (hE : EW Z a0 consts_1) {p : Program} {e : Env} {s s₁ st : State} {m : MethodId} {args : Array Value} {below : List Frame} {meth : Method} {c : Code} {Sp : Spec} (Bd : BodyLoose p l x Sp code maxLocals ret e s m args below meth c s₁) (hml : c.maxLocals = 16) (p0 p1 p2 p3 p4 la lb z cc : Int32) (xa a : Nat) (k : ClassId) (cs : List Int32) (av oc op xc xp oe : Nat) (kv : ClassId) (h0 : Heap) (n0 : Nat) (Z0 : n0 ≤ h0.size) {h1 : Heap} {vm1 : Vm}
    (w0 : Wk p l e room_1 s m args below meth c Z a0 consts_1 n0 x.cls false st vm1 h1 (mkF m 197 #[.val (.int p0), .val (.int p1), .val (.int p2), .val (.int p3), .val (.int p4), .val (.int la), .val (.int lb), .val (.ref xa), .val (.int z), .val (.int cc), .val (.ref a), .unset, .unset, .unset, .unset, .unset] []) 8 60) (K0 : Keep h0 h1 []) (Z1 : h0.size ≤ h1.size) (hG : SetsOk Z) (X1 : Old Z n0 h1) (SC : Sta Z Z.heap "com/example/unified_lexicon/unifiedlexicon/core/Profile$Kind" "CLASS" "Lcom/example/unified_lexicon/unifiedlexicon/core/Profile$Kind;" (.ref oc)) (SP : Sta Z Z.heap "com/example/unified_lexicon/unifiedlexicon/core/Profile$Kind" "PROPERTY" "Lcom/example/unified_lexicon/unifiedlexicon/core/Profile$Kind;" (.ref op)) (SV : Sta Z Z.heap "com/example/unified_lexicon/unifiedlexicon/core/Profile$Kind" "$VALUES" "[Lcom/example/unified_lexicon/unifiedlexicon/core/Profile$Kind;" (.ref av)) (VV : Arv Z h1 av kv (.object "com/example/unified_lexicon/unifiedlexicon/core/Profile$Kind") (2 : Int32) [(.ref oc), (.ref op)] .null) (EV : Exa Z h1 av "[Lcom/example/unified_lexicon/unifiedlexicon/core/Profile$Kind;") (SE : Sta Z Z.heap "java/util/Optional" "EMPTY" "Ljava/util/Optional;" (.ref oe)) (FWc : Fld Z h1 oc "com/example/unified_lexicon/unifiedlexicon/core/Profile$Kind" "written" "Ljava/lang/String;" (.ref xc)) (SWc : Str Z h1 xc own_C n0) (FWp : Fld Z h1 op "com/example/unified_lexicon/unifiedlexicon/core/Profile$Kind" "written" "Ljava/lang/String;" (.ref xp)) (SWp : Str Z h1 xp own_P n0) (EE : Exa Z h1 oe "java/util/Optional") (FE : Fld Z h1 oe "java/util/Optional" "value" "Ljava/lang/Object;" .null) (ga : n0 ≤ a) (V1 : Arv Z h1 a k .char (9 : Int32) (cs.map Value.int) (.int (0 : Int32))) (hl : cs.length = 9) (hr : ∀ c ∈ cs, ¬ c < 0 ∧ ¬ (255 : Int32) < c) :
    EndsW p e below st s Z consts_1 n0 h0 [] (fun v h => v = some (.int 1)) room_1.cells room_1.slots := by
  have hx := Bd.exec
  have hby := Bd.bytes
  have hnm := (name_of_methodNamed Bd.named Bd.method).1
  have lt_VV := arlt VV
  have lt_EV := exlt EV
  have lt_FWc : h1.size > oc := Fld.lt FWc
  have lt_SWc := SWc.lt
  have lt_FWp : h1.size > op := Fld.lt FWp
  have lt_SWp := SWp.lt
  have lt_FE : h1.size > oe := Fld.lt FE
  have lt_EE := exlt EE
  have lt_V1 := arlt V1
  have w1 := w0.pure (mkF m 204 #[.val (.int p0), .val (.int p1), .val (.int p2), .val (.int p3), .val (.int p4), .val (.int la), .val (.int lb), .val (.ref xa), .val (.int z), .val (.int cc), .val (.ref a), .val (.int (p3 &&& (3 : Int32))), .unset, .unset, .unset, .unset] [(.int (p3 &&& (3 : Int32)))]) (fun X eT hZ hown k => by
      show Steps _ _ _ (State.setTop _ (mkF m 197 #[.val (.int p0), .val (.int p1), .val (.int p2), .val (.int p3), .val (.int p4), .val (.int la), .val (.int lb), .val (.ref xa), .val (.int z), .val (.int cc), .val (.ref a), .unset, .unset, .unset, .unset, .unset] [])) _
      refine S.iloadN X.here hx (hb hby at_197) rfl ?_
      refine S.iconst X.here hx (3 : Int32) (hb hby at_198) rfl ?_
      refine S.iand X.here hx (hb hby at_199) ?_
      refine S.istore X.here hx (hb hby at_200) #[.val (.int p0), .val (.int p1), .val (.int p2), .val (.int p3), .val (.int p4), .val (.int la), .val (.int lb), .val (.ref xa), .val (.int z), .val (.int cc), .val (.ref a), .val (.int (p3 &&& (3 : Int32))), .unset, .unset, .unset, .unset] rfl ?_
      refine S.iload X.here hx (hb hby at_202) rfl ?_
      exact k)
  by_cases hc2 : (p3 &&& (3 : Int32)) = (0 : Int32)
  · have w3 := w1.pure (mkF m 252 #[.val (.int p0), .val (.int p1), .val (.int p2), .val (.int p3), .val (.int p4), .val (.int la), .val (.int lb), .val (.ref xa), .val (.int z), .val (.int cc), .val (.ref a), .val (.int (p3 &&& (3 : Int32))), .val (.int z), .unset, .unset, .unset] []) (fun X eT hZ hown k => by
        show Steps _ _ _ (State.setTop _ (mkF m 204 #[.val (.int p0), .val (.int p1), .val (.int p2), .val (.int p3), .val (.int p4), .val (.int la), .val (.int lb), .val (.ref xa), .val (.int z), .val (.int cc), .val (.ref a), .val (.int (p3 &&& (3 : Int32))), .unset, .unset, .unset, .unset] [(.int (p3 &&& (3 : Int32)))])) _
        refine S.ifNo X.here hx (hb hby at_204) ((if0 _ _).trans (teq hc2).2) ?_
        refine S.iload X.here hx (hb hby at_207) rfl ?_
        refine S.istore X.here hx (hb hby at_209) #[.val (.int p0), .val (.int p1), .val (.int p2), .val (.int p3), .val (.int p4), .val (.int la), .val (.int lb), .val (.ref xa), .val (.int z), .val (.int cc), .val (.ref a), .val (.int (p3 &&& (3 : Int32))), .val (.int z), .unset, .unset, .unset] rfl ?_
        refine S.goto X.here hx 252 (hb hby at_211) (by decide) (by decide) ?_
        exact k)
    exact ptC l Z a0 hw hE Bd hml p0 p1 p2 p3 p4 la lb z cc xa a k cs (p3 &&& (3 : Int32)) z av oc op xc xp oe kv h0 n0 Z0 w3 K0 (by omega) hG X1 SC SP SV VV EV SE FWc SWc FWp SWp EE FE ga V1 hl hr
  · have w4 := w1.pure (mkF m 217 #[.val (.int p0), .val (.int p1), .val (.int p2), .val (.int p3), .val (.int p4), .val (.int la), .val (.int lb), .val (.ref xa), .val (.int z), .val (.int cc), .val (.ref a), .val (.int (p3 &&& (3 : Int32))), .unset, .unset, .unset, .unset] [(.int (1 : Int32)), (.int (p3 &&& (3 : Int32)))]) (fun X eT hZ hown k => by
        show Steps _ _ _ (State.setTop _ (mkF m 204 #[.val (.int p0), .val (.int p1), .val (.int p2), .val (.int p3), .val (.int p4), .val (.int la), .val (.int lb), .val (.ref xa), .val (.int z), .val (.int cc), .val (.ref a), .val (.int (p3 &&& (3 : Int32))), .unset, .unset, .unset, .unset] [(.int (p3 &&& (3 : Int32)))])) _
        refine S.ifYes X.here hx 214 (hb hby at_204) ((if0 _ _).trans (feq hc2).2) (by decide) (by decide) ?_
        refine S.iload X.here hx (hb hby at_214) rfl ?_
        refine S.iconst X.here hx (1 : Int32) (hb hby at_216) rfl ?_
        exact k)
    by_cases hc5 : (p3 &&& (3 : Int32)) = (1 : Int32)
    · have w6 := w4.pure (mkF m 252 #[.val (.int p0), .val (.int p1), .val (.int p2), .val (.int p3), .val (.int p4), .val (.int la), .val (.int lb), .val (.ref xa), .val (.int z), .val (.int cc), .val (.ref a), .val (.int (p3 &&& (3 : Int32))), .val (.int (z - (1 : Int32))), .unset, .unset, .unset] []) (fun X eT hZ hown k => by
          show Steps _ _ _ (State.setTop _ (mkF m 217 #[.val (.int p0), .val (.int p1), .val (.int p2), .val (.int p3), .val (.int p4), .val (.int la), .val (.int lb), .val (.ref xa), .val (.int z), .val (.int cc), .val (.ref a), .val (.int (p3 &&& (3 : Int32))), .unset, .unset, .unset, .unset] [(.int (1 : Int32)), (.int (p3 &&& (3 : Int32)))])) _
          refine S.icmpNo X.here hx (hb hby at_217) (teq hc5).2 ?_
          refine S.iload X.here hx (hb hby at_220) rfl ?_
          refine S.iconst X.here hx (1 : Int32) (hb hby at_222) rfl ?_
          refine S.isub X.here hx (hb hby at_223) ?_
          refine S.istore X.here hx (hb hby at_224) #[.val (.int p0), .val (.int p1), .val (.int p2), .val (.int p3), .val (.int p4), .val (.int la), .val (.int lb), .val (.ref xa), .val (.int z), .val (.int cc), .val (.ref a), .val (.int (p3 &&& (3 : Int32))), .val (.int (z - (1 : Int32))), .unset, .unset, .unset] rfl ?_
          refine S.goto X.here hx 252 (hb hby at_226) (by decide) (by decide) ?_
          exact k)
      exact ptC l Z a0 hw hE Bd hml p0 p1 p2 p3 p4 la lb z cc xa a k cs (p3 &&& (3 : Int32)) (z - (1 : Int32)) av oc op xc xp oe kv h0 n0 Z0 w6 K0 (by omega) hG X1 SC SP SV VV EV SE FWc SWc FWp SWp EE FE ga V1 hl hr
    · have w7 := w4.pure (mkF m 232 #[.val (.int p0), .val (.int p1), .val (.int p2), .val (.int p3), .val (.int p4), .val (.int la), .val (.int lb), .val (.ref xa), .val (.int z), .val (.int cc), .val (.ref a), .val (.int (p3 &&& (3 : Int32))), .unset, .unset, .unset, .unset] [(.int (2 : Int32)), (.int (p3 &&& (3 : Int32)))]) (fun X eT hZ hown k => by
          show Steps _ _ _ (State.setTop _ (mkF m 217 #[.val (.int p0), .val (.int p1), .val (.int p2), .val (.int p3), .val (.int p4), .val (.int la), .val (.int lb), .val (.ref xa), .val (.int z), .val (.int cc), .val (.ref a), .val (.int (p3 &&& (3 : Int32))), .unset, .unset, .unset, .unset] [(.int (1 : Int32)), (.int (p3 &&& (3 : Int32)))])) _
          refine S.icmpYes X.here hx 229 (hb hby at_217) (feq hc5).2 (by decide) (by decide) ?_
          refine S.iload X.here hx (hb hby at_229) rfl ?_
          refine S.iconst X.here hx (2 : Int32) (hb hby at_231) rfl ?_
          exact k)
      by_cases hc8 : (p3 &&& (3 : Int32)) = (2 : Int32)
      · have w9 := w7.pure (mkF m 252 #[.val (.int p0), .val (.int p1), .val (.int p2), .val (.int p3), .val (.int p4), .val (.int la), .val (.int lb), .val (.ref xa), .val (.int z), .val (.int cc), .val (.ref a), .val (.int (p3 &&& (3 : Int32))), .val (.int (z + (1 : Int32))), .unset, .unset, .unset] []) (fun X eT hZ hown k => by
            show Steps _ _ _ (State.setTop _ (mkF m 232 #[.val (.int p0), .val (.int p1), .val (.int p2), .val (.int p3), .val (.int p4), .val (.int la), .val (.int lb), .val (.ref xa), .val (.int z), .val (.int cc), .val (.ref a), .val (.int (p3 &&& (3 : Int32))), .unset, .unset, .unset, .unset] [(.int (2 : Int32)), (.int (p3 &&& (3 : Int32)))])) _
            refine S.icmpNo X.here hx (hb hby at_232) (teq hc8).2 ?_
            refine S.iload X.here hx (hb hby at_235) rfl ?_
            refine S.iconst X.here hx (1 : Int32) (hb hby at_237) rfl ?_
            refine S.iadd X.here hx (hb hby at_238) ?_
            refine S.istore X.here hx (hb hby at_239) #[.val (.int p0), .val (.int p1), .val (.int p2), .val (.int p3), .val (.int p4), .val (.int la), .val (.int lb), .val (.ref xa), .val (.int z), .val (.int cc), .val (.ref a), .val (.int (p3 &&& (3 : Int32))), .val (.int (z + (1 : Int32))), .unset, .unset, .unset] rfl ?_
            refine S.goto X.here hx 252 (hb hby at_241) (by decide) (by decide) ?_
            exact k)
        exact ptC l Z a0 hw hE Bd hml p0 p1 p2 p3 p4 la lb z cc xa a k cs (p3 &&& (3 : Int32)) (z + (1 : Int32)) av oc op xc xp oe kv h0 n0 Z0 w9 K0 (by omega) hG X1 SC SP SV VV EV SE FWc SWc FWp SWp EE FE ga V1 hl hr
      · have w10 := w7.pure (mkF m 252 #[.val (.int p0), .val (.int p1), .val (.int p2), .val (.int p3), .val (.int p4), .val (.int la), .val (.int lb), .val (.ref xa), .val (.int z), .val (.int cc), .val (.ref a), .val (.int (p3 &&& (3 : Int32))), .val (.int (((p3.toUInt32 >>> ((2 : Int32) &&& 31).toUInt32).toInt32) % (10 : Int32))), .unset, .unset, .unset] []) (fun X eT hZ hown k => by
            show Steps _ _ _ (State.setTop _ (mkF m 232 #[.val (.int p0), .val (.int p1), .val (.int p2), .val (.int p3), .val (.int p4), .val (.int la), .val (.int lb), .val (.ref xa), .val (.int z), .val (.int cc), .val (.ref a), .val (.int (p3 &&& (3 : Int32))), .unset, .unset, .unset, .unset] [(.int (2 : Int32)), (.int (p3 &&& (3 : Int32)))])) _
            refine S.icmpYes X.here hx 244 (hb hby at_232) (feq hc8).2 (by decide) (by decide) ?_
            refine S.iloadN X.here hx (hb hby at_244) rfl ?_
            refine S.iconst X.here hx (2 : Int32) (hb hby at_245) rfl ?_
            refine S.iushr X.here hx (hb hby at_246) ?_
            refine S.bipush X.here hx (10 : Int32) (hb hby at_247) rfl ?_
            refine iremM X hx rfl (hb hby at_249) rfl (by decide) ?_
            show Steps _ _ _ (State.setTop _ (mkF m 250 #[.val (.int p0), .val (.int p1), .val (.int p2), .val (.int p3), .val (.int p4), .val (.int la), .val (.int lb), .val (.ref xa), .val (.int z), .val (.int cc), .val (.ref a), .val (.int (p3 &&& (3 : Int32))), .unset, .unset, .unset, .unset] [(.int (((p3.toUInt32 >>> ((2 : Int32) &&& 31).toUInt32).toInt32) % (10 : Int32)))])) _
            refine S.istore X.here hx (hb hby at_250) #[.val (.int p0), .val (.int p1), .val (.int p2), .val (.int p3), .val (.int p4), .val (.int la), .val (.int lb), .val (.ref xa), .val (.int z), .val (.int cc), .val (.ref a), .val (.int (p3 &&& (3 : Int32))), .val (.int (((p3.toUInt32 >>> ((2 : Int32) &&& 31).toUInt32).toInt32) % (10 : Int32))), .unset, .unset, .unset] rfl ?_
            exact k)
        exact ptC l Z a0 hw hE Bd hml p0 p1 p2 p3 p4 la lb z cc xa a k cs (p3 &&& (3 : Int32)) (((p3.toUInt32 >>> ((2 : Int32) &&& 31).toUInt32).toInt32) % (10 : Int32)) av oc op xc xp oe kv h0 n0 Z0 w10 K0 (by omega) hG X1 SC SP SV VV EV SE FWc SWc FWp SWp EE FE ga V1 hl hr
theorem pd_14 : parseMethodDescriptor "(Ljava/lang/String;IC)C" = some ⟨[(.object "java/lang/String"), .int, .char], some .char⟩ := by decide +kernel
set_option maxRecDepth 65536 in
set_option maxHeartbeats 40000000 in
theorem ptA (l : Launch) (Z : State) (a0 : Array Value) (hw : ∀ d ∈ tables_1, d.before a0 Z = true) (hE : EW Z a0 consts_1) {p : Program} {e : Env} {s s₁ st : State} {m : MethodId} {args : Array Value} {below : List Frame} {meth : Method} {c : Code} {Sp : Spec} (Bd : BodyLoose p l x Sp code maxLocals ret e s m args below meth c s₁) (hml : c.maxLocals = 16) (p0 p1 p2 p3 p4 la lb : Int32) (xa : Nat) (bs : List Int32) (av oc op xc xp oe : Nat) (kv : ClassId) (h0 : Heap) (n0 : Nat) (Z0 : n0 ≤ h0.size) {h1 : Heap} {vm1 : Vm}
    (w0 : Wk p l e room_1 s m args below meth c Z a0 consts_1 n0 x.cls false st vm1 h1 (mkF m 38 #[.val (.int p0), .val (.int p1), .val (.int p2), .val (.int p3), .val (.int p4), .val (.int la), .val (.int lb), .unset, .unset, .unset, .unset, .unset, .unset, .unset, .unset, .unset] [(.ref xa)]) 4 40) (K0 : Keep h0 h1 []) (Z1 : h0.size ≤ h1.size) (hG : SetsOk Z) (X1 : Old Z n0 h1) (SC : Sta Z Z.heap "com/example/unified_lexicon/unifiedlexicon/core/Profile$Kind" "CLASS" "Lcom/example/unified_lexicon/unifiedlexicon/core/Profile$Kind;" (.ref oc)) (SP : Sta Z Z.heap "com/example/unified_lexicon/unifiedlexicon/core/Profile$Kind" "PROPERTY" "Lcom/example/unified_lexicon/unifiedlexicon/core/Profile$Kind;" (.ref op)) (SV : Sta Z Z.heap "com/example/unified_lexicon/unifiedlexicon/core/Profile$Kind" "$VALUES" "[Lcom/example/unified_lexicon/unifiedlexicon/core/Profile$Kind;" (.ref av)) (VV : Arv Z h1 av kv (.object "com/example/unified_lexicon/unifiedlexicon/core/Profile$Kind") (2 : Int32) [(.ref oc), (.ref op)] .null) (EV : Exa Z h1 av "[Lcom/example/unified_lexicon/unifiedlexicon/core/Profile$Kind;") (SE : Sta Z Z.heap "java/util/Optional" "EMPTY" "Ljava/util/Optional;" (.ref oe)) (FWc : Fld Z h1 oc "com/example/unified_lexicon/unifiedlexicon/core/Profile$Kind" "written" "Ljava/lang/String;" (.ref xc)) (SWc : Str Z h1 xc own_C n0) (FWp : Fld Z h1 op "com/example/unified_lexicon/unifiedlexicon/core/Profile$Kind" "written" "Ljava/lang/String;" (.ref xp)) (SWp : Str Z h1 xp own_P n0) (EE : Exa Z h1 oe "java/util/Optional") (FE : Fld Z h1 oe "java/util/Optional" "value" "Ljava/lang/Object;" .null) (Sx : Str Z h1 xa bs h1.size) :
    EndsW p e below st s Z consts_1 n0 h0 [] (fun v h => v = some (.int 1)) room_1.cells room_1.slots := by
  have hx := Bd.exec
  have hby := Bd.bytes
  have hnm := (name_of_methodNamed Bd.named Bd.method).1
  have lt_VV := arlt VV
  have lt_EV := exlt EV
  have lt_FWc : h1.size > oc := Fld.lt FWc
  have lt_SWc := SWc.lt
  have lt_FWp : h1.size > op := Fld.lt FWp
  have lt_SWp := SWp.lt
  have lt_FE : h1.size > oe := Fld.lt FE
  have lt_EE := exlt EE
  have lt_Sx := Sx.lt
  have hq_lenW : ∀ d ∈ StrChars.Road.wordsLen, d.before a0 Z = true := fun d hd => hw d ((by decide +kernel : ∀ d ∈ StrChars.Road.wordsLen, d ∈ tables_1) d hd)
  have w1 := w0.pure (mkF m 42 #[.val (.int p0), .val (.int p1), .val (.int p2), .val (.int p3), .val (.int p4), .val (.int la), .val (.int lb), .val (.ref xa), .unset, .unset, .unset, .unset, .unset, .unset, .unset, .unset] [(.ref xa)]) (fun X eT hZ hown k => by
      show Steps _ _ _ (State.setTop _ (mkF m 38 #[.val (.int p0), .val (.int p1), .val (.int p2), .val (.int p3), .val (.int p4), .val (.int la), .val (.int lb), .unset, .unset, .unset, .unset, .unset, .unset, .unset, .unset, .unset] [(.ref xa)])) _
      refine S.astore X.here hx (hb hby at_38) rfl #[.val (.int p0), .val (.int p1), .val (.int p2), .val (.int p3), .val (.int p4), .val (.int la), .val (.int lb), .val (.ref xa), .unset, .unset, .unset, .unset, .unset, .unset, .unset, .unset] rfl ?_
      refine S.aload X.here hx (hb hby at_40) rfl rfl ?_
      exact k)
  obtain ⟨v2, h2, Q2, K2, z2, w2⟩ := w1.callV hx (C := "java/lang/String") (y := (⟨"java/lang/String", "length", "()I"⟩ : MethodName)) (z := (⟨"java/lang/String", "length", "()I"⟩ : MethodName)) (W := 0) (hw _ (List.mem_of_getElem? (i := 8) rfl)) (hw _ (List.mem_of_getElem? (i := 9) rfl)) (hw _ (List.mem_of_getElem? (i := 11) rfl)) (hw _ (List.mem_of_getElem? (i := 10) rfl)) (w1.nf (hw _ (List.mem_of_getElem? (i := 11) rfl))) (by decide) (payLen hG w1.hZ hq_lenW (hw _ (List.mem_of_getElem? (i := 2) rfl)) Sx X1 (by decide) (by decide)) Sx.exa rfl (by rw [hml]; rfl) [] (lenOf pd_1 rfl) rfl (by show 2 * 0 + _ ≤ _; exact Nat.le_of_eq rfl) (hb hby at_42) (by decide) (by decide) (fun _ q => nomatch q) (fun rv => (mkF m 45 #[.val (.int p0), .val (.int p1), .val (.int p2), .val (.int p3), .val (.int p4), .val (.int la), .val (.int lb), .val (.ref xa), .unset, .unset, .unset, .unset, .unset, .unset, .unset, .unset] (rv.toList ++ []))) (fun _ => rfl)
  obtain ⟨rfl, rfl⟩ := Q2
  have w3 := w2.pure (mkF m 58 #[.val (.int p0), .val (.int p1), .val (.int p2), .val (.int p3), .val (.int p4), .val (.int la), .val (.int lb), .val (.ref xa), .val (.int (Int32.ofNat bs.length)), .val (.int (p4 &&& (255 : Int32))), .unset, .unset, .unset, .unset, .unset, .unset] [(.int (9 : Int32))]) (fun X eT hZ hown k => by
      show Steps _ _ _ (State.setTop _ (mkF m 45 #[.val (.int p0), .val (.int p1), .val (.int p2), .val (.int p3), .val (.int p4), .val (.int la), .val (.int lb), .val (.ref xa), .unset, .unset, .unset, .unset, .unset, .unset, .unset, .unset] [(.int (Int32.ofNat bs.length))])) _
      refine S.istore X.here hx (hb hby at_45) #[.val (.int p0), .val (.int p1), .val (.int p2), .val (.int p3), .val (.int p4), .val (.int la), .val (.int lb), .val (.ref xa), .val (.int (Int32.ofNat bs.length)), .unset, .unset, .unset, .unset, .unset, .unset, .unset] rfl ?_
      refine S.iload X.here hx (hb hby at_47) rfl ?_
      refine S.sipush X.here hx (255 : Int32) (hb hby at_49) rfl ?_
      refine S.iand X.here hx (hb hby at_52) ?_
      refine S.i2cM X.here hx (hb hby at_53) ?_
      refine S.istore X.here hx (hb hby at_54) #[.val (.int p0), .val (.int p1), .val (.int p2), .val (.int p3), .val (.int p4), .val (.int la), .val (.int lb), .val (.ref xa), .val (.int (Int32.ofNat bs.length)), .val (.int (p4 &&& (255 : Int32))), .unset, .unset, .unset, .unset, .unset, .unset] rfl ?_
      refine S.bipush X.here hx (9 : Int32) (hb hby at_56) rfl ?_
      exact k)
  obtain ⟨b4, h4, k4, g4, E4, l4, A4, y4, w4⟩ := w3.newP hx (hw _ (List.mem_of_getElem? (i := 21) rfl)) rfl (hb hby at_58) rfl (by decide) 9 (by decide) (by decide) (by decide) (by decide) (fun xq => (mkF m 60 #[.val (.int p0), .val (.int p1), .val (.int p2), .val (.int p3), .val (.int p4), .val (.int la), .val (.int lb), .val (.ref xa), .val (.int (Int32.ofNat bs.length)), .val (.int (p4 &&& (255 : Int32))), .unset, .unset, .unset, .unset, .unset, .unset] (.ref xq :: []))) (fun _ => rfl)
  have z4 := E4.1
  have K5 : Keep h0 h4 [] := K0.ext E4
  have V4 : Arv Z h4 b4 k4 .char (9 : Int32) [(.int (0 : Int32)), (.int (0 : Int32)), (.int (0 : Int32)), (.int (0 : Int32)), (.int (0 : Int32)), (.int (0 : Int32)), (.int (0 : Int32)), (.int (0 : Int32)), (.int (0 : Int32))] (.int (0 : Int32)) := A4.pad (pad_rep [] (.int (0 : Int32)) 9)
  have w6 := w4.pure (mkF m 70 #[.val (.int p0), .val (.int p1), .val (.int p2), .val (.int p3), .val (.int p4), .val (.int la), .val (.int lb), .val (.ref xa), .val (.int (Int32.ofNat bs.length)), .val (.int (p4 &&& (255 : Int32))), .val (.ref b4), .unset, .unset, .unset, .unset, .unset] [(.int (p4 &&& (255 : Int32))), (.int (0 : Int32)), (.ref xa), (.int (0 : Int32)), (.ref b4)]) (fun X eT hZ hown k => by
      show Steps _ _ _ (State.setTop _ (mkF m 60 #[.val (.int p0), .val (.int p1), .val (.int p2), .val (.int p3), .val (.int p4), .val (.int la), .val (.int lb), .val (.ref xa), .val (.int (Int32.ofNat bs.length)), .val (.int (p4 &&& (255 : Int32))), .unset, .unset, .unset, .unset, .unset, .unset] [(.ref b4)])) _
      refine S.astore X.here hx (hb hby at_60) rfl #[.val (.int p0), .val (.int p1), .val (.int p2), .val (.int p3), .val (.int p4), .val (.int la), .val (.int lb), .val (.ref xa), .val (.int (Int32.ofNat bs.length)), .val (.int (p4 &&& (255 : Int32))), .val (.ref b4), .unset, .unset, .unset, .unset, .unset] rfl ?_
      refine S.aload X.here hx (hb hby at_62) rfl rfl ?_
      refine S.iconst X.here hx (0 : Int32) (hb hby at_64) rfl ?_
      refine S.aload X.here hx (hb hby at_65) rfl rfl ?_
      refine S.iconst X.here hx (0 : Int32) (hb hby at_67) rfl ?_
      refine S.iload X.here hx (hb hby at_68) rfl ?_
      exact k)
  have F7 := X1.ext E4
  have F8 := Sx.ext E4
  obtain ⟨v9, h9, Q9, K9, z9, w9⟩ := w6.callS hx (y := (⟨"com/example/unified_lexicon/unifiedlexicon/core/KindOfWrittenPinLaw", "at", "(Ljava/lang/String;IC)C"⟩ : MethodName)) (W := 2) (hw _ (List.mem_of_getElem? (i := 22) rfl)) (hw _ (List.mem_of_getElem? (i := 23) rfl)) (hw _ (List.mem_of_getElem? (i := 24) rfl)) (hw _ (List.mem_of_getElem? (i := 25) rfl)) (by decide) ((rmat l Z a0 hw xa bs _ (0 : Int32) (p4 &&& (255 : Int32)) h4 n0 (by omega) hG F7 F8 (by decide) (and255_rng _)).pay w6.hZ (hw _ (List.mem_of_getElem? (i := 25) rfl)) (hw _ (List.mem_of_getElem? (i := 24) rfl)) (by decide) (by decide)) rfl (by rw [hml]; rfl) [(.int (0 : Int32)), (.ref b4)] (lenOf pd_14 rfl) rfl (by show 2 * 0 + _ ≤ _; exact Nat.le_of_eq rfl) (hb hby at_70) (by decide) (by decide) (fun _ q => nomatch q) (fun rv => (mkF m 73 #[.val (.int p0), .val (.int p1), .val (.int p2), .val (.int p3), .val (.int p4), .val (.int la), .val (.int lb), .val (.ref xa), .val (.int (Int32.ofNat bs.length)), .val (.int (p4 &&& (255 : Int32))), .val (.ref b4), .unset, .unset, .unset, .unset, .unset] (rv.toList ++ [(.int (0 : Int32)), (.ref b4)]))) (fun _ => rfl)
  obtain ⟨rfl, rfl⟩ := Q9
  obtain ⟨h10, W10, z10, V10, w10⟩ := w9.stC hx V4 0 rfl (Nat.le_of_ble_eq_true rfl) ⟨by decide, by decide⟩ rfl rfl (hb hby at_73) (by omega) (mkF m 74 #[.val (.int p0), .val (.int p1), .val (.int p2), .val (.int p3), .val (.int p4), .val (.int la), .val (.int lb), .val (.ref xa), .val (.int (Int32.ofNat bs.length)), .val (.int (p4 &&& (255 : Int32))), .val (.ref b4), .unset, .unset, .unset, .unset, .unset] []) rfl
  rw [nar_rng (own_at_rng Sx.rng (and255_rng _))] at V10
  have U10 : Arv Z h10 b4 k4 .char (9 : Int32) [(.int (own_at bs (0 : Int32) (p4 &&& (255 : Int32)))), (.int (0 : Int32)), (.int (0 : Int32)), (.int (0 : Int32)), (.int (0 : Int32)), (.int (0 : Int32)), (.int (0 : Int32)), (.int (0 : Int32)), (.int (0 : Int32))] (.int (0 : Int32)) := V10
  have K11 : Keep h0 h10 [] := K5.wr W10 (Or.inr (by omega))
  have w12 := w10.pure (mkF m 82 #[.val (.int p0), .val (.int p1), .val (.int p2), .val (.int p3), .val (.int p4), .val (.int la), .val (.int lb), .val (.ref xa), .val (.int (Int32.ofNat bs.length)), .val (.int (p4 &&& (255 : Int32))), .val (.ref b4), .unset, .unset, .unset, .unset, .unset] [(.int (p4 &&& (255 : Int32))), (.int (1 : Int32)), (.ref xa), (.int (1 : Int32)), (.ref b4)]) (fun X eT hZ hown k => by
      show Steps _ _ _ (State.setTop _ (mkF m 74 #[.val (.int p0), .val (.int p1), .val (.int p2), .val (.int p3), .val (.int p4), .val (.int la), .val (.int lb), .val (.ref xa), .val (.int (Int32.ofNat bs.length)), .val (.int (p4 &&& (255 : Int32))), .val (.ref b4), .unset, .unset, .unset, .unset, .unset] [])) _
      refine S.aload X.here hx (hb hby at_74) rfl rfl ?_
      refine S.iconst X.here hx (1 : Int32) (hb hby at_76) rfl ?_
      refine S.aload X.here hx (hb hby at_77) rfl rfl ?_
      refine S.iconst X.here hx (1 : Int32) (hb hby at_79) rfl ?_
      refine S.iload X.here hx (hb hby at_80) rfl ?_
      exact k)
  have F13 := F7.wr W10 (by omega)
  have F14 := F8.wr W10 (by omega)
  obtain ⟨v15, h15, Q15, K15, z15, w15⟩ := w12.callS hx (y := (⟨"com/example/unified_lexicon/unifiedlexicon/core/KindOfWrittenPinLaw", "at", "(Ljava/lang/String;IC)C"⟩ : MethodName)) (W := 2) (hw _ (List.mem_of_getElem? (i := 22) rfl)) (hw _ (List.mem_of_getElem? (i := 23) rfl)) (hw _ (List.mem_of_getElem? (i := 24) rfl)) (hw _ (List.mem_of_getElem? (i := 25) rfl)) (by decide) ((rmat l Z a0 hw xa bs _ (1 : Int32) (p4 &&& (255 : Int32)) h10 n0 (by omega) hG F13 F14 (by decide) (and255_rng _)).pay w12.hZ (hw _ (List.mem_of_getElem? (i := 25) rfl)) (hw _ (List.mem_of_getElem? (i := 24) rfl)) (by decide) (by decide)) rfl (by rw [hml]; rfl) [(.int (1 : Int32)), (.ref b4)] (lenOf pd_14 rfl) rfl (by show 2 * 0 + _ ≤ _; exact Nat.le_of_eq rfl) (hb hby at_82) (by decide) (by decide) (fun _ q => nomatch q) (fun rv => (mkF m 85 #[.val (.int p0), .val (.int p1), .val (.int p2), .val (.int p3), .val (.int p4), .val (.int la), .val (.int lb), .val (.ref xa), .val (.int (Int32.ofNat bs.length)), .val (.int (p4 &&& (255 : Int32))), .val (.ref b4), .unset, .unset, .unset, .unset, .unset] (rv.toList ++ [(.int (1 : Int32)), (.ref b4)]))) (fun _ => rfl)
  obtain ⟨rfl, rfl⟩ := Q15
  obtain ⟨h16, W16, z16, V16, w16⟩ := w15.stC hx U10 1 rfl (Nat.le_of_ble_eq_true rfl) ⟨by decide, by decide⟩ rfl rfl (hb hby at_85) (by omega) (mkF m 86 #[.val (.int p0), .val (.int p1), .val (.int p2), .val (.int p3), .val (.int p4), .val (.int la), .val (.int lb), .val (.ref xa), .val (.int (Int32.ofNat bs.length)), .val (.int (p4 &&& (255 : Int32))), .val (.ref b4), .unset, .unset, .unset, .unset, .unset] []) rfl
  rw [nar_rng (own_at_rng Sx.rng (and255_rng _))] at V16
  have U16 : Arv Z h16 b4 k4 .char (9 : Int32) [(.int (own_at bs (0 : Int32) (p4 &&& (255 : Int32)))), (.int (own_at bs (1 : Int32) (p4 &&& (255 : Int32)))), (.int (0 : Int32)), (.int (0 : Int32)), (.int (0 : Int32)), (.int (0 : Int32)), (.int (0 : Int32)), (.int (0 : Int32)), (.int (0 : Int32))] (.int (0 : Int32)) := V16
  have K17 : Keep h0 h16 [] := K11.wr W16 (Or.inr (by omega))
  have w18 := w16.pure (mkF m 94 #[.val (.int p0), .val (.int p1), .val (.int p2), .val (.int p3), .val (.int p4), .val (.int la), .val (.int lb), .val (.ref xa), .val (.int (Int32.ofNat bs.length)), .val (.int (p4 &&& (255 : Int32))), .val (.ref b4), .unset, .unset, .unset, .unset, .unset] [(.int (p4 &&& (255 : Int32))), (.int (2 : Int32)), (.ref xa), (.int (2 : Int32)), (.ref b4)]) (fun X eT hZ hown k => by
      show Steps _ _ _ (State.setTop _ (mkF m 86 #[.val (.int p0), .val (.int p1), .val (.int p2), .val (.int p3), .val (.int p4), .val (.int la), .val (.int lb), .val (.ref xa), .val (.int (Int32.ofNat bs.length)), .val (.int (p4 &&& (255 : Int32))), .val (.ref b4), .unset, .unset, .unset, .unset, .unset] [])) _
      refine S.aload X.here hx (hb hby at_86) rfl rfl ?_
      refine S.iconst X.here hx (2 : Int32) (hb hby at_88) rfl ?_
      refine S.aload X.here hx (hb hby at_89) rfl rfl ?_
      refine S.iconst X.here hx (2 : Int32) (hb hby at_91) rfl ?_
      refine S.iload X.here hx (hb hby at_92) rfl ?_
      exact k)
  have F19 := F13.wr W16 (by omega)
  have F20 := F14.wr W16 (by omega)
  obtain ⟨v21, h21, Q21, K21, z21, w21⟩ := w18.callS hx (y := (⟨"com/example/unified_lexicon/unifiedlexicon/core/KindOfWrittenPinLaw", "at", "(Ljava/lang/String;IC)C"⟩ : MethodName)) (W := 2) (hw _ (List.mem_of_getElem? (i := 22) rfl)) (hw _ (List.mem_of_getElem? (i := 23) rfl)) (hw _ (List.mem_of_getElem? (i := 24) rfl)) (hw _ (List.mem_of_getElem? (i := 25) rfl)) (by decide) ((rmat l Z a0 hw xa bs _ (2 : Int32) (p4 &&& (255 : Int32)) h16 n0 (by omega) hG F19 F20 (by decide) (and255_rng _)).pay w18.hZ (hw _ (List.mem_of_getElem? (i := 25) rfl)) (hw _ (List.mem_of_getElem? (i := 24) rfl)) (by decide) (by decide)) rfl (by rw [hml]; rfl) [(.int (2 : Int32)), (.ref b4)] (lenOf pd_14 rfl) rfl (by show 2 * 0 + _ ≤ _; exact Nat.le_of_eq rfl) (hb hby at_94) (by decide) (by decide) (fun _ q => nomatch q) (fun rv => (mkF m 97 #[.val (.int p0), .val (.int p1), .val (.int p2), .val (.int p3), .val (.int p4), .val (.int la), .val (.int lb), .val (.ref xa), .val (.int (Int32.ofNat bs.length)), .val (.int (p4 &&& (255 : Int32))), .val (.ref b4), .unset, .unset, .unset, .unset, .unset] (rv.toList ++ [(.int (2 : Int32)), (.ref b4)]))) (fun _ => rfl)
  obtain ⟨rfl, rfl⟩ := Q21
  obtain ⟨h22, W22, z22, V22, w22⟩ := w21.stC hx U16 2 rfl (Nat.le_of_ble_eq_true rfl) ⟨by decide, by decide⟩ rfl rfl (hb hby at_97) (by omega) (mkF m 98 #[.val (.int p0), .val (.int p1), .val (.int p2), .val (.int p3), .val (.int p4), .val (.int la), .val (.int lb), .val (.ref xa), .val (.int (Int32.ofNat bs.length)), .val (.int (p4 &&& (255 : Int32))), .val (.ref b4), .unset, .unset, .unset, .unset, .unset] []) rfl
  rw [nar_rng (own_at_rng Sx.rng (and255_rng _))] at V22
  have U22 : Arv Z h22 b4 k4 .char (9 : Int32) [(.int (own_at bs (0 : Int32) (p4 &&& (255 : Int32)))), (.int (own_at bs (1 : Int32) (p4 &&& (255 : Int32)))), (.int (own_at bs (2 : Int32) (p4 &&& (255 : Int32)))), (.int (0 : Int32)), (.int (0 : Int32)), (.int (0 : Int32)), (.int (0 : Int32)), (.int (0 : Int32)), (.int (0 : Int32))] (.int (0 : Int32)) := V22
  have K23 : Keep h0 h22 [] := K17.wr W22 (Or.inr (by omega))
  have w24 := w22.pure (mkF m 106 #[.val (.int p0), .val (.int p1), .val (.int p2), .val (.int p3), .val (.int p4), .val (.int la), .val (.int lb), .val (.ref xa), .val (.int (Int32.ofNat bs.length)), .val (.int (p4 &&& (255 : Int32))), .val (.ref b4), .unset, .unset, .unset, .unset, .unset] [(.int (p4 &&& (255 : Int32))), (.int (3 : Int32)), (.ref xa), (.int (3 : Int32)), (.ref b4)]) (fun X eT hZ hown k => by
      show Steps _ _ _ (State.setTop _ (mkF m 98 #[.val (.int p0), .val (.int p1), .val (.int p2), .val (.int p3), .val (.int p4), .val (.int la), .val (.int lb), .val (.ref xa), .val (.int (Int32.ofNat bs.length)), .val (.int (p4 &&& (255 : Int32))), .val (.ref b4), .unset, .unset, .unset, .unset, .unset] [])) _
      refine S.aload X.here hx (hb hby at_98) rfl rfl ?_
      refine S.iconst X.here hx (3 : Int32) (hb hby at_100) rfl ?_
      refine S.aload X.here hx (hb hby at_101) rfl rfl ?_
      refine S.iconst X.here hx (3 : Int32) (hb hby at_103) rfl ?_
      refine S.iload X.here hx (hb hby at_104) rfl ?_
      exact k)
  have F25 := F19.wr W22 (by omega)
  have F26 := F20.wr W22 (by omega)
  obtain ⟨v27, h27, Q27, K27, z27, w27⟩ := w24.callS hx (y := (⟨"com/example/unified_lexicon/unifiedlexicon/core/KindOfWrittenPinLaw", "at", "(Ljava/lang/String;IC)C"⟩ : MethodName)) (W := 2) (hw _ (List.mem_of_getElem? (i := 22) rfl)) (hw _ (List.mem_of_getElem? (i := 23) rfl)) (hw _ (List.mem_of_getElem? (i := 24) rfl)) (hw _ (List.mem_of_getElem? (i := 25) rfl)) (by decide) ((rmat l Z a0 hw xa bs _ (3 : Int32) (p4 &&& (255 : Int32)) h22 n0 (by omega) hG F25 F26 (by decide) (and255_rng _)).pay w24.hZ (hw _ (List.mem_of_getElem? (i := 25) rfl)) (hw _ (List.mem_of_getElem? (i := 24) rfl)) (by decide) (by decide)) rfl (by rw [hml]; rfl) [(.int (3 : Int32)), (.ref b4)] (lenOf pd_14 rfl) rfl (by show 2 * 0 + _ ≤ _; exact Nat.le_of_eq rfl) (hb hby at_106) (by decide) (by decide) (fun _ q => nomatch q) (fun rv => (mkF m 109 #[.val (.int p0), .val (.int p1), .val (.int p2), .val (.int p3), .val (.int p4), .val (.int la), .val (.int lb), .val (.ref xa), .val (.int (Int32.ofNat bs.length)), .val (.int (p4 &&& (255 : Int32))), .val (.ref b4), .unset, .unset, .unset, .unset, .unset] (rv.toList ++ [(.int (3 : Int32)), (.ref b4)]))) (fun _ => rfl)
  obtain ⟨rfl, rfl⟩ := Q27
  obtain ⟨h28, W28, z28, V28, w28⟩ := w27.stC hx U22 3 rfl (Nat.le_of_ble_eq_true rfl) ⟨by decide, by decide⟩ rfl rfl (hb hby at_109) (by omega) (mkF m 110 #[.val (.int p0), .val (.int p1), .val (.int p2), .val (.int p3), .val (.int p4), .val (.int la), .val (.int lb), .val (.ref xa), .val (.int (Int32.ofNat bs.length)), .val (.int (p4 &&& (255 : Int32))), .val (.ref b4), .unset, .unset, .unset, .unset, .unset] []) rfl
  rw [nar_rng (own_at_rng Sx.rng (and255_rng _))] at V28
  have U28 : Arv Z h28 b4 k4 .char (9 : Int32) [(.int (own_at bs (0 : Int32) (p4 &&& (255 : Int32)))), (.int (own_at bs (1 : Int32) (p4 &&& (255 : Int32)))), (.int (own_at bs (2 : Int32) (p4 &&& (255 : Int32)))), (.int (own_at bs (3 : Int32) (p4 &&& (255 : Int32)))), (.int (0 : Int32)), (.int (0 : Int32)), (.int (0 : Int32)), (.int (0 : Int32)), (.int (0 : Int32))] (.int (0 : Int32)) := V28
  have K29 : Keep h0 h28 [] := K23.wr W28 (Or.inr (by omega))
  have w30 := w28.pure (mkF m 118 #[.val (.int p0), .val (.int p1), .val (.int p2), .val (.int p3), .val (.int p4), .val (.int la), .val (.int lb), .val (.ref xa), .val (.int (Int32.ofNat bs.length)), .val (.int (p4 &&& (255 : Int32))), .val (.ref b4), .unset, .unset, .unset, .unset, .unset] [(.int (p4 &&& (255 : Int32))), (.int (4 : Int32)), (.ref xa), (.int (4 : Int32)), (.ref b4)]) (fun X eT hZ hown k => by
      show Steps _ _ _ (State.setTop _ (mkF m 110 #[.val (.int p0), .val (.int p1), .val (.int p2), .val (.int p3), .val (.int p4), .val (.int la), .val (.int lb), .val (.ref xa), .val (.int (Int32.ofNat bs.length)), .val (.int (p4 &&& (255 : Int32))), .val (.ref b4), .unset, .unset, .unset, .unset, .unset] [])) _
      refine S.aload X.here hx (hb hby at_110) rfl rfl ?_
      refine S.iconst X.here hx (4 : Int32) (hb hby at_112) rfl ?_
      refine S.aload X.here hx (hb hby at_113) rfl rfl ?_
      refine S.iconst X.here hx (4 : Int32) (hb hby at_115) rfl ?_
      refine S.iload X.here hx (hb hby at_116) rfl ?_
      exact k)
  have F31 := F25.wr W28 (by omega)
  have F32 := F26.wr W28 (by omega)
  obtain ⟨v33, h33, Q33, K33, z33, w33⟩ := w30.callS hx (y := (⟨"com/example/unified_lexicon/unifiedlexicon/core/KindOfWrittenPinLaw", "at", "(Ljava/lang/String;IC)C"⟩ : MethodName)) (W := 2) (hw _ (List.mem_of_getElem? (i := 22) rfl)) (hw _ (List.mem_of_getElem? (i := 23) rfl)) (hw _ (List.mem_of_getElem? (i := 24) rfl)) (hw _ (List.mem_of_getElem? (i := 25) rfl)) (by decide) ((rmat l Z a0 hw xa bs _ (4 : Int32) (p4 &&& (255 : Int32)) h28 n0 (by omega) hG F31 F32 (by decide) (and255_rng _)).pay w30.hZ (hw _ (List.mem_of_getElem? (i := 25) rfl)) (hw _ (List.mem_of_getElem? (i := 24) rfl)) (by decide) (by decide)) rfl (by rw [hml]; rfl) [(.int (4 : Int32)), (.ref b4)] (lenOf pd_14 rfl) rfl (by show 2 * 0 + _ ≤ _; exact Nat.le_of_eq rfl) (hb hby at_118) (by decide) (by decide) (fun _ q => nomatch q) (fun rv => (mkF m 121 #[.val (.int p0), .val (.int p1), .val (.int p2), .val (.int p3), .val (.int p4), .val (.int la), .val (.int lb), .val (.ref xa), .val (.int (Int32.ofNat bs.length)), .val (.int (p4 &&& (255 : Int32))), .val (.ref b4), .unset, .unset, .unset, .unset, .unset] (rv.toList ++ [(.int (4 : Int32)), (.ref b4)]))) (fun _ => rfl)
  obtain ⟨rfl, rfl⟩ := Q33
  obtain ⟨h34, W34, z34, V34, w34⟩ := w33.stC hx U28 4 rfl (Nat.le_of_ble_eq_true rfl) ⟨by decide, by decide⟩ rfl rfl (hb hby at_121) (by omega) (mkF m 122 #[.val (.int p0), .val (.int p1), .val (.int p2), .val (.int p3), .val (.int p4), .val (.int la), .val (.int lb), .val (.ref xa), .val (.int (Int32.ofNat bs.length)), .val (.int (p4 &&& (255 : Int32))), .val (.ref b4), .unset, .unset, .unset, .unset, .unset] []) rfl
  rw [nar_rng (own_at_rng Sx.rng (and255_rng _))] at V34
  have U34 : Arv Z h34 b4 k4 .char (9 : Int32) [(.int (own_at bs (0 : Int32) (p4 &&& (255 : Int32)))), (.int (own_at bs (1 : Int32) (p4 &&& (255 : Int32)))), (.int (own_at bs (2 : Int32) (p4 &&& (255 : Int32)))), (.int (own_at bs (3 : Int32) (p4 &&& (255 : Int32)))), (.int (own_at bs (4 : Int32) (p4 &&& (255 : Int32)))), (.int (0 : Int32)), (.int (0 : Int32)), (.int (0 : Int32)), (.int (0 : Int32))] (.int (0 : Int32)) := V34
  have K35 : Keep h0 h34 [] := K29.wr W34 (Or.inr (by omega))
  have w36 := w34.pure (mkF m 130 #[.val (.int p0), .val (.int p1), .val (.int p2), .val (.int p3), .val (.int p4), .val (.int la), .val (.int lb), .val (.ref xa), .val (.int (Int32.ofNat bs.length)), .val (.int (p4 &&& (255 : Int32))), .val (.ref b4), .unset, .unset, .unset, .unset, .unset] [(.int (p4 &&& (255 : Int32))), (.int (5 : Int32)), (.ref xa), (.int (5 : Int32)), (.ref b4)]) (fun X eT hZ hown k => by
      show Steps _ _ _ (State.setTop _ (mkF m 122 #[.val (.int p0), .val (.int p1), .val (.int p2), .val (.int p3), .val (.int p4), .val (.int la), .val (.int lb), .val (.ref xa), .val (.int (Int32.ofNat bs.length)), .val (.int (p4 &&& (255 : Int32))), .val (.ref b4), .unset, .unset, .unset, .unset, .unset] [])) _
      refine S.aload X.here hx (hb hby at_122) rfl rfl ?_
      refine S.iconst X.here hx (5 : Int32) (hb hby at_124) rfl ?_
      refine S.aload X.here hx (hb hby at_125) rfl rfl ?_
      refine S.iconst X.here hx (5 : Int32) (hb hby at_127) rfl ?_
      refine S.iload X.here hx (hb hby at_128) rfl ?_
      exact k)
  have F37 := F31.wr W34 (by omega)
  have F38 := F32.wr W34 (by omega)
  obtain ⟨v39, h39, Q39, K39, z39, w39⟩ := w36.callS hx (y := (⟨"com/example/unified_lexicon/unifiedlexicon/core/KindOfWrittenPinLaw", "at", "(Ljava/lang/String;IC)C"⟩ : MethodName)) (W := 2) (hw _ (List.mem_of_getElem? (i := 22) rfl)) (hw _ (List.mem_of_getElem? (i := 23) rfl)) (hw _ (List.mem_of_getElem? (i := 24) rfl)) (hw _ (List.mem_of_getElem? (i := 25) rfl)) (by decide) ((rmat l Z a0 hw xa bs _ (5 : Int32) (p4 &&& (255 : Int32)) h34 n0 (by omega) hG F37 F38 (by decide) (and255_rng _)).pay w36.hZ (hw _ (List.mem_of_getElem? (i := 25) rfl)) (hw _ (List.mem_of_getElem? (i := 24) rfl)) (by decide) (by decide)) rfl (by rw [hml]; rfl) [(.int (5 : Int32)), (.ref b4)] (lenOf pd_14 rfl) rfl (by show 2 * 0 + _ ≤ _; exact Nat.le_of_eq rfl) (hb hby at_130) (by decide) (by decide) (fun _ q => nomatch q) (fun rv => (mkF m 133 #[.val (.int p0), .val (.int p1), .val (.int p2), .val (.int p3), .val (.int p4), .val (.int la), .val (.int lb), .val (.ref xa), .val (.int (Int32.ofNat bs.length)), .val (.int (p4 &&& (255 : Int32))), .val (.ref b4), .unset, .unset, .unset, .unset, .unset] (rv.toList ++ [(.int (5 : Int32)), (.ref b4)]))) (fun _ => rfl)
  obtain ⟨rfl, rfl⟩ := Q39
  obtain ⟨h40, W40, z40, V40, w40⟩ := w39.stC hx U34 5 rfl (Nat.le_of_ble_eq_true rfl) ⟨by decide, by decide⟩ rfl rfl (hb hby at_133) (by omega) (mkF m 134 #[.val (.int p0), .val (.int p1), .val (.int p2), .val (.int p3), .val (.int p4), .val (.int la), .val (.int lb), .val (.ref xa), .val (.int (Int32.ofNat bs.length)), .val (.int (p4 &&& (255 : Int32))), .val (.ref b4), .unset, .unset, .unset, .unset, .unset] []) rfl
  rw [nar_rng (own_at_rng Sx.rng (and255_rng _))] at V40
  have U40 : Arv Z h40 b4 k4 .char (9 : Int32) [(.int (own_at bs (0 : Int32) (p4 &&& (255 : Int32)))), (.int (own_at bs (1 : Int32) (p4 &&& (255 : Int32)))), (.int (own_at bs (2 : Int32) (p4 &&& (255 : Int32)))), (.int (own_at bs (3 : Int32) (p4 &&& (255 : Int32)))), (.int (own_at bs (4 : Int32) (p4 &&& (255 : Int32)))), (.int (own_at bs (5 : Int32) (p4 &&& (255 : Int32)))), (.int (0 : Int32)), (.int (0 : Int32)), (.int (0 : Int32))] (.int (0 : Int32)) := V40
  have K41 : Keep h0 h40 [] := K35.wr W40 (Or.inr (by omega))
  have w42 := w40.pure (mkF m 144 #[.val (.int p0), .val (.int p1), .val (.int p2), .val (.int p3), .val (.int p4), .val (.int la), .val (.int lb), .val (.ref xa), .val (.int (Int32.ofNat bs.length)), .val (.int (p4 &&& (255 : Int32))), .val (.ref b4), .unset, .unset, .unset, .unset, .unset] [(.int (p4 &&& (255 : Int32))), (.int (6 : Int32)), (.ref xa), (.int (6 : Int32)), (.ref b4)]) (fun X eT hZ hown k => by
      show Steps _ _ _ (State.setTop _ (mkF m 134 #[.val (.int p0), .val (.int p1), .val (.int p2), .val (.int p3), .val (.int p4), .val (.int la), .val (.int lb), .val (.ref xa), .val (.int (Int32.ofNat bs.length)), .val (.int (p4 &&& (255 : Int32))), .val (.ref b4), .unset, .unset, .unset, .unset, .unset] [])) _
      refine S.aload X.here hx (hb hby at_134) rfl rfl ?_
      refine S.bipush X.here hx (6 : Int32) (hb hby at_136) rfl ?_
      refine S.aload X.here hx (hb hby at_138) rfl rfl ?_
      refine S.bipush X.here hx (6 : Int32) (hb hby at_140) rfl ?_
      refine S.iload X.here hx (hb hby at_142) rfl ?_
      exact k)
  have F43 := F37.wr W40 (by omega)
  have F44 := F38.wr W40 (by omega)
  obtain ⟨v45, h45, Q45, K45, z45, w45⟩ := w42.callS hx (y := (⟨"com/example/unified_lexicon/unifiedlexicon/core/KindOfWrittenPinLaw", "at", "(Ljava/lang/String;IC)C"⟩ : MethodName)) (W := 2) (hw _ (List.mem_of_getElem? (i := 22) rfl)) (hw _ (List.mem_of_getElem? (i := 23) rfl)) (hw _ (List.mem_of_getElem? (i := 24) rfl)) (hw _ (List.mem_of_getElem? (i := 25) rfl)) (by decide) ((rmat l Z a0 hw xa bs _ (6 : Int32) (p4 &&& (255 : Int32)) h40 n0 (by omega) hG F43 F44 (by decide) (and255_rng _)).pay w42.hZ (hw _ (List.mem_of_getElem? (i := 25) rfl)) (hw _ (List.mem_of_getElem? (i := 24) rfl)) (by decide) (by decide)) rfl (by rw [hml]; rfl) [(.int (6 : Int32)), (.ref b4)] (lenOf pd_14 rfl) rfl (by show 2 * 0 + _ ≤ _; exact Nat.le_of_eq rfl) (hb hby at_144) (by decide) (by decide) (fun _ q => nomatch q) (fun rv => (mkF m 147 #[.val (.int p0), .val (.int p1), .val (.int p2), .val (.int p3), .val (.int p4), .val (.int la), .val (.int lb), .val (.ref xa), .val (.int (Int32.ofNat bs.length)), .val (.int (p4 &&& (255 : Int32))), .val (.ref b4), .unset, .unset, .unset, .unset, .unset] (rv.toList ++ [(.int (6 : Int32)), (.ref b4)]))) (fun _ => rfl)
  obtain ⟨rfl, rfl⟩ := Q45
  obtain ⟨h46, W46, z46, V46, w46⟩ := w45.stC hx U40 6 rfl (Nat.le_of_ble_eq_true rfl) ⟨by decide, by decide⟩ rfl rfl (hb hby at_147) (by omega) (mkF m 148 #[.val (.int p0), .val (.int p1), .val (.int p2), .val (.int p3), .val (.int p4), .val (.int la), .val (.int lb), .val (.ref xa), .val (.int (Int32.ofNat bs.length)), .val (.int (p4 &&& (255 : Int32))), .val (.ref b4), .unset, .unset, .unset, .unset, .unset] []) rfl
  rw [nar_rng (own_at_rng Sx.rng (and255_rng _))] at V46
  have U46 : Arv Z h46 b4 k4 .char (9 : Int32) [(.int (own_at bs (0 : Int32) (p4 &&& (255 : Int32)))), (.int (own_at bs (1 : Int32) (p4 &&& (255 : Int32)))), (.int (own_at bs (2 : Int32) (p4 &&& (255 : Int32)))), (.int (own_at bs (3 : Int32) (p4 &&& (255 : Int32)))), (.int (own_at bs (4 : Int32) (p4 &&& (255 : Int32)))), (.int (own_at bs (5 : Int32) (p4 &&& (255 : Int32)))), (.int (own_at bs (6 : Int32) (p4 &&& (255 : Int32)))), (.int (0 : Int32)), (.int (0 : Int32))] (.int (0 : Int32)) := V46
  have K47 : Keep h0 h46 [] := K41.wr W46 (Or.inr (by omega))
  have w48 := w46.pure (mkF m 158 #[.val (.int p0), .val (.int p1), .val (.int p2), .val (.int p3), .val (.int p4), .val (.int la), .val (.int lb), .val (.ref xa), .val (.int (Int32.ofNat bs.length)), .val (.int (p4 &&& (255 : Int32))), .val (.ref b4), .unset, .unset, .unset, .unset, .unset] [(.int (p4 &&& (255 : Int32))), (.int (7 : Int32)), (.ref xa), (.int (7 : Int32)), (.ref b4)]) (fun X eT hZ hown k => by
      show Steps _ _ _ (State.setTop _ (mkF m 148 #[.val (.int p0), .val (.int p1), .val (.int p2), .val (.int p3), .val (.int p4), .val (.int la), .val (.int lb), .val (.ref xa), .val (.int (Int32.ofNat bs.length)), .val (.int (p4 &&& (255 : Int32))), .val (.ref b4), .unset, .unset, .unset, .unset, .unset] [])) _
      refine S.aload X.here hx (hb hby at_148) rfl rfl ?_
      refine S.bipush X.here hx (7 : Int32) (hb hby at_150) rfl ?_
      refine S.aload X.here hx (hb hby at_152) rfl rfl ?_
      refine S.bipush X.here hx (7 : Int32) (hb hby at_154) rfl ?_
      refine S.iload X.here hx (hb hby at_156) rfl ?_
      exact k)
  have F49 := F43.wr W46 (by omega)
  have F50 := F44.wr W46 (by omega)
  obtain ⟨v51, h51, Q51, K51, z51, w51⟩ := w48.callS hx (y := (⟨"com/example/unified_lexicon/unifiedlexicon/core/KindOfWrittenPinLaw", "at", "(Ljava/lang/String;IC)C"⟩ : MethodName)) (W := 2) (hw _ (List.mem_of_getElem? (i := 22) rfl)) (hw _ (List.mem_of_getElem? (i := 23) rfl)) (hw _ (List.mem_of_getElem? (i := 24) rfl)) (hw _ (List.mem_of_getElem? (i := 25) rfl)) (by decide) ((rmat l Z a0 hw xa bs _ (7 : Int32) (p4 &&& (255 : Int32)) h46 n0 (by omega) hG F49 F50 (by decide) (and255_rng _)).pay w48.hZ (hw _ (List.mem_of_getElem? (i := 25) rfl)) (hw _ (List.mem_of_getElem? (i := 24) rfl)) (by decide) (by decide)) rfl (by rw [hml]; rfl) [(.int (7 : Int32)), (.ref b4)] (lenOf pd_14 rfl) rfl (by show 2 * 0 + _ ≤ _; exact Nat.le_of_eq rfl) (hb hby at_158) (by decide) (by decide) (fun _ q => nomatch q) (fun rv => (mkF m 161 #[.val (.int p0), .val (.int p1), .val (.int p2), .val (.int p3), .val (.int p4), .val (.int la), .val (.int lb), .val (.ref xa), .val (.int (Int32.ofNat bs.length)), .val (.int (p4 &&& (255 : Int32))), .val (.ref b4), .unset, .unset, .unset, .unset, .unset] (rv.toList ++ [(.int (7 : Int32)), (.ref b4)]))) (fun _ => rfl)
  obtain ⟨rfl, rfl⟩ := Q51
  obtain ⟨h52, W52, z52, V52, w52⟩ := w51.stC hx U46 7 rfl (Nat.le_of_ble_eq_true rfl) ⟨by decide, by decide⟩ rfl rfl (hb hby at_161) (by omega) (mkF m 162 #[.val (.int p0), .val (.int p1), .val (.int p2), .val (.int p3), .val (.int p4), .val (.int la), .val (.int lb), .val (.ref xa), .val (.int (Int32.ofNat bs.length)), .val (.int (p4 &&& (255 : Int32))), .val (.ref b4), .unset, .unset, .unset, .unset, .unset] []) rfl
  rw [nar_rng (own_at_rng Sx.rng (and255_rng _))] at V52
  have U52 : Arv Z h52 b4 k4 .char (9 : Int32) [(.int (own_at bs (0 : Int32) (p4 &&& (255 : Int32)))), (.int (own_at bs (1 : Int32) (p4 &&& (255 : Int32)))), (.int (own_at bs (2 : Int32) (p4 &&& (255 : Int32)))), (.int (own_at bs (3 : Int32) (p4 &&& (255 : Int32)))), (.int (own_at bs (4 : Int32) (p4 &&& (255 : Int32)))), (.int (own_at bs (5 : Int32) (p4 &&& (255 : Int32)))), (.int (own_at bs (6 : Int32) (p4 &&& (255 : Int32)))), (.int (own_at bs (7 : Int32) (p4 &&& (255 : Int32)))), (.int (0 : Int32))] (.int (0 : Int32)) := V52
  have K53 : Keep h0 h52 [] := K47.wr W52 (Or.inr (by omega))
  have w54 := w52.pure (mkF m 172 #[.val (.int p0), .val (.int p1), .val (.int p2), .val (.int p3), .val (.int p4), .val (.int la), .val (.int lb), .val (.ref xa), .val (.int (Int32.ofNat bs.length)), .val (.int (p4 &&& (255 : Int32))), .val (.ref b4), .unset, .unset, .unset, .unset, .unset] [(.int (p4 &&& (255 : Int32))), (.int (8 : Int32)), (.ref xa), (.int (8 : Int32)), (.ref b4)]) (fun X eT hZ hown k => by
      show Steps _ _ _ (State.setTop _ (mkF m 162 #[.val (.int p0), .val (.int p1), .val (.int p2), .val (.int p3), .val (.int p4), .val (.int la), .val (.int lb), .val (.ref xa), .val (.int (Int32.ofNat bs.length)), .val (.int (p4 &&& (255 : Int32))), .val (.ref b4), .unset, .unset, .unset, .unset, .unset] [])) _
      refine S.aload X.here hx (hb hby at_162) rfl rfl ?_
      refine S.bipush X.here hx (8 : Int32) (hb hby at_164) rfl ?_
      refine S.aload X.here hx (hb hby at_166) rfl rfl ?_
      refine S.bipush X.here hx (8 : Int32) (hb hby at_168) rfl ?_
      refine S.iload X.here hx (hb hby at_170) rfl ?_
      exact k)
  have F55 := F49.wr W52 (by omega)
  have F56 := F50.wr W52 (by omega)
  obtain ⟨v57, h57, Q57, K57, z57, w57⟩ := w54.callS hx (y := (⟨"com/example/unified_lexicon/unifiedlexicon/core/KindOfWrittenPinLaw", "at", "(Ljava/lang/String;IC)C"⟩ : MethodName)) (W := 2) (hw _ (List.mem_of_getElem? (i := 22) rfl)) (hw _ (List.mem_of_getElem? (i := 23) rfl)) (hw _ (List.mem_of_getElem? (i := 24) rfl)) (hw _ (List.mem_of_getElem? (i := 25) rfl)) (by decide) ((rmat l Z a0 hw xa bs _ (8 : Int32) (p4 &&& (255 : Int32)) h52 n0 (by omega) hG F55 F56 (by decide) (and255_rng _)).pay w54.hZ (hw _ (List.mem_of_getElem? (i := 25) rfl)) (hw _ (List.mem_of_getElem? (i := 24) rfl)) (by decide) (by decide)) rfl (by rw [hml]; rfl) [(.int (8 : Int32)), (.ref b4)] (lenOf pd_14 rfl) rfl (by show 2 * 0 + _ ≤ _; exact Nat.le_of_eq rfl) (hb hby at_172) (by decide) (by decide) (fun _ q => nomatch q) (fun rv => (mkF m 175 #[.val (.int p0), .val (.int p1), .val (.int p2), .val (.int p3), .val (.int p4), .val (.int la), .val (.int lb), .val (.ref xa), .val (.int (Int32.ofNat bs.length)), .val (.int (p4 &&& (255 : Int32))), .val (.ref b4), .unset, .unset, .unset, .unset, .unset] (rv.toList ++ [(.int (8 : Int32)), (.ref b4)]))) (fun _ => rfl)
  obtain ⟨rfl, rfl⟩ := Q57
  obtain ⟨h58, W58, z58, V58, w58⟩ := w57.stC hx U52 8 rfl (Nat.le_of_ble_eq_true rfl) ⟨by decide, by decide⟩ rfl rfl (hb hby at_175) (by omega) (mkF m 176 #[.val (.int p0), .val (.int p1), .val (.int p2), .val (.int p3), .val (.int p4), .val (.int la), .val (.int lb), .val (.ref xa), .val (.int (Int32.ofNat bs.length)), .val (.int (p4 &&& (255 : Int32))), .val (.ref b4), .unset, .unset, .unset, .unset, .unset] []) rfl
  rw [nar_rng (own_at_rng Sx.rng (and255_rng _))] at V58
  have U58 : Arv Z h58 b4 k4 .char (9 : Int32) [(.int (own_at bs (0 : Int32) (p4 &&& (255 : Int32)))), (.int (own_at bs (1 : Int32) (p4 &&& (255 : Int32)))), (.int (own_at bs (2 : Int32) (p4 &&& (255 : Int32)))), (.int (own_at bs (3 : Int32) (p4 &&& (255 : Int32)))), (.int (own_at bs (4 : Int32) (p4 &&& (255 : Int32)))), (.int (own_at bs (5 : Int32) (p4 &&& (255 : Int32)))), (.int (own_at bs (6 : Int32) (p4 &&& (255 : Int32)))), (.int (own_at bs (7 : Int32) (p4 &&& (255 : Int32)))), (.int (own_at bs (8 : Int32) (p4 &&& (255 : Int32))))] (.int (0 : Int32)) := V58
  have K59 : Keep h0 h58 [] := K53.wr W58 (Or.inr (by omega))
  have w60 := w58.pure (mkF m 178 #[.val (.int p0), .val (.int p1), .val (.int p2), .val (.int p3), .val (.int p4), .val (.int la), .val (.int lb), .val (.ref xa), .val (.int (Int32.ofNat bs.length)), .val (.int (p4 &&& (255 : Int32))), .val (.ref b4), .unset, .unset, .unset, .unset, .unset] [(.int lb)]) (fun X eT hZ hown k => by
      show Steps _ _ _ (State.setTop _ (mkF m 176 #[.val (.int p0), .val (.int p1), .val (.int p2), .val (.int p3), .val (.int p4), .val (.int la), .val (.int lb), .val (.ref xa), .val (.int (Int32.ofNat bs.length)), .val (.int (p4 &&& (255 : Int32))), .val (.ref b4), .unset, .unset, .unset, .unset, .unset] [])) _
      refine S.iload X.here hx (hb hby at_176) rfl ?_
      exact k)
  by_cases hc61 : lb = (0 : Int32)
  · have w62 := w60.pure (mkF m 197 #[.val (.int p0), .val (.int p1), .val (.int p2), .val (.int p3), .val (.int p4), .val (.int la), .val (.int lb), .val (.ref xa), .val (.int (Int32.ofNat bs.length)), .val (.int (p4 &&& (255 : Int32))), .val (.ref b4), .unset, .unset, .unset, .unset, .unset] []) (fun X eT hZ hown k => by
        show Steps _ _ _ (State.setTop _ (mkF m 178 #[.val (.int p0), .val (.int p1), .val (.int p2), .val (.int p3), .val (.int p4), .val (.int la), .val (.int lb), .val (.ref xa), .val (.int (Int32.ofNat bs.length)), .val (.int (p4 &&& (255 : Int32))), .val (.ref b4), .unset, .unset, .unset, .unset, .unset] [(.int lb)])) _
        refine S.ifYes X.here hx 197 (hb hby at_178) ((if0 _ _).trans (teq hc61).1) (by decide) (by decide) ?_
        exact k)
    have F63 := F55.wr W58 (by omega)
    have F64 := VV.ext E4
    have F65 := F64.other W10 (nne (by omega))
    have F66 := F65.other W16 (nne (by omega))
    have F67 := F66.other W22 (nne (by omega))
    have F68 := F67.other W28 (nne (by omega))
    have F69 := F68.other W34 (nne (by omega))
    have F70 := F69.other W40 (nne (by omega))
    have F71 := F70.other W46 (nne (by omega))
    have F72 := F71.other W52 (nne (by omega))
    have F73 := F72.other W58 (nne (by omega))
    have F74 := EV.ext E4
    have F75 := F74.wr W10
    have F76 := F75.wr W16
    have F77 := F76.wr W22
    have F78 := F77.wr W28
    have F79 := F78.wr W34
    have F80 := F79.wr W40
    have F81 := F80.wr W46
    have F82 := F81.wr W52
    have F83 := F82.wr W58
    have F84 := FWc.ext E4
    have F85 := F84.other W10 (Or.inl (nne (by omega)))
    have F86 := F85.other W16 (Or.inl (nne (by omega)))
    have F87 := F86.other W22 (Or.inl (nne (by omega)))
    have F88 := F87.other W28 (Or.inl (nne (by omega)))
    have F89 := F88.other W34 (Or.inl (nne (by omega)))
    have F90 := F89.other W40 (Or.inl (nne (by omega)))
    have F91 := F90.other W46 (Or.inl (nne (by omega)))
    have F92 := F91.other W52 (Or.inl (nne (by omega)))
    have F93 := F92.other W58 (Or.inl (nne (by omega)))
    have F94 := SWc.ext E4
    have F95 := F94.wr W10 (by omega)
    have F96 := F95.wr W16 (by omega)
    have F97 := F96.wr W22 (by omega)
    have F98 := F97.wr W28 (by omega)
    have F99 := F98.wr W34 (by omega)
    have F100 := F99.wr W40 (by omega)
    have F101 := F100.wr W46 (by omega)
    have F102 := F101.wr W52 (by omega)
    have F103 := F102.wr W58 (by omega)
    have F104 := FWp.ext E4
    have F105 := F104.other W10 (Or.inl (nne (by omega)))
    have F106 := F105.other W16 (Or.inl (nne (by omega)))
    have F107 := F106.other W22 (Or.inl (nne (by omega)))
    have F108 := F107.other W28 (Or.inl (nne (by omega)))
    have F109 := F108.other W34 (Or.inl (nne (by omega)))
    have F110 := F109.other W40 (Or.inl (nne (by omega)))
    have F111 := F110.other W46 (Or.inl (nne (by omega)))
    have F112 := F111.other W52 (Or.inl (nne (by omega)))
    have F113 := F112.other W58 (Or.inl (nne (by omega)))
    have F114 := SWp.ext E4
    have F115 := F114.wr W10 (by omega)
    have F116 := F115.wr W16 (by omega)
    have F117 := F116.wr W22 (by omega)
    have F118 := F117.wr W28 (by omega)
    have F119 := F118.wr W34 (by omega)
    have F120 := F119.wr W40 (by omega)
    have F121 := F120.wr W46 (by omega)
    have F122 := F121.wr W52 (by omega)
    have F123 := F122.wr W58 (by omega)
    have F124 := EE.ext E4
    have F125 := F124.wr W10
    have F126 := F125.wr W16
    have F127 := F126.wr W22
    have F128 := F127.wr W28
    have F129 := F128.wr W34
    have F130 := F129.wr W40
    have F131 := F130.wr W46
    have F132 := F131.wr W52
    have F133 := F132.wr W58
    have F134 := FE.ext E4
    have F135 := F134.other W10 (Or.inl (nne (by omega)))
    have F136 := F135.other W16 (Or.inl (nne (by omega)))
    have F137 := F136.other W22 (Or.inl (nne (by omega)))
    have F138 := F137.other W28 (Or.inl (nne (by omega)))
    have F139 := F138.other W34 (Or.inl (nne (by omega)))
    have F140 := F139.other W40 (Or.inl (nne (by omega)))
    have F141 := F140.other W46 (Or.inl (nne (by omega)))
    have F142 := F141.other W52 (Or.inl (nne (by omega)))
    have F143 := F142.other W58 (Or.inl (nne (by omega)))
    exact ptB l Z a0 hw hE Bd hml p0 p1 p2 p3 p4 la lb (Int32.ofNat bs.length) (p4 &&& (255 : Int32)) xa b4 k4 [(own_at bs (0 : Int32) (p4 &&& (255 : Int32))), (own_at bs (1 : Int32) (p4 &&& (255 : Int32))), (own_at bs (2 : Int32) (p4 &&& (255 : Int32))), (own_at bs (3 : Int32) (p4 &&& (255 : Int32))), (own_at bs (4 : Int32) (p4 &&& (255 : Int32))), (own_at bs (5 : Int32) (p4 &&& (255 : Int32))), (own_at bs (6 : Int32) (p4 &&& (255 : Int32))), (own_at bs (7 : Int32) (p4 &&& (255 : Int32))), (own_at bs (8 : Int32) (p4 &&& (255 : Int32)))] av oc op xc xp oe kv h0 n0 Z0 (w62.more (k := 8) (n := 60) (by decide) (by decide)) K59 (by omega) hG F63 SC SP SV F73 F83 SE F93 F103 F113 F123 F133 F143 (by omega) U58 rfl (own_rng9 (own_at_rng Sx.rng (and255_rng _)) (own_at_rng Sx.rng (and255_rng _)) (own_at_rng Sx.rng (and255_rng _)) (own_at_rng Sx.rng (and255_rng _)) (own_at_rng Sx.rng (and255_rng _)) (own_at_rng Sx.rng (and255_rng _)) (own_at_rng Sx.rng (and255_rng _)) (own_at_rng Sx.rng (and255_rng _)) (own_at_rng Sx.rng (and255_rng _)))
  · have w144 := w60.pure (mkF m 196 #[.val (.int p0), .val (.int p1), .val (.int p2), .val (.int p3), .val (.int p4), .val (.int la), .val (.int lb), .val (.ref xa), .val (.int (Int32.ofNat bs.length)), .val (.int (p4 &&& (255 : Int32))), .val (.ref b4), .unset, .unset, .unset, .unset, .unset] [(.int (p2 &&& (255 : Int32))), (.int ((p1 &&& (2147483647 : Int32)) % (9 : Int32))), (.ref b4)]) (fun X eT hZ hown k => by
        show Steps _ _ _ (State.setTop _ (mkF m 178 #[.val (.int p0), .val (.int p1), .val (.int p2), .val (.int p3), .val (.int p4), .val (.int la), .val (.int lb), .val (.ref xa), .val (.int (Int32.ofNat bs.length)), .val (.int (p4 &&& (255 : Int32))), .val (.ref b4), .unset, .unset, .unset, .unset, .unset] [(.int lb)])) _
        refine S.ifNo X.here hx (hb hby at_178) ((if0 _ _).trans (feq hc61).1) ?_
        refine S.aload X.here hx (hb hby at_181) rfl rfl ?_
        refine S.iloadN X.here hx (hb hby at_183) rfl ?_
        refine X.ldcI hx hown (mvT hZ (hw _ (List.mem_of_getElem? (i := 118) rfl))) rfl (hb hby at_184) ?_
        show Steps _ _ _ (State.setTop _ (mkF m 186 #[.val (.int p0), .val (.int p1), .val (.int p2), .val (.int p3), .val (.int p4), .val (.int la), .val (.int lb), .val (.ref xa), .val (.int (Int32.ofNat bs.length)), .val (.int (p4 &&& (255 : Int32))), .val (.ref b4), .unset, .unset, .unset, .unset, .unset] [(.int (2147483647 : Int32)), (.int p1), (.ref b4)])) _
        refine S.iand X.here hx (hb hby at_186) ?_
        refine S.bipush X.here hx (9 : Int32) (hb hby at_187) rfl ?_
        refine iremM X hx rfl (hb hby at_189) rfl (by decide) ?_
        show Steps _ _ _ (State.setTop _ (mkF m 190 #[.val (.int p0), .val (.int p1), .val (.int p2), .val (.int p3), .val (.int p4), .val (.int la), .val (.int lb), .val (.ref xa), .val (.int (Int32.ofNat bs.length)), .val (.int (p4 &&& (255 : Int32))), .val (.ref b4), .unset, .unset, .unset, .unset, .unset] [(.int ((p1 &&& (2147483647 : Int32)) % (9 : Int32))), (.ref b4)])) _
        refine S.iloadN X.here hx (hb hby at_190) rfl ?_
        refine S.sipush X.here hx (255 : Int32) (hb hby at_191) rfl ?_
        refine S.iand X.here hx (hb hby at_194) ?_
        refine S.i2cM X.here hx (hb hby at_195) ?_
        exact k)
    obtain ⟨h145, W145, z145, V145, w145⟩ := w144.stC hx U58 ((p1 &&& (2147483647 : Int32)) % (9 : Int32)).toNatClampNeg rfl (own_idx (n := 9) (own_m9 p1).1 (own_m9 p1).2 (by decide)).1 (own_m9 p1) rfl rfl (hb hby at_196) (by omega) (mkF m 197 #[.val (.int p0), .val (.int p1), .val (.int p2), .val (.int p3), .val (.int p4), .val (.int la), .val (.int lb), .val (.ref xa), .val (.int (Int32.ofNat bs.length)), .val (.int (p4 &&& (255 : Int32))), .val (.ref b4), .unset, .unset, .unset, .unset, .unset] []) rfl
    rw [nar_255] at V145
    have K146 : Keep h0 h145 [] := K59.wr W145 (Or.inr (by omega))
    have F147 := F55.wr W58 (by omega)
    have F148 := F147.wr W145 (by omega)
    have F149 := VV.ext E4
    have F150 := F149.other W10 (nne (by omega))
    have F151 := F150.other W16 (nne (by omega))
    have F152 := F151.other W22 (nne (by omega))
    have F153 := F152.other W28 (nne (by omega))
    have F154 := F153.other W34 (nne (by omega))
    have F155 := F154.other W40 (nne (by omega))
    have F156 := F155.other W46 (nne (by omega))
    have F157 := F156.other W52 (nne (by omega))
    have F158 := F157.other W58 (nne (by omega))
    have F159 := F158.other W145 (nne (by omega))
    have F160 := EV.ext E4
    have F161 := F160.wr W10
    have F162 := F161.wr W16
    have F163 := F162.wr W22
    have F164 := F163.wr W28
    have F165 := F164.wr W34
    have F166 := F165.wr W40
    have F167 := F166.wr W46
    have F168 := F167.wr W52
    have F169 := F168.wr W58
    have F170 := F169.wr W145
    have F171 := FWc.ext E4
    have F172 := F171.other W10 (Or.inl (nne (by omega)))
    have F173 := F172.other W16 (Or.inl (nne (by omega)))
    have F174 := F173.other W22 (Or.inl (nne (by omega)))
    have F175 := F174.other W28 (Or.inl (nne (by omega)))
    have F176 := F175.other W34 (Or.inl (nne (by omega)))
    have F177 := F176.other W40 (Or.inl (nne (by omega)))
    have F178 := F177.other W46 (Or.inl (nne (by omega)))
    have F179 := F178.other W52 (Or.inl (nne (by omega)))
    have F180 := F179.other W58 (Or.inl (nne (by omega)))
    have F181 := F180.other W145 (Or.inl (nne (by omega)))
    have F182 := SWc.ext E4
    have F183 := F182.wr W10 (by omega)
    have F184 := F183.wr W16 (by omega)
    have F185 := F184.wr W22 (by omega)
    have F186 := F185.wr W28 (by omega)
    have F187 := F186.wr W34 (by omega)
    have F188 := F187.wr W40 (by omega)
    have F189 := F188.wr W46 (by omega)
    have F190 := F189.wr W52 (by omega)
    have F191 := F190.wr W58 (by omega)
    have F192 := F191.wr W145 (by omega)
    have F193 := FWp.ext E4
    have F194 := F193.other W10 (Or.inl (nne (by omega)))
    have F195 := F194.other W16 (Or.inl (nne (by omega)))
    have F196 := F195.other W22 (Or.inl (nne (by omega)))
    have F197 := F196.other W28 (Or.inl (nne (by omega)))
    have F198 := F197.other W34 (Or.inl (nne (by omega)))
    have F199 := F198.other W40 (Or.inl (nne (by omega)))
    have F200 := F199.other W46 (Or.inl (nne (by omega)))
    have F201 := F200.other W52 (Or.inl (nne (by omega)))
    have F202 := F201.other W58 (Or.inl (nne (by omega)))
    have F203 := F202.other W145 (Or.inl (nne (by omega)))
    have F204 := SWp.ext E4
    have F205 := F204.wr W10 (by omega)
    have F206 := F205.wr W16 (by omega)
    have F207 := F206.wr W22 (by omega)
    have F208 := F207.wr W28 (by omega)
    have F209 := F208.wr W34 (by omega)
    have F210 := F209.wr W40 (by omega)
    have F211 := F210.wr W46 (by omega)
    have F212 := F211.wr W52 (by omega)
    have F213 := F212.wr W58 (by omega)
    have F214 := F213.wr W145 (by omega)
    have F215 := EE.ext E4
    have F216 := F215.wr W10
    have F217 := F216.wr W16
    have F218 := F217.wr W22
    have F219 := F218.wr W28
    have F220 := F219.wr W34
    have F221 := F220.wr W40
    have F222 := F221.wr W46
    have F223 := F222.wr W52
    have F224 := F223.wr W58
    have F225 := F224.wr W145
    have F226 := FE.ext E4
    have F227 := F226.other W10 (Or.inl (nne (by omega)))
    have F228 := F227.other W16 (Or.inl (nne (by omega)))
    have F229 := F228.other W22 (Or.inl (nne (by omega)))
    have F230 := F229.other W28 (Or.inl (nne (by omega)))
    have F231 := F230.other W34 (Or.inl (nne (by omega)))
    have F232 := F231.other W40 (Or.inl (nne (by omega)))
    have F233 := F232.other W46 (Or.inl (nne (by omega)))
    have F234 := F233.other W52 (Or.inl (nne (by omega)))
    have F235 := F234.other W58 (Or.inl (nne (by omega)))
    have F236 := F235.other W145 (Or.inl (nne (by omega)))
    exact ptB l Z a0 hw hE Bd hml p0 p1 p2 p3 p4 la lb (Int32.ofNat bs.length) (p4 &&& (255 : Int32)) xa b4 k4 ([(own_at bs (0 : Int32) (p4 &&& (255 : Int32))), (own_at bs (1 : Int32) (p4 &&& (255 : Int32))), (own_at bs (2 : Int32) (p4 &&& (255 : Int32))), (own_at bs (3 : Int32) (p4 &&& (255 : Int32))), (own_at bs (4 : Int32) (p4 &&& (255 : Int32))), (own_at bs (5 : Int32) (p4 &&& (255 : Int32))), (own_at bs (6 : Int32) (p4 &&& (255 : Int32))), (own_at bs (7 : Int32) (p4 &&& (255 : Int32))), (own_at bs (8 : Int32) (p4 &&& (255 : Int32)))].set ((p1 &&& (2147483647 : Int32)) % (9 : Int32)).toNatClampNeg (p2 &&& (255 : Int32))) av oc op xc xp oe kv h0 n0 Z0 (w145.more (k := 8) (n := 60) (by decide) (by decide)) K146 (by omega) hG F148 SC SP SV F159 F170 SE F181 F192 F203 F214 F225 F236 (by omega) (by rw [List.map_set]; exact V145) List.length_set (own_rngS (own_rng9 (own_at_rng Sx.rng (and255_rng _)) (own_at_rng Sx.rng (and255_rng _)) (own_at_rng Sx.rng (and255_rng _)) (own_at_rng Sx.rng (and255_rng _)) (own_at_rng Sx.rng (and255_rng _)) (own_at_rng Sx.rng (and255_rng _)) (own_at_rng Sx.rng (and255_rng _)) (own_at_rng Sx.rng (and255_rng _)) (own_at_rng Sx.rng (and255_rng _))) (and255_rng _))
theorem ef0 (m : MethodId) (x0 : Int32) (x1 : Int32) (x2 : Int32) (x3 : Int32) (x4 : Int32) : entryFrame m #[(.int x0), (.int x1), (.int x2), (.int x3), (.int x4)] maxLocals = mkF m 0 #[.val (.int x0), .val (.int x1), .val (.int x2), .val (.int x3), .val (.int x4), .unset, .unset, .unset, .unset, .unset, .unset, .unset, .unset, .unset, .unset, .unset] [] := by first | (simp [entryFrame, mkF, argsToLocals, Value.category, maxLocals]; done) | rfl
theorem pn_12 : plainFor x = true := by first | decide +kernel | (apply plainFor_of_name; simp [plainName, overriddenIn]; done)
set_option maxRecDepth 65536 in
set_option maxHeartbeats 40000000 in
theorem rm0 (l : Launch) (Z : State) (a0 : Array Value) (hw : ∀ d ∈ tables_1, d.before a0 Z = true) (hE : EW Z a0 consts_1) (ws : List Jvm.Cond) (p0 p1 p2 p3 p4 : Int32) (av oc op xc xp oe : Nat) (kv : ClassId) (h0 : Heap) (n0 : Nat) (Z0 : n0 ≤ h0.size) (hG : SetsOk Z) (X0 : Old Z n0 h0) (SC : Sta Z Z.heap "com/example/unified_lexicon/unifiedlexicon/core/Profile$Kind" "CLASS" "Lcom/example/unified_lexicon/unifiedlexicon/core/Profile$Kind;" (.ref oc)) (SP : Sta Z Z.heap "com/example/unified_lexicon/unifiedlexicon/core/Profile$Kind" "PROPERTY" "Lcom/example/unified_lexicon/unifiedlexicon/core/Profile$Kind;" (.ref op)) (SV : Sta Z Z.heap "com/example/unified_lexicon/unifiedlexicon/core/Profile$Kind" "$VALUES" "[Lcom/example/unified_lexicon/unifiedlexicon/core/Profile$Kind;" (.ref av)) (VV : Arv Z h0 av kv (.object "com/example/unified_lexicon/unifiedlexicon/core/Profile$Kind") (2 : Int32) [(.ref oc), (.ref op)] .null) (EV : Exa Z h0 av "[Lcom/example/unified_lexicon/unifiedlexicon/core/Profile$Kind;") (SE : Sta Z Z.heap "java/util/Optional" "EMPTY" "Ljava/util/Optional;" (.ref oe)) (FWc : Fld Z h0 oc "com/example/unified_lexicon/unifiedlexicon/core/Profile$Kind" "written" "Ljava/lang/String;" (.ref xc)) (SWc : Str Z h0 xc own_C n0) (FWp : Fld Z h0 op "com/example/unified_lexicon/unifiedlexicon/core/Profile$Kind" "written" "Ljava/lang/String;" (.ref xp)) (SWp : Str Z h0 xp own_P n0) (EE : Exa Z h0 oe "java/util/Optional") (FE : Fld Z h0 oe "java/util/Optional" "value" "Ljava/lang/Object;" .null) :
    WMet l Z consts_1 x code maxLocals ret ws room_1 [(.int p0), (.int p1), (.int p2), (.int p3), (.int p4)] h0 n0 [] [] (fun v h => v = some (.int 1)) := by
  refine MetFree.of_bodySF pn_12 hisR ?_
  intro p e s m args below meth c s₁ Bd hml0 hP hK
  obtain ⟨rfl, hZ, hh, hC, hSf⟩ := hP
  have hx := Bd.exec
  have hby := Bd.bytes
  have hml : c.maxLocals = 16 := hml0
  have hnm := (name_of_methodNamed Bd.named Bd.method).1
  have w0 := Wk.start (a0 := a0) (EL := consts_1) (n0 := n0) (nw := false) Bd hZ hh hE hC (ef0 m p0 p1 p2 p3 p4) room_1 rfl
  have K0 : Keep h0 h0 [] := Keep.refl _ _
  have lt_VV := arlt VV
  have lt_EV := exlt EV
  have lt_FWc : h0.size > oc := Fld.lt FWc
  have lt_SWc := SWc.lt
  have lt_FWp : h0.size > op := Fld.lt FWp
  have lt_SWp := SWp.lt
  have lt_FE : h0.size > oe := Fld.lt FE
  have lt_EE := exlt EE
  have hS : ∀ d ∈ Bundle.stringAtoms, d.before a0 Z = true := fun d hd => hw d ((by decide +kernel : ∀ d ∈ Bundle.stringAtoms, d ∈ tables_1) d hd)
  have w1 := w0.pure (mkF m 3 #[.val (.int p0), .val (.int p1), .val (.int p2), .val (.int p3), .val (.int p4), .unset, .unset, .unset, .unset, .unset, .unset, .unset, .unset, .unset, .unset, .unset] [(.int (p0 &&& (1 : Int32)))]) (fun X eT hZ hown k => by
      show Steps _ _ _ (State.setTop _ (mkF m 0 #[.val (.int p0), .val (.int p1), .val (.int p2), .val (.int p3), .val (.int p4), .unset, .unset, .unset, .unset, .unset, .unset, .unset, .unset, .unset, .unset, .unset] [])) _
      refine S.iloadN X.here hx (hb hby at_0) rfl ?_
      refine S.iconst X.here hx (1 : Int32) (hb hby at_1) rfl ?_
      refine S.iand X.here hx (hb hby at_2) ?_
      exact k)
  have w2 := w1.pure (mkF m 11 #[.val (.int p0), .val (.int p1), .val (.int p2), .val (.int p3), .val (.int p4), .unset, .unset, .unset, .unset, .unset, .unset, .unset, .unset, .unset, .unset, .unset] [(.int (if (p0 &&& (1 : Int32)) = (0 : Int32) then (0 : Int32) else (1 : Int32)))]) (fun X eT hZ hown k => by
      by_cases q2 : (p0 &&& (1 : Int32)) = (0 : Int32)
      · rw [if_pos q2] at k
        show Steps _ _ _ (State.setTop _ (mkF m 3 #[.val (.int p0), .val (.int p1), .val (.int p2), .val (.int p3), .val (.int p4), .unset, .unset, .unset, .unset, .unset, .unset, .unset, .unset, .unset, .unset, .unset] [(.int (p0 &&& (1 : Int32)))])) _
        refine S.ifYes X.here hx 10 (hb hby at_3) ((if0 _ _).trans (teq q2).1) (by decide) (by decide) ?_
        refine S.iconst X.here hx (0 : Int32) (hb hby at_10) rfl ?_
        exact k
      · rw [if_neg q2] at k
        show Steps _ _ _ (State.setTop _ (mkF m 3 #[.val (.int p0), .val (.int p1), .val (.int p2), .val (.int p3), .val (.int p4), .unset, .unset, .unset, .unset, .unset, .unset, .unset, .unset, .unset, .unset, .unset] [(.int (p0 &&& (1 : Int32)))])) _
        refine S.ifNo X.here hx (hb hby at_3) ((if0 _ _).trans (feq q2).1) ?_
        refine S.iconst X.here hx (1 : Int32) (hb hby at_6) rfl ?_
        refine S.goto X.here hx 11 (hb hby at_7) (by decide) (by decide) ?_
        exact k)
  have w3 := w2.pure (mkF m 16 #[.val (.int p0), .val (.int p1), .val (.int p2), .val (.int p3), .val (.int p4), .val (.int (if (p0 &&& (1 : Int32)) = (0 : Int32) then (0 : Int32) else (1 : Int32))), .unset, .unset, .unset, .unset, .unset, .unset, .unset, .unset, .unset, .unset] [(.int (p0 &&& (2 : Int32)))]) (fun X eT hZ hown k => by
      show Steps _ _ _ (State.setTop _ (mkF m 11 #[.val (.int p0), .val (.int p1), .val (.int p2), .val (.int p3), .val (.int p4), .unset, .unset, .unset, .unset, .unset, .unset, .unset, .unset, .unset, .unset, .unset] [(.int (if (p0 &&& (1 : Int32)) = (0 : Int32) then (0 : Int32) else (1 : Int32)))])) _
      refine S.istore X.here hx (hb hby at_11) #[.val (.int p0), .val (.int p1), .val (.int p2), .val (.int p3), .val (.int p4), .val (.int (if (p0 &&& (1 : Int32)) = (0 : Int32) then (0 : Int32) else (1 : Int32))), .unset, .unset, .unset, .unset, .unset, .unset, .unset, .unset, .unset, .unset] rfl ?_
      refine S.iloadN X.here hx (hb hby at_13) rfl ?_
      refine S.iconst X.here hx (2 : Int32) (hb hby at_14) rfl ?_
      refine S.iand X.here hx (hb hby at_15) ?_
      exact k)
  have w4 := w3.pure (mkF m 24 #[.val (.int p0), .val (.int p1), .val (.int p2), .val (.int p3), .val (.int p4), .val (.int (if (p0 &&& (1 : Int32)) = (0 : Int32) then (0 : Int32) else (1 : Int32))), .unset, .unset, .unset, .unset, .unset, .unset, .unset, .unset, .unset, .unset] [(.int (if (p0 &&& (2 : Int32)) = (0 : Int32) then (0 : Int32) else (1 : Int32)))]) (fun X eT hZ hown k => by
      by_cases q4 : (p0 &&& (2 : Int32)) = (0 : Int32)
      · rw [if_pos q4] at k
        show Steps _ _ _ (State.setTop _ (mkF m 16 #[.val (.int p0), .val (.int p1), .val (.int p2), .val (.int p3), .val (.int p4), .val (.int (if (p0 &&& (1 : Int32)) = (0 : Int32) then (0 : Int32) else (1 : Int32))), .unset, .unset, .unset, .unset, .unset, .unset, .unset, .unset, .unset, .unset] [(.int (p0 &&& (2 : Int32)))])) _
        refine S.ifYes X.here hx 23 (hb hby at_16) ((if0 _ _).trans (teq q4).1) (by decide) (by decide) ?_
        refine S.iconst X.here hx (0 : Int32) (hb hby at_23) rfl ?_
        exact k
      · rw [if_neg q4] at k
        show Steps _ _ _ (State.setTop _ (mkF m 16 #[.val (.int p0), .val (.int p1), .val (.int p2), .val (.int p3), .val (.int p4), .val (.int (if (p0 &&& (1 : Int32)) = (0 : Int32) then (0 : Int32) else (1 : Int32))), .unset, .unset, .unset, .unset, .unset, .unset, .unset, .unset, .unset, .unset] [(.int (p0 &&& (2 : Int32)))])) _
        refine S.ifNo X.here hx (hb hby at_16) ((if0 _ _).trans (feq q4).1) ?_
        refine S.iconst X.here hx (1 : Int32) (hb hby at_19) rfl ?_
        refine S.goto X.here hx 24 (hb hby at_20) (by decide) (by decide) ?_
        exact k)
  have w5 := w4.pure (mkF m 28 #[.val (.int p0), .val (.int p1), .val (.int p2), .val (.int p3), .val (.int p4), .val (.int (if (p0 &&& (1 : Int32)) = (0 : Int32) then (0 : Int32) else (1 : Int32))), .val (.int (if (p0 &&& (2 : Int32)) = (0 : Int32) then (0 : Int32) else (1 : Int32))), .unset, .unset, .unset, .unset, .unset, .unset, .unset, .unset, .unset] [(.int (if (p0 &&& (1 : Int32)) = (0 : Int32) then (0 : Int32) else (1 : Int32)))]) (fun X eT hZ hown k => by
      show Steps _ _ _ (State.setTop _ (mkF m 24 #[.val (.int p0), .val (.int p1), .val (.int p2), .val (.int p3), .val (.int p4), .val (.int (if (p0 &&& (1 : Int32)) = (0 : Int32) then (0 : Int32) else (1 : Int32))), .unset, .unset, .unset, .unset, .unset, .unset, .unset, .unset, .unset, .unset] [(.int (if (p0 &&& (2 : Int32)) = (0 : Int32) then (0 : Int32) else (1 : Int32)))])) _
      refine S.istore X.here hx (hb hby at_24) #[.val (.int p0), .val (.int p1), .val (.int p2), .val (.int p3), .val (.int p4), .val (.int (if (p0 &&& (1 : Int32)) = (0 : Int32) then (0 : Int32) else (1 : Int32))), .val (.int (if (p0 &&& (2 : Int32)) = (0 : Int32) then (0 : Int32) else (1 : Int32))), .unset, .unset, .unset, .unset, .unset, .unset, .unset, .unset, .unset] rfl ?_
      refine S.iload X.here hx (hb hby at_26) rfl ?_
      exact k)
  by_cases hc6 : (if (p0 &&& (1 : Int32)) = (0 : Int32) then (0 : Int32) else (1 : Int32)) = (0 : Int32)
  · have w7 := w5.pure (mkF m 36 #[.val (.int p0), .val (.int p1), .val (.int p2), .val (.int p3), .val (.int p4), .val (.int (if (p0 &&& (1 : Int32)) = (0 : Int32) then (0 : Int32) else (1 : Int32))), .val (.int (if (p0 &&& (2 : Int32)) = (0 : Int32) then (0 : Int32) else (1 : Int32))), .unset, .unset, .unset, .unset, .unset, .unset, .unset, .unset, .unset] []) (fun X eT hZ hown k => by
        show Steps _ _ _ (State.setTop _ (mkF m 28 #[.val (.int p0), .val (.int p1), .val (.int p2), .val (.int p3), .val (.int p4), .val (.int (if (p0 &&& (1 : Int32)) = (0 : Int32) then (0 : Int32) else (1 : Int32))), .val (.int (if (p0 &&& (2 : Int32)) = (0 : Int32) then (0 : Int32) else (1 : Int32))), .unset, .unset, .unset, .unset, .unset, .unset, .unset, .unset, .unset] [(.int (if (p0 &&& (1 : Int32)) = (0 : Int32) then (0 : Int32) else (1 : Int32)))])) _
        refine S.ifYes X.here hx 36 (hb hby at_28) ((if0 _ _).trans (teq hc6).1) (by decide) (by decide) ?_
        exact k)
    obtain ⟨b8, vm8, h8, t8, k8, E8, A8, F8c, F8v, V8, l8, m8, C8, N8, w8⟩ := w7.ldcCH hx (text := "Class") (hw _ (List.mem_of_getElem? (i := 0) rfl)) hS (List.mem_of_getElem? (i := 1) rfl) (vs := [(.int (67 : Int32)), (.int (108 : Int32)), (.int (97 : Int32)), (.int (115 : Int32)), (.int (115 : Int32))]) (z := (5 : Int32)) ⟨by decide, by decide⟩ (by decide) (by decide) rfl (hb hby at_36) 20 (by decide) (by decide) (by decide) (by decide) (fun xq => (mkF m 38 #[.val (.int p0), .val (.int p1), .val (.int p2), .val (.int p3), .val (.int p4), .val (.int (if (p0 &&& (1 : Int32)) = (0 : Int32) then (0 : Int32) else (1 : Int32))), .val (.int (if (p0 &&& (2 : Int32)) = (0 : Int32) then (0 : Int32) else (1 : Int32))), .unset, .unset, .unset, .unset, .unset, .unset, .unset, .unset, .unset] (.ref xq :: []))) (fun _ => rfl)
    have z8 := E8.1
    have K9 : Keep h0 h8 [] := K0.ext E8
    have S8 : Str Z h8 b8 [(67 : Int32), (108 : Int32), (97 : Int32), (115 : Int32), (115 : Int32)] h8.size := Str.of A8 F8v F8c V8 rfl rfl (List.forall_mem_cons.mpr ⟨by decide, (List.forall_mem_cons.mpr ⟨by decide, (List.forall_mem_cons.mpr ⟨by decide, (List.forall_mem_cons.mpr ⟨by decide, (List.forall_mem_cons.mpr ⟨by decide, (fun _ q => nomatch q)⟩)⟩)⟩)⟩)⟩) (by decide) l8 m8
    have F10 := X0.ext E8
    have F11 := VV.ext E8
    have F12 := EV.ext E8
    have F13 := FWc.ext E8
    have F14 := SWc.ext E8
    have F15 := FWp.ext E8
    have F16 := SWp.ext E8
    have F17 := EE.ext E8
    have F18 := FE.ext E8
    exact ptA l Z a0 hw hE Bd hml p0 p1 p2 p3 p4 (if (p0 &&& (1 : Int32)) = (0 : Int32) then (0 : Int32) else (1 : Int32)) (if (p0 &&& (2 : Int32)) = (0 : Int32) then (0 : Int32) else (1 : Int32)) b8 [(67 : Int32), (108 : Int32), (97 : Int32), (115 : Int32), (115 : Int32)] av oc op xc xp oe kv h0 n0 Z0 (w8.more (k := 4) (n := 40) (by decide) (by decide)) K9 (by omega) hG F10 SC SP SV F11 F12 SE F13 F14 F15 F16 F17 F18 (S8.more (by omega))
  · have w19 := w5.pure (mkF m 31 #[.val (.int p0), .val (.int p1), .val (.int p2), .val (.int p3), .val (.int p4), .val (.int (if (p0 &&& (1 : Int32)) = (0 : Int32) then (0 : Int32) else (1 : Int32))), .val (.int (if (p0 &&& (2 : Int32)) = (0 : Int32) then (0 : Int32) else (1 : Int32))), .unset, .unset, .unset, .unset, .unset, .unset, .unset, .unset, .unset] []) (fun X eT hZ hown k => by
        show Steps _ _ _ (State.setTop _ (mkF m 28 #[.val (.int p0), .val (.int p1), .val (.int p2), .val (.int p3), .val (.int p4), .val (.int (if (p0 &&& (1 : Int32)) = (0 : Int32) then (0 : Int32) else (1 : Int32))), .val (.int (if (p0 &&& (2 : Int32)) = (0 : Int32) then (0 : Int32) else (1 : Int32))), .unset, .unset, .unset, .unset, .unset, .unset, .unset, .unset, .unset] [(.int (if (p0 &&& (1 : Int32)) = (0 : Int32) then (0 : Int32) else (1 : Int32)))])) _
        refine S.ifNo X.here hx (hb hby at_28) ((if0 _ _).trans (feq hc6).1) ?_
        exact k)
    obtain ⟨b20, vm20, h20, t20, k20, E20, A20, F20c, F20v, V20, l20, m20, C20, N20, w20⟩ := w19.ldcCH hx (text := "Property") (hw _ (List.mem_of_getElem? (i := 81) rfl)) hS (List.mem_of_getElem? (i := 0) rfl) (vs := [(.int (80 : Int32)), (.int (114 : Int32)), (.int (111 : Int32)), (.int (112 : Int32)), (.int (101 : Int32)), (.int (114 : Int32)), (.int (116 : Int32)), (.int (121 : Int32))]) (z := (8 : Int32)) ⟨by decide, by decide⟩ (by decide) (by decide) rfl (hb hby at_31) 32 (by decide) (by decide) (by decide) (by decide) (fun xq => (mkF m 33 #[.val (.int p0), .val (.int p1), .val (.int p2), .val (.int p3), .val (.int p4), .val (.int (if (p0 &&& (1 : Int32)) = (0 : Int32) then (0 : Int32) else (1 : Int32))), .val (.int (if (p0 &&& (2 : Int32)) = (0 : Int32) then (0 : Int32) else (1 : Int32))), .unset, .unset, .unset, .unset, .unset, .unset, .unset, .unset, .unset] (.ref xq :: []))) (fun _ => rfl)
    have z20 := E20.1
    have K21 : Keep h0 h20 [] := K0.ext E20
    have S20 : Str Z h20 b20 [(80 : Int32), (114 : Int32), (111 : Int32), (112 : Int32), (101 : Int32), (114 : Int32), (116 : Int32), (121 : Int32)] h20.size := Str.of A20 F20v F20c V20 rfl rfl (List.forall_mem_cons.mpr ⟨by decide, (List.forall_mem_cons.mpr ⟨by decide, (List.forall_mem_cons.mpr ⟨by decide, (List.forall_mem_cons.mpr ⟨by decide, (List.forall_mem_cons.mpr ⟨by decide, (List.forall_mem_cons.mpr ⟨by decide, (List.forall_mem_cons.mpr ⟨by decide, (List.forall_mem_cons.mpr ⟨by decide, (fun _ q => nomatch q)⟩)⟩)⟩)⟩)⟩)⟩)⟩)⟩) (by decide) l20 m20
    have w22 := w20.pure (mkF m 38 #[.val (.int p0), .val (.int p1), .val (.int p2), .val (.int p3), .val (.int p4), .val (.int (if (p0 &&& (1 : Int32)) = (0 : Int32) then (0 : Int32) else (1 : Int32))), .val (.int (if (p0 &&& (2 : Int32)) = (0 : Int32) then (0 : Int32) else (1 : Int32))), .unset, .unset, .unset, .unset, .unset, .unset, .unset, .unset, .unset] [(.ref b20)]) (fun X eT hZ hown k => by
        show Steps _ _ _ (State.setTop _ (mkF m 33 #[.val (.int p0), .val (.int p1), .val (.int p2), .val (.int p3), .val (.int p4), .val (.int (if (p0 &&& (1 : Int32)) = (0 : Int32) then (0 : Int32) else (1 : Int32))), .val (.int (if (p0 &&& (2 : Int32)) = (0 : Int32) then (0 : Int32) else (1 : Int32))), .unset, .unset, .unset, .unset, .unset, .unset, .unset, .unset, .unset] [(.ref b20)])) _
        refine S.goto X.here hx 38 (hb hby at_33) (by decide) (by decide) ?_
        exact k)
    have F23 := X0.ext E20
    have F24 := VV.ext E20
    have F25 := EV.ext E20
    have F26 := FWc.ext E20
    have F27 := SWc.ext E20
    have F28 := FWp.ext E20
    have F29 := SWp.ext E20
    have F30 := EE.ext E20
    have F31 := FE.ext E20
    exact ptA l Z a0 hw hE Bd hml p0 p1 p2 p3 p4 (if (p0 &&& (1 : Int32)) = (0 : Int32) then (0 : Int32) else (1 : Int32)) (if (p0 &&& (2 : Int32)) = (0 : Int32) then (0 : Int32) else (1 : Int32)) b20 [(80 : Int32), (114 : Int32), (111 : Int32), (112 : Int32), (101 : Int32), (114 : Int32), (116 : Int32), (121 : Int32)] av oc op xc xp oe kv h0 n0 Z0 (w22.more (k := 4) (n := 40) (by decide) (by decide)) K21 (by omega) hG F23 SC SP SV F24 F25 SE F26 F27 F28 F29 F30 F31 (S20.more (by omega))
set_option maxRecDepth 65536 in
set_option maxHeartbeats 40000000 in
theorem comes_1 {Post : Tables → Env → Array Value → State → Outcome → State → Prop} (hpost : ∀ tb e args s v u, (limb_1_1.after args s (.returned v) u = true ∧ limb_1_2.after args s (.returned v) u = true ∧ True) → ReturnedEndW s (.returned v) u (Jvm.fieldLocs frame_1_writes args s ++ Jvm.arrayLocs frame_1_arrays args s ++ Jvm.staticLocs frame_1_statics s) 32 3264 → Post tb e args s (.returned v) u) :
    ArmFor flags0 classFile x code maxLocals ret World_1 tables_1 room_1 Calls_1 rest_1 Pre_1 Post := by
  intro l hfl _ _ p e ha hc hk s m args below hf hA hF happ hP
  obtain ⟨hcalls, hrest, hpre⟩ := hP
  obtain ⟨-, -, -, hnamed, -, -, -, hat⟩ := (Spec.applies_iff hf).mp happ
  obtain ⟨hg, hn⟩ := and_e (Cond.before_iff.mp (show (Jvm.Cond.and given_1 narrow_1).before args s = true from hpre))
  obtain ⟨g0, r0⟩ := and_e hg
  obtain ⟨g1, r1⟩ := and_e r0
  obtain ⟨g2, r2⟩ := and_e r1
  obtain ⟨g3, r3⟩ := and_e r2
  obtain ⟨g4, r4⟩ := and_e r3
  obtain ⟨w0, w1, w2, w3, w4, rfl⟩ : ∃ w0 w1 w2 w3 w4 : Value, args = #[w0, w1, w2, w3, w4] := by
    have hs : args.size = 5 := by simpa [Cond.value, given_1] using g0
    obtain ⟨L⟩ := args
    match L, hs with
    | [w0, w1, w2, w3, w4], _ => exact ⟨w0, w1, w2, w3, w4, rfl⟩
  have hw := fun d (hd : d ∈ tables_1) => atoms_spec (ws := Jvm.Cond.code x code maxLocals ret :: tables_1) hat d (List.mem_cons_of_mem _ hd)
  have hfit : Fit s := fun {y c} hc i hi => by
    obtain ⟨ha, rfl⟩ := Array.getElem?_eq_some_iff.mp hc
    have q := List.all_eq_true.mp ((Array.all_eq_true_iff_forall_mem.mp hF) _ (Array.getElem_mem ha)) i (List.mem_range.mpr hi)
    simpa [Array.getElem?_eq_getElem hi] using q
  obtain ⟨i0, e0⟩ := is_v g1
  obtain rfl : w0 = (.int i0) := Option.some.inj e0
  obtain ⟨i1, e1⟩ := is_v g2
  obtain rfl : w1 = (.int i1) := Option.some.inj e1
  obtain ⟨i2, e2⟩ := is_v g3
  obtain rfl : w2 = (.int i2) := Option.some.inj e2
  obtain ⟨i3, e3⟩ := is_v g4
  obtain rfl : w3 = (.int i3) := Option.some.inj e3
  obtain ⟨i4, e4⟩ := is_v r4
  obtain rfl : w4 = (.int i4) := Option.some.inj e4
  obtain ⟨hsets, hown0⟩ := atoms_of _ (rest_1_c_eq ▸ (show rest_1_c.before _ s = true from hrest))
  have hG : SetsOk s := by
    have n5 := not_v (Cond.before_iff.mp (hsets _ (List.mem_of_getElem? (i := 2) rfl)))
    obtain ⟨i11, e10⟩ := is_v (Cond.before_iff.mp (hsets _ (List.mem_of_getElem? (i := 1) rfl)))
    obtain ⟨v13, e14, r15⟩ := isR_v (Cond.before_iff.mp (hsets _ (List.mem_of_getElem? (i := 8) rfl)))
    exact ⟨i11, v13, Sta.start e10 (Or.inl (hsets _ (List.mem_of_getElem? (i := 0) rfl))), gotF (Cond.eq_ints e10 (Term.int_eval (0))) n5, Sta.start e14 (Or.inl (hsets _ (List.mem_of_getElem? (i := 7) rfl))), r15⟩
  have hE : EW s _ consts_1 := (EW.cons (hw _ (List.mem_of_getElem? (i := 81) rfl)) (by decide) (EW.cons (hw _ (List.mem_of_getElem? (i := 0) rfl)) (by decide) (EW.cons (hw _ (List.mem_of_getElem? (i := 139) rfl)) (by decide) EW.nil)))
  have hC : CHv s consts_1 s.vm s.heap := CHv.start hE hcalls.1 (hsets _ (List.mem_of_getElem? (i := 2) rfl)) (hw _ (List.mem_of_getElem? (i := 3) rfl)) (hw _ (List.mem_of_getElem? (i := 2) rfl))
  obtain ⟨u0, v0⟩ := and_e hn
  obtain ⟨u1, v1⟩ := and_e v0
  obtain ⟨u2, v2⟩ := and_e v1
  obtain ⟨u3, v3⟩ := and_e v2
  obtain ⟨u4, v4⟩ := and_e v3
  obtain ⟨u5, v5⟩ := and_e v4
  obtain ⟨u6, v6⟩ := and_e v5
  obtain ⟨u7, v7⟩ := and_e v6
  obtain ⟨u8, v8⟩ := and_e v7
  obtain ⟨u9, v9⟩ := and_e v8
  obtain ⟨u10, v10⟩ := and_e v9
  obtain ⟨u11, v11⟩ := and_e v10
  obtain ⟨u12, v12⟩ := and_e v11
  obtain ⟨u13, v13⟩ := and_e v12
  obtain ⟨u14, v14⟩ := and_e v13
  obtain ⟨u15, v15⟩ := and_e v14
  obtain ⟨u16, v16⟩ := and_e v15
  obtain ⟨u17, v17⟩ := and_e v16
  obtain ⟨u18, v18⟩ := and_e v17
  obtain ⟨u19, v19⟩ := and_e v18
  obtain ⟨u20, v20⟩ := and_e v19
  obtain ⟨u21, v21⟩ := and_e v20
  obtain ⟨u22, v22⟩ := and_e v21
  obtain ⟨u23, v23⟩ := and_e v22
  obtain ⟨u24, v24⟩ := and_e v23
  obtain ⟨u25, v25⟩ := and_e v24
  obtain ⟨u26, v26⟩ := and_e v25
  obtain ⟨av, ea⟩ := arr_v u0
  obtain ⟨oc, ec⟩ := exa_v u3
  obtain ⟨op, ep⟩ := exa_v u5
  have SV : Sta s s.heap "com/example/unified_lexicon/unifiedlexicon/core/Profile$Kind" "$VALUES" "[Lcom/example/unified_lexicon/unifiedlexicon/core/Profile$Kind;" (.ref av) := Sta.start ea (Or.inr ⟨(hw _ (List.mem_of_getElem? (i := 84) rfl)), (hw _ (List.mem_of_getElem? (i := 90) rfl))⟩)
  have SC : Sta s s.heap "com/example/unified_lexicon/unifiedlexicon/core/Profile$Kind" "CLASS" "Lcom/example/unified_lexicon/unifiedlexicon/core/Profile$Kind;" (.ref oc) := Sta.start ec (Or.inr ⟨(hw _ (List.mem_of_getElem? (i := 84) rfl)), (hw _ (List.mem_of_getElem? (i := 98) rfl))⟩)
  have SP : Sta s s.heap "com/example/unified_lexicon/unifiedlexicon/core/Profile$Kind" "PROPERTY" "Lcom/example/unified_lexicon/unifiedlexicon/core/Profile$Kind;" (.ref op) := Sta.start ep (Or.inr ⟨(hw _ (List.mem_of_getElem? (i := 84) rfl)), (hw _ (List.mem_of_getElem? (i := 99) rfl))⟩)
  obtain ⟨kv, VV⟩ := arv_start (vs := [(.ref oc), (.ref op)]) (dv := .null) hfit ea u0 u2 rfl (Nat.le_of_ble_eq_true rfl) (fun j hj => by
    match j, hj with
    | 0, _ => exact eq_at u4 ec rfl
    | 1, _ => exact eq_at u6 ep rfl
    | n + 2, h => exact absurd h (by show ¬ n + 2 < 2; omega))
  have EV := Exa.start ea u1
  obtain ⟨xc, fc⟩ := exa_v u7
  have FWc : Fld s s.heap oc "com/example/unified_lexicon/unifiedlexicon/core/Profile$Kind" "written" "Ljava/lang/String;" (.ref xc) := Fld.start ((fld_at ec).symm.trans fc)
  have SWc : Str s s.heap xc own_C s.heap.size := str_start hfit fc u7 u8 u9 u10 rfl (by decide) (fun j hj => by
    match j, hj with
    | 0, _ => exact u15
    | 1, _ => exact u16
    | 2, _ => exact u17
    | 3, _ => exact u18
    | 4, _ => exact u19
    | n + 5, h => exact absurd h (by show ¬ n + 5 < 5; omega)) (by decide) (by decide)
  obtain ⟨xp, fp⟩ := exa_v u11
  have FWp : Fld s s.heap op "com/example/unified_lexicon/unifiedlexicon/core/Profile$Kind" "written" "Ljava/lang/String;" (.ref xp) := Fld.start ((fld_at ep).symm.trans fp)
  have SWp : Str s s.heap xp own_P s.heap.size := str_start hfit fp u11 u12 u13 u14 rfl (by decide) (fun j hj => by
    match j, hj with
    | 0, _ => exact u20
    | 1, _ => exact u21
    | 2, _ => exact u22
    | 3, _ => exact u23
    | 4, _ => exact u24
    | 5, _ => exact u25
    | 6, _ => exact u26
    | 7, _ => exact v26
    | n + 8, h => exact absurd h (by show ¬ n + 8 < 8; omega)) (by decide) (by decide)
  have z0 := Cond.before_iff.mp (hsets _ (List.mem_of_getElem? (i := 11) rfl))
  obtain ⟨oe, ee⟩ := exa_v z0
  have SE : Sta s s.heap "java/util/Optional" "EMPTY" "Ljava/util/Optional;" (.ref oe) := Sta.start ee (Or.inl (hsets _ (List.mem_of_getElem? (i := 10) rfl)))
  have EE := Exa.start ee z0
  have FE : Fld s s.heap oe "java/util/Optional" "value" "Ljava/lang/Object;" .null := Fld.start ((fld_at ee).symm.trans (eq_at (Cond.before_iff.mp (hsets _ (List.mem_of_getElem? (i := 12) rfl))) rfl rfl))
  obtain ⟨n, o, h1, h2, h3, _, L, rfl, ⟨rfl, -, N⟩, -, hq⟩ := rm0 l s _ hw hE tables_1 i0 i1 i2 i3 i4 av oc op xc xp oe kv s.heap s.heap.size (Nat.le_refl _) hG (Old.start s) SC SP SV VV EV SE FWc SWc FWp SWp EE FE p e ha hc hk s m _ below hf ((Spec.applies_iff_loose hf).mp happ).1 ⟨rfl, State.Warmed39.refl s, rfl, hC, sf0⟩ trivial
  refine ⟨n, _, h1, h2, h3, hpost _ _ _ _ _ _ ⟨Cond.after_iff.mpr rfl, Cond.after_iff.mpr (eq_i res_at (Term.int_eval (1)) rfl), trivial⟩ ⟨hq.1, hq.2.1, hq.2.2.1, (hq.2.2.2.sift fun y hy => Or.inr (N y hy)).mono (by decide) (by decide)⟩⟩
theorem main_1_1 : Claimed_1_1 := comes_1 fun _ _ _ _ _ _ h hF => ⟨h.1, hF⟩
theorem main_1_2 : Claimed_1_2 := comes_1 fun _ _ _ _ _ _ h hF => ⟨h.2.1, hF⟩
end Jvm.Pilot.@@N@@
namespace Jvm.Pilot.@@N@@
open Jvm Jvm.ClassFile Sem Op Lib Jvm.Free Jvm.Stand Jvm.Pilot.@@N@@.Jvm.D
/-! MADE BY PROGRAM (witnessworld.py) out of the Statement's table words and the real class files: 24 classes; the members and pool entries that the words name. The judged class is class 1, her method 1. -/
namespace start1
open Jvm.ClassFile
def u (s : String) : CpInfo := .utf8 (stringToUtf16 s)
/-- a pool by its gaps: so many unusable entries, then the entry; so many at the end -/
def gap : Nat → List CpInfo → List CpInfo
  | 0, r => r
  | n + 1, r => .unusable :: gap n r
def poolList (es : List (Nat × CpInfo)) (last : Nat) : List CpInfo := es.foldr (fun e r => gap e.1 (e.2 :: r)) (gap last [])
def pool (es : List (Nat × CpInfo)) (last : Nat) : Array CpInfo := ⟨poolList es last⟩
def fileOf (pool : Array CpInfo) (this : Nat) (attrs : Array Attribute := #[]) (ms : Array MethodInfo := #[]) (fl : Nat := 33) (sup : Nat := 0) (ifs : Array Nat := #[]) (fds : Array FieldInfo := #[]) : ClassFile where
  minorVersion := 0
  majorVersion := 65
  constantPool := pool
  accessFlags := fl
  thisClass := this
  superClass := sup
  interfaces := ifs
  fields := fds
  methods := ms
  attributes := attrs
def plain (name : String) (sup : Option ClassId) : Class where
  name := name
  kind := .ordinary
  loader := none
  accessFlags := 33
  super := sup
  interfaces := #[]
  cf := none
  fields := #[]
  methods := #[]
  instanceTypes := #[]
  staticTypes := #[]
  resolved := #[]
  callSites := []
  init := .initialized
  statics := none
  mirror := none

def pool0 : Array CpInfo := pool [(5, u "<init>"), (0, u "()V"), (1, .class_ 10), (1, u "java/lang/Object"), (85, u "clone"), (0, u "()Ljava/lang/Object;")] 26

def k0c0 : Code := { maxStack := 0, maxLocals := 1, code := object_method_1_code, exceptionTable := #[], attributes := #[] }
def k0m0 : Method := { name := "<init>", desc := "()V", sig := { parameters := [], returnType := none }, accessFlags := 1, code := some k0c0 }
def k0m1 : Method := { name := "clone", desc := "()Ljava/lang/Object;", sig := { parameters := [], returnType := some (.object "java/lang/Object") }, accessFlags := 260, code := none }
/-- java/lang/Object -/
def k0 : Class := { plain "java/lang/Object" none with
  accessFlags := 33
  interfaces := #[]
  cf := some (fileOf pool0 8 #[] #[{ accessFlags := 1, nameIndex := 5, descriptorIndex := 6, attributes := #[] }, { accessFlags := 260, nameIndex := 96, descriptorIndex := 97, attributes := #[] }] 33 0 #[] #[])
  fields := #[]
  methods := #[k0m0, k0m1]
  instanceTypes := #[]
  staticTypes := #[]
  resolved := Array.replicate 124 none
  statics := none }

def pool1 : Array CpInfo := pool [(2, .class_ 4), (1, u "java/lang/Object"), (0, u "<init>"), (0, u "()V"), (0, .string 8), (0, u "Property"), (0, .string 10), (0, u "Class"), (0, .methodref 12 13), (0, .class_ 14), (0, .nameAndType 15 16), (0, u "java/lang/String"), (0, u "length"), (0, u "()I"), (0, .methodref 18 19), (0, .class_ 20), (0, .nameAndType 21 22), (0, u "com/example/unified_lexicon/unifiedlexicon/core/KindOfWrittenPinLaw"), (0, u "at"), (0, u "(Ljava/lang/String;IC)C"), (0, .integer 2147483647), (0, .methodref 18 25), (0, .nameAndType 26 27), (0, u "str"), (0, u "([CI)Ljava/lang/String;"), (0, .methodref 12 29), (0, .nameAndType 30 31), (0, u "equals"), (0, u "(Ljava/lang/Object;)Z"), (0, .fieldref 33 34), (0, .class_ 35), (0, .nameAndType 36 37), (0, u "com/example/unified_lexicon/unifiedlexicon/core/Profile$Kind"), (0, u "CLASS"), (0, u "Lcom/example/unified_lexicon/unifiedlexicon/core/Profile$Kind;"), (0, .fieldref 33 39), (0, .nameAndType 40 37), (0, u "PROPERTY"), (0, .methodref 33 42), (0, .nameAndType 43 44), (0, u "ofWritten"), (0, u "(Ljava/lang/String;)Ljava/util/Optional;"), (0, .methodref 46 47), (0, .class_ 48), (0, .nameAndType 49 50), (0, u "java/util/Optional"), (0, u "isPresent"), (0, u "()Z"), (0, .methodref 46 52), (0, .nameAndType 53 54), (0, u "get"), (0, u "()Ljava/lang/Object;"), (0, .methodref 12 56), (0, .nameAndType 57 58), (0, u "charAt"), (0, u "(I)C"), (0, .methodref 12 60), (0, .nameAndType 5 61), (0, u "([C)V"), (2, u "law"), (0, u "(IIIII)Z")] 9

def k1m0 : Method := { name := "<init>", desc := "()V", sig := { parameters := [], returnType := none }, accessFlags := 2, code := none }
def k1c1 : Code := { maxStack := 5, maxLocals := 16, code := code, exceptionTable := #[], attributes := #[] }
def k1m1 : Method := { name := "law", desc := "(IIIII)Z", sig := { parameters := [.int, .int, .int, .int, .int], returnType := some .boolean }, accessFlags := 9, code := some k1c1 }
def k1c2 : Code := { maxStack := 2, maxLocals := 3, code := method_3_code, exceptionTable := #[], attributes := #[] }
def k1m2 : Method := { name := "at", desc := "(Ljava/lang/String;IC)C", sig := { parameters := [(.object "java/lang/String"), .int, .char], returnType := some .char }, accessFlags := 10, code := some k1c2 }
def k1c3 : Code := { maxStack := 7, maxLocals := 2, code := method_4_code, exceptionTable := #[], attributes := #[] }
def k1m3 : Method := { name := "str", desc := "([CI)Ljava/lang/String;", sig := { parameters := [(.array .char), .int], returnType := some (.object "java/lang/String") }, accessFlags := 10, code := some k1c3 }
/-- com/example/unified_lexicon/unifiedlexicon/core/KindOfWrittenPinLaw -/
def k1 : Class := { plain "com/example/unified_lexicon/unifiedlexicon/core/KindOfWrittenPinLaw" (some 0) with
  accessFlags := 49
  interfaces := #[]
  cf := some (fileOf pool1 18 #[] #[{ accessFlags := 2, nameIndex := 5, descriptorIndex := 6, attributes := #[] }, { accessFlags := 9, nameIndex := 64, descriptorIndex := 65, attributes := #[] }, { accessFlags := 10, nameIndex := 21, descriptorIndex := 22, attributes := #[] }, { accessFlags := 10, nameIndex := 26, descriptorIndex := 27, attributes := #[] }] 49 2 #[] #[])
  fields := #[]
  methods := #[k1m0, k1m1, k1m2, k1m3]
  instanceTypes := #[]
  staticTypes := #[]
  resolved := Array.replicate 75 none
  statics := none }

def pool2 : Array CpInfo := pool [(1, .class_ 2), (0, u "java/io/Serializable"), (0, .class_ 4), (0, u "java/lang/Object")] 2

/-- java/io/Serializable -/
def k2 : Class := { plain "java/io/Serializable" (some 0) with
  accessFlags := 1537
  interfaces := #[]
  cf := some (fileOf pool2 1 #[] #[] 1537 3 #[] #[])
  fields := #[]
  methods := #[]
  instanceTypes := #[]
  staticTypes := #[]
  resolved := Array.replicate 7 none
  statics := none }

def pool3 : Array CpInfo := pool [(1, .class_ 2), (0, u "java/lang/Comparable"), (0, .class_ 4), (0, u "java/lang/Object")] 7

/-- java/lang/Comparable -/
def k3 : Class := { plain "java/lang/Comparable" (some 0) with
  accessFlags := 1537
  interfaces := #[]
  cf := some (fileOf pool3 1 #[] #[] 1537 3 #[] #[])
  fields := #[]
  methods := #[]
  instanceTypes := #[]
  staticTypes := #[]
  resolved := Array.replicate 12 none
  statics := none }

def pool4 : Array CpInfo := pool [(2, .class_ 4), (1, u "java/lang/CharSequence"), (42, .class_ 48), (0, u "java/lang/CharSequence$1CodePointIterator"), (10, .class_ 60), (0, u "java/lang/CharSequence$1CharIterator"), (5, .class_ 67), (0, u "java/lang/Object")] 63

/-- java/lang/CharSequence -/
def k4 : Class := { plain "java/lang/CharSequence" (some 0) with
  accessFlags := 1537
  interfaces := #[]
  cf := some (fileOf pool4 2 #[.nestMembers #[47, 59]] #[] 1537 66 #[] #[])
  fields := #[]
  methods := #[]
  instanceTypes := #[]
  staticTypes := #[]
  resolved := Array.replicate 131 none
  statics := none }

def pool5 : Array CpInfo := pool [(1, .class_ 2), (0, u "java/lang/constant/Constable"), (0, .class_ 4), (0, u "java/lang/Object")] 6

/-- java/lang/constant/Constable -/
def k5 : Class := { plain "java/lang/constant/Constable" (some 0) with
  accessFlags := 1537
  interfaces := #[]
  cf := some (fileOf pool5 1 #[] #[] 1537 3 #[] #[])
  fields := #[]
  methods := #[]
  instanceTypes := #[]
  staticTypes := #[]
  resolved := Array.replicate 11 none
  statics := none }

def pool6 : Array CpInfo := pool [(1, .class_ 2), (0, u "java/lang/constant/ConstantDesc"), (0, .class_ 4), (0, u "java/lang/Object")] 32

/-- java/lang/constant/ConstantDesc -/
def k6 : Class := { plain "java/lang/constant/ConstantDesc" (some 0) with
  accessFlags := 1537
  interfaces := #[]
  cf := some (fileOf pool6 1 #[] #[] 1537 3 #[] #[])
  fields := #[]
  methods := #[]
  instanceTypes := #[]
  staticTypes := #[]
  resolved := Array.replicate 37 none
  statics := none }

def pool7 : Array CpInfo := pool [(1, .methodref 2 3), (0, .class_ 4), (0, .nameAndType 5 6), (0, u "java/lang/Object"), (0, u "<init>"), (0, u "()V"), (0, .string 8), (0, u ""), (0, .fieldref 10 11), (0, .class_ 12), (0, .nameAndType 13 14), (0, u "java/lang/String"), (0, u "value"), (0, u "[B"), (0, .fieldref 10 16), (0, .nameAndType 17 18), (0, u "coder"), (0, u "B"), (2, u "hash"), (0, u "I"), (2, u "hashIsZero"), (0, u "Z"), (0, .methodref 10 28), (0, .nameAndType 5 29), (0, u "([CIILjava/lang/Void;)V"), (8, .fieldref 10 39), (0, .nameAndType 40 26), (0, u "COMPACT_STRINGS"), (1, .class_ 44), (1, u "java/lang/StringUTF16"), (0, u "compress"), (1, .methodref 42 48), (0, .nameAndType 49 50), (0, u "coderFromArrayLen"), (0, u "([BI)B"), (56, .class_ 109), (1, u "java/lang/StringLatin1"), (32, u "()Z"), (34, .methodref 42 178), (0, .nameAndType 45 179), (0, u "([CII)[B"), (154, u "()I"), (0, .methodref 10 336), (0, .nameAndType 17 337), (0, u "()B"), (25, u "([BI)C"), (27, u "(II)V"), (35, u "(I)C"), (64, .methodref 10 493), (0, .nameAndType 494 142), (0, u "isLatin1"), (0, .methodref 107 496), (0, .nameAndType 497 363), (0, u "charAt"), (3, u "checkIndex"), (5, u "length"), (33, .methodref 107 542), (0, .nameAndType 543 544), (0, u "equals"), (0, u "([B[B)Z"), (28, u "(Ljava/lang/Object;)Z"), (1, .class_ 576), (0, u "java/lang/CharSequence"), (22, u "CASE_INSENSITIVE_ORDER"), (0, u "Ljava/util/Comparator;"), (409, u "([C)V"), (42, .fieldref 1054 1055), (0, .class_ 1056), (0, .nameAndType 1057 1058), (0, u "jdk/internal/util/Preconditions"), (0, u "SIOOBE_FORMATTER"), (0, u "Ljava/util/function/BiFunction;"), (0, .methodref 1054 1060), (0, .nameAndType 501 1061), (0, u "(IILjava/util/function/BiFunction;)I"), (39, u "serialPersistentFields"), (0, u "[Ljava/io/ObjectStreamField;"), (0, .class_ 1104), (0, u "java/lang/String$CaseInsensitiveComparator"), (1, .class_ 1107), (0, u "java/io/Serializable"), (0, .class_ 1109), (0, u "java/lang/Comparable"), (0, .class_ 1111), (0, u "java/lang/constant/Constable"), (0, .class_ 1113), (0, u "java/lang/constant/ConstantDesc"), (2, u "serialVersionUID"), (0, u "J"), (3, u "REPL"), (0, u "C"), (2, u "LATIN1"), (1, u "UTF16")] 323

def k7m0 : Method := { name := "<init>", desc := "()V", sig := { parameters := [], returnType := none }, accessFlags := 1, code := none }
def k7c1 : Code := { maxStack := 5, maxLocals := 2, code := jdk_42_method_3_code, exceptionTable := #[], attributes := #[] }
def k7m1 : Method := { name := "<init>", desc := "([C)V", sig := { parameters := [(.array .char)], returnType := none }, accessFlags := 1, code := some k7c1 }
def k7c2 : Code := { maxStack := 2, maxLocals := 1, code := jdk_42_method_54_code, exceptionTable := #[], attributes := #[] }
def k7m2 : Method := { name := "length", desc := "()I", sig := { parameters := [], returnType := some .int }, accessFlags := 1, code := some k7c2 }
def k7c3 : Code := { maxStack := 2, maxLocals := 2, code := jdk_42_method_56_code, exceptionTable := #[], attributes := #[] }
def k7m3 : Method := { name := "charAt", desc := "(I)C", sig := { parameters := [.int], returnType := some .char }, accessFlags := 1, code := some k7c3 }
def k7c4 : Code := { maxStack := 2, maxLocals := 3, code := jdk_42_method_66_code, exceptionTable := #[], attributes := #[] }
def k7m4 : Method := { name := "equals", desc := "(Ljava/lang/Object;)Z", sig := { parameters := [(.object "java/lang/Object")], returnType := some .boolean }, accessFlags := 1, code := some k7c4 }
def k7c5 : Code := { maxStack := 4, maxLocals := 6, code := jdk_42_method_149_code, exceptionTable := #[], attributes := #[] }
def k7m5 : Method := { name := "<init>", desc := "([CIILjava/lang/Void;)V", sig := { parameters := [(.array .char), .int, .int, (.object "java/lang/Void")], returnType := none }, accessFlags := 2, code := some k7c5 }
def k7c6 : Code := { maxStack := 1, maxLocals := 1, code := jdk_42_method_152_code, exceptionTable := #[], attributes := #[] }
def k7m6 : Method := { name := "coder", desc := "()B", sig := { parameters := [], returnType := some .byte }, accessFlags := 0, code := some k7c6 }
def k7c7 : Code := { maxStack := 1, maxLocals := 1, code := jdk_42_method_154_code, exceptionTable := #[], attributes := #[] }
def k7m7 : Method := { name := "isLatin1", desc := "()Z", sig := { parameters := [], returnType := some .boolean }, accessFlags := 0, code := some k7c7 }
def k7c8 : Code := { maxStack := 3, maxLocals := 2, code := jdk_42_method_155_code, exceptionTable := #[], attributes := #[] }
def k7m8 : Method := { name := "checkIndex", desc := "(II)V", sig := { parameters := [.int, .int], returnType := none }, accessFlags := 8, code := some k7c8 }
/-- java/lang/String -/
def k7 : Class := { plain "java/lang/String" (some 0) with
  accessFlags := 49
  interfaces := #[2, 3, 4, 5, 6]
  cf := some (fileOf pool7 10 #[.nestMembers #[1103]] #[{ accessFlags := 1, nameIndex := 5, descriptorIndex := 6, attributes := #[] }, { accessFlags := 1, nameIndex := 5, descriptorIndex := 1010, attributes := #[] }, { accessFlags := 1, nameIndex := 507, descriptorIndex := 334, attributes := #[] }, { accessFlags := 1, nameIndex := 497, descriptorIndex := 427, attributes := #[] }, { accessFlags := 1, nameIndex := 543, descriptorIndex := 573, attributes := #[] }, { accessFlags := 2, nameIndex := 5, descriptorIndex := 29, attributes := #[] }, { accessFlags := 0, nameIndex := 17, descriptorIndex := 337, attributes := #[] }, { accessFlags := 0, nameIndex := 494, descriptorIndex := 142, attributes := #[] }, { accessFlags := 8, nameIndex := 501, descriptorIndex := 391, attributes := #[] }] 49 2 #[1106, 1108, 575, 1110, 1112] #[{ accessFlags := 18, nameIndex := 13, descriptorIndex := 14, attributes := #[] }, { accessFlags := 18, nameIndex := 17, descriptorIndex := 18, attributes := #[] }, { accessFlags := 2, nameIndex := 21, descriptorIndex := 22, attributes := #[] }, { accessFlags := 2, nameIndex := 25, descriptorIndex := 26, attributes := #[] }, { accessFlags := 26, nameIndex := 1116, descriptorIndex := 1117, attributes := #[] }, { accessFlags := 24, nameIndex := 40, descriptorIndex := 26, attributes := #[] }, { accessFlags := 26, nameIndex := 1101, descriptorIndex := 1102, attributes := #[] }, { accessFlags := 26, nameIndex := 1121, descriptorIndex := 1122, attributes := #[] }, { accessFlags := 25, nameIndex := 599, descriptorIndex := 600, attributes := #[] }, { accessFlags := 24, nameIndex := 1125, descriptorIndex := 18, attributes := #[] }, { accessFlags := 24, nameIndex := 1127, descriptorIndex := 18, attributes := #[] }])
  fields := #[{ name := "value", type := (.array .byte), accessFlags := 18, slot := 0, constantValue := 0 }, { name := "coder", type := .byte, accessFlags := 18, slot := 1, constantValue := 0 }, { name := "hash", type := .int, accessFlags := 2, slot := 2, constantValue := 0 }, { name := "hashIsZero", type := .boolean, accessFlags := 2, slot := 3, constantValue := 0 }, { name := "serialVersionUID", type := .long, accessFlags := 26, slot := 0, constantValue := 0 }, { name := "COMPACT_STRINGS", type := .boolean, accessFlags := 24, slot := 1, constantValue := 0 }, { name := "serialPersistentFields", type := (.array (.object "java/io/ObjectStreamField")), accessFlags := 26, slot := 2, constantValue := 0 }, { name := "REPL", type := .char, accessFlags := 26, slot := 3, constantValue := 0 }, { name := "CASE_INSENSITIVE_ORDER", type := (.object "java/util/Comparator"), accessFlags := 25, slot := 4, constantValue := 0 }, { name := "LATIN1", type := .byte, accessFlags := 24, slot := 5, constantValue := 0 }, { name := "UTF16", type := .byte, accessFlags := 24, slot := 6, constantValue := 0 }]
  methods := #[k7m0, k7m1, k7m2, k7m3, k7m4, k7m5, k7m6, k7m7, k7m8]
  instanceTypes := #[(.array .byte), .byte, .int, .boolean]
  staticTypes := #[.long, .boolean, (.array (.object "java/io/ObjectStreamField")), .char, (.object "java/util/Comparator"), .byte, .byte]
  resolved := Array.replicate 1451 none
  statics := some 0 }

def pool8 : Array CpInfo := pool [(1, .class_ 2), (0, u "java/lang/String"), (1, .class_ 6), (1, u "java/lang/Object"), (0, u "<init>"), (0, u "()V"), (0, .methodref 1 10), (0, .nameAndType 11 12), (0, u "checkIndex"), (0, u "(II)V"), (1, .class_ 16), (1, u "java/lang/StringLatin1"), (36, u "([BI)C"), (67, u "$assertionsDisabled"), (0, u "Z"), (98, .class_ 223), (1, u "java/lang/StringLatin1$LinesSpliterator"), (28, u "charAt"), (28, u "equals"), (0, u "([B[B)Z"), (107, .class_ 391), (0, u "java/lang/StringLatin1$CharsSpliterator")] 3

def k8m0 : Method := { name := "<init>", desc := "()V", sig := { parameters := [], returnType := none }, accessFlags := 0, code := none }
def k8c1 : Code := { maxStack := 2, maxLocals := 2, code := jdk_43_method_2_code, exceptionTable := #[], attributes := #[] }
def k8m1 : Method := { name := "charAt", desc := "([BI)C", sig := { parameters := [(.array .byte), .int], returnType := some .char }, accessFlags := 9, code := some k8c1 }
def k8c2 : Code := { maxStack := 3, maxLocals := 3, code := jdk_43_method_13_code, exceptionTable := #[], attributes := #[] }
def k8m2 : Method := { name := "equals", desc := "([B[B)Z", sig := { parameters := [(.array .byte), (.array .byte)], returnType := some .boolean }, accessFlags := 9, code := some k8c2 }
/-- java/lang/StringLatin1 -/
def k8 : Class := { plain "java/lang/StringLatin1" (some 0) with
  accessFlags := 48
  interfaces := #[]
  cf := some (fileOf pool8 14 #[.nestMembers #[390, 221]] #[{ accessFlags := 0, nameIndex := 7, descriptorIndex := 8, attributes := #[] }, { accessFlags := 9, nameIndex := 252, descriptorIndex := 53, attributes := #[] }, { accessFlags := 9, nameIndex := 281, descriptorIndex := 282, attributes := #[] }] 48 4 #[] #[{ accessFlags := 4120, nameIndex := 121, descriptorIndex := 122, attributes := #[] }])
  fields := #[{ name := "$assertionsDisabled", type := .boolean, accessFlags := 4120, slot := 0, constantValue := 0 }]
  methods := #[k8m0, k8m1, k8m2]
  instanceTypes := #[]
  staticTypes := #[.boolean]
  resolved := Array.replicate 395 none
  statics := none }

def pool9 : Array CpInfo := pool [(2, .class_ 4), (1, u "java/lang/Object"), (0, u "<init>"), (0, u "()V"), (17, .class_ 26), (1, u "jdk/internal/util/Preconditions"), (6, u "checkIndex"), (21, .class_ 56), (0, u "jdk/internal/util/Preconditions$4"), (57, .class_ 115), (0, u "jdk/internal/util/Preconditions$1"), (7, u "SIOOBE_FORMATTER"), (0, u "Ljava/util/function/BiFunction;"), (0, .class_ 126), (0, u "jdk/internal/util/Preconditions$2"), (3, u "AIOOBE_FORMATTER"), (0, .class_ 132), (0, u "jdk/internal/util/Preconditions$3"), (3, u "IOOBE_FORMATTER"), (41, u "(IILjava/util/function/BiFunction;)I")] 15

def k9m0 : Method := { name := "<init>", desc := "()V", sig := { parameters := [], returnType := none }, accessFlags := 1, code := none }
def k9c1 : Code := { maxStack := 3, maxLocals := 3, code := jdk_41_method_11_code, exceptionTable := #[], attributes := #[] }
def k9m1 : Method := { name := "checkIndex", desc := "(IILjava/util/function/BiFunction;)I", sig := { parameters := [.int, .int, (.object "java/util/function/BiFunction")], returnType := some .int }, accessFlags := 9, code := some k9c1 }
/-- jdk/internal/util/Preconditions -/
def k9 : Class := { plain "jdk/internal/util/Preconditions" (some 0) with
  accessFlags := 33
  interfaces := #[]
  cf := some (fileOf pool9 24 #[.nestMembers #[55, 131, 125, 114]] #[{ accessFlags := 1, nameIndex := 5, descriptorIndex := 6, attributes := #[] }, { accessFlags := 9, nameIndex := 33, descriptorIndex := 178, attributes := #[] }] 33 2 #[] #[{ accessFlags := 25, nameIndex := 123, descriptorIndex := 124, attributes := #[] }, { accessFlags := 25, nameIndex := 130, descriptorIndex := 124, attributes := #[] }, { accessFlags := 25, nameIndex := 136, descriptorIndex := 124, attributes := #[] }])
  fields := #[{ name := "SIOOBE_FORMATTER", type := (.object "java/util/function/BiFunction"), accessFlags := 25, slot := 0, constantValue := 0 }, { name := "AIOOBE_FORMATTER", type := (.object "java/util/function/BiFunction"), accessFlags := 25, slot := 1, constantValue := 0 }, { name := "IOOBE_FORMATTER", type := (.object "java/util/function/BiFunction"), accessFlags := 25, slot := 2, constantValue := 0 }]
  methods := #[k9m0, k9m1]
  instanceTypes := #[]
  staticTypes := #[(.object "java/util/function/BiFunction"), (.object "java/util/function/BiFunction"), (.object "java/util/function/BiFunction")]
  resolved := Array.replicate 194 none
  statics := some 1 }

def pool10 : Array CpInfo := pool [(6, .class_ 8), (1, u "java/lang/Object"), (0, u "<init>"), (0, u "()V"), (1, .class_ 14), (1, u "java/lang/StringUTF16"), (31, u "$assertionsDisabled"), (0, u "Z"), (13, u "HI_BYTE_SHIFT"), (0, u "I"), (2, u "LO_BYTE_SHIFT"), (49, .methodref 12 116), (0, .nameAndType 117 118), (0, u "compress"), (0, u "([CI[BII)I"), (3, u "([CII)[B"), (138, u "coderFromArrayLen"), (0, u "([BI)B"), (106, .class_ 371), (1, u "java/lang/StringUTF16$LinesSpliterator"), (58, u "MAX_LENGTH"), (196, .class_ 628), (0, u "java/lang/StringUTF16$CodePointsSpliterator"), (0, .class_ 630), (0, u "java/lang/StringUTF16$CharsSpliterator")] 4

def k10m0 : Method := { name := "<init>", desc := "()V", sig := { parameters := [], returnType := none }, accessFlags := 0, code := none }
def k10c1 : Code := { maxStack := 2, maxLocals := 2, code := jdk_52_method_15_code, exceptionTable := #[], attributes := #[] }
def k10m1 : Method := { name := "coderFromArrayLen", desc := "([BI)B", sig := { parameters := [(.array .byte), .int], returnType := some .byte }, accessFlags := 8, code := some k10c1 }
def k10c2 : Code := { maxStack := 5, maxLocals := 6, code := jdk_52_method_16_code, exceptionTable := #[], attributes := #[] }
def k10m2 : Method := { name := "compress", desc := "([CII)[B", sig := { parameters := [(.array .char), .int, .int], returnType := some (.array .byte) }, accessFlags := 9, code := some k10c2 }
def k10c3 : Code := { maxStack := 3, maxLocals := 7, code := jdk_52_method_21_code, exceptionTable := #[], attributes := #[] }
def k10m3 : Method := { name := "compress", desc := "([CI[BII)I", sig := { parameters := [(.array .char), .int, (.array .byte), .int, .int], returnType := some .int }, accessFlags := 9, code := some k10c3 }
/-- java/lang/StringUTF16 -/
def k10 : Class := { plain "java/lang/StringUTF16" (some 0) with
  accessFlags := 48
  interfaces := #[]
  cf := some (fileOf pool10 12 #[.nestMembers #[627, 629, 369]] #[{ accessFlags := 0, nameIndex := 9, descriptorIndex := 10, attributes := #[] }, { accessFlags := 8, nameIndex := 261, descriptorIndex := 262, attributes := #[] }, { accessFlags := 9, nameIndex := 117, descriptorIndex := 122, attributes := #[] }, { accessFlags := 9, nameIndex := 117, descriptorIndex := 118, attributes := #[] }] 48 6 #[] #[{ accessFlags := 26, nameIndex := 61, descriptorIndex := 62, attributes := #[] }, { accessFlags := 26, nameIndex := 65, descriptorIndex := 62, attributes := #[] }, { accessFlags := 24, nameIndex := 430, descriptorIndex := 62, attributes := #[] }, { accessFlags := 4120, nameIndex := 46, descriptorIndex := 47, attributes := #[] }])
  fields := #[{ name := "HI_BYTE_SHIFT", type := .int, accessFlags := 26, slot := 0, constantValue := 0 }, { name := "LO_BYTE_SHIFT", type := .int, accessFlags := 26, slot := 1, constantValue := 0 }, { name := "MAX_LENGTH", type := .int, accessFlags := 24, slot := 2, constantValue := 0 }, { name := "$assertionsDisabled", type := .boolean, accessFlags := 4120, slot := 3, constantValue := 0 }]
  methods := #[k10m0, k10m1, k10m2, k10m3]
  instanceTypes := #[]
  staticTypes := #[.int, .int, .int, .boolean]
  resolved := Array.replicate 635 none
  statics := none }

def pool11 : Array CpInfo := pool [(2, .class_ 4), (1, u "java/lang/Enum"), (0, u "name"), (0, u "Ljava/lang/String;"), (2, u "ordinal"), (0, u "I"), (1, .class_ 14), (1, u "java/lang/Object"), (4, u "hash"), (86, .class_ 108), (1, u "java/lang/Enum$EnumDesc"), (2, .class_ 112), (0, u "java/lang/constant/Constable"), (0, .class_ 114), (0, u "java/lang/Comparable"), (0, .class_ 116), (0, u "java/io/Serializable")] 87

/-- java/lang/Enum -/
def k11 : Class := { plain "java/lang/Enum" (some 0) with
  accessFlags := 1057
  interfaces := #[5, 3, 2]
  cf := some (fileOf pool11 2 #[.nestMembers #[106]] #[] 1057 12 #[111, 113, 115] #[{ accessFlags := 18, nameIndex := 5, descriptorIndex := 6, attributes := #[] }, { accessFlags := 18, nameIndex := 9, descriptorIndex := 10, attributes := #[] }, { accessFlags := 2, nameIndex := 19, descriptorIndex := 10, attributes := #[] }])
  fields := #[{ name := "name", type := (.object "java/lang/String"), accessFlags := 18, slot := 0, constantValue := 0 }, { name := "ordinal", type := .int, accessFlags := 18, slot := 1, constantValue := 0 }, { name := "hash", type := .int, accessFlags := 2, slot := 2, constantValue := 0 }]
  methods := #[]
  instanceTypes := #[(.object "java/lang/String"), .int, .int]
  staticTypes := #[]
  resolved := Array.replicate 204 none
  statics := none }

def pool12 : Array CpInfo := pool [(1, .class_ 2), (0, u "com/example/unified_lexicon/unifiedlexicon/core/Profile$Kind"), (2, u "CLASS"), (0, u "Lcom/example/unified_lexicon/unifiedlexicon/core/Profile$Kind;"), (2, u "PROPERTY"), (0, .fieldref 1 11), (0, .nameAndType 12 13), (0, u "$VALUES"), (0, u "[Lcom/example/unified_lexicon/unifiedlexicon/core/Profile$Kind;"), (0, .methodref 15 16), (0, .class_ 13), (0, .nameAndType 17 18), (0, u "clone"), (0, u "()Ljava/lang/Object;"), (1, .class_ 22), (1, u "java/lang/Enum"), (6, .fieldref 1 30), (0, .nameAndType 31 32), (0, u "written"), (0, u "Ljava/lang/String;"), (0, .methodref 1 34), (0, .nameAndType 35 36), (0, u "values"), (0, u "()[Lcom/example/unified_lexicon/unifiedlexicon/core/Profile$Kind;"), (0, .methodref 38 39), (0, .class_ 40), (0, .nameAndType 41 42), (0, u "java/lang/String"), (0, u "equals"), (0, u "(Ljava/lang/Object;)Z"), (0, .methodref 44 45), (0, .class_ 46), (0, .nameAndType 47 48), (0, u "java/util/Optional"), (0, u "of"), (0, u "(Ljava/lang/Object;)Ljava/util/Optional;"), (0, .methodref 44 50), (0, .nameAndType 51 52), (0, u "empty"), (0, u "()Ljava/util/Optional;"), (19, u "ofWritten"), (0, u "(Ljava/lang/String;)Ljava/util/Optional;"), (8, .class_ 83), (0, u "com/example/unified_lexicon/unifiedlexicon/core/Profile")] 2

def k12c0 : Code := { maxStack := 1, maxLocals := 0, code := prog_20_method_1_code, exceptionTable := #[], attributes := #[] }
def k12m0 : Method := { name := "values", desc := "()[Lcom/example/unified_lexicon/unifiedlexicon/core/Profile$Kind;", sig := { parameters := [], returnType := some (.array (.object "com/example/unified_lexicon/unifiedlexicon/core/Profile$Kind")) }, accessFlags := 9, code := some k12c0 }
def k12c1 : Code := { maxStack := 2, maxLocals := 5, code := prog_20_method_5_code, exceptionTable := #[], attributes := #[] }
def k12m1 : Method := { name := "ofWritten", desc := "(Ljava/lang/String;)Ljava/util/Optional;", sig := { parameters := [(.object "java/lang/String")], returnType := some (.object "java/util/Optional") }, accessFlags := 8, code := some k12c1 }
/-- com/example/unified_lexicon/unifiedlexicon/core/Profile$Kind -/
def k12 : Class := { plain "com/example/unified_lexicon/unifiedlexicon/core/Profile$Kind" (some 11) with
  accessFlags := 16433
  interfaces := #[]
  cf := some (fileOf pool12 1 #[.nestHost 82] #[{ accessFlags := 9, nameIndex := 35, descriptorIndex := 36, attributes := #[] }, { accessFlags := 8, nameIndex := 72, descriptorIndex := 73, attributes := #[] }] 16433 20 #[] #[{ accessFlags := 16409, nameIndex := 5, descriptorIndex := 6, attributes := #[] }, { accessFlags := 16409, nameIndex := 9, descriptorIndex := 6, attributes := #[] }, { accessFlags := 18, nameIndex := 31, descriptorIndex := 32, attributes := #[] }, { accessFlags := 4122, nameIndex := 12, descriptorIndex := 13, attributes := #[] }])
  fields := #[{ name := "CLASS", type := (.object "com/example/unified_lexicon/unifiedlexicon/core/Profile$Kind"), accessFlags := 16409, slot := 0, constantValue := 0 }, { name := "PROPERTY", type := (.object "com/example/unified_lexicon/unifiedlexicon/core/Profile$Kind"), accessFlags := 16409, slot := 1, constantValue := 0 }, { name := "written", type := (.object "java/lang/String"), accessFlags := 18, slot := 3, constantValue := 0 }, { name := "$VALUES", type := (.array (.object "com/example/unified_lexicon/unifiedlexicon/core/Profile$Kind")), accessFlags := 4122, slot := 2, constantValue := 0 }]
  methods := #[k12m0, k12m1]
  instanceTypes := #[(.object "java/lang/String"), .int, .int, (.object "java/lang/String")]
  staticTypes := #[(.object "com/example/unified_lexicon/unifiedlexicon/core/Profile$Kind"), (.object "com/example/unified_lexicon/unifiedlexicon/core/Profile$Kind"), (.array (.object "com/example/unified_lexicon/unifiedlexicon/core/Profile$Kind"))]
  resolved := Array.replicate 86 none
  statics := some 2 }

def pool13 : Array CpInfo := pool [(1, .class_ 2), (0, u "java/lang/Cloneable"), (0, .class_ 4), (0, u "java/lang/Object")] 2

/-- java/lang/Cloneable -/
def k13 : Class := { plain "java/lang/Cloneable" (some 0) with
  accessFlags := 1537
  interfaces := #[]
  cf := some (fileOf pool13 1 #[] #[] 1537 3 #[] #[])
  fields := #[]
  methods := #[]
  instanceTypes := #[]
  staticTypes := #[]
  resolved := Array.replicate 7 none
  statics := none }

def pool14 : Array CpInfo := pool [(1, .fieldref 2 3), (0, .class_ 4), (0, .nameAndType 5 6), (0, u "java/util/Optional"), (0, u "EMPTY"), (0, u "Ljava/util/Optional;"), (0, .methodref 8 9), (0, .class_ 10), (0, .nameAndType 11 12), (0, u "java/lang/Object"), (0, u "<init>"), (0, u "()V"), (0, .fieldref 2 14), (0, .nameAndType 15 16), (0, u "value"), (0, u "Ljava/lang/Object;"), (0, .methodref 18 19), (0, .class_ 20), (0, .nameAndType 21 22), (0, u "java/util/Objects"), (0, u "requireNonNull"), (0, u "(Ljava/lang/Object;)Ljava/lang/Object;"), (0, .methodref 2 24), (0, .nameAndType 11 25), (0, u "(Ljava/lang/Object;)V"), (20, u "()Z"), (8, u "empty"), (0, u "()Ljava/util/Optional;"), (8, u "(Ljava/lang/Object;)Ljava/util/Optional;"), (2, u "isPresent"), (4, u "get"), (0, u "()Ljava/lang/Object;"), (7, u "of")] 104

def k14c0 : Code := { maxStack := 1, maxLocals := 1, code := jdk_32_method_1_code, exceptionTable := #[], attributes := #[] }
def k14m0 : Method := { name := "empty", desc := "()Ljava/util/Optional;", sig := { parameters := [], returnType := some (.object "java/util/Optional") }, accessFlags := 9, code := some k14c0 }
def k14c1 : Code := { maxStack := 2, maxLocals := 2, code := jdk_32_method_2_code, exceptionTable := #[], attributes := #[] }
def k14m1 : Method := { name := "<init>", desc := "(Ljava/lang/Object;)V", sig := { parameters := [(.object "java/lang/Object")], returnType := none }, accessFlags := 2, code := some k14c1 }
def k14c2 : Code := { maxStack := 3, maxLocals := 1, code := jdk_32_method_3_code, exceptionTable := #[], attributes := #[] }
def k14m2 : Method := { name := "of", desc := "(Ljava/lang/Object;)Ljava/util/Optional;", sig := { parameters := [(.object "java/lang/Object")], returnType := some (.object "java/util/Optional") }, accessFlags := 9, code := some k14c2 }
def k14c3 : Code := { maxStack := 3, maxLocals := 1, code := jdk_32_method_5_code, exceptionTable := #[], attributes := #[] }
def k14m3 : Method := { name := "get", desc := "()Ljava/lang/Object;", sig := { parameters := [], returnType := some (.object "java/lang/Object") }, accessFlags := 1, code := some k14c3 }
def k14c4 : Code := { maxStack := 1, maxLocals := 1, code := jdk_32_method_6_code, exceptionTable := #[], attributes := #[] }
def k14m4 : Method := { name := "isPresent", desc := "()Z", sig := { parameters := [], returnType := some .boolean }, accessFlags := 1, code := some k14c4 }
/-- java/util/Optional -/
def k14 : Class := { plain "java/util/Optional" (some 0) with
  accessFlags := 49
  interfaces := #[]
  cf := some (fileOf pool14 2 #[] #[{ accessFlags := 9, nameIndex := 55, descriptorIndex := 56, attributes := #[] }, { accessFlags := 2, nameIndex := 11, descriptorIndex := 25, attributes := #[] }, { accessFlags := 9, nameIndex := 82, descriptorIndex := 65, attributes := #[] }, { accessFlags := 1, nameIndex := 73, descriptorIndex := 74, attributes := #[] }, { accessFlags := 1, nameIndex := 68, descriptorIndex := 46, attributes := #[] }] 49 8 #[] #[{ accessFlags := 26, nameIndex := 5, descriptorIndex := 6, attributes := #[] }, { accessFlags := 18, nameIndex := 15, descriptorIndex := 16, attributes := #[] }])
  fields := #[{ name := "EMPTY", type := (.object "java/util/Optional"), accessFlags := 26, slot := 0, constantValue := 0 }, { name := "value", type := (.object "java/lang/Object"), accessFlags := 18, slot := 0, constantValue := 0 }]
  methods := #[k14m0, k14m1, k14m2, k14m3, k14m4]
  instanceTypes := #[(.object "java/lang/Object")]
  staticTypes := #[(.object "java/util/Optional")]
  resolved := Array.replicate 187 none
  statics := some 3 }

def pool15 : Array CpInfo := pool [(2, .class_ 4), (1, u "java/lang/Object"), (0, u "<init>"), (0, u "()V"), (35, .class_ 44), (1, u "java/util/Objects"), (0, u "requireNonNull"), (0, u "(Ljava/lang/Object;)Ljava/lang/Object;")] 137

def k15m0 : Method := { name := "<init>", desc := "()V", sig := { parameters := [], returnType := none }, accessFlags := 2, code := none }
def k15c1 : Code := { maxStack := 2, maxLocals := 1, code := jdk_31_method_10_code, exceptionTable := #[], attributes := #[] }
def k15m1 : Method := { name := "requireNonNull", desc := "(Ljava/lang/Object;)Ljava/lang/Object;", sig := { parameters := [(.object "java/lang/Object")], returnType := some (.object "java/lang/Object") }, accessFlags := 9, code := some k15c1 }
/-- java/util/Objects -/
def k15 : Class := { plain "java/util/Objects" (some 0) with
  accessFlags := 49
  interfaces := #[]
  cf := some (fileOf pool15 42 #[] #[{ accessFlags := 2, nameIndex := 5, descriptorIndex := 6, attributes := #[] }, { accessFlags := 9, nameIndex := 45, descriptorIndex := 46, attributes := #[] }] 49 2 #[] #[])
  fields := #[]
  methods := #[k15m0, k15m1]
  instanceTypes := #[]
  staticTypes := #[]
  resolved := Array.replicate 184 none
  statics := none }

def pool16 : Array CpInfo := pool [(9, u "<init>"), (6, .class_ 18), (1, u "java/lang/Object"), (0, u "()V"), (1, .class_ 23), (1, u "jdk/internal/util/ArraysSupport"), (0, u "LOG2_ARRAY_LONG_INDEX_SCALE"), (0, u "I"), (2, u "U"), (0, u "Ljdk/internal/misc/Unsafe;"), (8, u "BIG_ENDIAN"), (0, u "Z"), (8, u "LOG2_BYTE_BIT_SIZE"), (4, u "LOG2_ARRAY_INT_INDEX_SCALE"), (54, u "JLA"), (0, u "Ljdk/internal/access/JavaLangAccess;"), (11, u "LOG2_ARRAY_BOOLEAN_INDEX_SCALE"), (9, u "LOG2_ARRAY_BYTE_INDEX_SCALE"), (5, u "LOG2_ARRAY_CHAR_INDEX_SCALE"), (5, u "LOG2_ARRAY_SHORT_INDEX_SCALE"), (18, u "LOG2_ARRAY_FLOAT_INDEX_SCALE"), (24, u "LOG2_ARRAY_DOUBLE_INDEX_SCALE"), (89, u "T_BOOLEAN"), (2, u "T_CHAR"), (1, u "T_FLOAT"), (1, u "T_DOUBLE"), (1, u "T_BYTE"), (1, u "T_SHORT"), (1, u "T_INT"), (1, u "T_LONG"), (1, u "SOFT_MAX_ARRAY_LENGTH")] 83

def k16m0 : Method := { name := "<init>", desc := "()V", sig := { parameters := [], returnType := none }, accessFlags := 2, code := none }
/-- jdk/internal/util/ArraysSupport -/
def k16 : Class := { plain "jdk/internal/util/ArraysSupport" (some 0) with
  accessFlags := 33
  interfaces := #[]
  cf := some (fileOf pool16 21 #[] #[{ accessFlags := 2, nameIndex := 9, descriptorIndex := 19, attributes := #[] }] 33 16 #[] #[{ accessFlags := 24, nameIndex := 28, descriptorIndex := 29, attributes := #[] }, { accessFlags := 26, nameIndex := 38, descriptorIndex := 39, attributes := #[] }, { accessFlags := 25, nameIndex := 121, descriptorIndex := 25, attributes := #[] }, { accessFlags := 25, nameIndex := 131, descriptorIndex := 25, attributes := #[] }, { accessFlags := 25, nameIndex := 137, descriptorIndex := 25, attributes := #[] }, { accessFlags := 25, nameIndex := 143, descriptorIndex := 25, attributes := #[] }, { accessFlags := 25, nameIndex := 53, descriptorIndex := 25, attributes := #[] }, { accessFlags := 25, nameIndex := 24, descriptorIndex := 25, attributes := #[] }, { accessFlags := 25, nameIndex := 162, descriptorIndex := 25, attributes := #[] }, { accessFlags := 25, nameIndex := 187, descriptorIndex := 25, attributes := #[] }, { accessFlags := 26, nameIndex := 48, descriptorIndex := 25, attributes := #[] }, { accessFlags := 25, nameIndex := 277, descriptorIndex := 25, attributes := #[] }, { accessFlags := 25, nameIndex := 280, descriptorIndex := 25, attributes := #[] }, { accessFlags := 25, nameIndex := 282, descriptorIndex := 25, attributes := #[] }, { accessFlags := 25, nameIndex := 284, descriptorIndex := 25, attributes := #[] }, { accessFlags := 25, nameIndex := 286, descriptorIndex := 25, attributes := #[] }, { accessFlags := 25, nameIndex := 288, descriptorIndex := 25, attributes := #[] }, { accessFlags := 25, nameIndex := 290, descriptorIndex := 25, attributes := #[] }, { accessFlags := 25, nameIndex := 292, descriptorIndex := 25, attributes := #[] }, { accessFlags := 26, nameIndex := 108, descriptorIndex := 109, attributes := #[] }, { accessFlags := 25, nameIndex := 294, descriptorIndex := 25, attributes := #[] }])
  fields := #[{ name := "U", type := (.object "jdk/internal/misc/Unsafe"), accessFlags := 24, slot := 0, constantValue := 0 }, { name := "BIG_ENDIAN", type := .boolean, accessFlags := 26, slot := 1, constantValue := 0 }, { name := "LOG2_ARRAY_BOOLEAN_INDEX_SCALE", type := .int, accessFlags := 25, slot := 2, constantValue := 0 }, { name := "LOG2_ARRAY_BYTE_INDEX_SCALE", type := .int, accessFlags := 25, slot := 3, constantValue := 0 }, { name := "LOG2_ARRAY_CHAR_INDEX_SCALE", type := .int, accessFlags := 25, slot := 4, constantValue := 0 }, { name := "LOG2_ARRAY_SHORT_INDEX_SCALE", type := .int, accessFlags := 25, slot := 5, constantValue := 0 }, { name := "LOG2_ARRAY_INT_INDEX_SCALE", type := .int, accessFlags := 25, slot := 6, constantValue := 0 }, { name := "LOG2_ARRAY_LONG_INDEX_SCALE", type := .int, accessFlags := 25, slot := 7, constantValue := 0 }, { name := "LOG2_ARRAY_FLOAT_INDEX_SCALE", type := .int, accessFlags := 25, slot := 8, constantValue := 0 }, { name := "LOG2_ARRAY_DOUBLE_INDEX_SCALE", type := .int, accessFlags := 25, slot := 9, constantValue := 0 }, { name := "LOG2_BYTE_BIT_SIZE", type := .int, accessFlags := 26, slot := 10, constantValue := 0 }, { name := "T_BOOLEAN", type := .int, accessFlags := 25, slot := 11, constantValue := 0 }, { name := "T_CHAR", type := .int, accessFlags := 25, slot := 12, constantValue := 0 }, { name := "T_FLOAT", type := .int, accessFlags := 25, slot := 13, constantValue := 0 }, { name := "T_DOUBLE", type := .int, accessFlags := 25, slot := 14, constantValue := 0 }, { name := "T_BYTE", type := .int, accessFlags := 25, slot := 15, constantValue := 0 }, { name := "T_SHORT", type := .int, accessFlags := 25, slot := 16, constantValue := 0 }, { name := "T_INT", type := .int, accessFlags := 25, slot := 17, constantValue := 0 }, { name := "T_LONG", type := .int, accessFlags := 25, slot := 18, constantValue := 0 }, { name := "JLA", type := (.object "jdk/internal/access/JavaLangAccess"), accessFlags := 26, slot := 19, constantValue := 0 }, { name := "SOFT_MAX_ARRAY_LENGTH", type := .int, accessFlags := 25, slot := 20, constantValue := 0 }]
  methods := #[k16m0]
  instanceTypes := #[]
  staticTypes := #[(.object "jdk/internal/misc/Unsafe"), .boolean, .int, .int, .int, .int, .int, .int, .int, .int, .int, .int, .int, .int, .int, .int, .int, .int, .int, (.object "jdk/internal/access/JavaLangAccess"), .int]
  resolved := Array.replicate 378 none
  statics := none }

/-- the primitive byte -/
def k17 : Class := { plain "byte" none with kind := .primitive 'B', accessFlags := 0x411 }
/-- [B -/
def k18 : Class := { plain "[B" (some 0) with kind := .array 17 .byte, interfaces := #[13, 2], accessFlags := 1041 }

/-- the primitive char -/
def k19 : Class := { plain "char" none with kind := .primitive 'C', accessFlags := 0x411 }
/-- [C -/
def k20 : Class := { plain "[C" (some 0) with kind := .array 19 .char, interfaces := #[13, 2], accessFlags := 1041 }

/-- the primitive int -/
def k21 : Class := { plain "int" none with kind := .primitive 'I', accessFlags := 0x411 }
/-- [I -/
def k22 : Class := { plain "[I" (some 0) with kind := .array 21 .int, interfaces := #[13, 2], accessFlags := 1041 }

/-- [Lcom/example/unified_lexicon/unifiedlexicon/core/Profile$Kind; -/
def k23 : Class := { plain "[Lcom/example/unified_lexicon/unifiedlexicon/core/Profile$Kind;" (some 0) with kind := .array 12 (.object "com/example/unified_lexicon/unifiedlexicon/core/Profile$Kind"), interfaces := #[13, 2], accessFlags := 1041 }

def heap : Heap := #[{ cls := 7, slots := #[.long 0, .int 1, .null, .int 0, .null, .int 0, .int 0], vm := .statics 7 },
  { cls := 9, slots := #[.null, .null, .null], vm := .statics 9 },
  { cls := 12, slots := #[.ref 9, .ref 10, .ref 4], vm := .statics 12 },
  { cls := 14, slots := #[.ref 11], vm := .statics 14 },
  { cls := 23, slots := #[.ref 9, .ref 10], vm := .none },
  { cls := 18, slots := #[.int 67, .int 108, .int 97, .int 115, .int 115], vm := .none },
  { cls := 18, slots := #[.int 80, .int 114, .int 111, .int 112, .int 101, .int 114, .int 116, .int 121], vm := .none },
  { cls := 7, slots := #[.ref 5, .int 0, .int 0, .int 0], vm := .none },
  { cls := 7, slots := #[.ref 6, .int 0, .int 0, .int 0], vm := .none },
  { cls := 12, slots := #[.null, .int 0, .int 0, .ref 7], vm := .none },
  { cls := 12, slots := #[.null, .int 1, .int 0, .ref 8], vm := .none },
  { cls := 14, slots := #[.null], vm := .none }]
def classes : Array Class := #[k0, k1, k2, k3, k4, k5, k6, k7, k8, k9, k10, k11, k12, k13, k14, k15, k16, k17, k18, k19, k20, k21, k22, k23]
def interned : List (Array UInt16 × Addr) := []
def slotsUsed : Nat := 46
def theMethod : MethodId := ⟨1, 1⟩
def args0 : Array Value := #[.int 5, .int 6, .int 7, .int 8, .int 9]
def aboutOver (below : List Frame) : State where
  vm := { classes := classes, interned := interned.toArray }
  heap := heap
  slotsUsed := slotsUsed
  threads := #[{ frames := .invoking theMethod args0 :: below }]
def below0 : List Frame := [.native { method := ⟨0, 0⟩, args := #[] }]
def about1 : State := aboutOver below0
def p0 : Program := .bare "" "" ""
def e0 : Env := launch0.env 0 0 0
theorem w_frames : about1.frames = Frame.invoking theMethod args0 :: below0 := rfl
set_option maxRecDepth 65536 in
theorem w_args : argsFit about1.vm theMethod args0 = true := by decide +kernel
set_option maxRecDepth 65536 in
theorem w_heap : heapFits about1 = true := by decide +kernel
set_option maxRecDepth 65536 in
theorem w_runnable : about1.curStatus? = some .runnable := by decide +kernel
set_option maxRecDepth 65536 in
theorem w_alone : about1.alone = true := by decide +kernel
set_option maxRecDepth 65536 in
theorem w_named : about1.methodNamed? x = some theMethod := by decide +kernel
set_option maxRecDepth 65536 in
theorem w_hears : about1.hears theMethod below0 = true := by decide +kernel
set_option maxRecDepth 65536 in
theorem w_ripe : about1.ripe theMethod args0 below0 = true := by decide +kernel
theorem w_running : about1.status = .running := rfl
set_option maxRecDepth 65536 in
theorem w_room : about1.hasRoom e0.platform room_1 = true :=
  launch0.hasRoom_least _ room_1 (by decide +kernel) (by decide +kernel) (by decide +kernel) (by decide +kernel) (by decide +kernel) (by decide +kernel)
theorem allAtoms_all (ts : List Jvm.Cond) (a : Array Jvm.Value) (st : Jvm.State) : (allAtoms ts).before a st = ts.all (fun c => c.before a st) := by
  induction ts with
  | nil => rfl
  | cons c t ih =>
    show (Jvm.Cond.and c (allAtoms t)).before a st = _
    rw [Jvm.Cond.before_and, ih, List.all_cons]
def words1 : List Jvm.Cond := Jvm.Cond.code x code maxLocals ret :: tables_1
/-- a 'code' word, met by the world's own term for the bytes: nothing is compared byte by byte -/
theorem code_word {y : MethodName} {bytes : ByteArray} {mx : Nat} {rt : Option FieldType} {a : Array Value} {s : State} {m : MethodId} {meth : Method} {c : Code} (h1 : s.methodNamed? y = some m) (h2 : s.vm.method? m = some meth) (h3 : meth.code = some c) (h4 : c.code = bytes)
    (h5 : (c.maxLocals == mx && c.exceptionTable.isEmpty && decide (c.maxStack ≤ mostOperands) && decide (meth.sig.returnType = rt) && !meth.locks && decide (parseMethodDescriptor y.desc = some meth.sig)) = true) : (Jvm.Cond.code y bytes mx rt).before a s = true := by
  simp only [Bool.and_eq_true, beq_iff_eq, Bool.not_eq_true', decide_eq_true_eq] at h5
  obtain ⟨⟨⟨⟨⟨g1, g2⟩, g3⟩, g4⟩, g5⟩, g6⟩ := h5
  simp [Cond.before, Cond.holds, Cond.value, h1, h2, h3, h4, g1, g2, g3, g4, g5, g6]
def isCode : Jvm.Cond → Bool
  | .code _ _ _ _ => true
  | _ => false
theorem all_split {L : List Jvm.Cond} {P : Jvm.Cond → Bool} (h1 : L.all (fun c => isCode c || P c) = true) (h2 : ∀ c ∈ L.filter isCode, P c = true) : L.all P = true := by
  refine List.all_eq_true.mpr fun c hc => ?_
  have h := List.all_eq_true.mp h1 c hc
  rcases Bool.eq_false_or_eq_true (isCode c) with hi | hi
  · exact h2 c (List.mem_filter.mpr ⟨hc, hi⟩)
  · simpa [hi] using h
set_option maxRecDepth 65536 in
theorem w_c0 : (Jvm.Cond.code x code maxLocals ret).before args0 about1 = true := code_word (m := ⟨1, 1⟩) (meth := k1m1) (c := k1c1) (by decide +kernel) rfl rfl rfl (by decide +kernel)
set_option maxRecDepth 65536 in
theorem w_c1 : (Jvm.Cond.code ({ cls := "java/lang/String", name := "length", desc := "()I" } : Jvm.MethodName) jdk_42_method_54_code (1 : Nat) (Option.some Jvm.ClassFile.FieldType.int)).before args0 about1 = true := code_word (m := ⟨7, 2⟩) (meth := k7m2) (c := k7c2) (by decide +kernel) rfl rfl rfl (by decide +kernel)
set_option maxRecDepth 65536 in
theorem w_c2 : (Jvm.Cond.code ({ cls := "java/lang/String", name := "coder", desc := "()B" } : Jvm.MethodName) jdk_42_method_152_code (1 : Nat) (Option.some Jvm.ClassFile.FieldType.byte)).before args0 about1 = true := code_word (m := ⟨7, 6⟩) (meth := k7m6) (c := k7c6) (by decide +kernel) rfl rfl rfl (by decide +kernel)
set_option maxRecDepth 65536 in
theorem w_c3 : (Jvm.Cond.code ({ cls := "com/example/unified_lexicon/unifiedlexicon/core/KindOfWrittenPinLaw", name := "at", desc := "(Ljava/lang/String;IC)C" } : Jvm.MethodName) method_3_code (3 : Nat) (Option.some Jvm.ClassFile.FieldType.char)).before args0 about1 = true := code_word (m := ⟨1, 2⟩) (meth := k1m2) (c := k1c2) (by decide +kernel) rfl rfl rfl (by decide +kernel)
set_option maxRecDepth 65536 in
theorem w_c4 : (Jvm.Cond.code ({ cls := "java/lang/String", name := "charAt", desc := "(I)C" } : Jvm.MethodName) jdk_42_method_56_code (2 : Nat) (Option.some Jvm.ClassFile.FieldType.char)).before args0 about1 = true := code_word (m := ⟨7, 3⟩) (meth := k7m3) (c := k7c3) (by decide +kernel) rfl rfl rfl (by decide +kernel)
set_option maxRecDepth 65536 in
theorem w_c5 : (Jvm.Cond.code ({ cls := "java/lang/String", name := "isLatin1", desc := "()Z" } : Jvm.MethodName) jdk_42_method_154_code (1 : Nat) (Option.some Jvm.ClassFile.FieldType.boolean)).before args0 about1 = true := code_word (m := ⟨7, 7⟩) (meth := k7m7) (c := k7c7) (by decide +kernel) rfl rfl rfl (by decide +kernel)
set_option maxRecDepth 65536 in
theorem w_c6 : (Jvm.Cond.code ({ cls := "java/lang/StringLatin1", name := "charAt", desc := "([BI)C" } : Jvm.MethodName) jdk_43_method_2_code (2 : Nat) (Option.some Jvm.ClassFile.FieldType.char)).before args0 about1 = true := code_word (m := ⟨8, 1⟩) (meth := k8m1) (c := k8c1) (by decide +kernel) rfl rfl rfl (by decide +kernel)
set_option maxRecDepth 65536 in
theorem w_c7 : (Jvm.Cond.code ({ cls := "java/lang/String", name := "checkIndex", desc := "(II)V" } : Jvm.MethodName) jdk_42_method_155_code (2 : Nat) (Option.none : Option Jvm.ClassFile.FieldType)).before args0 about1 = true := code_word (m := ⟨7, 8⟩) (meth := k7m8) (c := k7c8) (by decide +kernel) rfl rfl rfl (by decide +kernel)
set_option maxRecDepth 65536 in
theorem w_c8 : (Jvm.Cond.code ({ cls := "jdk/internal/util/Preconditions", name := "checkIndex", desc := "(IILjava/util/function/BiFunction;)I" } : Jvm.MethodName) jdk_41_method_11_code (3 : Nat) (Option.some Jvm.ClassFile.FieldType.int)).before args0 about1 = true := code_word (m := ⟨9, 1⟩) (meth := k9m1) (c := k9c1) (by decide +kernel) rfl rfl rfl (by decide +kernel)
set_option maxRecDepth 65536 in
theorem w_c9 : (Jvm.Cond.code ({ cls := "com/example/unified_lexicon/unifiedlexicon/core/KindOfWrittenPinLaw", name := "str", desc := "([CI)Ljava/lang/String;" } : Jvm.MethodName) method_4_code (2 : Nat) (Option.some (Jvm.ClassFile.FieldType.object "java/lang/String"))).before args0 about1 = true := code_word (m := ⟨1, 3⟩) (meth := k1m3) (c := k1c3) (by decide +kernel) rfl rfl rfl (by decide +kernel)
set_option maxRecDepth 65536 in
theorem w_c10 : (Jvm.Cond.code ({ cls := "java/lang/String", name := "<init>", desc := "([C)V" } : Jvm.MethodName) jdk_42_method_3_code (2 : Nat) (Option.none : Option Jvm.ClassFile.FieldType)).before args0 about1 = true := code_word (m := ⟨7, 1⟩) (meth := k7m1) (c := k7c1) (by decide +kernel) rfl rfl rfl (by decide +kernel)
set_option maxRecDepth 65536 in
theorem w_c11 : (Jvm.Cond.code ({ cls := "java/lang/String", name := "<init>", desc := "([CIILjava/lang/Void;)V" } : Jvm.MethodName) jdk_42_method_149_code (6 : Nat) (Option.none : Option Jvm.ClassFile.FieldType)).before args0 about1 = true := code_word (m := ⟨7, 5⟩) (meth := k7m5) (c := k7c5) (by decide +kernel) rfl rfl rfl (by decide +kernel)
set_option maxRecDepth 65536 in
theorem w_c12 : (Jvm.Cond.code ({ cls := "java/lang/Object", name := "<init>", desc := "()V" } : Jvm.MethodName) object_method_1_code (1 : Nat) (Option.none : Option Jvm.ClassFile.FieldType)).before args0 about1 = true := code_word (m := ⟨0, 0⟩) (meth := k0m0) (c := k0c0) (by decide +kernel) rfl rfl rfl (by decide +kernel)
set_option maxRecDepth 65536 in
theorem w_c13 : (Jvm.Cond.code ({ cls := "java/lang/StringUTF16", name := "compress", desc := "([CII)[B" } : Jvm.MethodName) jdk_52_method_16_code (6 : Nat) (Option.some (Jvm.ClassFile.FieldType.array Jvm.ClassFile.FieldType.byte))).before args0 about1 = true := code_word (m := ⟨10, 2⟩) (meth := k10m2) (c := k10c2) (by decide +kernel) rfl rfl rfl (by decide +kernel)
set_option maxRecDepth 65536 in
theorem w_c14 : (Jvm.Cond.code ({ cls := "java/lang/StringUTF16", name := "compress", desc := "([CI[BII)I" } : Jvm.MethodName) jdk_52_method_21_code (7 : Nat) (Option.some Jvm.ClassFile.FieldType.int)).before args0 about1 = true := code_word (m := ⟨10, 3⟩) (meth := k10m3) (c := k10c3) (by decide +kernel) rfl rfl rfl (by decide +kernel)
set_option maxRecDepth 65536 in
theorem w_c15 : (Jvm.Cond.code ({ cls := "java/lang/StringUTF16", name := "coderFromArrayLen", desc := "([BI)B" } : Jvm.MethodName) jdk_52_method_15_code (2 : Nat) (Option.some Jvm.ClassFile.FieldType.byte)).before args0 about1 = true := code_word (m := ⟨10, 1⟩) (meth := k10m1) (c := k10c1) (by decide +kernel) rfl rfl rfl (by decide +kernel)
set_option maxRecDepth 65536 in
theorem w_c16 : (Jvm.Cond.code ({ cls := "java/lang/String", name := "equals", desc := "(Ljava/lang/Object;)Z" } : Jvm.MethodName) jdk_42_method_66_code (3 : Nat) (Option.some Jvm.ClassFile.FieldType.boolean)).before args0 about1 = true := code_word (m := ⟨7, 4⟩) (meth := k7m4) (c := k7c4) (by decide +kernel) rfl rfl rfl (by decide +kernel)
set_option maxRecDepth 65536 in
theorem w_c17 : (Jvm.Cond.code ({ cls := "java/lang/StringLatin1", name := "equals", desc := "([B[B)Z" } : Jvm.MethodName) jdk_43_method_13_code (3 : Nat) (Option.some Jvm.ClassFile.FieldType.boolean)).before args0 about1 = true := code_word (m := ⟨8, 2⟩) (meth := k8m2) (c := k8c2) (by decide +kernel) rfl rfl rfl (by decide +kernel)
set_option maxRecDepth 65536 in
theorem w_c18 : (Jvm.Cond.code ({ cls := "com/example/unified_lexicon/unifiedlexicon/core/Profile$Kind", name := "ofWritten", desc := "(Ljava/lang/String;)Ljava/util/Optional;" } : Jvm.MethodName) prog_20_method_5_code (5 : Nat) (Option.some (Jvm.ClassFile.FieldType.object "java/util/Optional"))).before args0 about1 = true := code_word (m := ⟨12, 1⟩) (meth := k12m1) (c := k12c1) (by decide +kernel) rfl rfl rfl (by decide +kernel)
set_option maxRecDepth 65536 in
theorem w_c19 : (Jvm.Cond.code ({ cls := "com/example/unified_lexicon/unifiedlexicon/core/Profile$Kind", name := "values", desc := "()[Lcom/example/unified_lexicon/unifiedlexicon/core/Profile$Kind;" } : Jvm.MethodName) prog_20_method_1_code (0 : Nat) (Option.some (Jvm.ClassFile.FieldType.array (Jvm.ClassFile.FieldType.object "com/example/unified_lexicon/unifiedlexicon/core/Profile$Kind")))).before args0 about1 = true := code_word (m := ⟨12, 0⟩) (meth := k12m0) (c := k12c0) (by decide +kernel) rfl rfl rfl (by decide +kernel)
set_option maxRecDepth 65536 in
theorem w_c20 : (Jvm.Cond.code ({ cls := "java/util/Optional", name := "empty", desc := "()Ljava/util/Optional;" } : Jvm.MethodName) jdk_32_method_1_code (1 : Nat) (Option.some (Jvm.ClassFile.FieldType.object "java/util/Optional"))).before args0 about1 = true := code_word (m := ⟨14, 0⟩) (meth := k14m0) (c := k14c0) (by decide +kernel) rfl rfl rfl (by decide +kernel)
set_option maxRecDepth 65536 in
theorem w_c21 : (Jvm.Cond.code ({ cls := "java/util/Optional", name := "isPresent", desc := "()Z" } : Jvm.MethodName) jdk_32_method_6_code (1 : Nat) (Option.some Jvm.ClassFile.FieldType.boolean)).before args0 about1 = true := code_word (m := ⟨14, 4⟩) (meth := k14m4) (c := k14c4) (by decide +kernel) rfl rfl rfl (by decide +kernel)
set_option maxRecDepth 65536 in
theorem w_c22 : (Jvm.Cond.code ({ cls := "java/util/Optional", name := "of", desc := "(Ljava/lang/Object;)Ljava/util/Optional;" } : Jvm.MethodName) jdk_32_method_3_code (1 : Nat) (Option.some (Jvm.ClassFile.FieldType.object "java/util/Optional"))).before args0 about1 = true := code_word (m := ⟨14, 2⟩) (meth := k14m2) (c := k14c2) (by decide +kernel) rfl rfl rfl (by decide +kernel)
set_option maxRecDepth 65536 in
theorem w_c23 : (Jvm.Cond.code ({ cls := "java/util/Objects", name := "requireNonNull", desc := "(Ljava/lang/Object;)Ljava/lang/Object;" } : Jvm.MethodName) jdk_31_method_10_code (1 : Nat) (Option.some (Jvm.ClassFile.FieldType.object "java/lang/Object"))).before args0 about1 = true := code_word (m := ⟨15, 1⟩) (meth := k15m1) (c := k15c1) (by decide +kernel) rfl rfl rfl (by decide +kernel)
set_option maxRecDepth 65536 in
theorem w_c24 : (Jvm.Cond.code ({ cls := "java/util/Optional", name := "<init>", desc := "(Ljava/lang/Object;)V" } : Jvm.MethodName) jdk_32_method_2_code (2 : Nat) (Option.none : Option Jvm.ClassFile.FieldType)).before args0 about1 = true := code_word (m := ⟨14, 1⟩) (meth := k14m1) (c := k14c1) (by decide +kernel) rfl rfl rfl (by decide +kernel)
set_option maxRecDepth 65536 in
theorem w_c25 : (Jvm.Cond.code ({ cls := "java/util/Optional", name := "get", desc := "()Ljava/lang/Object;" } : Jvm.MethodName) jdk_32_method_5_code (1 : Nat) (Option.some (Jvm.ClassFile.FieldType.object "java/lang/Object"))).before args0 about1 = true := code_word (m := ⟨14, 3⟩) (meth := k14m3) (c := k14c3) (by decide +kernel) rfl rfl rfl (by decide +kernel)
def codes1 : List Jvm.Cond := [Jvm.Cond.code x code maxLocals ret, Jvm.Cond.code ({ cls := "java/lang/String", name := "length", desc := "()I" } : Jvm.MethodName) jdk_42_method_54_code (1 : Nat) (Option.some Jvm.ClassFile.FieldType.int), Jvm.Cond.code ({ cls := "java/lang/String", name := "coder", desc := "()B" } : Jvm.MethodName) jdk_42_method_152_code (1 : Nat) (Option.some Jvm.ClassFile.FieldType.byte), Jvm.Cond.code ({ cls := "com/example/unified_lexicon/unifiedlexicon/core/KindOfWrittenPinLaw", name := "at", desc := "(Ljava/lang/String;IC)C" } : Jvm.MethodName) method_3_code (3 : Nat) (Option.some Jvm.ClassFile.FieldType.char), Jvm.Cond.code ({ cls := "java/lang/String", name := "charAt", desc := "(I)C" } : Jvm.MethodName) jdk_42_method_56_code (2 : Nat) (Option.some Jvm.ClassFile.FieldType.char), Jvm.Cond.code ({ cls := "java/lang/String", name := "isLatin1", desc := "()Z" } : Jvm.MethodName) jdk_42_method_154_code (1 : Nat) (Option.some Jvm.ClassFile.FieldType.boolean), Jvm.Cond.code ({ cls := "java/lang/StringLatin1", name := "charAt", desc := "([BI)C" } : Jvm.MethodName) jdk_43_method_2_code (2 : Nat) (Option.some Jvm.ClassFile.FieldType.char), Jvm.Cond.code ({ cls := "java/lang/String", name := "checkIndex", desc := "(II)V" } : Jvm.MethodName) jdk_42_method_155_code (2 : Nat) (Option.none : Option Jvm.ClassFile.FieldType), Jvm.Cond.code ({ cls := "jdk/internal/util/Preconditions", name := "checkIndex", desc := "(IILjava/util/function/BiFunction;)I" } : Jvm.MethodName) jdk_41_method_11_code (3 : Nat) (Option.some Jvm.ClassFile.FieldType.int), Jvm.Cond.code ({ cls := "com/example/unified_lexicon/unifiedlexicon/core/KindOfWrittenPinLaw", name := "str", desc := "([CI)Ljava/lang/String;" } : Jvm.MethodName) method_4_code (2 : Nat) (Option.some (Jvm.ClassFile.FieldType.object "java/lang/String")), Jvm.Cond.code ({ cls := "java/lang/String", name := "<init>", desc := "([C)V" } : Jvm.MethodName) jdk_42_method_3_code (2 : Nat) (Option.none : Option Jvm.ClassFile.FieldType), Jvm.Cond.code ({ cls := "java/lang/String", name := "<init>", desc := "([CIILjava/lang/Void;)V" } : Jvm.MethodName) jdk_42_method_149_code (6 : Nat) (Option.none : Option Jvm.ClassFile.FieldType), Jvm.Cond.code ({ cls := "java/lang/Object", name := "<init>", desc := "()V" } : Jvm.MethodName) object_method_1_code (1 : Nat) (Option.none : Option Jvm.ClassFile.FieldType), Jvm.Cond.code ({ cls := "java/lang/StringUTF16", name := "compress", desc := "([CII)[B" } : Jvm.MethodName) jdk_52_method_16_code (6 : Nat) (Option.some (Jvm.ClassFile.FieldType.array Jvm.ClassFile.FieldType.byte)), Jvm.Cond.code ({ cls := "java/lang/StringUTF16", name := "compress", desc := "([CI[BII)I" } : Jvm.MethodName) jdk_52_method_21_code (7 : Nat) (Option.some Jvm.ClassFile.FieldType.int), Jvm.Cond.code ({ cls := "java/lang/StringUTF16", name := "coderFromArrayLen", desc := "([BI)B" } : Jvm.MethodName) jdk_52_method_15_code (2 : Nat) (Option.some Jvm.ClassFile.FieldType.byte), Jvm.Cond.code ({ cls := "java/lang/String", name := "equals", desc := "(Ljava/lang/Object;)Z" } : Jvm.MethodName) jdk_42_method_66_code (3 : Nat) (Option.some Jvm.ClassFile.FieldType.boolean), Jvm.Cond.code ({ cls := "java/lang/StringLatin1", name := "equals", desc := "([B[B)Z" } : Jvm.MethodName) jdk_43_method_13_code (3 : Nat) (Option.some Jvm.ClassFile.FieldType.boolean), Jvm.Cond.code ({ cls := "com/example/unified_lexicon/unifiedlexicon/core/Profile$Kind", name := "ofWritten", desc := "(Ljava/lang/String;)Ljava/util/Optional;" } : Jvm.MethodName) prog_20_method_5_code (5 : Nat) (Option.some (Jvm.ClassFile.FieldType.object "java/util/Optional")), Jvm.Cond.code ({ cls := "com/example/unified_lexicon/unifiedlexicon/core/Profile$Kind", name := "values", desc := "()[Lcom/example/unified_lexicon/unifiedlexicon/core/Profile$Kind;" } : Jvm.MethodName) prog_20_method_1_code (0 : Nat) (Option.some (Jvm.ClassFile.FieldType.array (Jvm.ClassFile.FieldType.object "com/example/unified_lexicon/unifiedlexicon/core/Profile$Kind"))), Jvm.Cond.code ({ cls := "java/util/Optional", name := "empty", desc := "()Ljava/util/Optional;" } : Jvm.MethodName) jdk_32_method_1_code (1 : Nat) (Option.some (Jvm.ClassFile.FieldType.object "java/util/Optional")), Jvm.Cond.code ({ cls := "java/util/Optional", name := "isPresent", desc := "()Z" } : Jvm.MethodName) jdk_32_method_6_code (1 : Nat) (Option.some Jvm.ClassFile.FieldType.boolean), Jvm.Cond.code ({ cls := "java/util/Optional", name := "of", desc := "(Ljava/lang/Object;)Ljava/util/Optional;" } : Jvm.MethodName) jdk_32_method_3_code (1 : Nat) (Option.some (Jvm.ClassFile.FieldType.object "java/util/Optional")), Jvm.Cond.code ({ cls := "java/util/Objects", name := "requireNonNull", desc := "(Ljava/lang/Object;)Ljava/lang/Object;" } : Jvm.MethodName) jdk_31_method_10_code (1 : Nat) (Option.some (Jvm.ClassFile.FieldType.object "java/lang/Object")), Jvm.Cond.code ({ cls := "java/util/Optional", name := "<init>", desc := "(Ljava/lang/Object;)V" } : Jvm.MethodName) jdk_32_method_2_code (2 : Nat) (Option.none : Option Jvm.ClassFile.FieldType), Jvm.Cond.code ({ cls := "java/util/Optional", name := "get", desc := "()Ljava/lang/Object;" } : Jvm.MethodName) jdk_32_method_5_code (1 : Nat) (Option.some (Jvm.ClassFile.FieldType.object "java/lang/Object"))]
set_option maxRecDepth 65536 in
theorem codes_eq : words1.filter isCode = codes1 := rfl
theorem w_codes : ∀ c ∈ words1.filter isCode, c.before args0 about1 = true := by
  rw [codes_eq]
  intro c hc
  simp only [codes1, List.mem_cons, List.not_mem_nil, or_false] at hc
  rcases hc with rfl | rfl | rfl | rfl | rfl | rfl | rfl | rfl | rfl | rfl | rfl | rfl | rfl | rfl | rfl | rfl | rfl | rfl | rfl | rfl | rfl | rfl | rfl | rfl | rfl | rfl
  · exact w_c0
  · exact w_c1
  · exact w_c2
  · exact w_c3
  · exact w_c4
  · exact w_c5
  · exact w_c6
  · exact w_c7
  · exact w_c8
  · exact w_c9
  · exact w_c10
  · exact w_c11
  · exact w_c12
  · exact w_c13
  · exact w_c14
  · exact w_c15
  · exact w_c16
  · exact w_c17
  · exact w_c18
  · exact w_c19
  · exact w_c20
  · exact w_c21
  · exact w_c22
  · exact w_c23
  · exact w_c24
  · exact w_c25
set_option maxRecDepth 65536 in
theorem w_t1 : (words1.take 24).all (fun c => isCode c || c.before args0 about1) = true := by decide +kernel
set_option maxRecDepth 65536 in
theorem w_t2 : ((words1.drop 24).take 24).all (fun c => isCode c || c.before args0 about1) = true := by decide +kernel
set_option maxRecDepth 65536 in
theorem w_t3 : (((words1.drop 24).drop 24).take 24).all (fun c => isCode c || c.before args0 about1) = true := by decide +kernel
set_option maxRecDepth 65536 in
theorem w_t4 : ((((words1.drop 24).drop 24).drop 24).take 24).all (fun c => isCode c || c.before args0 about1) = true := by decide +kernel
set_option maxRecDepth 65536 in
theorem w_t5 : (((((words1.drop 24).drop 24).drop 24).drop 24).take 24).all (fun c => isCode c || c.before args0 about1) = true := by decide +kernel
set_option maxRecDepth 65536 in
theorem w_t6 : (((((words1.drop 24).drop 24).drop 24).drop 24).drop 24).all (fun c => isCode c || c.before args0 about1) = true := by decide +kernel
theorem w_tables : (allAtoms (Jvm.Cond.code x code maxLocals ret :: tables_1)).before args0 about1 = true := by
  rw [allAtoms_all]
  show words1.all (fun c => c.before args0 about1) = true
  refine all_split ?_ w_codes
  rw [← List.take_append_drop 24 words1, List.all_append, w_t1, ← List.take_append_drop 24 (words1.drop 24), List.all_append, w_t2, ← List.take_append_drop 24 ((words1.drop 24).drop 24), List.all_append, w_t3, ← List.take_append_drop 24 (((words1.drop 24).drop 24).drop 24), List.all_append, w_t4, ← List.take_append_drop 24 ((((words1.drop 24).drop 24).drop 24).drop 24), List.all_append, w_t5, w_t6]
  rfl
set_option maxRecDepth 65536 in
theorem w_rest : rest_1_c.before args0 about1 = true := by decide +kernel
set_option maxRecDepth 65536 in
theorem w_case : (Jvm.Cond.and given_1 narrow_1).before args0 about1 = true := by decide +kernel
set_option maxRecDepth 65536 in
theorem w_consts : constsHeld consts_1 about1 := Jvm.Lit.constsHeldB_iff.mp (by decide +kernel)
theorem w_applies : (headSpec (Jvm.Cond.code x code maxLocals ret :: tables_1) room_1).applies x e0.platform about1 = true :=
  (Spec.applies_iff w_frames).mpr ⟨w_running, w_runnable, w_alone, w_named, w_hears, w_ripe, w_room, w_tables⟩
theorem atStart : AtStart classFile x code maxLocals ret World_1 tables_1 room_1 Calls_1 rest_1 Pre_1 launch0 p0 e0 about1 theMethod args0 below0 :=
  ⟨lists_1, trivial, launch0.admits_env _ _ _, launch0.least_env, fairChoices_fair.cas, fairChoices_fair.clock, w_frames, w_args, w_heap, w_applies, ⟨w_consts, trivial⟩, w_rest, w_case⟩
end start1
theorem witness_1 : WitnessClaimed_1 := ⟨start1.p0, start1.e0, start1.about1, start1.theMethod, start1.args0, start1.below0, start1.atStart⟩
end Jvm.Pilot.@@N@@
