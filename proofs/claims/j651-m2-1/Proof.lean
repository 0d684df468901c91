import JvmDerived
import JvmDerived.Pilot.@@N@@Statement
import JvmDerived.Pilot.@@N@@Code
set_option linter.unusedVariables false
set_option linter.unusedSimpArgs false
/- laws to paste: Road.backV (cut by pick.py; bodies as the Statement names them) -/
namespace Jvm.Pilot.@@N@@
namespace StrChars
open Jvm Sem ClassFile Op Lib Jvm.Stand Jvm.Free.XT Jvm.Free.ALB Jvm.Free.JM Jvm.Free
open Jvm.Lib.Cold (StaticIs)
/-- a char array whose places are chars -/
def Ch (a : Addr) (A : Cell) (U : State) : Prop := Arr .char a A U ∧ Typed .char A
theorem Ch.mv {a : Addr} {A : Cell} {U U' : State} (h : Ch a A U) (hal : U.vm.Alike U'.vm) (hh : U'.heap = U.heap) : Ch a A U' := ⟨h.1.mv hal hh, h.2⟩
theorem Ch.keep {a : Addr} {A : Cell} {U U' : State} (h : Ch a A U) (hal : U.vm.Alike U'.vm) (hk : U'.heap[a]? = some A) : Ch a A U' := ⟨h.1.keep hal hk, h.2⟩
/-- what place i of a char[]'s cell holds -/
def cv (A : Cell) (i : Nat) : Int32 := match A.slots[i]? with | some (.int x) => x | _ => 0
theorem Ch.get {a : Addr} {A : Cell} {U : State} (h : Ch a A U) {i : Nat} (hi : i < A.slots.size) : A.slots[i]? = some (.int (cv A i)) := by
  have e := Array.getElem?_eq_getElem hi
  have f := h.2 i _ e
  unfold cv; rw [e]
  generalize A.slots[i] = v at f
  cases v <;> simp [fits] at f ⊢
/-- the byte that i2b leaves of a char -/
def lo8 (x : Int32) : Int32 := x.toInt8.toInt32
theorem fits_lo8 (y : Int32) : fits .byte (.int (lo8 y)) = true := by
  have h1 := y.toInt8.le_toInt
  have h2 := y.toInt8.toInt_lt
  simp only [lo8, fits, Bool.and_eq_true, decide_eq_true_eq, Int32.le_iff_toInt_le, Int8.toInt_toInt32, show (-128 : Int32).toInt = -128 from by decide, show (127 : Int32).toInt = 127 from by decide]
  omega
/-- A' is A but that each place j of lo .. hi - 1 holds f j -/
def Laid (A A' : Cell) (lo hi : Nat) (f : Nat → Value) : Prop := A'.cls = A.cls ∧ A'.vm = A.vm ∧ A'.slots.size = A.slots.size ∧ ∀ i, A'.slots[i]? = if lo ≤ i ∧ i < hi then some (f i) else A.slots[i]?
theorem Laid.zero (A : Cell) (lo : Nat) (f : Nat → Value) : Laid A A lo (lo + 0) f := ⟨rfl, rfl, rfl, fun i => by rw [if_neg (by omega)]⟩
theorem Laid.step {A Ak : Cell} {lo k : Nat} {f : Nat → Value} {v : Value} (h : Laid A Ak lo k f) (hlo : lo ≤ k) (hk : k < Ak.slots.size) (hv : v = f k) : Laid A (Ak.setSlot k v) lo (k + 1) f := by
  refine ⟨h.1, h.2.1, by simpa [Cell.setSlot] using h.2.2.1, fun i => ?_⟩
  by_cases e : k = i
  · subst e; rw [Cell.slots_setSlot_self v hk, if_pos (by omega), hv]
  · rw [Cell.slots_setSlot_ne v e, h.2.2.2 i]
    by_cases q : lo ≤ i ∧ i < k
    · rw [if_pos q, if_pos (by omega)]
    · rw [if_neg q, if_neg (by omega)]
def U16 : String := "java/lang/StringUTF16"
namespace Cmp5
def yN : MethodName := ⟨"java/lang/StringUTF16", "compress", "([CI[BII)I"⟩
abbrev yB : ByteArray := jdk_52_method_21_code
theorem d0 : decode yB 0 = .ok (.iconst 0, 1) := by decide +kernel
theorem d1 : decode yB 1 = .ok (.istore 5, 2) := by decide +kernel
theorem d3 : decode yB 3 = .ok (.iload 5, 2) := by decide +kernel
theorem d5 : decode yB 5 = .ok (.iload 4, 2) := by decide +kernel
theorem d7 : decode yB 7 = .ok (.if_icmp (.ge) 37, 3) := by decide +kernel
theorem d10 : decode yB 10 = .ok (.aload_n 0, 1) := by decide +kernel
theorem d11 : decode yB 11 = .ok (.iload_n 1, 1) := by decide +kernel
theorem d12 : decode yB 12 = .ok (.caload, 1) := by decide +kernel
theorem d13 : decode yB 13 = .ok (.istore 6, 2) := by decide +kernel
theorem d15 : decode yB 15 = .ok (.iload 6, 2) := by decide +kernel
theorem d17 : decode yB 17 = .ok (.sipush 255, 3) := by decide +kernel
theorem d20 : decode yB 20 = .ok (.if_icmp (.le) 6, 3) := by decide +kernel
theorem d26 : decode yB 26 = .ok (.aload_n 2, 1) := by decide +kernel
theorem d27 : decode yB 27 = .ok (.iload_n 3, 1) := by decide +kernel
theorem d28 : decode yB 28 = .ok (.iload 6, 2) := by decide +kernel
theorem d30 : decode yB 30 = .ok (.i2b, 1) := by decide +kernel
theorem d31 : decode yB 31 = .ok (.bastore, 1) := by decide +kernel
theorem d32 : decode yB 32 = .ok (.iinc 1 1, 3) := by decide +kernel
theorem d35 : decode yB 35 = .ok (.iinc 3 1, 3) := by decide +kernel
theorem d38 : decode yB 38 = .ok (.iinc 5 1, 3) := by decide +kernel
theorem d41 : decode yB 41 = .ok (.goto (-38), 3) := by decide +kernel
theorem d44 : decode yB 44 = .ok (.iload 4, 2) := by decide +kernel
theorem d46 : decode yB 46 = .ok (.ireturn, 1) := by decide +kernel
def site : List Cond := []
def tab : Cond := tabOf yN yB 7 (some .int) site
def P (b : Addr) (A : Cell) (d : Addr) (B : Cell) (o q len : Nat) (args : Array Value) (s : State) : Prop := args = #[.ref b, .int (Int32.ofNat o), .ref d, .int (Int32.ofNat q), .int (Int32.ofNat len)] ∧ Ch b A s ∧ Arr .byte d B s ∧ b ≠ d ∧ o + len ≤ A.slots.size ∧ q + len ≤ B.slots.size ∧ ∀ i, i < len → ¬ 255 < cv A (o + i)
def E (b : Addr) (A : Cell) (d : Addr) (B : Cell) (o q len : Nat) (r : Option Value) (s u : State) : Prop := r = some (.int (Int32.ofNat len)) ∧ ∃ B', Put d B' s u ∧ Laid B B' q (q + len) (fun j => Value.int (lo8 (cv A (o + (j - q)))))
/-- no char of the range above 255: len; the places written hold each char's low byte -/
theorem law (l : Launch) (b : Addr) (A : Cell) (d : Addr) (B : Cell) (o q len : Nat) : Law l yN 5 5 0 0 yB 7 (some .int) site (P b A d B o q len) (E b A d B o q len) (copyLocs d q len) 0 0 := by
  refine Law.of_walk (plainFor_of_name (by decide +kernel)) (by decide +kernel) (by decide +kernel) (by decide) (fun _ _ h => by rw [h.1]; rfl) (fun _ U U' hal hh h => ⟨h.1, h.2.1.mv hal hh, h.2.2.1.mv hal hh, h.2.2.2⟩) (fun r U U' V V' h1 hal h2 h => ⟨h.1, h.2.elim fun B' q => ⟨B', q.1.mv h1 h2, q.2⟩⟩) ?_
  intro p e s m args below meth c s₁ X0 hexec hbytes hml hret hlk hnm hown hh0 W hP
  obtain ⟨rfl, hA, hB, hne, l1, l2, hp⟩ := hP
  have c1 : Steps p.tables e below (s₁.setTop (entryFrame m #[.ref b, .int (Int32.ofNat o), .ref d, .int (Int32.ofNat q), .int (Int32.ofNat len)] 7)) (s₁.setTop (mkF m 0 #[.val (.ref b), .val (.int (Int32.ofNat o)), .val (.ref d), .val (.int (Int32.ofNat q)), .val (.int (Int32.ofNat len)), .unset, .unset] [])) := entry rfl
  have hA0 := hA.1.mv X0.warmed.alike hh0
  have hB0 := hB.mv X0.warmed.alike hh0
  have a31 := hA.1.2.2.2
  have c2 : Steps p.tables e below (s₁.setTop (entryFrame m #[.ref b, .int (Int32.ofNat o), .ref d, .int (Int32.ofNat q), .int (Int32.ofNat len)] 7)) (s₁.setTop (mkF m 3 #[.val (.ref b), .val (.int (Int32.ofNat o)), .val (.ref d), .val (.int (Int32.ofNat q)), .val (.int (Int32.ofNat len)), .val (.int 0), .unset] [])) := c1.trans (by
    refine iconstV X0.here hexec rfl 0 (hb hbytes d0) (by decide) ?_
    refine XS.istore X0.here hexec rfl (hb hbytes d1) rfl rfl ?_
    exact Steps.refl _)
  have loop : ∀ (r i : Nat), i + r = len → ∀ (z : Slot), (z = .unset ∨ ∃ w, z = .val w ∧ w.category = 1) → ∀ (Tl : State) (Bk : Cell), Stand p l e { frames := 0, locals := 0, cells := 0, slots := 0 } s m #[.ref b, .int (Int32.ofNat o), .ref d, .int (Int32.ofNat q), .int (Int32.ofNat len)] below meth c Tl ([] ++ copyLocs d q i) 0 0 → Put d Bk s₁ Tl → Laid B Bk q (q + i) (fun j => Value.int (lo8 (cv A (o + (j - q))))) →
      Steps p.tables e below (s₁.setTop (entryFrame m #[.ref b, .int (Int32.ofNat o), .ref d, .int (Int32.ofNat q), .int (Int32.ofNat len)] 7)) (Tl.setTop (mkF m 3 #[.val (.ref b), .val (.int (Int32.ofNat (o + i))), .val (.ref d), .val (.int (Int32.ofNat (q + i))), .val (.int (Int32.ofNat len)), .val (.int (Int32.ofNat i)), z] [])) → ∃ (T' : State) (B' : Cell) (z' : Slot), Stand p l e { frames := 0, locals := 0, cells := 0, slots := 0 } s m #[.ref b, .int (Int32.ofNat o), .ref d, .int (Int32.ofNat q), .int (Int32.ofNat len)] below meth c T' ([] ++ copyLocs d q len) 0 0 ∧ Put d B' s₁ T' ∧ Laid B B' q (q + len) (fun j => Value.int (lo8 (cv A (o + (j - q))))) ∧
      Steps p.tables e below (s₁.setTop (entryFrame m #[.ref b, .int (Int32.ofNat o), .ref d, .int (Int32.ofNat q), .int (Int32.ofNat len)] 7)) (T'.setTop (mkF m 3 #[.val (.ref b), .val (.int (Int32.ofNat (o + len))), .val (.ref d), .val (.int (Int32.ofNat (q + len))), .val (.int (Int32.ofNat len)), .val (.int (Int32.ofNat len)), z'] [])) := by
    intro r
    induction r with
    | zero =>
      intro i hi z hz Tl Bk Xl pl fl cl
      have hil : i = len := by omega
      rw [hil] at Xl fl cl
      exact ⟨Tl, Bk, z, Xl, pl, fl, cl⟩
    | succ r ih =>
      intro i hi z hz Tl Bk Xl pl fl cl
      have all := X0.warmed.alike.symm.trans Xl.warmed.alike
      have hAl := hA0.keep all (pl.other hne hA0.1)
      have hBk := hB0.like all pl.1 fl.1 fl.2.1 fl.2.2.1
      have hlt : q + i < Bk.slots.size := by rw [fl.2.2.1]; omega
      have c3 : Steps p.tables e below (s₁.setTop (entryFrame m #[.ref b, .int (Int32.ofNat o), .ref d, .int (Int32.ofNat q), .int (Int32.ofNat len)] 7)) (Tl.setTop (mkF m 12 #[.val (.ref b), .val (.int (Int32.ofNat (o + i))), .val (.ref d), .val (.int (Int32.ofNat (q + i))), .val (.int (Int32.ofNat len)), .val (.int (Int32.ofNat i)), z] [.int (Int32.ofNat (o + i)), .ref b])) := cl.trans (by
        refine XS.iload Xl.here hexec rfl (hb hbytes d3) rfl ?_
        refine XS.iload Xl.here hexec rfl (hb hbytes d5) rfl ?_
        refine XS.icmpNo Xl.here hexec rfl (hb hbytes d7) rfl (ii_ge_f (lt32 (by omega) (by omega))) ?_
        refine XS.aloadN Xl.here hexec rfl (hb hbytes d10) rfl rfl ?_
        refine XS.iloadN Xl.here hexec rfl (hb hbytes d11) rfl ?_
        exact Steps.refl _)
      have c4 : Steps p.tables e below (s₁.setTop (entryFrame m #[.ref b, .int (Int32.ofNat o), .ref d, .int (Int32.ofNat q), .int (Int32.ofNat len)] 7)) (Tl.setTop (mkF m 13 #[.val (.ref b), .val (.int (Int32.ofNat (o + i))), .val (.ref d), .val (.int (Int32.ofNat (q + i))), .val (.int (Int32.ofNat len)), .val (.int (Int32.ofNat i)), z] [.int (cv A (o + i))])) := c3.trans (by
        refine Xl.aget hexec hAl rfl (hA.get (i := o + i) (by omega)) rfl rfl (hb hbytes d12) ?_
        exact Steps.refl _)
      have c5 : Steps p.tables e below (s₁.setTop (entryFrame m #[.ref b, .int (Int32.ofNat o), .ref d, .int (Int32.ofNat q), .int (Int32.ofNat len)] 7)) (Tl.setTop (mkF m 15 #[.val (.ref b), .val (.int (Int32.ofNat (o + i))), .val (.ref d), .val (.int (Int32.ofNat (q + i))), .val (.int (Int32.ofNat len)), .val (.int (Int32.ofNat i)), .val (.int (cv A (o + i)))] [])) := c4.trans (by
        refine XS.istoreS Xl.here hexec rfl (hb hbytes d13) rfl rfl hz ?_
        exact Steps.refl _)
      have c6 : Steps p.tables e below (s₁.setTop (entryFrame m #[.ref b, .int (Int32.ofNat o), .ref d, .int (Int32.ofNat q), .int (Int32.ofNat len)] 7)) (Tl.setTop (mkF m 31 #[.val (.ref b), .val (.int (Int32.ofNat (o + i))), .val (.ref d), .val (.int (Int32.ofNat (q + i))), .val (.int (Int32.ofNat len)), .val (.int (Int32.ofNat i)), .val (.int (cv A (o + i)))] [.int (lo8 (cv A (o + i))), .int (Int32.ofNat (q + i)), .ref d])) := c5.trans (by
        refine XS.iload Xl.here hexec rfl (hb hbytes d15) rfl ?_
        refine sipushV Xl.here hexec rfl 255 (hb hbytes d17) (by decide) ?_
        refine XS.icmpYes Xl.here hexec rfl (pc0 := 20) rfl (hb hbytes d20) rfl (ii_le_t (hp i (by omega))) (by decide) rfl ?_
        refine XS.aloadN Xl.here hexec rfl (hb hbytes d26) rfl rfl ?_
        refine XS.iloadN Xl.here hexec rfl (hb hbytes d27) rfl ?_
        refine XS.iload Xl.here hexec rfl (hb hbytes d28) rfl ?_
        refine i2b Xl.here hexec rfl (hb hbytes d30) rfl ?_
        exact Steps.refl _)
      obtain ⟨T7, X7, p7, st7⟩ := Xl.aput hexec hBk rfl hlt rfl (fits_lo8 (cv A (o + i))) (g := (mkF m 31 #[.val (.ref b), .val (.int (Int32.ofNat (o + i))), .val (.ref d), .val (.int (Int32.ofNat (q + i))), .val (.int (Int32.ofNat len)), .val (.int (Int32.ofNat i)), .val (.int (cv A (o + i)))] [.int (lo8 (cv A (o + i))), .int (Int32.ofNat (q + i)), .ref d])) rfl (rest := []) rfl (hb hbytes d31)
      have c8 : Steps p.tables e below (s₁.setTop (entryFrame m #[.ref b, .int (Int32.ofNat o), .ref d, .int (Int32.ofNat q), .int (Int32.ofNat len)] 7)) (T7.setTop (mkF m 32 #[.val (.ref b), .val (.int (Int32.ofNat (o + i))), .val (.ref d), .val (.int (Int32.ofNat (q + i))), .val (.int (Int32.ofNat len)), .val (.int (Int32.ofNat i)), .val (.int (cv A (o + i)))] [])) := c6.trans (st7 _ (Steps.refl _))
      have c9 : Steps p.tables e below (s₁.setTop (entryFrame m #[.ref b, .int (Int32.ofNat o), .ref d, .int (Int32.ofNat q), .int (Int32.ofNat len)] 7)) (T7.setTop (mkF m 3 #[.val (.ref b), .val (.int (Int32.ofNat (o + i) + 1)), .val (.ref d), .val (.int (Int32.ofNat (q + i) + 1)), .val (.int (Int32.ofNat len)), .val (.int (Int32.ofNat i + 1)), .val (.int (cv A (o + i)))] [])) := c8.trans (by
        refine iincV X7.here hexec rfl 1 (hb hbytes d32) (by decide) rfl rfl ?_
        refine iincV X7.here hexec rfl 1 (hb hbytes d35) (by decide) rfl rfl ?_
        refine iincV X7.here hexec rfl 1 (hb hbytes d38) (by decide) rfl rfl ?_
        refine XS.goto X7.here hexec rfl (pc0 := 41) rfl (hb hbytes d41) (by decide) rfl ?_
        exact Steps.refl _)
      have c10 : Steps p.tables e below (s₁.setTop (entryFrame m #[.ref b, .int (Int32.ofNat o), .ref d, .int (Int32.ofNat q), .int (Int32.ofNat len)] 7)) (T7.setTop (mkF m 3 #[.val (.ref b), .val (.int (Int32.ofNat (o + (i + 1)))), .val (.ref d), .val (.int (Int32.ofNat (q + (i + 1)))), .val (.int (Int32.ofNat len)), .val (.int (Int32.ofNat (i + 1))), .val (.int (cv A (o + i)))] [])) := by
        have := c9
        rw [succ32, succ32, succ32] at this
        exact this
      exact ih (i + 1) (by omega) _ (Or.inr ⟨_, rfl, rfl⟩) T7 _ (by rw [copyLocs_step, ← List.append_assoc]; exact X7) (pl.trans p7) (fl.step (by omega) hlt (by simp)) c10
  obtain ⟨T9, B9, z9, X9, p9, f9, g9⟩ := loop len 0 (by omega) .unset (Or.inl rfl) s₁ B (by simpa [copyLocs] using X0) ⟨hB0.1, fun _ _ => rfl, rfl⟩ (Laid.zero _ _ _) c2
  have c11 : Steps p.tables e below (s₁.setTop (entryFrame m #[.ref b, .int (Int32.ofNat o), .ref d, .int (Int32.ofNat q), .int (Int32.ofNat len)] 7)) (T9.setTop (mkF m 46 #[.val (.ref b), .val (.int (Int32.ofNat (o + len))), .val (.ref d), .val (.int (Int32.ofNat (q + len))), .val (.int (Int32.ofNat len)), .val (.int (Int32.ofNat len)), z9] [.int (Int32.ofNat len)])) := g9.trans (by
    refine XS.iload X9.here hexec rfl (hb hbytes d3) rfl ?_
    refine XS.iload X9.here hexec rfl (hb hbytes d5) rfl ?_
    refine XS.icmpYes X9.here hexec rfl (pc0 := 7) rfl (hb hbytes d7) rfl (ii_ge_t (nlt32 (by omega) (Nat.le_refl _))) (by decide) rfl ?_
    refine XS.iload X9.here hexec rfl (hb hbytes d44) rfl ?_
    exact Steps.refl _)
  exact ⟨T9, some (.int (Int32.ofNat len)), _, _, _, X9, by simp, rfl, rfl, (fun h => by cases h), ⟨rfl, B9, p9.from hh0, f9⟩, fun fs hl => c11.trans (X9.ireturnOut hexec hret rfl (Or.inl rfl) (hb hbytes d46) hl)⟩
end Cmp5
namespace Cmp3
def yN : MethodName := ⟨"java/lang/StringUTF16", "compress", "([CII)[B"⟩
abbrev yB : ByteArray := jdk_52_method_16_code
theorem d0 : decode yB 0 = .ok (.iload_n 2, 1) := by decide +kernel
theorem d1 : decode yB 1 = .ok (.newarray .byte, 2) := by decide +kernel
theorem d3 : decode yB 3 = .ok (.astore_n 3, 1) := by decide +kernel
theorem d4 : decode yB 4 = .ok (.aload_n 0, 1) := by decide +kernel
theorem d5 : decode yB 5 = .ok (.iload_n 1, 1) := by decide +kernel
theorem d6 : decode yB 6 = .ok (.aload_n 3, 1) := by decide +kernel
theorem d7 : decode yB 7 = .ok (.iconst 0, 1) := by decide +kernel
theorem d8 : decode yB 8 = .ok (.iload_n 2, 1) := by decide +kernel
theorem d9 : decode yB 9 = .ok (.invokestatic 115, 3) := by decide +kernel
theorem d12 : decode yB 12 = .ok (.istore 4, 2) := by decide +kernel
theorem d14 : decode yB 14 = .ok (.iload 4, 2) := by decide +kernel
theorem d16 : decode yB 16 = .ok (.iload_n 2, 1) := by decide +kernel
theorem d17 : decode yB 17 = .ok (.if_icmp (.eq) 40, 3) := by decide +kernel
theorem d57 : decode yB 57 = .ok (.aload_n 3, 1) := by decide +kernel
theorem d58 : decode yB 58 = .ok (.areturn, 1) := by decide +kernel
def site : List Cond := [.arrayClass .byte, Cmp5.tab] ++ staticW U16 115 Cmp5.yN
def tab : Cond := tabOf yN yB 6 (some (.array .byte)) site
def P (b : Addr) (A : Cell) (o len : Nat) (args : Array Value) (s : State) : Prop := args = #[.ref b, .int (Int32.ofNat o), .int (Int32.ofNat len)] ∧ Ch b A s ∧ o + len ≤ A.slots.size ∧ len ≤ 536870912 ∧ ∀ i, i < len → ¬ 255 < cv A (o + i)
def E (b : Addr) (A : Cell) (o len : Nat) (r : Option Value) (s u : State) : Prop := NewArr .byte "[B" len (fun j => .int (lo8 (cv A (o + j)))) r s u ∧ u.heap.size = s.heap.size + 1
/-- no char of the range above 255: a new byte[] of their low bytes -/
theorem law (l : Launch) (b : Addr) (A : Cell) (o len : Nat) : Law l yN 3 3 1 18 yB 6 (some (.array .byte)) site (P b A o len) (E b A o len) [] 1 len := by
  refine Law.of_walk (plainFor_of_name (by decide +kernel)) (by decide +kernel) (by decide +kernel) (by decide) (fun _ _ h => by rw [h.1]; rfl) (fun _ U U' hal hh h => ⟨h.1, h.2.1.mv hal hh, h.2.2⟩) (fun r U U' V V' h1 hal h2 h => ⟨NewArr.mv r U U' V V' h1 hal h2 h.1, by rw [h1, h2]; exact h.2⟩) ?_
  intro p e s m args below meth c s₁ X0 hexec hbytes hml hret hlk hnm hown hh0 W hP
  obtain ⟨rfl, hA, l1, l2, hp⟩ := hP
  have a31 := hA.1.2.2.2
  have c1 : Steps p.tables e below (s₁.setTop (entryFrame m #[.ref b, .int (Int32.ofNat o), .int (Int32.ofNat len)] 6)) (s₁.setTop (mkF m 0 #[.val (.ref b), .val (.int (Int32.ofNat o)), .val (.int (Int32.ofNat len)), .unset, .unset, .unset] [])) := entry rfl
  have c2 : Steps p.tables e below (s₁.setTop (entryFrame m #[.ref b, .int (Int32.ofNat o), .int (Int32.ofNat len)] 6)) (s₁.setTop (mkF m 1 #[.val (.ref b), .val (.int (Int32.ofNat o)), .val (.int (Int32.ofNat len)), .unset, .unset, .unset] [.int (Int32.ofNat len)])) := c1.trans (by
    refine XS.iloadN X0.here hexec rfl (hb hbytes d0) rfl ?_
    exact Steps.refl _)
  obtain ⟨T3, B3, X3, ba3, bs3, bv3, bh3, bf3, st3⟩ := X0.anew hexec (atype := .byte) (wk W (.arrayClass .byte)) rfl (by show len * 1 ≤ _; omega) (by omega) (g := (mkF m 1 #[.val (.ref b), .val (.int (Int32.ofNat o)), .val (.int (Int32.ofNat len)), .unset, .unset, .unset] [.int (Int32.ofNat len)])) rfl (hb hbytes d1) (rest := []) rfl (Nat.le_refl _) (by show 0 + len ≤ len; omega)
  rw [hh0] at ba3 st3
  have kp3 : XT.Kept s T3 := (XT.Kept.of_eq hh0).push bh3
  have hA3 := hA.keep X3.warmed.alike (kp3 _ _ hA.1.1)
  have hne : b ≠ s.heap.size := hA.1.ne
  have c4 : Steps p.tables e below (s₁.setTop (entryFrame m #[.ref b, .int (Int32.ofNat o), .int (Int32.ofNat len)] 6)) (T3.setTop (mkF m 3 #[.val (.ref b), .val (.int (Int32.ofNat o)), .val (.int (Int32.ofNat len)), .unset, .unset, .unset] [.ref s.heap.size])) := c2.trans (st3 _ (Steps.refl _))
  have c5 : Steps p.tables e below (s₁.setTop (entryFrame m #[.ref b, .int (Int32.ofNat o), .int (Int32.ofNat len)] 6)) (T3.setTop (mkF m 9 #[.val (.ref b), .val (.int (Int32.ofNat o)), .val (.int (Int32.ofNat len)), .val (.ref s.heap.size), .unset, .unset] [.int (Int32.ofNat len), .int 0, .ref s.heap.size, .int (Int32.ofNat o), .ref b])) := c4.trans (by
    refine XS.astoreN X3.here hexec rfl (hb hbytes d3) rfl rfl rfl ?_
    refine XS.aloadN X3.here hexec rfl (hb hbytes d4) rfl rfl ?_
    refine XS.iloadN X3.here hexec rfl (hb hbytes d5) rfl ?_
    refine XS.aloadN X3.here hexec rfl (hb hbytes d6) rfl rfl ?_
    refine iconstV X3.here hexec rfl 0 (hb hbytes d7) (by decide) ?_
    refine XS.iloadN X3.here hexec rfl (hb hbytes d8) rfl ?_
    exact Steps.refl _)
  obtain ⟨v6, T6, X6, E6, g6⟩ := X3.callS hexec (Cmp5.law l b A s.heap.size B3 o 0 len) hown (wks W (staticW U16 115 Cmp5.yN)) (wk W Cmp5.tab) (W := 0) (Nat.le_of_ble_eq_true rfl) (Nat.le_of_ble_eq_true rfl) (Nat.le_refl _) (by show 0 + len + 0 ≤ len; omega) (g := (mkF m 9 #[.val (.ref b), .val (.int (Int32.ofNat o)), .val (.int (Int32.ofNat len)), .val (.ref s.heap.size), .unset, .unset] [.int (Int32.ofNat len), .int (Int32.ofNat 0), .ref s.heap.size, .int (Int32.ofNat o), .ref b])) rfl (by rw [hml]; rfl) c5 (argsL := [.ref b, .int (Int32.ofNat o), .ref s.heap.size, .int (Int32.ofNat 0), .int (Int32.ofNat len)]) (rest := []) rfl rfl (by show 2 * 0 + 0 ≤ _; decide) (hb hbytes d9) (⟨rfl, hA3, ba3, hne, l1, by rw [bs3]; simp, hp⟩)
  obtain ⟨rfl, B6, p6, f6⟩ := E6
  have c7 : Steps p.tables e below (s₁.setTop (entryFrame m #[.ref b, .int (Int32.ofNat o), .int (Int32.ofNat len)] 6)) (T6.setTop (mkF m 12 #[.val (.ref b), .val (.int (Int32.ofNat o)), .val (.int (Int32.ofNat len)), .val (.ref s.heap.size), .unset, .unset] [.int (Int32.ofNat len)])) := g6
  have c8 : Steps p.tables e below (s₁.setTop (entryFrame m #[.ref b, .int (Int32.ofNat o), .int (Int32.ofNat len)] 6)) (T6.setTop (mkF m 58 #[.val (.ref b), .val (.int (Int32.ofNat o)), .val (.int (Int32.ofNat len)), .val (.ref s.heap.size), .val (.int (Int32.ofNat len)), .unset] [.ref s.heap.size])) := c7.trans (by
    refine XS.istore X6.here hexec rfl (hb hbytes d12) rfl rfl ?_
    refine XS.iload X6.here hexec rfl (hb hbytes d14) rfl ?_
    refine XS.iloadN X6.here hexec rfl (hb hbytes d16) rfl ?_
    refine XS.icmpYes X6.here hexec rfl (pc0 := 17) rfl (hb hbytes d17) rfl (ii_eq_t rfl) (by decide) rfl ?_
    refine XS.aloadN X6.here hexec rfl (hb hbytes d57) rfl rfl ?_
    exact Steps.refl _)
  have X8 := X6.wide (L' := []) (cells' := 1) (slots' := len) (fun x hx hlt => by
    simp only [List.nil_append, copyLocs, List.mem_map, List.mem_range] at hx
    obtain ⟨i, -, rfl⟩ := hx
    exact absurd hlt (Nat.lt_irrefl _)) (Nat.le_refl _) (by omega)
  exact ⟨T6, some (.ref s.heap.size), _, _, _, X8, rfl, rfl, rfl, (fun h => by cases h), ⟨⟨rfl, B6, ba3.like (X3.warmed.alike.symm.trans X6.warmed.alike) p6.1 f6.1 f6.2.1 f6.2.2.1, f6.2.1.trans bv3, by rw [X6.warmed.alike.findClass, f6.1]; exact bf3, by rw [f6.2.2.1, bs3]; simp, fun j hj => by rw [f6.2.2.2 j, if_pos (by omega)]; rfl, kp3.put p6 (Nat.le_refl _)⟩, by rw [p6.2.2, bh3, hh0]; simp⟩, fun fs hl => c8.trans (X8.areturnOut hexec rfl hret rfl (hb hbytes d58) hl)⟩
end Cmp3
namespace CodL
def yN : MethodName := ⟨"java/lang/StringUTF16", "coderFromArrayLen", "([BI)B"⟩
abbrev yB : ByteArray := jdk_52_method_15_code
theorem d0 : decode yB 0 = .ok (.iload_n 1, 1) := by decide +kernel
theorem d1 : decode yB 1 = .ok (.aload_n 0, 1) := by decide +kernel
theorem d2 : decode yB 2 = .ok (.arraylength, 1) := by decide +kernel
theorem d3 : decode yB 3 = .ok (.isub, 1) := by decide +kernel
theorem d4 : decode yB 4 = .ok (.bipush 31, 2) := by decide +kernel
theorem d6 : decode yB 6 = .ok (.iushr, 1) := by decide +kernel
theorem d7 : decode yB 7 = .ok (.i2b, 1) := by decide +kernel
theorem d8 : decode yB 8 = .ok (.ireturn, 1) := by decide +kernel
def site : List Cond := []
def tab : Cond := tabOf yN yB 2 (some .byte) site
def P (d : Addr) (B : Cell) (args : Array Value) (s : State) : Prop := args = #[.ref d, .int (Int32.ofNat B.slots.size)] ∧ Arr .byte d B s
def E (r : Option Value) (s u : State) : Prop := XT.PureE (some (.int 0)) r s u
/-- an array as long as the number of chars: LATIN1 -/
theorem law (l : Launch) (d : Addr) (B : Cell) : Law l yN 2 2 0 0 yB 2 (some .byte) site (P d B) E [] 0 0 := by
  refine Law.of_walk (plainFor_of_name (by decide +kernel)) (by decide +kernel) (by decide +kernel) (by decide) (fun _ _ h => by rw [h.1]; rfl) (fun _ U U' hal hh h => ⟨h.1, h.2.mv hal hh⟩) (fun r U U' V V' h1 hal h2 h => XT.PureE.mv r U U' V V' h1 hal h2 h) ?_
  intro p e s m args below meth c s₁ X0 hexec hbytes hml hret hlk hnm hown hh0 W hP
  obtain ⟨rfl, hB⟩ := hP
  have hB0 := hB.mv X0.warmed.alike hh0
  have c1 : Steps p.tables e below (s₁.setTop (entryFrame m #[.ref d, .int (Int32.ofNat B.slots.size)] 2)) (s₁.setTop (mkF m 0 #[.val (.ref d), .val (.int (Int32.ofNat B.slots.size))] [])) := entry rfl
  have c2 : Steps p.tables e below (s₁.setTop (entryFrame m #[.ref d, .int (Int32.ofNat B.slots.size)] 2)) (s₁.setTop (mkF m 2 #[.val (.ref d), .val (.int (Int32.ofNat B.slots.size))] [.ref d, .int (Int32.ofNat B.slots.size)])) := c1.trans (by
    refine XS.iloadN X0.here hexec rfl (hb hbytes d0) rfl ?_
    refine XS.aloadN X0.here hexec rfl (hb hbytes d1) rfl rfl ?_
    exact Steps.refl _)
  have c3 : Steps p.tables e below (s₁.setTop (entryFrame m #[.ref d, .int (Int32.ofNat B.slots.size)] 2)) (s₁.setTop (mkF m 8 #[.val (.ref d), .val (.int (Int32.ofNat B.slots.size))] [.int (lo8 (ushr (Int32.ofNat B.slots.size - Int32.ofNat B.slots.size) 31))])) := c2.trans (by
    refine X0.alen hexec hB0 rfl rfl (hb hbytes d2) ?_
    refine XS.isub X0.here hexec rfl (hb hbytes d3) rfl ?_
    refine bipushV X0.here hexec rfl 31 (hb hbytes d4) (by decide) ?_
    refine iushr X0.here hexec rfl (hb hbytes d6) rfl ?_
    refine i2b X0.here hexec rfl (hb hbytes d7) rfl ?_
    exact Steps.refl _)
  have e0 : lo8 (ushr (Int32.ofNat B.slots.size - Int32.ofNat B.slots.size) 31) = 0 := by rw [Int32.sub_self]; decide
  rw [e0] at c3
  exact ⟨s₁, some (.int 0), _, _, _, X0, rfl, rfl, rfl, (fun h => by cases h), ⟨rfl, hh0⟩, fun fs hl => c3.trans (X0.ireturnOut hexec hret rfl (Or.inr (Or.inr (Or.inl rfl))) (hb hbytes d8) hl)⟩
end CodL
/-- the String at a is Latin-1 over a new byte[] (the heap's one new cell): the low bytes of the len chars of A from o on; every cell but a is kept -/
def Got (a : Addr) (D : Cell) (fV fC : Field) (A : Cell) (o len : Nat) (r : Option Value) (s u : State) : Prop := r = none ∧ ∃ D' V : Cell, Blank "java/lang/String" a D' u ∧ Same D D' [fV.slot, fC.slot] ∧ D'.slots[fV.slot]? = some (.ref s.heap.size) ∧ D'.slots[fC.slot]? = some (.int 0) ∧ Arr .byte s.heap.size V u ∧ V.vm = .none ∧ u.vm.findClass "[B" = some V.cls ∧ V.slots.size = len ∧ (∀ j, j < len → V.slots[j]? = some (.int (lo8 (cv A (o + j))))) ∧ (∀ (y : Addr) (c : Cell), y ≠ a → s.heap[y]? = some c → u.heap[y]? = some c) ∧ u.heap.size = s.heap.size + 1
theorem Got.mv {a : Addr} {D A : Cell} {fV fC : Field} {o len : Nat} : ∀ r (U U' V V' : State), U'.heap = U.heap → V.vm.Alike V'.vm → V'.heap = V.heap → Got a D fV fC A o len r U V → Got a D fV fC A o len r U' V' :=
  fun r U U' V V' h1 hal h2 ⟨e0, D', X, a1, a2, a3, a4, a5, a6, a7, a8, a9, a10, a11⟩ => ⟨e0, D', X, a1.mv hal h2, a2, by rw [h1]; exact a3, a4, by rw [h1]; exact a5.mv hal h2, a6, by rw [hal.findClass]; exact a7, a8, a9, by rw [h1, h2]; exact a10, by rw [h1, h2]; exact a11⟩
namespace New4
def yN : MethodName := ⟨"java/lang/String", "<init>", "([CIILjava/lang/Void;)V"⟩
abbrev yB : ByteArray := jdk_42_method_149_code
theorem d0 : decode yB 0 = .ok (.aload_n 0, 1) := by decide +kernel
theorem d1 : decode yB 1 = .ok (.invokespecial 1, 3) := by decide +kernel
theorem d4 : decode yB 4 = .ok (.iload_n 3, 1) := by decide +kernel
theorem d5 : decode yB 5 = .ok (.ifCond (.ne) 22, 3) := by decide +kernel
theorem d27 : decode yB 27 = .ok (.getstatic 38, 3) := by decide +kernel
theorem d30 : decode yB 30 = .ok (.ifCond (.eq) 28, 3) := by decide +kernel
theorem d33 : decode yB 33 = .ok (.aload_n 1, 1) := by decide +kernel
theorem d34 : decode yB 34 = .ok (.iload_n 2, 1) := by decide +kernel
theorem d35 : decode yB 35 = .ok (.iload_n 3, 1) := by decide +kernel
theorem d36 : decode yB 36 = .ok (.invokestatic 177, 3) := by decide +kernel
theorem d39 : decode yB 39 = .ok (.astore 5, 2) := by decide +kernel
theorem d41 : decode yB 41 = .ok (.aload_n 0, 1) := by decide +kernel
theorem d42 : decode yB 42 = .ok (.aload 5, 2) := by decide +kernel
theorem d44 : decode yB 44 = .ok (.iload_n 3, 1) := by decide +kernel
theorem d45 : decode yB 45 = .ok (.invokestatic 47, 3) := by decide +kernel
theorem d48 : decode yB 48 = .ok (.putfield 15, 3) := by decide +kernel
theorem d51 : decode yB 51 = .ok (.aload_n 0, 1) := by decide +kernel
theorem d52 : decode yB 52 = .ok (.aload 5, 2) := by decide +kernel
theorem d54 : decode yB 54 = .ok (.putfield 9, 3) := by decide +kernel
theorem d57 : decode yB 57 = .ok (.return_, 1) := by decide +kernel
def site : List Cond := [.fieldLink "java/lang/String" 38 "java/lang/String" "COMPACT_STRINGS" "Z", Cmp3.tab, CodL.tab, .laysFinal "java/lang/String" "java/lang/String" "value" "[B", .fieldLink "java/lang/String" 9 "java/lang/String" "value" "[B", .laysFinal "java/lang/String" "java/lang/String" "coder" "B", .fieldLink "java/lang/String" 15 "java/lang/String" "coder" "B"] ++ objW "java/lang/String" 1 ++ staticW "java/lang/String" 177 Cmp3.yN ++ staticW "java/lang/String" 47 CodL.yN
def tab : Cond := tabOf yN yB 6 none site
def P (a : Addr) (D : Cell) (fV fC : Field) (b : Addr) (A : Cell) (z : Int32) (o len : Nat) (args : Array Value) (s : State) : Prop := args = #[.ref a, .ref b, .int (Int32.ofNat o), .int (Int32.ofNat len), .null] ∧ Blank "java/lang/String" a D s ∧ Found "java/lang/String" "value" "[B" fV s ∧ Found "java/lang/String" "coder" "B" fC s ∧ Ch b A s ∧ StaticIs s "java/lang/String" "COMPACT_STRINGS" "Z" (.int z) ∧ ¬ z = 0 ∧ 0 < len ∧ o + len ≤ A.slots.size ∧ len ≤ 536870912 ∧ ∀ i, i < len → ¬ 255 < cv A (o + i)
def E (a : Addr) (D : Cell) (fV fC : Field) (A : Cell) (o len : Nat) (r : Option Value) (s u : State) : Prop := Got a D fV fC A o len r s u
/-- len > 0, no char of the range above 255: a Latin-1 String of their low bytes -/
theorem law (l : Launch) (a : Addr) (D : Cell) (fV fC : Field) (b : Addr) (A : Cell) (z : Int32) (o len : Nat) : Law l yN 5 4 2 35 yB 6 none site (P a D fV fC b A z o len) (E a D fV fC A o len) [⟨a, fC.slot⟩, ⟨a, fV.slot⟩] 1 len := by
  refine Law.of_walk (plainFor_of_name (by decide +kernel)) (by decide +kernel) (by decide +kernel) (by decide) (fun _ _ h => by rw [h.1]; rfl) (fun _ U U' hal hh h => ⟨h.1, h.2.1.mv hal hh, h.2.2.1.al hal, h.2.2.2.1.al hal, h.2.2.2.2.1.mv hal hh, h.2.2.2.2.2.1.there hal hh, h.2.2.2.2.2.2⟩) (fun r U U' V V' h1 hal h2 h => Got.mv r U U' V V' h1 hal h2 h) ?_
  intro p e s m args below meth c s₁ X0 hexec hbytes hml hret hlk hnm hown hh0 W hP
  obtain ⟨rfl, hB, f1, f2, hA, s1, hz, l0, l1, l2, hp⟩ := hP
  have a31 := hA.1.2.2.2
  have c1 : Steps p.tables e below (s₁.setTop (entryFrame m #[.ref a, .ref b, .int (Int32.ofNat o), .int (Int32.ofNat len), .null] 6)) (s₁.setTop (mkF m 0 #[.val (.ref a), .val (.ref b), .val (.int (Int32.ofNat o)), .val (.int (Int32.ofNat len)), .val .null, .unset] [])) := entry rfl
  have c2 : Steps p.tables e below (s₁.setTop (entryFrame m #[.ref a, .ref b, .int (Int32.ofNat o), .int (Int32.ofNat len), .null] 6)) (s₁.setTop (mkF m 1 #[.val (.ref a), .val (.ref b), .val (.int (Int32.ofNat o)), .val (.int (Int32.ofNat len)), .val .null, .unset] [.ref a])) := c1.trans (by
    refine XS.aloadN X0.here hexec rfl (hb hbytes d0) rfl rfl ?_
    exact Steps.refl _)
  obtain ⟨T3, X3, q3, st3⟩ := X0.oinit hexec hown (wks W (objW "java/lang/String" 1)) (g := (mkF m 1 #[.val (.ref a), .val (.ref b), .val (.int (Int32.ofNat o)), .val (.int (Int32.ofNat len)), .val .null, .unset] [.ref a])) rfl (by rw [hml]; rfl) (rest := []) rfl (hb hbytes d1) (W := 0) (by show 2 * 0 + 0 ≤ _; decide) (Nat.le_of_ble_eq_true rfl) (Nat.le_of_ble_eq_true rfl)
  have hh3 := q3.trans hh0
  have c4 : Steps p.tables e below (s₁.setTop (entryFrame m #[.ref a, .ref b, .int (Int32.ofNat o), .int (Int32.ofNat len), .null] 6)) (T3.setTop (mkF m 27 #[.val (.ref a), .val (.ref b), .val (.int (Int32.ofNat o)), .val (.int (Int32.ofNat len)), .val .null, .unset] [])) := (c2.trans (st3 _ (Steps.refl _))).trans (by
    refine XS.iloadN X3.here hexec rfl (hb hbytes d4) rfl ?_
    refine XS.ifYes X3.here hexec rfl (pc0 := 5) rfl (hb hbytes d5) rfl (i0_ne_t (nz32 (by omega) l0)) (by decide) rfl ?_
    exact Steps.refl _)
  obtain ⟨T5, X5, q5, st5⟩ := X3.sget hexec hown (wk W (.fieldLink "java/lang/String" 38 "java/lang/String" "COMPACT_STRINGS" "Z")) s1 (fun _ _ h => by rw [hh3]; exact h) (g := (mkF m 27 #[.val (.ref a), .val (.ref b), .val (.int (Int32.ofNat o)), .val (.int (Int32.ofNat len)), .val .null, .unset] [])) rfl (hb hbytes d27)
  have hh5 := q5.trans hh3
  have c6 : Steps p.tables e below (s₁.setTop (entryFrame m #[.ref a, .ref b, .int (Int32.ofNat o), .int (Int32.ofNat len), .null] 6)) (T5.setTop (mkF m 30 #[.val (.ref a), .val (.ref b), .val (.int (Int32.ofNat o)), .val (.int (Int32.ofNat len)), .val .null, .unset] [.int z])) := c4.trans (st5 _ (Steps.refl _))
  have c7 : Steps p.tables e below (s₁.setTop (entryFrame m #[.ref a, .ref b, .int (Int32.ofNat o), .int (Int32.ofNat len), .null] 6)) (T5.setTop (mkF m 36 #[.val (.ref a), .val (.ref b), .val (.int (Int32.ofNat o)), .val (.int (Int32.ofNat len)), .val .null, .unset] [.int (Int32.ofNat len), .int (Int32.ofNat o), .ref b])) := c6.trans (by
    refine XS.ifNo X5.here hexec rfl (hb hbytes d30) rfl (i0_eq_f hz) ?_
    refine XS.aloadN X5.here hexec rfl (hb hbytes d33) rfl rfl ?_
    refine XS.iloadN X5.here hexec rfl (hb hbytes d34) rfl ?_
    refine XS.iloadN X5.here hexec rfl (hb hbytes d35) rfl ?_
    exact Steps.refl _)
  obtain ⟨v8, T8, X8, E8, g8⟩ := X5.callS hexec (Cmp3.law l b A o len) hown (wks W (staticW "java/lang/String" 177 Cmp3.yN)) (wk W Cmp3.tab) (W := 0) (Nat.le_of_ble_eq_true rfl) (Nat.le_of_ble_eq_true rfl) (Nat.le_refl _) (by show 0 + len ≤ len; omega) (g := (mkF m 36 #[.val (.ref a), .val (.ref b), .val (.int (Int32.ofNat o)), .val (.int (Int32.ofNat len)), .val .null, .unset] [.int (Int32.ofNat len), .int (Int32.ofNat o), .ref b])) rfl (by rw [hml]; rfl) c7 (argsL := [.ref b, .int (Int32.ofNat o), .int (Int32.ofNat len)]) (rest := []) rfl rfl (by show 2 * 0 + 0 ≤ _; decide) (hb hbytes d36) (⟨rfl, hA.mv X5.warmed.alike hh5, l1, l2, hp⟩)
  obtain ⟨e8, z8⟩ := E8
  obtain ⟨rfl, N, n1, n2, n3, n4, n5, n6⟩ := NewArr.mv _ T5 s _ _ hh5.symm (Vm.Alike.refl _) rfl e8
  rw [hh5] at z8
  have hB1 := hB.keep X8.warmed.alike (n6 _ _ hB.1)
  have hne : s.heap.size ≠ a := (Nat.ne_of_lt (Array.getElem?_eq_some_iff.mp hB.1).1).symm
  have c9 : Steps p.tables e below (s₁.setTop (entryFrame m #[.ref a, .ref b, .int (Int32.ofNat o), .int (Int32.ofNat len), .null] 6)) (T8.setTop (mkF m 39 #[.val (.ref a), .val (.ref b), .val (.int (Int32.ofNat o)), .val (.int (Int32.ofNat len)), .val .null, .unset] [.ref s.heap.size])) := g8
  have c10 : Steps p.tables e below (s₁.setTop (entryFrame m #[.ref a, .ref b, .int (Int32.ofNat o), .int (Int32.ofNat len), .null] 6)) (T8.setTop (mkF m 45 #[.val (.ref a), .val (.ref b), .val (.int (Int32.ofNat o)), .val (.int (Int32.ofNat len)), .val .null, .val (.ref s.heap.size)] [.int (Int32.ofNat N.slots.size), .ref s.heap.size, .ref a])) := by
    have hc : Steps p.tables e below (s₁.setTop (entryFrame m #[.ref a, .ref b, .int (Int32.ofNat o), .int (Int32.ofNat len), .null] 6)) (T8.setTop (mkF m 45 #[.val (.ref a), .val (.ref b), .val (.int (Int32.ofNat o)), .val (.int (Int32.ofNat len)), .val .null, .val (.ref s.heap.size)] [.int (Int32.ofNat len), .ref s.heap.size, .ref a])) := c9.trans (by
      refine XS.astore X8.here hexec rfl (hb hbytes d39) rfl rfl rfl ?_
      refine XS.aloadN X8.here hexec rfl (hb hbytes d41) rfl rfl ?_
      refine XS.aload X8.here hexec rfl (hb hbytes d42) rfl rfl ?_
      refine XS.iloadN X8.here hexec rfl (hb hbytes d44) rfl ?_
      exact Steps.refl _)
    rw [n4]; exact hc
  obtain ⟨v11, T11, X11, E11, g11⟩ := X8.callS hexec (CodL.law l s.heap.size N) hown (wks W (staticW "java/lang/String" 47 CodL.yN)) (wk W CodL.tab) (W := 1) (Nat.le_of_ble_eq_true rfl) (Nat.le_of_ble_eq_true rfl) (Nat.le_refl _) (by show 0 + len + 0 ≤ len; omega) (g := (mkF m 45 #[.val (.ref a), .val (.ref b), .val (.int (Int32.ofNat o)), .val (.int (Int32.ofNat len)), .val .null, .val (.ref s.heap.size)] [.int (Int32.ofNat N.slots.size), .ref s.heap.size, .ref a])) rfl (by rw [hml]; rfl) c10 (argsL := [.ref s.heap.size, .int (Int32.ofNat N.slots.size)]) (rest := [.ref a]) rfl rfl (by show 2 * 0 + (1 + 0) ≤ _; decide) (hb hbytes d45) (⟨rfl, n1⟩)
  obtain ⟨rfl, q11⟩ := E11
  have hB11 := hB1.mv (X8.warmed.alike.symm.trans X11.warmed.alike) q11
  have c12 : Steps p.tables e below (s₁.setTop (entryFrame m #[.ref a, .ref b, .int (Int32.ofNat o), .int (Int32.ofNat len), .null] 6)) (T11.setTop (mkF m 48 #[.val (.ref a), .val (.ref b), .val (.int (Int32.ofNat o)), .val (.int (Int32.ofNat len)), .val .null, .val (.ref s.heap.size)] [.int 0, .ref a])) := g11
  obtain ⟨T13, X13, p13, bl13, sl13, st13⟩ := X11.finit hexec hown (wk W (.fieldLink "java/lang/String" 15 "java/lang/String" "coder" "B")) (Or.inr ⟨_, (wk W (.laysFinal "java/lang/String" "java/lang/String" "coder" "B"))⟩) (Or.inl ⟨rfl, hnm⟩) f2 (Or.inl rfl) hB11 (t := .byte) (by decide +kernel) rfl (g := (mkF m 48 #[.val (.ref a), .val (.ref b), .val (.int (Int32.ofNat o)), .val (.int (Int32.ofNat len)), .val .null, .val (.ref s.heap.size)] [.int 0, .ref a])) rfl (rest := []) rfl (hb hbytes d48)
  have c14 : Steps p.tables e below (s₁.setTop (entryFrame m #[.ref a, .ref b, .int (Int32.ofNat o), .int (Int32.ofNat len), .null] 6)) (T13.setTop (mkF m 54 #[.val (.ref a), .val (.ref b), .val (.int (Int32.ofNat o)), .val (.int (Int32.ofNat len)), .val .null, .val (.ref s.heap.size)] [.ref s.heap.size, .ref a])) := (c12.trans (st13 _ (Steps.refl _))).trans (by
    refine XS.aloadN X13.here hexec rfl (hb hbytes d51) rfl rfl ?_
    refine XS.aload X13.here hexec rfl (hb hbytes d52) rfl rfl ?_
    exact Steps.refl _)
  obtain ⟨T15, X15, p15, bl15, sl15, st15⟩ := X13.finit hexec hown (wk W (.fieldLink "java/lang/String" 9 "java/lang/String" "value" "[B")) (Or.inr ⟨_, (wk W (.laysFinal "java/lang/String" "java/lang/String" "value" "[B"))⟩) (Or.inl ⟨rfl, hnm⟩) f1 (Or.inl rfl) bl13 (t := (.array .byte)) (by decide +kernel) rfl (g := (mkF m 54 #[.val (.ref a), .val (.ref b), .val (.int (Int32.ofNat o)), .val (.int (Int32.ofNat len)), .val .null, .val (.ref s.heap.size)] [.ref s.heap.size, .ref a])) rfl (rest := []) rfl (hb hbytes d54)
  have c16 : Steps p.tables e below (s₁.setTop (entryFrame m #[.ref a, .ref b, .int (Int32.ofNat o), .int (Int32.ofNat len), .null] 6)) (T15.setTop (mkF m 57 #[.val (.ref a), .val (.ref b), .val (.int (Int32.ofNat o)), .val (.int (Int32.ofNat len)), .val .null, .val (.ref s.heap.size)] [])) := c14.trans (st15 _ (Steps.refl _))
  have ap := apart (Or.inr ⟨_, (wk W (.laysFinal "java/lang/String" "java/lang/String" "value" "[B"))⟩) (Or.inr ⟨_, (wk W (.laysFinal "java/lang/String" "java/lang/String" "coder" "B"))⟩) f1 f2 (t₁ := .array .byte) (t₂ := .byte) (by decide +kernel) (by decide +kernel) (by decide)
  have al := X8.warmed.alike.symm.trans X15.warmed.alike
  have n7 : T11.heap[s.heap.size]? = some N := by rw [q11]; exact n1.1
  exact ⟨T15, none, _, _, _, X15, by simp, rfl, by omega, (fun _ => rfl), ⟨rfl, _, N, bl15, ((Same.refl D _).set _ (by simp)).set _ (by simp), sl15, (Cell.slots_setSlot_ne _ ap).trans sl13, n1.keep al (p15.other hne (p13.other hne n7)), n2, by rw [al.findClass]; exact n3, n4, n5, fun y c h1 h2 => p15.other h1 (p13.other h1 (by rw [q11]; exact n6 y c h2)), by rw [p15.2.2, p13.2.2, q11]; exact z8⟩, fun fs hl => c16.trans (X15.returnOut hexec hret (hb hbytes d57) hl)⟩
end New4
namespace New1
def yN : MethodName := ⟨"java/lang/String", "<init>", "([C)V"⟩
abbrev yB : ByteArray := jdk_42_method_3_code
theorem d0 : decode yB 0 = .ok (.aload_n 0, 1) := by decide +kernel
theorem d1 : decode yB 1 = .ok (.aload_n 1, 1) := by decide +kernel
theorem d2 : decode yB 2 = .ok (.iconst 0, 1) := by decide +kernel
theorem d3 : decode yB 3 = .ok (.aload_n 1, 1) := by decide +kernel
theorem d4 : decode yB 4 = .ok (.arraylength, 1) := by decide +kernel
theorem d5 : decode yB 5 = .ok (.aconst_null, 1) := by decide +kernel
theorem d6 : decode yB 6 = .ok (.invokespecial 27, 3) := by decide +kernel
theorem d9 : decode yB 9 = .ok (.return_, 1) := by decide +kernel
def site : List Cond := [New4.tab] ++ initW "java/lang/String" 27 New4.yN
def tab : Cond := tabOf yN yB 2 none site
def P (a : Addr) (D : Cell) (fV fC : Field) (b : Addr) (A : Cell) (z : Int32) (args : Array Value) (s : State) : Prop := args = #[.ref a, .ref b] ∧ Blank "java/lang/String" a D s ∧ Found "java/lang/String" "value" "[B" fV s ∧ Found "java/lang/String" "coder" "B" fC s ∧ Ch b A s ∧ StaticIs s "java/lang/String" "COMPACT_STRINGS" "Z" (.int z) ∧ ¬ z = 0 ∧ 0 < A.slots.size ∧ A.slots.size ≤ 536870912 ∧ ∀ i, i < A.slots.size → ¬ 255 < cv A i
def E (a : Addr) (D : Cell) (fV fC : Field) (A : Cell) (r : Option Value) (s u : State) : Prop := Got a D fV fC A 0 A.slots.size r s u
/-- new String(chars), not empty, no char above 255: a Latin-1 String of their low bytes -/
theorem law (l : Launch) (a : Addr) (D : Cell) (fV fC : Field) (b : Addr) (A : Cell) (z : Int32) : Law l yN 2 1 3 52 yB 2 none site (P a D fV fC b A z) (E a D fV fC A) [⟨a, fC.slot⟩, ⟨a, fV.slot⟩] 1 A.slots.size := by
  refine Law.of_walk (plainFor_of_name (by decide +kernel)) (by decide +kernel) (by decide +kernel) (by decide) (fun _ _ h => by rw [h.1]; rfl) (fun _ U U' hal hh h => ⟨h.1, h.2.1.mv hal hh, h.2.2.1.al hal, h.2.2.2.1.al hal, h.2.2.2.2.1.mv hal hh, h.2.2.2.2.2.1.there hal hh, h.2.2.2.2.2.2⟩) (fun r U U' V V' h1 hal h2 h => Got.mv r U U' V V' h1 hal h2 h) ?_
  intro p e s m args below meth c s₁ X0 hexec hbytes hml hret hlk hnm hown hh0 W hP
  obtain ⟨rfl, hB, f1, f2, hA, s1, hz, l0, l2, hp⟩ := hP
  have c1 : Steps p.tables e below (s₁.setTop (entryFrame m #[.ref a, .ref b] 2)) (s₁.setTop (mkF m 0 #[.val (.ref a), .val (.ref b)] [])) := entry rfl
  have c2 : Steps p.tables e below (s₁.setTop (entryFrame m #[.ref a, .ref b] 2)) (s₁.setTop (mkF m 6 #[.val (.ref a), .val (.ref b)] [.null, .int (Int32.ofNat A.slots.size), .int 0, .ref b, .ref a])) := c1.trans (by
    refine XS.aloadN X0.here hexec rfl (hb hbytes d0) rfl rfl ?_
    refine XS.aloadN X0.here hexec rfl (hb hbytes d1) rfl rfl ?_
    refine iconstV X0.here hexec rfl 0 (hb hbytes d2) (by decide) ?_
    refine XS.aloadN X0.here hexec rfl (hb hbytes d3) rfl rfl ?_
    refine X0.alen hexec (hA.1.mv X0.warmed.alike hh0) rfl rfl (hb hbytes d4) ?_
    refine XS.aconstNull X0.here hexec rfl (hb hbytes d5) ?_
    exact Steps.refl _)
  obtain ⟨v3, T3, X3, E3, g3⟩ := X0.callN hexec (New4.law l a D fV fC b A z 0 A.slots.size) rfl hown (wks W (initW "java/lang/String" 27 New4.yN)) (W New4.tab (by simp only [site, List.mem_cons, List.mem_append, true_or, or_true])) (W := 0) (Nat.le_of_ble_eq_true rfl) (Nat.le_of_ble_eq_true rfl) (Nat.le_refl _) (by show 0 + A.slots.size ≤ A.slots.size; omega) (g := (mkF m 6 #[.val (.ref a), .val (.ref b)] [.null, .int (Int32.ofNat A.slots.size), .int (Int32.ofNat 0), .ref b, .ref a])) rfl (by rw [hml]; rfl) c2 (argsL := [.ref b, .int (Int32.ofNat 0), .int (Int32.ofNat A.slots.size), .null]) (rest := []) rfl rfl (by show 2 * 0 + 0 ≤ _; decide) (hb hbytes d6) (⟨rfl, hB.mv X0.warmed.alike hh0, f1.al X0.warmed.alike, f2.al X0.warmed.alike, hA.mv X0.warmed.alike hh0, s1.there X0.warmed.alike hh0, hz, l0, by omega, l2, fun i hi => by rw [Nat.zero_add]; exact hp i hi⟩)
  have e0 := Got.mv _ s₁ s _ _ hh0.symm (Vm.Alike.refl _) rfl E3
  obtain rfl := e0.1
  have c4 : Steps p.tables e below (s₁.setTop (entryFrame m #[.ref a, .ref b] 2)) (T3.setTop (mkF m 9 #[.val (.ref a), .val (.ref b)] [])) := g3
  exact ⟨T3, none, _, _, _, X3, by simp, rfl, by omega, (fun _ => rfl), e0, fun fs hl => c4.trans (X3.returnOut hexec hret (hb hbytes d9) hl)⟩
theorem pays {l : Launch} {R : Room} {p : Program} {e : Env} {below : List Frame} {s : State} {sargs : Array Value} {len W : Nat} (a : Addr) (D : Cell) (fV fC : Field) (b : Addr) (A : Cell) (z : Int32) (htab : tab.before sargs s = true) (hfr : 4 ≤ R.frames) (hlo : W + 65 ≤ R.locals) :
    Back l R p e below s sargs yN len W (fun A₁ a₁ => A₁.cells + 1 ≤ R.cells ∧ A₁.slots + A.slots.size ≤ R.slots ∧ P a D fV fC b A z a₁ A₁.U) (fun A₁ _ v₁ B₁ => E a D fV fC A v₁ A₁.U B₁.U ∧ B₁.locs = A₁.locs ++ [⟨a, fC.slot⟩, ⟨a, fV.slot⟩] ∧ B₁.cells = A₁.cells + 1 ∧ B₁.slots = A₁.slots + A.slots.size) :=
  (law l a D fV fC b A z).pays htab hfr (by omega)
end New1
end StrChars
namespace StrChars.Road
open Jvm Sem ClassFile Op Lib Jvm.Stand Jvm.Free Jvm.Free.XT
open Jvm.Lib.Cold (StaticIs)
abbrev ST : String := "java/lang/String"
/-- every table word that New1's law asks, flat -/
abbrev words : List Jvm.Cond := [.code New1.yN New1.yB 2 none, .initialized ST, .methodLink ST 27 New4.yN, .instanceMethod New4.yN,
  .code New4.yN New4.yB 6 none, .fieldLink ST 38 ST "COMPACT_STRINGS" "Z", .laysFinal ST ST "value" "[B", .fieldLink ST 9 ST "value" "[B", .laysFinal ST ST "coder" "B", .fieldLink ST 15 ST "coder" "B",
  .methodLink ST 1 Lib.objectInit, .instanceMethod Lib.objectInit, .code Lib.objectInit ⟨#[0xb1]⟩ 1 none, .methodLink ST 177 Cmp3.yN, .static Cmp3.yN, .methodLink ST 47 CodL.yN, .static CodL.yN,
  .code Cmp3.yN Cmp3.yB 6 (some (.array .byte)), .initialized U16, .arrayClass .byte, .methodLink U16 115 Cmp5.yN, .static Cmp5.yN, .code Cmp5.yN Cmp5.yB 7 (some .int), .code CodL.yN CodL.yB 2 (some .byte)]
theorem tab_of {a : Array Value} {s : State} (h : ∀ w ∈ words, w.before a s = true) : New1.tab.before a s = true := by
  have h5 : Cmp5.tab.before a s = true := unparts (wk h (.code Cmp5.yN Cmp5.yB 7 (some .int))) (wks h (.initialized Cmp5.yN.cls :: Cmp5.site))
  have hc : CodL.tab.before a s = true := unparts (wk h (.code CodL.yN CodL.yB 2 (some .byte))) (wks h (.initialized CodL.yN.cls :: CodL.site))
  have q5 : ∀ w ∈ Cmp5.tab :: words, w.before a s = true := fun w hw => (List.mem_cons.mp hw).elim (fun e => e ▸ h5) (h w)
  have h3 : Cmp3.tab.before a s = true := unparts (wk q5 (.code Cmp3.yN Cmp3.yB 6 (some (.array .byte)))) (wks q5 (.initialized Cmp3.yN.cls :: Cmp3.site))
  have q3 : ∀ w ∈ Cmp3.tab :: CodL.tab :: words, w.before a s = true := fun w hw => (List.mem_cons.mp hw).elim (fun e => e ▸ h3) fun hw => (List.mem_cons.mp hw).elim (fun e => e ▸ hc) (h w)
  have h4 : New4.tab.before a s = true := unparts (wk q3 (.code New4.yN New4.yB 6 none)) (wks q3 (.initialized New4.yN.cls :: New4.site))
  have q4 : ∀ w ∈ New4.tab :: words, w.before a s = true := fun w hw => (List.mem_cons.mp hw).elim (fun e => e ▸ h4) (h w)
  exact unparts (wk q4 (.code New1.yN New1.yB 2 none)) (wks q4 (.initialized New1.yN.cls :: New1.site))
/-- the words ride from the start Z to the walk's own state -/
theorem moved {Z s : State} {a0 args : Array Value} (hZ : Z.Warmed39 s.vm) (hw : ∀ d ∈ words, d.before a0 Z = true) : ∀ d ∈ words, d.before args s = true := fun d hd => by
  have q := hw d hd
  have t : ∀ d ∈ words, d = .arrayClass .byte ∨ (d.onTables && d.keepsFace) = true := by decide +kernel
  rcases t d hd with rfl | t
  · exact RoadKit.mvA hZ q
  · exact RoadKit.mv hZ q t
/-- WHAT COMES BACK, over the tables of the start Z: h the heap at the call, h' behind it -/
def Q (Z : State) (x : Addr) (A : Cell) (h : Heap) (v : Option Value) (h' : Heap) (L : List Loc) : Prop := v = none ∧ (∀ y ∈ L, y.base = x) ∧ RoadKit.Keep h h' [x] ∧ h'.size = h.size + 1 ∧ RoadKit.Exa Z h' x ST ∧ RoadKit.Fld Z h' x ST "value" "[B" (.ref h.size) ∧ RoadKit.Fld Z h' x ST "coder" "B" (.int 0) ∧
  (∃ V : Cell, RoadKit.Arr Z h' h.size V .byte ∧ V.vm = .none ∧ Z.vm.findClass "[B" = some V.cls ∧ V.slots.size = A.slots.size ∧ ∀ j, j < A.slots.size → V.slots[j]? = some (.int (lo8 (cv A j)))) ∧
  ∀ (O n d : String) (w : Value), RoadKit.Fld Z h x O n d w → RoadKit.slotOf Z O n d ≠ RoadKit.slotOf Z ST "value" "[B" → RoadKit.slotOf Z O n d ≠ RoadKit.slotOf Z ST "coder" "B" → RoadKit.Fld Z h' x O n d w
/-- **new String(chars) AT A CALL, IN THE ROAD'S FORM**: for specialBack behind newO: x the fresh String, b the char[] with the cell A -/
theorem back {p : Program} {l : Launch} {e : Env} {R : Room} {s : State} {args : Array Value} {below : List Frame} {len W : Nat} {Z : State} {a0 : Array Value} {h : Heap} (hZ : Z.Warmed39 s.vm) (hw : ∀ d ∈ words, d.before a0 Z = true) {kI : Nat} (wi : (Jvm.Cond.instantiable ST kI).before a0 Z = true)
    {x b : Addr} {A : Cell} {z : Int32} {v0 c0 : Value} (E : RoadKit.Exa Z h x ST) (V : RoadKit.Fld Z h x ST "value" "[B" v0) (C : RoadKit.Fld Z h x ST "coder" "B" c0) (K : RoadKit.Arr Z h b A .char) (hty : Typed .char A) (S : RoadKit.Sta Z h ST "COMPACT_STRINGS" "Z" (.int z)) (hz : ¬ z = 0)
    (l0 : 0 < A.slots.size) (l2 : A.slots.size ≤ 536870912) (hp : ∀ i, i < A.slots.size → ¬ 255 < cv A i) (hfr : 4 ≤ R.frames) (hlo : W + 65 ≤ R.locals) :
    Back l R p e below s args New1.yN len W (fun P a => a = #[.ref x, .ref b] ∧ P.U.heap = h ∧ P.cells + 1 ≤ R.cells ∧ P.slots + A.slots.size ≤ R.slots)
      (fun P _ v B => ∃ L, Q Z x A h v B.U.heap L ∧ B.locs = P.locs ++ L ∧ B.cells = P.cells + 1 ∧ B.slots = P.slots + A.slots.size) := by
  intro m meth c P g ig mk a X hg hsize hdg hW hn hp'
  obtain ⟨rfl, rfl, r1, r2⟩ := hp'
  have al : Z.vm.Alike P.U.vm := hZ.alike.trans X.warmed.alike
  obtain ⟨D, cfV, kV, iV, fV, hD, gV, stV, knV, obV, asV, slV⟩ := id V
  obtain ⟨D', cfC, kC, iC, fC, hD', gC, stC, -, -, asC, slC⟩ := id C
  cases hD.symm.trans hD'
  obtain ⟨D2, kD, e1, e2, e3, e4, e5⟩ := id E
  cases hD.symm.trans e1
  obtain ⟨c2, k2, i1, i2, i3, -⟩ := Cond.instantiable_spec wi
  cases e2.symm.trans i1
  cases e3.symm.trans i2
  obtain ⟨kU, u1, u2⟩ := al.2.2 _ _ e3
  have hB : Blank ST x D P.U := ⟨hD, ⟨knV, fun q hq => by rw [hq] at obV; cases obV⟩, by rw [al.findClass]; exact e2, kU, u1, by rw [u2]; exact i3, by rw [u2]; exact e5 i3⟩
  have F1 : Found ST "value" "[B" fV P.U := ⟨SBG.found_only al ⟨cfV, kV, iV, gV⟩, stV⟩
  have F2 : Found ST "coder" "B" fC P.U := ⟨SBG.found_only al ⟨cfC, kC, iC, gC⟩, stC⟩
  have hA : Ch b A P.U := ⟨⟨K.1, State.isArrayOf_alike al K.2.1, K.2.2, by omega⟩, hty⟩
  have hS : StaticIs P.U ST "COMPACT_STRINGS" "Z" (.int z) := by
    obtain ⟨cfS, iS, kS, fS, st, cS, t1, t2, t3, t4, t5, t6, t7⟩ := S
    exact StaticIs.there (s := { Z with heap := P.U.heap }) ⟨cfS, iS, kS, fS, st, cS, t1, t2, t3, t4, t5, (fun q => by rw [q] at t6; cases t6), t7⟩ al rfl
  obtain ⟨v, B, X', ⟨⟨hv, E', V', q1, q2, q3, q4, q5, q6, q7, q8, q9, q10, q11⟩, hl, hc, hs⟩, st⟩ := New1.pays x D fV fC b A z (tab_of (moved hZ hw)) hfr hlo m meth c P g ig mk _ X hg hsize hdg hW hn ⟨r1, r2, rfl, hB, F1, F2, hA, hS, hz, l0, l2, hp⟩
  have al' : Z.vm.Alike B.U.vm := hZ.alike.trans X'.warmed.alike
  have hsz : E'.slots.size = D.slots.size := by
    obtain ⟨-, -, -, kB, w1, w2, w3⟩ := q1
    obtain ⟨kB', y1, y2⟩ := al'.2.2 _ _ e3
    rw [q2.2.1] at w1
    cases w1.symm.trans y1
    rw [w3, e5 i3, y2]
  refine ⟨v, B, X', ⟨_, ⟨hv, ?_, ⟨by omega, fun y cy hy hn' => q10 y cy (by simpa using hn') hy, fun y cy hy => ?_⟩, q11, ⟨E', _, q1.1, by rw [q2.2.1]; exact e2, by rw [q2.2.1]; exact e3, by rw [q2.1]; exact obV, fun _ => by rw [hsz]; exact e5 i3⟩,
    ⟨E', cfV, kV, iV, fV, q1.1, gV, stV, by rw [q2.1]; exact knV, by rw [q2.1]; exact obV, by rw [q2.2.1]; exact asV, q3⟩, ⟨E', cfC, kC, iC, fC, q1.1, gC, stC, by rw [q2.1]; exact knV, by rw [q2.1]; exact obV, by rw [q2.2.1]; exact asC, q4⟩,
    ⟨V', ⟨q5.1, State.isArrayOf_alike al'.symm q5.2.1, q5.2.2.1⟩, q6, by rw [← al'.findClass]; exact q7, q8, fun j hj => by have := q9 j hj; rwa [Nat.zero_add] at this⟩, fun O n d w F n1 n2 => ?_⟩, hl, hc, hs⟩, st⟩
  · intro y hy
    simp only [List.mem_cons, List.not_mem_nil, or_false] at hy
    rcases hy with rfl | rfl <;> rfl
  · by_cases q : y = x
    · subst q
      cases hD.symm.trans hy
      exact ⟨E', q1.1, q2.2.1, q2.1, hsz⟩
    · exact ⟨cy, q10 y cy q hy, rfl, rfl, rfl⟩
  · obtain ⟨D3, cf, k, i, f, g1, g2, g3, g4, g5, g6, g7⟩ := F
    cases hD.symm.trans g1
    simp only [RoadKit.slotOf, g2, gV, gC, Option.map_some, Option.getD_some] at n1 n2
    exact ⟨E', cf, k, i, f, q1.1, g2, g3, by rw [q2.1]; exact g4, by rw [q2.1]; exact g5, by rw [q2.2.1]; exact g6, by rw [q2.2.2 f.slot (by simp [n1, n2])]; exact g7⟩
end StrChars.Road
namespace StrChars.Road
open Jvm Sem ClassFile Op Lib Jvm.Stand Jvm.Free Jvm.Free.XT
/-- WHAT COMES BACK, the byte[] as a list of values -/
def QA (Z : State) (x : Addr) (zn : Int32) (cs : List Int32) (h : Heap) (v : Option Value) (h' : Heap) (L : List Loc) : Prop := v = none ∧ (∀ y ∈ L, y.base = x) ∧ RoadKit.Keep h h' [x] ∧ h'.size = h.size + 1 ∧ RoadKit.Exa Z h' x ST ∧ RoadKit.Fld Z h' x ST "value" "[B" (.ref h.size) ∧ RoadKit.Fld Z h' x ST "coder" "B" (.int 0) ∧
  (∃ kb, Z.vm.findClass "[B" = some kb ∧ RoadKit.Arv Z h' h.size kb .byte zn (cs.map fun c => .int (lo8 c)) (.int 0)) ∧
  ∀ (O n d : String) (w : Value), RoadKit.Fld Z h x O n d w → RoadKit.slotOf Z O n d ≠ RoadKit.slotOf Z ST "value" "[B" → RoadKit.slotOf Z O n d ≠ RoadKit.slotOf Z ST "coder" "B" → RoadKit.Fld Z h' x O n d w
/-- **new String(chars) AT A CALL, THE ARRAYS AS LISTS**: the char[] at b holds cs, not empty, no char above 255 -/
theorem backArv {p : Program} {l : Launch} {e : Env} {R : Room} {s : State} {args : Array Value} {below : List Frame} {len W : Nat} {Z : State} {a0 : Array Value} {h : Heap} (hZ : Z.Warmed39 s.vm) (hw : ∀ d ∈ words, d.before a0 Z = true) {kI : Nat} (wi : (Jvm.Cond.instantiable ST kI).before a0 Z = true)
    {x b : Addr} {k : ClassId} {zn z : Int32} {cs : List Int32} {dv v0 c0 : Value} (E : RoadKit.Exa Z h x ST) (V : RoadKit.Fld Z h x ST "value" "[B" v0) (C : RoadKit.Fld Z h x ST "coder" "B" c0) (K : RoadKit.Arv Z h b k .char zn (cs.map Value.int) dv) (S : RoadKit.Sta Z h ST "COMPACT_STRINGS" "Z" (.int z)) (hz : ¬ z = 0)
    (hlen : zn.toNatClampNeg = cs.length) (h0 : 0 < cs.length) (hbig : cs.length ≤ 536870912) (hall : ∀ c ∈ cs, ¬ 255 < c) (hfr : 4 ≤ R.frames) (hlo : W + 65 ≤ R.locals) :
    Back l R p e below s args New1.yN len W (fun P a => a = #[.ref x, .ref b] ∧ P.U.heap = h ∧ P.cells + 1 ≤ R.cells ∧ P.slots + cs.length ≤ R.slots)
      (fun P _ v B => ∃ L, QA Z x zn cs h v B.U.heap L ∧ B.locs = P.locs ++ L ∧ B.cells = P.cells + 1 ∧ B.slots = P.slots + cs.length) := by
  obtain ⟨A, K1, K2, K3, K4, K5, K6⟩ := K
  have e : A.slots.size = cs.length := K3.trans hlen
  have hat : ∀ (i : Nat) (hi : i < cs.length), A.slots[i]? = some (.int cs[i]) := fun i hi => by rw [K5 i (by omega)]; simp [List.getD_eq_getElem?_getD, hi]
  have hcv : ∀ (i : Nat) (hi : i < cs.length), cv A i = cs[i] := fun i hi => by unfold cv; rw [hat i hi]
  have hty : Typed .char A := fun i v hv => by
    have hi : i < A.slots.size := (Array.getElem?_eq_some_iff.mp hv).1
    have q := K5 i hi
    rw [hv] at q
    rw [Option.some.inj q]
    exact K6 i hi
  refine Back.mono (back hZ hw wi E V C K1 hty S hz (by omega) (by omega) (fun i hi => by rw [hcv i (by omega)]; exact hall _ (List.getElem_mem _)) hfr hlo) (fun P a hp => ⟨hp.1, hp.2.1, hp.2.2.1, by rw [e]; exact hp.2.2.2⟩) (fun P a v B hp hq => ?_)
  obtain ⟨L, ⟨q1, q2, q3, q4, q5, q6, q7, ⟨V', v1, v2, v3, v4, v5⟩, q9⟩, hl, hc, hs⟩ := hq
  refine ⟨L, ⟨q1, q2, q3, q4, q5, q6, q7, ⟨V'.cls, v3, V', v1, rfl, by rw [v4, e, hlen], K4, fun i hi => ?_, fun i hi => ?_⟩, q9⟩, hl, hc, by rw [hs, e]⟩
  · have hi' : i < cs.length := by omega
    rw [v5 i (by omega), hcv i hi']; simp [List.getD_eq_getElem?_getD, hi']
  · have hi' : i < cs.length := by omega
    simp only [List.getD_eq_getElem?_getD, List.getElem?_map, List.getElem?_eq_getElem hi', Option.map_some, Option.getD_some]
    exact fits_lo8 _
end StrChars.Road
namespace StrChars.Road
open Jvm Sem ClassFile Op Lib Jvm.Stand Jvm.Free Jvm.Free.XT
/-- WHAT COMES BACK, in the writer's own shape -/
def QV (Z : State) (x : Addr) (N : Int32) (bs : List Int32) (h : Heap) (n0 : Nat) (v : Option Value) (h' : Heap) (L : List Loc) : Prop := v = none ∧ RoadKit.Fr n0 L ∧ RoadKit.Keep h h' [x] ∧ RoadKit.Exa Z h' x ST ∧ RoadKit.Fld Z h' x ST "coder" "B" (.int 0) ∧
  ∃ (t : Addr) (kb : ClassId), n0 ≤ t ∧ h.size ≤ t ∧ ¬ t = x ∧ RoadKit.Fld Z h' x ST "value" "[B" (.ref t) ∧ RoadKit.Arv Z h' t kb .byte N (bs.map Value.int) (.int 0)
/-- **new String(chars) AT A CALL, FOR THE WRITER**: a char[] of n known ints, each 0 to 255 -/
theorem backV {p : Program} {l : Launch} {e : Env} {R : Room} {s : State} {args : Array Value} {below : List Frame} {len W : Nat} {Z : State} {a0 : Array Value} {h : Heap} (hZ : Z.Warmed39 s.vm) (hw : ∀ d ∈ words, d.before a0 Z = true) {kI : Nat} (wi : (Jvm.Cond.instantiable ST kI).before a0 Z = true)
    {x b : Addr} {kC : ClassId} {cs bs : List Int32} {d v0 c0 : Value} {z N : Int32} {n n0 : Nat} (hx0 : n0 ≤ x) (hh0 : n0 ≤ h.size) (E : RoadKit.Exa Z h x ST) (V : RoadKit.Fld Z h x ST "value" "[B" v0) (C : RoadKit.Fld Z h x ST "coder" "B" c0) (K : RoadKit.Arv Z h b kC .char N (cs.map Value.int) d) (S : RoadKit.Sta Z h ST "COMPACT_STRINGS" "Z" (.int z)) (hz : ¬ z = 0)
    (hn : cs.length = n) (hN : N = Int32.ofNat n) (l0 : 0 < n) (l2 : n ≤ 4000) (hp : ∀ c ∈ cs, ¬ c < 0 ∧ ¬ (255 : Int32) < c) (hb : bs = cs.map (fun c => c.toInt8.toInt32)) (hfr : 4 ≤ R.frames) (hlo : W + 65 ≤ R.locals) :
    Back l R p e below s args (⟨"java/lang/String", "<init>", "([C)V"⟩ : MethodName) len W (fun P a => a = #[.ref x, .ref b] ∧ P.U.heap = h ∧ P.cells + 1 ≤ R.cells ∧ P.slots + n ≤ R.slots)
      (fun P _ v B => ∃ L, QV Z x N bs h n0 v B.U.heap L ∧ B.locs = P.locs ++ L ∧ B.cells = P.cells + 1 ∧ B.slots = P.slots + n) := by
  subst hn hN hb
  refine Back.mono (backArv hZ hw wi E V C K S hz (n32 (by omega)) l0 (by omega) (fun c hc => (hp c hc).2) hfr hlo) (fun P a hp => hp) (fun P a v B hp hq => ?_)
  obtain ⟨L, ⟨q1, q2, q3, q4, q5, q6, q7, ⟨kb, v1, v2⟩, q9⟩, hl, hc, hs⟩ := hq
  exact ⟨L, ⟨q1, fun y hy => by rw [q2 y hy]; exact hx0, q3, q5, q7, h.size, kb, hh0, Nat.le_refl _, Nat.ne_of_gt E.lt, q6, by rw [List.map_map]; exact v2⟩, hl, hc, hs⟩
end StrChars.Road
end Jvm.Pilot.@@N@@
namespace Jvm.RoadKit
open Sem ClassFile Op Lib Jvm.Stand Jvm.Free Jvm.LawKit
section Own
variable {p : Program} {l : Launch} {e : Env} {R : Room} {s : State} {m : MethodId} {args : Array Value} {below : List Frame} {meth : Method} {c : Code} {T : State} {locs : List Loc} {cells slots : Nat}
theorem retI (X : Stand p l e R s m args below meth c T locs cells slots) (hx : p.tables.exec = Jvm.exec) {pc : Nat} {Ls : Array Slot} {z : Int32} {rest : List Value} (hret : meth.sig.returnType = some .int) (hd : decode c.code pc = .ok (.ireturn, 1)) {fs : List Frame}
    (hl : ∀ (f : JFrame) (acts : List Action), f.method = m → f.locked = none → f.entered = [] → (doReturn e (T.setTop f) acts (some (.int z))).1 = T.setFrames fs) : Steps p.tables e below (T.setTop (mkF m pc Ls (.int z :: rest))) (T.setFrames fs) :=
  retOut X hx hret rfl (Or.inl ⟨rfl, Or.inl rfl, _, rfl⟩) hd hl
theorem retJ (X : Stand p l e R s m args below meth c T locs cells slots) (hx : p.tables.exec = Jvm.exec) {pc : Nat} {Ls : Array Slot} {z : Int64} {rest : List Value} (hret : meth.sig.returnType = some .long) (hd : decode c.code pc = .ok (.lreturn, 1)) {fs : List Frame}
    (hl : ∀ (f : JFrame) (acts : List Action), f.method = m → f.locked = none → f.entered = [] → (doReturn e (T.setTop f) acts (some (.long z))).1 = T.setFrames fs) : Steps p.tables e below (T.setTop (mkF m pc Ls (.long z :: rest))) (T.setFrames fs) :=
  retOut X hx hret rfl (Or.inr (Or.inl ⟨rfl, rfl, _, rfl⟩)) hd hl
theorem retA (X : Stand p l e R s m args below meth c T locs cells slots) (hx : p.tables.exec = Jvm.exec) {pc : Nat} {Ls : Array Slot} {t : FieldType} {z : Value} {rest : List Value} (hret : meth.sig.returnType = some t) (hn : narrow t z = z) (ht : t.isReference = true) (hz : z.isRef = true) (hd : decode c.code pc = .ok (.areturn, 1)) {fs : List Frame}
    (hl : ∀ (f : JFrame) (acts : List Action), f.method = m → f.locked = none → f.entered = [] → (doReturn e (T.setTop f) acts (some z)).1 = T.setFrames fs) : Steps p.tables e below (T.setTop (mkF m pc Ls (z :: rest))) (T.setFrames fs) :=
  retOut X hx hret hn (Or.inr (Or.inr (Or.inr (Or.inr ⟨rfl, ht, hz⟩)))) hd hl
theorem retZ (X : Stand p l e R s m args below meth c T locs cells slots) (hx : p.tables.exec = Jvm.exec) {pc : Nat} {Ls : Array Slot} {z r : Int32} {t : FieldType} {rest : List Value} (hret : meth.sig.returnType = some t) (ht : t = .boolean ∨ t = .byte ∨ t = .char ∨ t = .short)
    (hd : decode c.code pc = .ok (.ireturn, 1)) (hn : nar t z = r) {fs : List Frame} (hl : ∀ (f : JFrame) (acts : List Action), f.method = m → f.locked = none → f.entered = [] → (doReturn e (T.setTop f) acts (some (.int r))).1 = T.setFrames fs) :
    Steps p.tables e below (T.setTop (mkF m pc Ls (.int z :: rest))) (T.setFrames fs) := retN X hx hret ht hd (by rw [hn]; exact hl)
theorem ownUp (X : Stand p l e R s m args below meth c T locs cells slots) {cells' slots' : Nat} (h1 : cells ≤ cells') (h2 : slots ≤ slots') : Stand p l e R s m args below meth c T locs cells' slots' :=
  ⟨X.admits, X.cas, X.clock, X.frames, X.room, X.hears, X.method, X.code, X.here, X.tail, X.warmed, X.limits, X.bytes, X.same.mono h1 h2⟩
theorem own_hide (X : Stand p l e R s m args below meth c T locs cells slots) {n0 : Nat} (N : Fr n0 locs) : ∃ L, Stand p l e R s m args below meth c T L cells slots ∧ Fr n0 L := ⟨_, X, N⟩
end Own
def Go (tb : Tables) (e : Env) (below : List Frame) (P : Outcome → State → Prop) (T : State) (f : JFrame) : Prop :=
  ∃ s₂ o, Steps tb e below (T.setTop f) s₂ ∧ s₂.status = .running ∧ Ended s₂ below o ∧ P o s₂
theorem Go.via {tb : Tables} {e : Env} {below : List Frame} {P : Outcome → State → Prop} {T T' : State} {f f' : JFrame} (st : ∀ t, Steps tb e below (T'.setTop f') t → Steps tb e below (T.setTop f) t) (k : Go tb e below P T' f') : Go tb e below P T f := by
  obtain ⟨s₂, o, h, r⟩ := k; exact ⟨s₂, o, st _ h, r⟩
theorem Go.hop {tb : Tables} {e : Env} {below : List Frame} {P : Outcome → State → Prop} {T T' : State} {f f' : JFrame} (st : Steps tb e below (T.setTop f) (T'.setTop f')) (k : Go tb e below P T' f') : Go tb e below P T f := by
  obtain ⟨s₂, o, h, r⟩ := k; exact ⟨s₂, o, st.trans h, r⟩
theorem own_nin0 {a : Addr} : a ∉ ([] : List Addr) := fun q => nomatch q
theorem own_ninC {a b : Addr} {l : List Addr} (h : a ≠ b) (h' : a ∉ l) : a ∉ b :: l := fun q => (List.mem_cons.mp q).elim h h'
theorem own_nb {x : Int32} (h : x = 0 ∨ x = 1) : nar .boolean x = x := by rcases h with rfl | rfl <;> rfl
theorem own_nnb {x : Int32} (h : x = 0 ∨ x = 1) : narrow .boolean (.int x) = .int x := by rcases h with rfl | rfl <;> rfl
theorem own_fb {x : Int32} (h : x = 0 ∨ x = 1) : fits .boolean (.int x) = true := by rcases h with rfl | rfl <;> rfl
theorem own_all0 {P : Addr → Prop} : ∀ x ∈ ([] : List Addr), P x := fun _ q => nomatch q
theorem own_allC {P : Addr → Prop} {a : Addr} {l : List Addr} (h : P a) (h' : ∀ x ∈ l, P x) : ∀ x ∈ a :: l, P x := fun x q => (List.mem_cons.mp q).elim (fun e => e ▸ h) (h' x)
theorem own_dc0 : FP.dconst0 = FP.l2d (0 : Int64) := by decide +kernel
theorem own_dc1 : FP.dconst1 = FP.l2d (1 : Int64) := by decide +kernel
theorem own_m0 {k : Int32} : ∀ p ∈ ([] : List (Int × Int)), p.1 ≠ k.toInt := fun _ q => nomatch q
theorem own_mC {k x : Int32} {a o : Int} {l : List (Int × Int)} (h : ¬ k = x) (hx : x.toInt = a) (t : ∀ p ∈ l, p.1 ≠ k.toInt) : ∀ p ∈ (a, o) :: l, p.1 ≠ k.toInt := fun p q => (List.mem_cons.mp q).elim (fun e r => h (Int32.toInt_inj.mp (by rw [hx, ← r, e]))) (t p)
theorem own_cat {v : Value} (h : v.isRef = true) : v.category = 1 := by rcases ref_cases h with rfl | ⟨a, rfl⟩ <;> rfl
theorem own_nat {n : Nat} (h : n < 2147483648) : n.toInt32.toInt = n := len_toInt h
theorem own_ltN {i n : Nat} (hi : i < 2147483648) (hn : n < 2147483648) : i.toInt32 < n.toInt32 ↔ i < n := by
  rw [Int32.lt_iff_toInt_lt, own_nat hi, own_nat hn]; omega
theorem own_succ (i : Nat) : i.toInt32 + 1 = (i + 1).toInt32 := (Int32.ofNat_add i 1).symm
theorem own_nneg {i : Nat} (hi : i < 2147483648) : ¬ i.toInt32 < 0 := by
  rw [Int32.lt_iff_toInt_lt, own_nat hi]; simp
theorem own_clamp {i : Nat} (hi : i < 2147483648) : i.toInt32.toNatClampNeg = i := by
  show i.toInt32.toInt.toNat = i
  rw [own_nat hi]; rfl
end Jvm.RoadKit
namespace Jvm.Pilot.@@N@@
open Jvm Jvm.ClassFile Sem Op Lib Jvm.Free Jvm.Stand Jvm.LawKit Jvm.RoadKit Bundle Jvm.Pilot.@@N@@.Jvm.D
theorem own_ch (x : Int32) : ¬ nar .char ((x &&& (255 : Int32)).toUInt32.toUInt16.toUInt32.toInt32) < 0 ∧ ¬ (255 : Int32) < nar .char ((x &&& (255 : Int32)).toUInt32.toUInt16.toUInt32.toInt32) := by
  show ¬ ((x &&& (255 : Int32)).toUInt32.toUInt16.toUInt32.toInt32).toUInt32.toUInt16.toUInt32.toInt32 < 0 ∧ ¬ (255 : Int32) < ((x &&& (255 : Int32)).toUInt32.toUInt16.toUInt32.toInt32).toUInt32.toUInt16.toUInt32.toInt32
  rw [i2c_mask, i2c_mask, Int32.lt_iff_toInt_lt, Int32.lt_iff_toInt_lt]
  have := c_and x 255 (by decide)
  have e1 : (255 : Int32).toInt = 255 := rfl
  have e2 : (0 : Int32).toInt = 0 := rfl
  omega
theorem own_al0 {P : Int32 → Prop} : ∀ c ∈ ([] : List Int32), P c := fun _ q => nomatch q
theorem own_alC {P : Int32 → Prop} {a : Int32} {l : List Int32} (h : P a) (h' : ∀ x ∈ l, P x) : ∀ x ∈ a :: l, P x := fun x q => (List.mem_cons.mp q).elim (fun e => e ▸ h) (h' x)
theorem own_ws {a0 : Array Value} {Z : State} (hw : ∀ d ∈ tables_1, d.before a0 Z = true) : ∀ d ∈ StrChars.Road.words, d.before a0 Z = true := fun d hd => hw d ((by decide +kernel : ∀ d ∈ StrChars.Road.words, d ∈ tables_1) d hd)
theorem own_shr0 (x : Int32) : x >>> ((0 : Int32) &&& 31) = x := by
  rw [← Int32.toInt_inj, c_ishr x 0 0 (by decide)]; simp
theorem own_b2c (x : Int32) : nar .char ((x &&& (255 : Int32)).toUInt32.toUInt16.toUInt32.toInt32) = x &&& 255 := by
  show ((x &&& (255 : Int32)).toUInt32.toUInt16.toUInt32.toInt32).toUInt32.toUInt16.toUInt32.toInt32 = _
  rw [i2c_mask, i2c_mask]
theorem own_nc (x : Int32) : nar .char (x &&& (255 : Int32)) = x &&& 255 := by
  show (x &&& (255 : Int32)).toUInt32.toUInt16.toUInt32.toInt32 = _
  rw [i2c_mask]
theorem own_sa {a0 : Array Value} {Z : State} (hw : ∀ d ∈ tables_1, d.before a0 Z = true) : ∀ a ∈ Bundle.stringAtoms, a.before a0 Z = true := fun d hd => by
  simp only [Bundle.stringAtoms, List.mem_cons, List.not_mem_nil, or_false] at hd
  rcases hd with rfl | rfl | rfl | rfl | rfl | rfl | rfl
  · exact hw _ (List.mem_of_getElem? (i := 6) rfl)
  · exact hw _ (List.mem_of_getElem? (i := 5) rfl)
  · exact hw _ (List.mem_of_getElem? (i := 19) rfl)
  · exact hw _ (List.mem_of_getElem? (i := 20) rfl)
  · exact hw _ (List.mem_of_getElem? (i := 21) rfl)
  · exact hw _ (List.mem_of_getElem? (i := 22) rfl)
  · exact hw _ (List.mem_of_getElem? (i := 23) rfl)
theorem own_EW {a0 : Array Value} {Z : State} (hw : ∀ d ∈ tables_1, d.before a0 Z = true) : EW Z a0 consts_1 := (EW.cons (hw _ (List.mem_of_getElem? (i := 18) rfl)) (by decide) EW.nil)
theorem own_rew {s t : State} {o : Outcome} {L : List Loc} {k n k' n' : Nat} (h : ReturnedEndW s o t L k n) (h1 : k ≤ k') (h2 : n ≤ n') : ReturnedEndW s o t L k' n' := ⟨h.1, h.2.1, h.2.2.1, h.2.2.2.mono h1 h2⟩
theorem own_safeS {Z : State} {EL : List (String × Nat)} {vm : Vm} {h : Heap} {x : Addr} (hal : Z.vm.Alike vm) (E : Exa Z h x "java/lang/String") (F : Fld Z h x "java/lang/String" "value" "[B" .null) : Safe Z EL vm h x := fun B => by
  obtain ⟨cell, k, e1, e2, e3, -, -⟩ := E
  obtain ⟨cell', cf, kf, i, f, f1, f2, -, -, -, -, f7⟩ := F
  cases e1.symm.trans f1
  obtain ⟨p, -, u, a, -, q, -, G, rfl | rfl⟩ := B
  · cases (show h[q.sa]? = some q.sC from G.ha).symm.trans e1
    obtain ⟨cS, ⟨⟨s1, s2, s3, ⟨cv, kv, iv, s4, s4'⟩, -, -, -, s8, -⟩, -⟩, -⟩ := G
    obtain ⟨kv', z4⟩ := ff_back (U := Wst Z vm h) hal s4
    cases f2.symm.trans z4
    cases f7.symm.trans s8
  · cases (show h[q.sd]? = some q.SA from G.hd).symm.trans e1
    obtain ⟨cS, -, -, hf, -⟩ := G
    have hf : vm.findClass "[B" = some q.SA.cls := hf
    rw [hal.findClass] at hf
    obtain ⟨k1, q1, q2⟩ := Vm.findClass_spec hf
    obtain ⟨k2, q3, q4⟩ := Vm.findClass_spec e2
    cases q1.symm.trans q3
    exact absurd (q2.symm.trans q4) (by decide)
theorem own_no {a0 : Array Value} {Z : State} {C K S : String} {n : Nat} (w : (Cond.superclass C S).before a0 Z = true) (wr : (Cond.noSuperclass S).before a0 Z = true) (wi : (Cond.instantiable K n).before a0 Z = true) (h1 : C ≠ K) (h2 : S ≠ K) : ∃ c t, Z.vm.findClass C = some c ∧ Z.vm.findClass K = some t ∧ Z.vm.assignable c t = false := by
  obtain ⟨t, kt, g0, g2, g5, g7, -, -⟩ := Cond.instantiable_spec wi
  obtain ⟨o, ko, o1, o2, o3, -, -⟩ := Cond.noSuperclass_spec wr
  have r : NS Z S K := by
    have ne := ids_ne o1 g0 h2
    refine ⟨o, t, o1, g0, fun fuel => ?_⟩
    cases fuel with
    | zero => rfl
    | succ f => simp [Vm.isSubclassAux, ne, o2, o3]
  obtain ⟨c, t', k0, k1, n3⟩ := NS.step w r h1
  cases g0.symm.trans k1
  obtain ⟨p, k, kp, _, q2, q3, q4, q5, -, q7⟩ := Cond.superclass_spec k0 w
  have ne := ids_ne k0 g0 h1
  refine ⟨c, t, k0, g0, ?_⟩
  show Z.vm.assignableAux (255 + 1) c t = false
  have g8 : kt.isInterface = false := by
    cases h : kt.isInterface with
    | false => rfl
    | true => rw [h] at g7; cases g7
  simp [Vm.assignableAux, ne, q2, g2, q5, g5, g8, Vm.isSubclass, n3]
def own_ln (bl : List Int32) : Int32 := Int32.ofNat bl.length
def own_sm (bl : List Int32) : Prop := bl.length ≤ 2 ∧ ∀ b ∈ bl, b.toInt8.toInt32 = b
theorem own_smc {l : List Int32} (h : l.length ≤ 1) (c : Int32) (hl : ∀ b ∈ l, b.toInt8.toInt32 = b) : own_sm (c.toInt8.toInt32 :: l) :=
  ⟨by simp; omega, fun b q => by
    rcases List.mem_cons.mp q with rfl | q
    · simp
    · exact hl b q⟩
theorem own_sm3 {bl : List Int32} (h : own_sm bl) : bl = [] ∨ (∃ a, bl = [a] ∧ a.toInt8.toInt32 = a) ∨ ∃ a b, bl = [a, b] ∧ a.toInt8.toInt32 = a ∧ b.toInt8.toInt32 = b := by
  obtain ⟨h1, h2⟩ := h
  match bl, h1, h2 with
  | [], _, _ => exact Or.inl rfl
  | [a], _, h2 => exact Or.inr (Or.inl ⟨a, rfl, h2 a (by simp)⟩)
  | [a, b], _, h2 => exact Or.inr (Or.inr ⟨a, b, rfl, h2 a (by simp), h2 b (by simp)⟩)
  | _ :: _ :: _ :: _, h1, _ => simp at h1
theorem own_gD (l : List Int32) (i : Nat) : (l.map Value.int).getD i (.int (0 : Int32)) = .int (l.getD i 0) := by
  induction l generalizing i with
  | nil => rfl
  | cons a l ih => cases i with
    | zero => rfl
    | succ i => simpa using ih i
theorem own_b255 {a b : Int32} (ha : a.toInt8.toInt32 = a) (hb : b.toInt8.toInt32 = b) (h : a &&& (255 : Int32) = b &&& 255) : a = b := by
  rw [← ha, ← hb] at h ⊢
  generalize a.toInt8 = u at h ⊢
  generalize b.toInt8 = v at h ⊢
  have h2 := congrArg (fun z : Int32 => z.toInt8) h
  have e : ∀ w : Int8, (w.toInt32 &&& (255 : Int32)).toInt8 = w := fun w => by
    rw [Int32.toInt8_and, show (255 : Int32).toInt8 = -1 from rfl]; simp
  simp only [e] at h2
  rw [h2]
theorem own_same {x z : List Int32} (sx : own_sm x) (sz : own_sm z) (hl : own_ln x = own_ln z) (h0 : own_ln x < 1 ∨ (x.getD 0 0) &&& (255 : Int32) = (z.getD 0 0) &&& 255) (h1 : own_ln x < 2 ∨ (x.getD 1 0) &&& (255 : Int32) = (z.getD 1 0) &&& 255) : x = z := by
  rcases own_sm3 sx with rfl | ⟨a, rfl, ha⟩ | ⟨a, b, rfl, ha, hb⟩ <;> rcases own_sm3 sz with rfl | ⟨c, rfl, hc⟩ | ⟨c, d, rfl, hc, hd⟩ <;> first
    | rfl
    | (exfalso; revert hl; simp only [own_ln, List.length]; decide)
    | (have e0 := own_b255 ha hc (h0.resolve_left (by simp only [own_ln, List.length]; decide)); subst e0; rfl)
    | (have e0 := own_b255 ha hc (h0.resolve_left (by simp only [own_ln, List.length]; decide)); have e1 := own_b255 hb hd (h1.resolve_left (by simp only [own_ln, List.length]; decide)); subst e0 e1; rfl)
theorem own_eqb {x z : List Int32} (sx : own_sm x) (sz : own_sm z) (hl : own_ln x = own_ln z) (h0 : ¬ (0 : Int32) < own_ln x ∨ x.getD 0 0 = z.getD 0 0) (h1 : ¬ (1 : Int32) < own_ln x ∨ x.getD 1 0 = z.getD 1 0) : x = z := by
  rcases own_sm3 sx with rfl | ⟨a, rfl, ha⟩ | ⟨a, b, rfl, ha, hb⟩ <;> rcases own_sm3 sz with rfl | ⟨c, rfl, hc⟩ | ⟨c, d, rfl, hc, hd⟩ <;> first
    | rfl
    | (exfalso; revert hl; simp only [own_ln, List.length]; decide)
    | (have e0 : a = c := h0.resolve_left (fun q => q (by simp only [own_ln, List.length]; decide)); subst e0; rfl)
    | (have e0 : a = c := h0.resolve_left (fun q => q (by simp only [own_ln, List.length]; decide)); have e1 : b = d := h1.resolve_left (fun q => q (by simp only [own_ln, List.length]; decide)); subst e0 e1; rfl)
theorem own_l2 {x : List Int32} (sx : own_sm x) : ¬ (2 : Int32) < own_ln x := by
  rcases own_sm3 sx with rfl | ⟨a, rfl, ha⟩ | ⟨a, b, rfl, ha, hb⟩ <;> (simp only [own_ln, List.length]; decide)
theorem own_p0 {x : List Int32} (sx : own_sm x) (h : ¬ own_ln x < 1) : (0 : Int32) < own_ln x := by
  rcases own_sm3 sx with rfl | ⟨a, rfl, ha⟩ | ⟨a, b, rfl, ha, hb⟩ <;> simp only [own_ln, List.length] at h ⊢ <;> revert h <;> decide
theorem own_p1 {x : List Int32} (sx : own_sm x) (h : ¬ own_ln x < 2) : (1 : Int32) < own_ln x := by
  rcases own_sm3 sx with rfl | ⟨a, rfl, ha⟩ | ⟨a, b, rfl, ha, hb⟩ <;> simp only [own_ln, List.length] at h ⊢ <;> revert h <;> decide
theorem own_lt01 {x : Int32} (h : ¬ (0 : Int32) < x) : ¬ (1 : Int32) < x := fun q => h (Int32.lt_trans (by decide) q)
theorem own_i0 {p : Prop} [Decidable p] (h : (if p then (1 : Int32) else (0 : Int32)) = 0) : ¬ p := fun q => by rw [if_pos q] at h; exact absurd h (by decide)
theorem own_i1 {p : Prop} [Decidable p] (h : ¬ (if p then (1 : Int32) else (0 : Int32)) = 0) : p := Decidable.byContradiction fun q => h (if_neg q)
theorem own_pn0 : plainName "java/lang/String" = true := by first | (simp [plainName, overriddenIn]; done) | decide +kernel
theorem d3_0 : decode jdk_42_method_149_code 0 = .ok (.aload_n 0, 1) := by decide +kernel
theorem d3_1 : decode jdk_42_method_149_code 1 = .ok (.invokespecial 1, 3) := by decide +kernel
theorem d3_4 : decode jdk_42_method_149_code 4 = .ok (.iload_n 3, 1) := by decide +kernel
theorem d3_5 : decode jdk_42_method_149_code 5 = .ok (.ifCond .ne 22, 3) := by decide +kernel
theorem d3_8 : decode jdk_42_method_149_code 8 = .ok (.aload_n 0, 1) := by decide +kernel
theorem d3_9 : decode jdk_42_method_149_code 9 = .ok (.ldc 7, 2) := by decide +kernel
theorem d3_11 : decode jdk_42_method_149_code 11 = .ok (.getfield 9, 3) := by decide +kernel
theorem d3_14 : decode jdk_42_method_149_code 14 = .ok (.putfield 9, 3) := by decide +kernel
theorem d3_17 : decode jdk_42_method_149_code 17 = .ok (.aload_n 0, 1) := by decide +kernel
theorem d3_18 : decode jdk_42_method_149_code 18 = .ok (.ldc 7, 2) := by decide +kernel
theorem d3_20 : decode jdk_42_method_149_code 20 = .ok (.getfield 15, 3) := by decide +kernel
theorem d3_23 : decode jdk_42_method_149_code 23 = .ok (.putfield 15, 3) := by decide +kernel
theorem d3_26 : decode jdk_42_method_149_code 26 = .ok (.return_, 1) := by decide +kernel
theorem ef_3 (m : MethodId) (x0 : Addr) (x1 : Addr) : entryFrame m #[(.ref x0), (.ref x1), (.int (0 : Int32)), (.int (0 : Int32)), .null] 6 = mkF m 0 #[.val (.ref x0), .val (.ref x1), .val (.int (0 : Int32)), .val (.int (0 : Int32)), .val .null, .unset] [] := by first | (simp [entryFrame, mkF, argsToLocals, Value.category]; done) | rfl
def Q3 (Z : State) (oa : Addr) (ob : Addr) (h0 : Heap) (n0 : Nat) (v : Option Value) (h : Heap) (L : List Loc) : Prop := ∃ (tb : Addr) (kk : ClassId), v = none ∧ Fr n0 L ∧ Keep h0 h [oa] ∧ Exa Z h oa "java/lang/String" ∧ Fld Z h oa "java/lang/String" "value" "[B" (.ref tb) ∧ Fld Z h oa "java/lang/String" "coder" "B" (.int (0 : Int32)) ∧ Arv Z h tb kk .byte (0 : Int32) [] (.int (0 : Int32)) ∧ (tb < h.size) ∧ (oa ≠ tb)
set_option maxRecDepth 65536 in
set_option maxHeartbeats 40000000 in
theorem rm3 (l : Launch) (Z : State) (a0 : Array Value) (hw : ∀ d ∈ tables_1, d.before a0 Z = true) (ws : List Jvm.Cond) (oa : Addr) (ob : Addr) (h0 : Heap) (n0 : Nat) (Z0 : n0 ≤ h0.size) (P0 : Exa Z h0 oa "java/lang/String") (P1 : Fld Z h0 oa "java/lang/String" "value" "[B" .null) (P2 : Fld Z h0 oa "java/lang/String" "coder" "B" (.int (0 : Int32))) (ga : n0 ≤ oa) :
    MetFree l (⟨"java/lang/String", "<init>", "([CIILjava/lang/Void;)V"⟩ : MethodName) (head1 (Jvm.Cond.code (⟨"java/lang/String", "<init>", "([CIILjava/lang/Void;)V"⟩ : MethodName) jdk_42_method_149_code 6 none :: ws) ({ frames := 1, cells := 4, slots := 8, locals := 12 } : Room)) (fun a U => a = #[(.ref oa), (.ref ob), (.int (0 : Int32)), (.int (0 : Int32)), .null] ∧ Z.Warmed39 U.vm ∧ U.heap = h0 ∧ CHv Z consts_1 U.vm h0) (fun _ _ _ _ _ => True) (fun _ U o U' => ∃ v L, o = .returned v ∧ Q3 Z oa ob h0 n0 v U'.heap L ∧ CHr Z consts_1 U.vm U.heap U'.vm U'.heap ∧ ReturnedEndW U o U' L ({ frames := 1, cells := 4, slots := 8, locals := 12 } : Room).cells ({ frames := 1, cells := 4, slots := 8, locals := 12 } : Room).slots) := by
  refine MetFree.of_bodySF (plainFor_of_name own_pn0) hisR ?_
  intro p e s m args below meth c s₁ Bd hml0 hP hK
  obtain ⟨rfl, hZ, hh, hCH0⟩ := hP
  have hx := Bd.exec
  have hby := Bd.bytes
  have hml : c.maxLocals = 6 := hml0
  have hown : s.vm.findClass "java/lang/String" = some m.cls := findClass_of_methodNamed Bd.named
  have hnm := (name_of_methodNamed Bd.named Bd.method).1
  have X0 : Stand p l e ({ frames := 1, cells := 4, slots := 8, locals := 12 } : Room) s m #[(.ref oa), (.ref ob), (.int (0 : Int32)), (.int (0 : Int32)), .null] below meth c s₁ [] 0 0 := Stand.of_body Bd
  have X0 : Stand p l e ({ frames := 1, cells := 4, slots := 8, locals := 12 } : Room) (s.setVm s.vm) m #[(.ref oa), (.ref ob), (.int (0 : Int32)), (.int (0 : Int32)), .null] below meth c s₁ [] 0 0 := X0
  have hZ : Z.Warmed39 (s.setVm s.vm).vm := hZ
  have hown : (s.setVm s.vm).vm.findClass "java/lang/String" = some m.cls := hown
  have hS0 : s.Since s.vm 0 := State.WarmedH.since (State.WarmedH.refl s) 0
  have CR0 : CHr Z consts_1 s.vm h0 s.vm h0 := CHr.refl hCH0
  have e0 : s₁.heap = h0 := by rw [← hh, Bd.state]; rfl
  have N0 := Fr.nil n0
  have K0 : Keep h0 h0 [oa] := Keep.refl _ _
  suffices GO : ∀ P : Outcome → State → Prop, (∀ o U', (∃ v L, o = .returned v ∧ Q3 Z oa ob h0 n0 v U'.heap L ∧ CHr Z consts_1 s.vm s.heap U'.vm U'.heap ∧ ReturnedEndW s o U' L ({ frames := 1, cells := 4, slots := 8, locals := 12 } : Room).cells ({ frames := 1, cells := 4, slots := 8, locals := 12 } : Room).slots) → P o U') → Go p.tables e below P s₁ (mkF m 0 #[.val (.ref oa), .val (.ref ob), .val (.int (0 : Int32)), .val (.int (0 : Int32)), .val .null, .unset] []) by
    obtain ⟨s2, o, st, r⟩ := GO _ (fun _ _ q => q)
    exact ⟨s2, o, castTop (ef_3 m oa ob) st, r⟩
  intro P hP
  show Go p.tables e below P s₁ (mkF m 0 #[.val (.ref oa), .val (.ref ob), .val (.int (0 : Int32)), .val (.int (0 : Int32)), .val .null, .unset] [])
  refine Go.via (fun t k => XS.aloadN X0.here hx rfl (hb hby d3_0) rfl rfl k) ?_
  show Go p.tables e below P s₁ (mkF m 1 #[.val (.ref oa), .val (.ref ob), .val (.int (0 : Int32)), .val (.int (0 : Int32)), .val .null, .unset] [(.ref oa)])
  obtain ⟨T1, X1, e1, st1⟩ := initO X0 hx hZ hown (hw _ (List.mem_of_getElem? (i := 15) rfl)) (hw _ (List.mem_of_getElem? (i := 16) rfl)) (hw _ (List.mem_of_getElem? (i := 17) rfl)) e0 (g := (mkF m 1 #[.val (.ref oa), .val (.ref ob), .val (.int (0 : Int32)), .val (.int (0 : Int32)), .val .null, .unset] [(.ref oa)])) rfl (by rw [hml]; rfl) rfl (hb hby d3_1) (by decide) (W := 0) (by show 2 * 0 + _ ≤ _; exact Nat.le_of_eq rfl) (by decide)
  refine Go.via st1 ?_
  show Go p.tables e below P T1 (mkF m 4 #[.val (.ref oa), .val (.ref ob), .val (.int (0 : Int32)), .val (.int (0 : Int32)), .val .null, .unset] [])
  refine Go.via (fun t k => XS.iloadN X1.here hx rfl (hb hby d3_4) rfl k) ?_
  show Go p.tables e below P T1 (mkF m 5 #[.val (.ref oa), .val (.ref ob), .val (.int (0 : Int32)), .val (.int (0 : Int32)), .val .null, .unset] [(.int (0 : Int32))])
  refine Go.via (fun t k => XS.ifNo X1.here hx rfl (hb hby d3_5) rfl ((if0 _ _).trans (teq (rfl : (0 : Int32) = (0 : Int32))).2) k) ?_
  show Go p.tables e below P T1 (mkF m 8 #[.val (.ref oa), .val (.ref ob), .val (.int (0 : Int32)), .val (.int (0 : Int32)), .val .null, .unset] [])
  refine Go.via (fun t k => XS.aloadN X1.here hx rfl (hb hby d3_8) rfl rfl k) ?_
  show Go p.tables e below P T1 (mkF m 9 #[.val (.ref oa), .val (.ref ob), .val (.int (0 : Int32)), .val (.int (0 : Int32)), .val .null, .unset] [(.ref oa)])
  obtain ⟨a2, T2, h2, kn2, b2, kb2, X2, e2, E2, hS2, hk2, hZ, hown, Ex2, Fc2, Fv2, Va2, lta2, ltb2, hC2, -, ne2, st2⟩ := ldcCH X1 hx hZ hown (hw _ (List.mem_of_getElem? (i := 18) rfl)) (own_sa hw) e1 hS0 (Nat.zero_le _) (own_EW hw) (by decide : (("java/lang/String", 7) : String × Nat) ∈ consts_1) CR0.1 (vs := []) (z := (0 : Int32)) ⟨by decide, rfl⟩ (by decide) rfl (g := (mkF m 9 #[.val (.ref oa), .val (.ref ob), .val (.int (0 : Int32)), .val (.int (0 : Int32)), .val .null, .unset] [(.ref oa)])) rfl (hb hby d3_9) (n := 0) (by decide) (by decide) (by decide) (by decide)
  refine Go.via st2 ?_
  have CR3 := CHr.trans CR0 hC2
  have Z4 : n0 ≤ h2.size := Nat.le_trans Z0 E2.1
  have K5 : Keep h0 h2 [oa] := K0.ext E2
  have F6 : Exa Z h2 oa "java/lang/String" := (P0.ext E2)
  have F7 : Fld Z h2 oa "java/lang/String" "value" "[B" .null := (P1.ext E2)
  have nq8 := (ne2 _ (own_safeS hZ.alike F6 F7)).1
  have nq9 := (ne2 _ (own_safeS hZ.alike F6 F7)).2
  show Go p.tables e below P T2 (mkF m 11 #[.val (.ref oa), .val (.ref ob), .val (.int (0 : Int32)), .val (.int (0 : Int32)), .val .null, .unset] [(.ref a2), (.ref oa)])
  obtain ⟨T10, X10, e10, st10⟩ := getF X2 hx hZ hown (host := "") (Or.inl (hw _ (List.mem_of_getElem? (i := 24) rfl))) Via.refl e2 Fv2 (g := (mkF m 11 #[.val (.ref oa), .val (.ref ob), .val (.int (0 : Int32)), .val (.int (0 : Int32)), .val .null, .unset] [(.ref a2), (.ref oa)])) rfl rfl (hb hby d3_11)
  refine Go.via st10 ?_
  show Go p.tables e below P T10 (mkF m 14 #[.val (.ref oa), .val (.ref ob), .val (.int (0 : Int32)), .val (.int (0 : Int32)), .val .null, .unset] [(.ref b2), (.ref oa)])
  have F11 : Fld Z h2 oa "java/lang/String" "coder" "B" (.int (0 : Int32)) := (P2.ext E2)
  obtain ⟨T12, h12, X12, e12, W12, st12⟩ := putF X10 hx hZ hown (host := "") (Or.inl (hw _ (List.mem_of_getElem? (i := 24) rfl))) Via.refl e10 F7 F6 (Or.inr ⟨(hw _ (List.mem_of_getElem? (i := 20) rfl)), rfl, hnm⟩) (hw _ (List.mem_of_getElem? (i := 5) rfl)) (ty := (.array .byte)) (by decide) rfl rfl (g := (mkF m 14 #[.val (.ref oa), .val (.ref ob), .val (.int (0 : Int32)), .val (.int (0 : Int32)), .val .null, .unset] [(.ref b2), (.ref oa)])) rfl rfl (hb hby d3_14)
  refine Go.via st12 ?_
  have Z13 : n0 ≤ h12.size := Nat.le_trans Z4 (Nat.le_of_eq W12.size.symm)
  have K14 : Keep h0 h12 [oa] := K5.wr W12 (Or.inl (List.mem_of_getElem? (i := 0) rfl))
  obtain ⟨lc12, Xh12, N15⟩ := own_hide X12 (Fr.snoc X12 N0 ga)
  clear X12
  have Sf12 := Safe.wr W12 (own_safeS hZ.alike F6 F7) CR3.1 (own_safeS hZ.alike F6 F7)
  have CR16 := CHr.trans CR3 (CHr.wr W12 (own_safeS hZ.alike F6 F7) CR3.1)
  have hk17 := Nat.le_trans hk2 (Nat.le_of_eq W12.size.symm)
  have Fw12 := F7.same W12
  show Go p.tables e below P T12 (mkF m 17 #[.val (.ref oa), .val (.ref ob), .val (.int (0 : Int32)), .val (.int (0 : Int32)), .val .null, .unset] [])
  refine Go.via (fun t k => XS.aloadN Xh12.here hx rfl (hb hby d3_17) rfl rfl k) ?_
  show Go p.tables e below P T12 (mkF m 18 #[.val (.ref oa), .val (.ref ob), .val (.int (0 : Int32)), .val (.int (0 : Int32)), .val .null, .unset] [(.ref oa)])
  have F18 : Exa Z h12 oa "java/lang/String" := (F6.wr W12)
  have F19 : Fld Z h12 oa "java/lang/String" "coder" "B" (.int (0 : Int32)) := (F11.other W12 (Or.inr (slot_ne (Or.inr (hw _ (List.mem_of_getElem? (i := 21) rfl))) (Or.inr (hw _ (List.mem_of_getElem? (i := 20) rfl))) (by decide) (t := .byte) (t' := (.array .byte)) (by decide) (by decide))))
  have F20 : Exa Z h12 a2 "java/lang/String" := (Ex2.wr W12)
  have F21 : Fld Z h12 a2 "java/lang/String" "coder" "B" (.int (0 : Int32)) := (Fc2.other W12 (Or.inl (Ne.symm nq8)))
  have F22 : Fld Z h12 a2 "java/lang/String" "value" "[B" (.ref b2) := (Fv2.other W12 (Or.inl (Ne.symm nq8)))
  have F23 : Arv Z h12 b2 kb2 .byte (0 : Int32) [] (.int (0 : Int32)) := (Va2.other W12 (Ne.symm nq9))
  obtain ⟨a24, T24, h24, kn24, b24, kb24, X24, e24, E24, hS24, hk24, hZ, hown, Ex24, Fc24, Fv24, Va24, lta24, ltb24, hC24, -, ne24, st24⟩ := ldcCH Xh12 hx hZ hown (hw _ (List.mem_of_getElem? (i := 18) rfl)) (own_sa hw) e12 hS2 hk17 (own_EW hw) (by decide : (("java/lang/String", 7) : String × Nat) ∈ consts_1) CR16.1 (vs := []) (z := (0 : Int32)) ⟨by decide, rfl⟩ (by decide) rfl (g := (mkF m 18 #[.val (.ref oa), .val (.ref ob), .val (.int (0 : Int32)), .val (.int (0 : Int32)), .val .null, .unset] [(.ref oa)])) rfl (hb hby d3_18) (n := 0) (by decide) (by decide) (by decide) (by decide)
  refine Go.via st24 ?_
  have Sf25 := CHr.safe hC24 F18.lt Sf12
  have CR26 := CHr.trans CR16 hC24
  have Z27 : n0 ≤ h24.size := Nat.le_trans Z13 E24.1
  have K28 : Keep h0 h24 [oa] := K14.ext E24
  have nq29 := (ne24 _ Sf25).1
  have nq30 := (ne24 _ Sf25).2
  show Go p.tables e below P T24 (mkF m 20 #[.val (.ref oa), .val (.ref ob), .val (.int (0 : Int32)), .val (.int (0 : Int32)), .val .null, .unset] [(.ref a24), (.ref oa)])
  obtain ⟨T31, X31, e31, st31⟩ := getF X24 hx hZ hown (host := "") (Or.inl (hw _ (List.mem_of_getElem? (i := 25) rfl))) Via.refl e24 Fc24 (g := (mkF m 20 #[.val (.ref oa), .val (.ref ob), .val (.int (0 : Int32)), .val (.int (0 : Int32)), .val .null, .unset] [(.ref a24), (.ref oa)])) rfl rfl (hb hby d3_20)
  refine Go.via st31 ?_
  show Go p.tables e below P T31 (mkF m 23 #[.val (.ref oa), .val (.ref ob), .val (.int (0 : Int32)), .val (.int (0 : Int32)), .val .null, .unset] [(.int (0 : Int32)), (.ref oa)])
  have F32 : Exa Z h24 oa "java/lang/String" := (F18.ext E24)
  have F33 : Fld Z h24 oa "java/lang/String" "coder" "B" (.int (0 : Int32)) := (F19.ext E24)
  have F34 : Fld Z h24 oa "java/lang/String" "value" "[B" (.ref b2) := (Fw12.ext E24)
  have F35 : Exa Z h24 a2 "java/lang/String" := (F20.ext E24)
  have F36 : Fld Z h24 a2 "java/lang/String" "coder" "B" (.int (0 : Int32)) := (F21.ext E24)
  have F37 : Fld Z h24 a2 "java/lang/String" "value" "[B" (.ref b2) := (F22.ext E24)
  have F38 : Arv Z h24 b2 kb2 .byte (0 : Int32) [] (.int (0 : Int32)) := (F23.ext E24)
  obtain ⟨T39, h39, X39, e39, W39, st39⟩ := putF X31 hx hZ hown (host := "") (Or.inl (hw _ (List.mem_of_getElem? (i := 25) rfl))) Via.refl e31 F33 F32 (Or.inr ⟨(hw _ (List.mem_of_getElem? (i := 21) rfl)), rfl, hnm⟩) (hw _ (List.mem_of_getElem? (i := 5) rfl)) (ty := .byte) (by decide) rfl rfl (g := (mkF m 23 #[.val (.ref oa), .val (.ref ob), .val (.int (0 : Int32)), .val (.int (0 : Int32)), .val .null, .unset] [(.int (0 : Int32)), (.ref oa)])) rfl rfl (hb hby d3_23)
  refine Go.via st39 ?_
  have Z40 : n0 ≤ h39.size := Nat.le_trans Z27 (Nat.le_of_eq W39.size.symm)
  have K41 : Keep h0 h39 [oa] := K28.wr W39 (Or.inl (List.mem_of_getElem? (i := 0) rfl))
  obtain ⟨lc39, Xh39, N42⟩ := own_hide X39 (Fr.snoc X39 N15 ga)
  clear X39
  have Sf39 := Safe.wr W39 Sf25 CR26.1 Sf25
  have CR43 := CHr.trans CR26 (CHr.wr W39 Sf25 CR26.1)
  have hk44 := Nat.le_trans hk24 (Nat.le_of_eq W39.size.symm)
  have Fw39 := F33.same W39
  show Go p.tables e below P T39 (mkF m 26 #[.val (.ref oa), .val (.ref ob), .val (.int (0 : Int32)), .val (.int (0 : Int32)), .val .null, .unset] [])
  have F46 : Arv Z h39 b2 kb2 .byte (0 : Int32) [] (.int (0 : Int32)) := (F38.other W39 (Ne.symm nq9))
  obtain ⟨fs, hr, hrun, hended, hend⟩ := Xh39.leaveW hS24 (by rw [e39]; exact hk44) (v := none) (fun _ => rfl)
  have F47 : Exa Z h39 oa "java/lang/String" := (F32.wr W39)
  have F48 : Fld Z h39 oa "java/lang/String" "value" "[B" (.ref b2) := (F34.other W39 (Or.inr (slot_ne (Or.inr (hw _ (List.mem_of_getElem? (i := 20) rfl))) (Or.inr (hw _ (List.mem_of_getElem? (i := 21) rfl))) (by decide) (t := (.array .byte)) (t' := .byte) (by decide) (by decide))))
  have hCf : CHr Z consts_1 s.vm s.heap (T39.setFrames fs).vm (T39.setFrames fs).heap := by
    rw [hh]
    show CHr Z consts_1 s.vm h0 T39.vm T39.heap
    rw [e39]
    exact CHr.trans CR43 (CHv.at Xh39 hZ (own_EW hw) CR43.1)
  refine ⟨_, _, Xh39.returnOut hx Bd.returns (hb hby d3_26) hr, hrun, hended, hP _ _ ⟨_, _, rfl, ?_, hCf, own_rew hend (by decide) (by decide)⟩⟩
  show Q3 Z oa ob h0 n0 _ T39.heap _
  rw [e39]
  exact ⟨b2, kb2, rfl, N42, K41, F47, F48, Fw39, F46, (F46.lt), nq9⟩
theorem own_pd0 : parseMethodDescriptor "([CIILjava/lang/Void;)V" = some ⟨[(.array .char), .int, .int, (.object "java/lang/Void")], none⟩ := by decide +kernel
theorem d2_0 : decode jdk_42_method_3_code 0 = .ok (.aload_n 0, 1) := by decide +kernel
theorem d2_1 : decode jdk_42_method_3_code 1 = .ok (.aload_n 1, 1) := by decide +kernel
theorem d2_2 : decode jdk_42_method_3_code 2 = .ok (.iconst 0, 1) := by decide +kernel
theorem d2_3 : decode jdk_42_method_3_code 3 = .ok (.aload_n 1, 1) := by decide +kernel
theorem d2_4 : decode jdk_42_method_3_code 4 = .ok (.arraylength, 1) := by decide +kernel
theorem d2_5 : decode jdk_42_method_3_code 5 = .ok (.aconst_null, 1) := by decide +kernel
theorem d2_6 : decode jdk_42_method_3_code 6 = .ok (.invokespecial 27, 3) := by decide +kernel
theorem d2_9 : decode jdk_42_method_3_code 9 = .ok (.return_, 1) := by decide +kernel
theorem ef_2 (m : MethodId) (x0 : Addr) (x1 : Addr) : entryFrame m #[(.ref x0), (.ref x1)] 2 = mkF m 0 #[.val (.ref x0), .val (.ref x1)] [] := by first | (simp [entryFrame, mkF, argsToLocals, Value.category]; done) | rfl
def Q2 (Z : State) (oa : Addr) (ob : Addr) (kc : ClassId) (vs : List Value) (dv : Value) (h0 : Heap) (n0 : Nat) (v : Option Value) (h : Heap) (L : List Loc) : Prop := ∃ (tb : Addr) (kk : ClassId), v = none ∧ Fr n0 L ∧ Keep h0 h [oa] ∧ Exa Z h oa "java/lang/String" ∧ Fld Z h oa "java/lang/String" "value" "[B" (.ref tb) ∧ Fld Z h oa "java/lang/String" "coder" "B" (.int (0 : Int32)) ∧ Arv Z h tb kk .byte (0 : Int32) [] (.int (0 : Int32)) ∧ (tb < h.size) ∧ (oa ≠ tb)
set_option maxRecDepth 65536 in
set_option maxHeartbeats 40000000 in
theorem rm2 (l : Launch) (Z : State) (a0 : Array Value) (hw : ∀ d ∈ tables_1, d.before a0 Z = true) (ws : List Jvm.Cond) (oa : Addr) (ob : Addr) (kc : ClassId) (vs : List Value) (dv : Value) (h0 : Heap) (n0 : Nat) (Z0 : n0 ≤ h0.size) (P0 : Exa Z h0 oa "java/lang/String") (P1 : Fld Z h0 oa "java/lang/String" "value" "[B" .null) (P2 : Fld Z h0 oa "java/lang/String" "coder" "B" (.int (0 : Int32))) (ga : n0 ≤ oa) (P4 : Arv Z h0 ob kc .char (0 : Int32) vs dv) :
    MetFree l (⟨"java/lang/String", "<init>", "([C)V"⟩ : MethodName) (head1 (Jvm.Cond.code (⟨"java/lang/String", "<init>", "([C)V"⟩ : MethodName) jdk_42_method_3_code 2 none :: ws) ({ frames := 2, cells := 4, slots := 8, locals := 29 } : Room)) (fun a U => a = #[(.ref oa), (.ref ob)] ∧ Z.Warmed39 U.vm ∧ U.heap = h0 ∧ CHv Z consts_1 U.vm h0) (fun _ _ _ _ _ => True) (fun _ U o U' => ∃ v L, o = .returned v ∧ Q2 Z oa ob kc vs dv h0 n0 v U'.heap L ∧ CHr Z consts_1 U.vm U.heap U'.vm U'.heap ∧ ReturnedEndW U o U' L ({ frames := 2, cells := 4, slots := 8, locals := 29 } : Room).cells ({ frames := 2, cells := 4, slots := 8, locals := 29 } : Room).slots) := by
  refine MetFree.of_bodySF (plainFor_of_name own_pn0) hisR ?_
  intro p e s m args below meth c s₁ Bd hml0 hP hK
  obtain ⟨rfl, hZ, hh, hCH0⟩ := hP
  have hx := Bd.exec
  have hby := Bd.bytes
  have hml : c.maxLocals = 2 := hml0
  have hown : s.vm.findClass "java/lang/String" = some m.cls := findClass_of_methodNamed Bd.named
  have hnm := (name_of_methodNamed Bd.named Bd.method).1
  have X0 : Stand p l e ({ frames := 2, cells := 4, slots := 8, locals := 29 } : Room) s m #[(.ref oa), (.ref ob)] below meth c s₁ [] 0 0 := Stand.of_body Bd
  have X0 : Stand p l e ({ frames := 2, cells := 4, slots := 8, locals := 29 } : Room) (s.setVm s.vm) m #[(.ref oa), (.ref ob)] below meth c s₁ [] 0 0 := X0
  have hZ : Z.Warmed39 (s.setVm s.vm).vm := hZ
  have hown : (s.setVm s.vm).vm.findClass "java/lang/String" = some m.cls := hown
  have hS0 : s.Since s.vm 0 := State.WarmedH.since (State.WarmedH.refl s) 0
  have CR0 : CHr Z consts_1 s.vm h0 s.vm h0 := CHr.refl hCH0
  have e0 : s₁.heap = h0 := by rw [← hh, Bd.state]; rfl
  have N0 := Fr.nil n0
  have K0 : Keep h0 h0 [oa] := Keep.refl _ _
  suffices GO : ∀ P : Outcome → State → Prop, (∀ o U', (∃ v L, o = .returned v ∧ Q2 Z oa ob kc vs dv h0 n0 v U'.heap L ∧ CHr Z consts_1 s.vm s.heap U'.vm U'.heap ∧ ReturnedEndW s o U' L ({ frames := 2, cells := 4, slots := 8, locals := 29 } : Room).cells ({ frames := 2, cells := 4, slots := 8, locals := 29 } : Room).slots) → P o U') → Go p.tables e below P s₁ (mkF m 0 #[.val (.ref oa), .val (.ref ob)] []) by
    obtain ⟨s2, o, st, r⟩ := GO _ (fun _ _ q => q)
    exact ⟨s2, o, castTop (ef_2 m oa ob) st, r⟩
  intro P hP
  show Go p.tables e below P s₁ (mkF m 0 #[.val (.ref oa), .val (.ref ob)] [])
  refine Go.via (fun t k => XS.aloadN X0.here hx rfl (hb hby d2_0) rfl rfl k) ?_
  show Go p.tables e below P s₁ (mkF m 1 #[.val (.ref oa), .val (.ref ob)] [(.ref oa)])
  refine Go.via (fun t k => XS.aloadN X0.here hx rfl (hb hby d2_1) rfl rfl k) ?_
  show Go p.tables e below P s₁ (mkF m 2 #[.val (.ref oa), .val (.ref ob)] [(.ref ob), (.ref oa)])
  refine Go.via (fun t k => XS.iconst X0.here hx rfl (hb hby d2_2) k) ?_
  show Go p.tables e below P s₁ (mkF m 3 #[.val (.ref oa), .val (.ref ob)] [(.int (0 : Int32)), (.ref ob), (.ref oa)])
  refine Go.via (fun t k => XS.aloadN X0.here hx rfl (hb hby d2_3) rfl rfl k) ?_
  show Go p.tables e below P s₁ (mkF m 4 #[.val (.ref oa), .val (.ref ob)] [(.ref ob), (.int (0 : Int32)), (.ref ob), (.ref oa)])
  obtain ⟨c1, A1, -, S1, N1, -, -⟩ := id P4
  refine Go.via (fun t k => X0.arraylength hx (by rw [e0]; exact A1.1) (State.isArrayOf_alike hZ.alike A1.2.1) (g := (mkF m 4 #[.val (.ref oa), .val (.ref ob)] [(.ref ob), (.int (0 : Int32)), (.ref ob), (.ref oa)])) rfl rfl (hb hby d2_4) t (by rw [len_of S1 N1]; exact k)) ?_
  show Go p.tables e below P s₁ (mkF m 5 #[.val (.ref oa), .val (.ref ob)] [(.int (0 : Int32)), (.int (0 : Int32)), (.ref ob), (.ref oa)])
  refine Go.via (fun t k => XS.aconstNull X0.here hx rfl (hb hby d2_5) k) ?_
  show Go p.tables e below P s₁ (mkF m 6 #[.val (.ref oa), .val (.ref ob)] [.null, (.int (0 : Int32)), (.int (0 : Int32)), (.ref ob), (.ref oa)])
  obtain ⟨_, _, ⟨T2, L2, k2, n2⟩, -, X2, hSn2, hgn2, ⟨Lc2, hQ2, l2, y2, z2, hC2⟩, st2⟩ := X0.specialBackS hx (y := (⟨"java/lang/String", "<init>", "([CIILjava/lang/Void;)V"⟩ : MethodName)) rfl hown (mvT hZ (hw _ (List.mem_of_getElem? (i := 11) rfl))) (mvT hZ (hw _ (List.mem_of_getElem? (i := 12) rfl))) (mvT hZ (hw _ (List.mem_of_getElem? (i := 14) rfl))) (by decide) (backOfSH (W := 0) (rm3 l Z a0 hw [] oa ob h0 n0 Z0 P0 P1 P2 ga) hZ (hw _ (List.mem_of_getElem? (i := 14) rfl)) (hw _ (List.mem_of_getElem? (i := 6) rfl)) (by decide) (by decide) (own_EW hw) CR0.1) (g := (mkF m 6 #[.val (.ref oa), .val (.ref ob)] [.null, (.int (0 : Int32)), (.int (0 : Int32)), (.ref ob), (.ref oa)])) rfl (by rw [hml]; rfl) (Steps.refl _) (a := oa) (argsL := [(.ref ob), (.int (0 : Int32)), (.int (0 : Int32)), .null]) (rest := []) (lenOf own_pd0 rfl) rfl (by show 2 * 0 + _ ≤ _; exact Nat.le_of_eq rfl) (hb hby d2_6) (fun _ _ => ⟨rfl, e0, (by decide : 0 + 4 ≤ _), (by decide : 0 + 8 ≤ _)⟩)
  dsimp only [Pt.U, Pt.locs, Pt.cells, Pt.slots] at X2 l2 y2 z2 st2 hQ2 hSn2 hgn2 hC2
  subst l2 y2 z2
  have hS2 : s.Since T2.vm T2.heap.size := foldS hS0 (by rw [e0]; exact (Nat.zero_le _)) hSn2 hgn2
  have X2 : Stand p l e ({ frames := 2, cells := 4, slots := 8, locals := 29 } : Room) (s.setVm T2.vm) m #[(.ref oa), (.ref ob)] below meth c T2 _ _ _ := X2
  have hown : (s.setVm T2.vm).vm.findClass "java/lang/String" = some m.cls := by rw [show (s.setVm T2.vm).vm = T2.vm from rfl, hSn2.1.alike.findClass]; exact hown
  have hZ : Z.Warmed39 (s.setVm T2.vm).vm := State.Warmed39.trans (t := s.setVm s.vm) hZ hSn2.1
  obtain ⟨tb_2, kk_2, rfl, Nq2, K2, u2_0, u2_1, u2_2, u2_3, u2_4, u2_5⟩ := hQ2
  obtain ⟨lc2, Xh2, N2⟩ := own_hide X2 (Fr.app N0 Nq2)
  clear X2
  refine Go.hop st2 ?_
  have CR3 := CHr.trans CR0 hC2
  have Z4 : n0 ≤ T2.heap.size := Nat.le_trans Z0 K2.1
  have K5 : Keep h0 T2.heap [oa] := K0.trans K2 (own_allC (Or.inl (List.mem_of_getElem? (i := 0) rfl)) own_all0)
  have hk6 : T2.heap.size ≤ T2.heap.size := Nat.le_refl _
  show Go p.tables e below P T2 (mkF m 9 #[.val (.ref oa), .val (.ref ob)] [])
  obtain ⟨fs, hr, hrun, hended, hend⟩ := Xh2.leaveW hS2 (by exact hk6) (v := none) (fun _ => rfl)
  have hCf : CHr Z consts_1 s.vm s.heap (T2.setFrames fs).vm (T2.setFrames fs).heap := by
    rw [hh]
    show CHr Z consts_1 s.vm h0 T2.vm T2.heap
    exact CHr.trans CR3 (CHv.at Xh2 hZ (own_EW hw) CR3.1)
  refine ⟨_, _, Xh2.returnOut hx Bd.returns (hb hby d2_9) hr, hrun, hended, hP _ _ ⟨_, _, rfl, ?_, hCf, own_rew hend (by decide) (by decide)⟩⟩
  show Q2 Z oa ob kc vs dv h0 n0 _ T2.heap _
  exact ⟨tb_2, kk_2, rfl, N2, K5, u2_0, u2_1, u2_2, u2_3, (u2_3.lt), u2_5⟩
theorem own_pd1 : parseMethodDescriptor "([C)V" = some ⟨[(.array .char)], none⟩ := by decide +kernel
theorem own_pn1 : plainName "com/example/splitbook/splitbook/book/ReportKeyEqualsPinLaw" = true := by first | (simp [plainName, overriddenIn]; done) | decide +kernel
theorem d1_0 : decode method_3_code 0 = .ok (.iload_n 0, 1) := by decide +kernel
theorem d1_1 : decode method_3_code 1 = .ok (.bipush 16, 2) := by decide +kernel
theorem d1_3 : decode method_3_code 3 = .ok (.iushr, 1) := by decide +kernel
theorem d1_4 : decode method_3_code 4 = .ok (.iconst 3, 1) := by decide +kernel
theorem d1_5 : decode method_3_code 5 = .ok (.iand, 1) := by decide +kernel
theorem d1_6 : decode method_3_code 6 = .ok (.iconst 3, 1) := by decide +kernel
theorem d1_7 : decode method_3_code 7 = .ok (.irem, 1) := by decide +kernel
theorem d1_8 : decode method_3_code 8 = .ok (.istore_n 1, 1) := by decide +kernel
theorem d1_9 : decode method_3_code 9 = .ok (.iload_n 0, 1) := by decide +kernel
theorem d1_10 : decode method_3_code 10 = .ok (.sipush 255, 3) := by decide +kernel
theorem d1_13 : decode method_3_code 13 = .ok (.iand, 1) := by decide +kernel
theorem d1_14 : decode method_3_code 14 = .ok (.i2c, 1) := by decide +kernel
theorem d1_15 : decode method_3_code 15 = .ok (.istore_n 2, 1) := by decide +kernel
theorem d1_16 : decode method_3_code 16 = .ok (.iload_n 0, 1) := by decide +kernel
theorem d1_17 : decode method_3_code 17 = .ok (.bipush 8, 2) := by decide +kernel
theorem d1_19 : decode method_3_code 19 = .ok (.iushr, 1) := by decide +kernel
theorem d1_20 : decode method_3_code 20 = .ok (.sipush 255, 3) := by decide +kernel
theorem d1_23 : decode method_3_code 23 = .ok (.iand, 1) := by decide +kernel
theorem d1_24 : decode method_3_code 24 = .ok (.i2c, 1) := by decide +kernel
theorem d1_25 : decode method_3_code 25 = .ok (.istore_n 3, 1) := by decide +kernel
theorem d1_26 : decode method_3_code 26 = .ok (.iload_n 1, 1) := by decide +kernel
theorem d1_27 : decode method_3_code 27 = .ok (.ifCond .ne 14, 3) := by decide +kernel
theorem d1_30 : decode method_3_code 30 = .ok (.new 26, 3) := by decide +kernel
theorem d1_33 : decode method_3_code 33 = .ok (.dup, 1) := by decide +kernel
theorem d1_34 : decode method_3_code 34 = .ok (.iconst 0, 1) := by decide +kernel
theorem d1_35 : decode method_3_code 35 = .ok (.newarray .char, 2) := by decide +kernel
theorem d1_37 : decode method_3_code 37 = .ok (.invokespecial 28, 3) := by decide +kernel
theorem d1_40 : decode method_3_code 40 = .ok (.areturn, 1) := by decide +kernel
theorem d1_41 : decode method_3_code 41 = .ok (.iload_n 1, 1) := by decide +kernel
theorem d1_42 : decode method_3_code 42 = .ok (.iconst 1, 1) := by decide +kernel
theorem d1_43 : decode method_3_code 43 = .ok (.if_icmp .ne 18, 3) := by decide +kernel
theorem d1_46 : decode method_3_code 46 = .ok (.new 26, 3) := by decide +kernel
theorem d1_49 : decode method_3_code 49 = .ok (.dup, 1) := by decide +kernel
theorem d1_50 : decode method_3_code 50 = .ok (.iconst 1, 1) := by decide +kernel
theorem d1_51 : decode method_3_code 51 = .ok (.newarray .char, 2) := by decide +kernel
theorem d1_53 : decode method_3_code 53 = .ok (.dup, 1) := by decide +kernel
theorem d1_54 : decode method_3_code 54 = .ok (.iconst 0, 1) := by decide +kernel
theorem d1_55 : decode method_3_code 55 = .ok (.iload_n 2, 1) := by decide +kernel
theorem d1_56 : decode method_3_code 56 = .ok (.castore, 1) := by decide +kernel
theorem d1_57 : decode method_3_code 57 = .ok (.invokespecial 28, 3) := by decide +kernel
theorem d1_60 : decode method_3_code 60 = .ok (.areturn, 1) := by decide +kernel
theorem d1_61 : decode method_3_code 61 = .ok (.new 26, 3) := by decide +kernel
theorem d1_64 : decode method_3_code 64 = .ok (.dup, 1) := by decide +kernel
theorem d1_65 : decode method_3_code 65 = .ok (.iconst 2, 1) := by decide +kernel
theorem d1_66 : decode method_3_code 66 = .ok (.newarray .char, 2) := by decide +kernel
theorem d1_68 : decode method_3_code 68 = .ok (.dup, 1) := by decide +kernel
theorem d1_69 : decode method_3_code 69 = .ok (.iconst 0, 1) := by decide +kernel
theorem d1_70 : decode method_3_code 70 = .ok (.iload_n 2, 1) := by decide +kernel
theorem d1_71 : decode method_3_code 71 = .ok (.castore, 1) := by decide +kernel
theorem d1_72 : decode method_3_code 72 = .ok (.dup, 1) := by decide +kernel
theorem d1_73 : decode method_3_code 73 = .ok (.iconst 1, 1) := by decide +kernel
theorem d1_74 : decode method_3_code 74 = .ok (.iload_n 3, 1) := by decide +kernel
theorem d1_75 : decode method_3_code 75 = .ok (.castore, 1) := by decide +kernel
theorem d1_76 : decode method_3_code 76 = .ok (.invokespecial 28, 3) := by decide +kernel
theorem d1_79 : decode method_3_code 79 = .ok (.areturn, 1) := by decide +kernel
theorem ef_1 (m : MethodId) (x0 : Int32) : entryFrame m #[(.int x0)] 4 = mkF m 0 #[.val (.int x0), .unset, .unset, .unset] [] := by first | (simp [entryFrame, mkF, argsToLocals, Value.category]; done) | rfl
def Q1 (Z : State) (xx : Int32) (cs : Int32) (h0 : Heap) (n0 : Nat) (v : Option Value) (h : Heap) (L : List Loc) : Prop := ∃ (r : Addr) (tb : Addr) (kk : ClassId) (bl : List Int32), v = some (.ref r) ∧ Fr n0 L ∧ Keep h0 h [] ∧ h0.size ≤ r ∧ Exa Z h r "java/lang/String" ∧ Fld Z h r "java/lang/String" "value" "[B" (.ref tb) ∧ Fld Z h r "java/lang/String" "coder" "B" (.int (0 : Int32)) ∧ Arv Z h tb kk .byte (own_ln bl) (bl.map Value.int) (.int (0 : Int32)) ∧ (own_sm bl) ∧ (tb < h.size) ∧ (r ≠ tb)
set_option maxRecDepth 65536 in
set_option maxHeartbeats 40000000 in
theorem rm1 (l : Launch) (Z : State) (a0 : Array Value) (hw : ∀ d ∈ tables_1, d.before a0 Z = true) (ws : List Jvm.Cond) (xx : Int32) (cs : Int32) (h0 : Heap) (n0 : Nat) (Z0 : n0 ≤ h0.size) (O0 : Old Z n0 h0) (P1 : Sta Z Z.heap "java/lang/String" "COMPACT_STRINGS" "Z" (.int cs)) (hcs : ¬ cs = (0 : Int32)) :
    MetFree l (⟨"com/example/splitbook/splitbook/book/ReportKeyEqualsPinLaw", "str", "(I)Ljava/lang/String;"⟩ : MethodName) (head1 (Jvm.Cond.code (⟨"com/example/splitbook/splitbook/book/ReportKeyEqualsPinLaw", "str", "(I)Ljava/lang/String;"⟩ : MethodName) method_3_code 4 (some (.object "java/lang/String")) :: ws) ({ frames := 4, cells := 6, slots := 12, locals := 66 } : Room)) (fun a U => a = #[(.int xx)] ∧ Z.Warmed39 U.vm ∧ U.heap = h0 ∧ CHv Z consts_1 U.vm h0) (fun _ _ _ _ _ => True) (fun _ U o U' => ∃ v L, o = .returned v ∧ Q1 Z xx cs h0 n0 v U'.heap L ∧ CHr Z consts_1 U.vm U.heap U'.vm U'.heap ∧ ReturnedEndW U o U' L ({ frames := 4, cells := 6, slots := 12, locals := 66 } : Room).cells ({ frames := 4, cells := 6, slots := 12, locals := 66 } : Room).slots) := by
  refine MetFree.of_bodySF (plainFor_of_name own_pn1) hisR ?_
  intro p e s m args below meth c s₁ Bd hml0 hP hK
  obtain ⟨rfl, hZ, hh, hCH0⟩ := hP
  have hx := Bd.exec
  have hby := Bd.bytes
  have hml : c.maxLocals = 4 := hml0
  have hown : s.vm.findClass "com/example/splitbook/splitbook/book/ReportKeyEqualsPinLaw" = some m.cls := findClass_of_methodNamed Bd.named
  have hnm := (name_of_methodNamed Bd.named Bd.method).1
  have X0 : Stand p l e ({ frames := 4, cells := 6, slots := 12, locals := 66 } : Room) s m #[(.int xx)] below meth c s₁ [] 0 0 := Stand.of_body Bd
  have X0 : Stand p l e ({ frames := 4, cells := 6, slots := 12, locals := 66 } : Room) (s.setVm s.vm) m #[(.int xx)] below meth c s₁ [] 0 0 := X0
  have hZ : Z.Warmed39 (s.setVm s.vm).vm := hZ
  have hown : (s.setVm s.vm).vm.findClass "com/example/splitbook/splitbook/book/ReportKeyEqualsPinLaw" = some m.cls := hown
  have hS0 : s.Since s.vm 0 := State.WarmedH.since (State.WarmedH.refl s) 0
  have CR0 : CHr Z consts_1 s.vm h0 s.vm h0 := CHr.refl hCH0
  have e0 : s₁.heap = h0 := by rw [← hh, Bd.state]; rfl
  have N0 := Fr.nil n0
  have K0 : Keep h0 h0 [] := Keep.refl _ _
  suffices GO : ∀ P : Outcome → State → Prop, (∀ o U', (∃ v L, o = .returned v ∧ Q1 Z xx cs h0 n0 v U'.heap L ∧ CHr Z consts_1 s.vm s.heap U'.vm U'.heap ∧ ReturnedEndW s o U' L ({ frames := 4, cells := 6, slots := 12, locals := 66 } : Room).cells ({ frames := 4, cells := 6, slots := 12, locals := 66 } : Room).slots) → P o U') → Go p.tables e below P s₁ (mkF m 0 #[.val (.int xx), .unset, .unset, .unset] []) by
    obtain ⟨s2, o, st, r⟩ := GO _ (fun _ _ q => q)
    exact ⟨s2, o, castTop (ef_1 m xx) st, r⟩
  intro P hP
  show Go p.tables e below P s₁ (mkF m 0 #[.val (.int xx), .unset, .unset, .unset] [])
  refine Go.via (fun t k => XS.iloadN X0.here hx rfl (hb hby d1_0) rfl k) ?_
  show Go p.tables e below P s₁ (mkF m 1 #[.val (.int xx), .unset, .unset, .unset] [(.int xx)])
  refine Go.via (fun t k => XS.bipush X0.here hx rfl (hb hby d1_1) k) ?_
  show Go p.tables e below P s₁ (mkF m 3 #[.val (.int xx), .unset, .unset, .unset] [(.int (16 : Int32)), (.int xx)])
  refine Go.via (fun t k => XS.iushr X0.here hx rfl (hb hby d1_3) rfl k) ?_
  show Go p.tables e below P s₁ (mkF m 4 #[.val (.int xx), .unset, .unset, .unset] [(.int ((xx.toUInt32 >>> ((16 : Int32) &&& 31).toUInt32).toInt32))])
  refine Go.via (fun t k => XS.iconst X0.here hx rfl (hb hby d1_4) k) ?_
  show Go p.tables e below P s₁ (mkF m 5 #[.val (.int xx), .unset, .unset, .unset] [(.int (3 : Int32)), (.int ((xx.toUInt32 >>> ((16 : Int32) &&& 31).toUInt32).toInt32))])
  refine Go.via (fun t k => XS.iand X0.here hx rfl (hb hby d1_5) rfl k) ?_
  show Go p.tables e below P s₁ (mkF m 6 #[.val (.int xx), .unset, .unset, .unset] [(.int (((xx.toUInt32 >>> ((16 : Int32) &&& 31).toUInt32).toInt32) &&& (3 : Int32)))])
  refine Go.via (fun t k => XS.iconst X0.here hx rfl (hb hby d1_6) k) ?_
  show Go p.tables e below P s₁ (mkF m 7 #[.val (.int xx), .unset, .unset, .unset] [(.int (3 : Int32)), (.int (((xx.toUInt32 >>> ((16 : Int32) &&& 31).toUInt32).toInt32) &&& (3 : Int32)))])
  refine Go.via (fun t k => iremM X0 hx rfl (hb hby d1_7) rfl (by decide) k) ?_
  show Go p.tables e below P s₁ (mkF m 8 #[.val (.int xx), .unset, .unset, .unset] [(.int ((((xx.toUInt32 >>> ((16 : Int32) &&& 31).toUInt32).toInt32) &&& (3 : Int32)) % (3 : Int32)))])
  refine Go.via (fun t k => XS.istoreN X0.here hx rfl (hb hby d1_8) rfl (l' := #[.val (.int xx), .val (.int ((((xx.toUInt32 >>> ((16 : Int32) &&& 31).toUInt32).toInt32) &&& (3 : Int32)) % (3 : Int32))), .unset, .unset]) rfl k) ?_
  show Go p.tables e below P s₁ (mkF m 9 #[.val (.int xx), .val (.int ((((xx.toUInt32 >>> ((16 : Int32) &&& 31).toUInt32).toInt32) &&& (3 : Int32)) % (3 : Int32))), .unset, .unset] [])
  refine Go.via (fun t k => XS.iloadN X0.here hx rfl (hb hby d1_9) rfl k) ?_
  show Go p.tables e below P s₁ (mkF m 10 #[.val (.int xx), .val (.int ((((xx.toUInt32 >>> ((16 : Int32) &&& 31).toUInt32).toInt32) &&& (3 : Int32)) % (3 : Int32))), .unset, .unset] [(.int xx)])
  refine Go.via (fun t k => XS.sipush X0.here hx rfl (hb hby d1_10) k) ?_
  show Go p.tables e below P s₁ (mkF m 13 #[.val (.int xx), .val (.int ((((xx.toUInt32 >>> ((16 : Int32) &&& 31).toUInt32).toInt32) &&& (3 : Int32)) % (3 : Int32))), .unset, .unset] [(.int (255 : Int32)), (.int xx)])
  refine Go.via (fun t k => XS.iand X0.here hx rfl (hb hby d1_13) rfl k) ?_
  show Go p.tables e below P s₁ (mkF m 14 #[.val (.int xx), .val (.int ((((xx.toUInt32 >>> ((16 : Int32) &&& 31).toUInt32).toInt32) &&& (3 : Int32)) % (3 : Int32))), .unset, .unset] [(.int (xx &&& (255 : Int32)))])
  refine Go.via (fun t k => XS.i2c X0.here hx rfl (hb hby d1_14) rfl k) ?_
  show Go p.tables e below P s₁ (mkF m 15 #[.val (.int xx), .val (.int ((((xx.toUInt32 >>> ((16 : Int32) &&& 31).toUInt32).toInt32) &&& (3 : Int32)) % (3 : Int32))), .unset, .unset] [(.int ((xx &&& (255 : Int32)).toUInt32.toUInt16.toUInt32.toInt32))])
  refine Go.via (fun t k => XS.istoreN X0.here hx rfl (hb hby d1_15) rfl (l' := #[.val (.int xx), .val (.int ((((xx.toUInt32 >>> ((16 : Int32) &&& 31).toUInt32).toInt32) &&& (3 : Int32)) % (3 : Int32))), .val (.int ((xx &&& (255 : Int32)).toUInt32.toUInt16.toUInt32.toInt32)), .unset]) rfl k) ?_
  show Go p.tables e below P s₁ (mkF m 16 #[.val (.int xx), .val (.int ((((xx.toUInt32 >>> ((16 : Int32) &&& 31).toUInt32).toInt32) &&& (3 : Int32)) % (3 : Int32))), .val (.int ((xx &&& (255 : Int32)).toUInt32.toUInt16.toUInt32.toInt32)), .unset] [])
  refine Go.via (fun t k => XS.iloadN X0.here hx rfl (hb hby d1_16) rfl k) ?_
  show Go p.tables e below P s₁ (mkF m 17 #[.val (.int xx), .val (.int ((((xx.toUInt32 >>> ((16 : Int32) &&& 31).toUInt32).toInt32) &&& (3 : Int32)) % (3 : Int32))), .val (.int ((xx &&& (255 : Int32)).toUInt32.toUInt16.toUInt32.toInt32)), .unset] [(.int xx)])
  refine Go.via (fun t k => XS.bipush X0.here hx rfl (hb hby d1_17) k) ?_
  show Go p.tables e below P s₁ (mkF m 19 #[.val (.int xx), .val (.int ((((xx.toUInt32 >>> ((16 : Int32) &&& 31).toUInt32).toInt32) &&& (3 : Int32)) % (3 : Int32))), .val (.int ((xx &&& (255 : Int32)).toUInt32.toUInt16.toUInt32.toInt32)), .unset] [(.int (8 : Int32)), (.int xx)])
  refine Go.via (fun t k => XS.iushr X0.here hx rfl (hb hby d1_19) rfl k) ?_
  show Go p.tables e below P s₁ (mkF m 20 #[.val (.int xx), .val (.int ((((xx.toUInt32 >>> ((16 : Int32) &&& 31).toUInt32).toInt32) &&& (3 : Int32)) % (3 : Int32))), .val (.int ((xx &&& (255 : Int32)).toUInt32.toUInt16.toUInt32.toInt32)), .unset] [(.int ((xx.toUInt32 >>> ((8 : Int32) &&& 31).toUInt32).toInt32))])
  refine Go.via (fun t k => XS.sipush X0.here hx rfl (hb hby d1_20) k) ?_
  show Go p.tables e below P s₁ (mkF m 23 #[.val (.int xx), .val (.int ((((xx.toUInt32 >>> ((16 : Int32) &&& 31).toUInt32).toInt32) &&& (3 : Int32)) % (3 : Int32))), .val (.int ((xx &&& (255 : Int32)).toUInt32.toUInt16.toUInt32.toInt32)), .unset] [(.int (255 : Int32)), (.int ((xx.toUInt32 >>> ((8 : Int32) &&& 31).toUInt32).toInt32))])
  refine Go.via (fun t k => XS.iand X0.here hx rfl (hb hby d1_23) rfl k) ?_
  show Go p.tables e below P s₁ (mkF m 24 #[.val (.int xx), .val (.int ((((xx.toUInt32 >>> ((16 : Int32) &&& 31).toUInt32).toInt32) &&& (3 : Int32)) % (3 : Int32))), .val (.int ((xx &&& (255 : Int32)).toUInt32.toUInt16.toUInt32.toInt32)), .unset] [(.int (((xx.toUInt32 >>> ((8 : Int32) &&& 31).toUInt32).toInt32) &&& (255 : Int32)))])
  refine Go.via (fun t k => XS.i2c X0.here hx rfl (hb hby d1_24) rfl k) ?_
  show Go p.tables e below P s₁ (mkF m 25 #[.val (.int xx), .val (.int ((((xx.toUInt32 >>> ((16 : Int32) &&& 31).toUInt32).toInt32) &&& (3 : Int32)) % (3 : Int32))), .val (.int ((xx &&& (255 : Int32)).toUInt32.toUInt16.toUInt32.toInt32)), .unset] [(.int ((((xx.toUInt32 >>> ((8 : Int32) &&& 31).toUInt32).toInt32) &&& (255 : Int32)).toUInt32.toUInt16.toUInt32.toInt32))])
  refine Go.via (fun t k => XS.istoreN X0.here hx rfl (hb hby d1_25) rfl (l' := #[.val (.int xx), .val (.int ((((xx.toUInt32 >>> ((16 : Int32) &&& 31).toUInt32).toInt32) &&& (3 : Int32)) % (3 : Int32))), .val (.int ((xx &&& (255 : Int32)).toUInt32.toUInt16.toUInt32.toInt32)), .val (.int ((((xx.toUInt32 >>> ((8 : Int32) &&& 31).toUInt32).toInt32) &&& (255 : Int32)).toUInt32.toUInt16.toUInt32.toInt32))]) rfl k) ?_
  show Go p.tables e below P s₁ (mkF m 26 #[.val (.int xx), .val (.int ((((xx.toUInt32 >>> ((16 : Int32) &&& 31).toUInt32).toInt32) &&& (3 : Int32)) % (3 : Int32))), .val (.int ((xx &&& (255 : Int32)).toUInt32.toUInt16.toUInt32.toInt32)), .val (.int ((((xx.toUInt32 >>> ((8 : Int32) &&& 31).toUInt32).toInt32) &&& (255 : Int32)).toUInt32.toUInt16.toUInt32.toInt32))] [])
  refine Go.via (fun t k => XS.iloadN X0.here hx rfl (hb hby d1_26) rfl k) ?_
  show Go p.tables e below P s₁ (mkF m 27 #[.val (.int xx), .val (.int ((((xx.toUInt32 >>> ((16 : Int32) &&& 31).toUInt32).toInt32) &&& (3 : Int32)) % (3 : Int32))), .val (.int ((xx &&& (255 : Int32)).toUInt32.toUInt16.toUInt32.toInt32)), .val (.int ((((xx.toUInt32 >>> ((8 : Int32) &&& 31).toUInt32).toInt32) &&& (255 : Int32)).toUInt32.toUInt16.toUInt32.toInt32))] [(.int ((((xx.toUInt32 >>> ((16 : Int32) &&& 31).toUInt32).toInt32) &&& (3 : Int32)) % (3 : Int32)))])
  by_cases hc1 : ((((xx.toUInt32 >>> ((16 : Int32) &&& 31).toUInt32).toInt32) &&& (3 : Int32)) % (3 : Int32)) = (0 : Int32)
  · refine Go.via (fun t k => XS.ifNo X0.here hx rfl (hb hby d1_27) rfl ((if0 _ _).trans (teq hc1).2) k) ?_
    show Go p.tables e below P s₁ (mkF m 30 #[.val (.int xx), .val (.int ((((xx.toUInt32 >>> ((16 : Int32) &&& 31).toUInt32).toInt32) &&& (3 : Int32)) % (3 : Int32))), .val (.int ((xx &&& (255 : Int32)).toUInt32.toUInt16.toUInt32.toInt32)), .val (.int ((((xx.toUInt32 >>> ((8 : Int32) &&& 31).toUInt32).toInt32) &&& (255 : Int32)).toUInt32.toUInt16.toUInt32.toInt32))] [])
    obtain ⟨T2, h2, X2, e2, E2, A2, D2, -, st2⟩ := newO X0 hx hZ hown (hw _ (List.mem_of_getElem? (i := 4) rfl)) (hw _ (List.mem_of_getElem? (i := 5) rfl)) (hw _ (List.mem_of_getElem? (i := 6) rfl)) e0 (g := (mkF m 30 #[.val (.int xx), .val (.int ((((xx.toUInt32 >>> ((16 : Int32) &&& 31).toUInt32).toInt32) &&& (3 : Int32)) % (3 : Int32))), .val (.int ((xx &&& (255 : Int32)).toUInt32.toUInt16.toUInt32.toInt32)), .val (.int ((((xx.toUInt32 >>> ((8 : Int32) &&& 31).toUInt32).toInt32) &&& (255 : Int32)).toUInt32.toUInt16.toUInt32.toInt32))] [])) rfl (hb hby d1_30) (by decide) (by decide)
    obtain ⟨b2, g2⟩ : ∃ z, z = h0.size := ⟨_, rfl⟩
    rw [← g2] at A2 D2 st2
    refine Go.via st2 ?_
    have g3 : n0 ≤ b2 := Nat.le_trans Z0 (Nat.le_of_eq g2.symm)
    have sz4 : h0.size ≤ b2 := Nat.le_trans K0.1 (Nat.le_of_eq g2.symm)
    have Z5 : n0 ≤ h2.size := Nat.le_trans Z0 E2.1
    have K6 : Keep h0 h2 [] := K0.ext E2
    have O7 : Old Z n0 h2 := O0.ext E2
    have CR8 := CHr.trans CR0 (CHr.ext E2 CR0.1)
    show Go p.tables e below P T2 (mkF m 33 #[.val (.int xx), .val (.int ((((xx.toUInt32 >>> ((16 : Int32) &&& 31).toUInt32).toInt32) &&& (3 : Int32)) % (3 : Int32))), .val (.int ((xx &&& (255 : Int32)).toUInt32.toUInt16.toUInt32.toInt32)), .val (.int ((((xx.toUInt32 >>> ((8 : Int32) &&& 31).toUInt32).toInt32) &&& (255 : Int32)).toUInt32.toUInt16.toUInt32.toInt32))] [(.ref b2)])
    refine Go.via (fun t k => XS.dup X2.here hx rfl (hb hby d1_33) rfl rfl k) ?_
    show Go p.tables e below P T2 (mkF m 34 #[.val (.int xx), .val (.int ((((xx.toUInt32 >>> ((16 : Int32) &&& 31).toUInt32).toInt32) &&& (3 : Int32)) % (3 : Int32))), .val (.int ((xx &&& (255 : Int32)).toUInt32.toUInt16.toUInt32.toInt32)), .val (.int ((((xx.toUInt32 >>> ((8 : Int32) &&& 31).toUInt32).toInt32) &&& (255 : Int32)).toUInt32.toUInt16.toUInt32.toInt32))] [(.ref b2), (.ref b2)])
    refine Go.via (fun t k => XS.iconst X2.here hx rfl (hb hby d1_34) k) ?_
    show Go p.tables e below P T2 (mkF m 35 #[.val (.int xx), .val (.int ((((xx.toUInt32 >>> ((16 : Int32) &&& 31).toUInt32).toInt32) &&& (3 : Int32)) % (3 : Int32))), .val (.int ((xx &&& (255 : Int32)).toUInt32.toUInt16.toUInt32.toInt32)), .val (.int ((((xx.toUInt32 >>> ((8 : Int32) &&& 31).toUInt32).toInt32) &&& (255 : Int32)).toUInt32.toUInt16.toUInt32.toInt32))] [(.int (0 : Int32)), (.ref b2), (.ref b2)])
    obtain ⟨T9, h9, k9, X9, e9, E9, A9, st9⟩ := newP X2 hx hZ (hw _ (List.mem_of_getElem? (i := 7) rfl)) e2 (g := (mkF m 35 #[.val (.int xx), .val (.int ((((xx.toUInt32 >>> ((16 : Int32) &&& 31).toUInt32).toInt32) &&& (3 : Int32)) % (3 : Int32))), .val (.int ((xx &&& (255 : Int32)).toUInt32.toUInt16.toUInt32.toInt32)), .val (.int ((((xx.toUInt32 >>> ((8 : Int32) &&& 31).toUInt32).toInt32) &&& (255 : Int32)).toUInt32.toUInt16.toUInt32.toInt32))] [(.int (0 : Int32)), (.ref b2), (.ref b2)])) rfl (hb hby d1_35) rfl (by decide) (cap := 0) (by decide) (by decide) (by decide) (by decide)
    obtain ⟨b9, g9⟩ : ∃ z, z = h2.size := ⟨_, rfl⟩
    rw [← g9] at A9 st9
    refine Go.via st9 ?_
    have ne10 : b2 ≠ b9 := Nat.ne_of_lt (Nat.lt_of_lt_of_le A2.lt (Nat.le_of_eq g9.symm))
    have g11 : n0 ≤ b9 := Nat.le_trans Z5 (Nat.le_of_eq g9.symm)
    have sz12 : h0.size ≤ b9 := Nat.le_trans K6.1 (Nat.le_of_eq g9.symm)
    have Z13 : n0 ≤ h9.size := Nat.le_trans Z5 E9.1
    have K14 : Keep h0 h9 [] := K6.ext E9
    have O15 : Old Z n0 h9 := O7.ext E9
    have CR16 := CHr.trans CR8 (CHr.ext E9 CR8.1)
    have V9 : Arv Z h9 b9 k9 .char (0 : Int32) [] (.int (0 : Int32)) := (Arv.new A9 (by decide)).pad (pad_rep [] (.int (0 : Int32)) 0)
    show Go p.tables e below P T9 (mkF m 37 #[.val (.int xx), .val (.int ((((xx.toUInt32 >>> ((16 : Int32) &&& 31).toUInt32).toInt32) &&& (3 : Int32)) % (3 : Int32))), .val (.int ((xx &&& (255 : Int32)).toUInt32.toUInt16.toUInt32.toInt32)), .val (.int ((((xx.toUInt32 >>> ((8 : Int32) &&& 31).toUInt32).toInt32) &&& (255 : Int32)).toUInt32.toUInt16.toUInt32.toInt32))] [(.ref b9), (.ref b2), (.ref b2)])
    have F17 : Exa Z h9 b2 "java/lang/String" := (A2.ext E9)
    have F18 : Fld Z h9 b2 "java/lang/String" "value" "[B" .null := ((D2 (Or.inr (hw _ (List.mem_of_getElem? (i := 20) rfl))) (ty := (.array .byte)) (by decide) : Fld Z h2 b2 "java/lang/String" "value" "[B" .null).ext E9)
    have F19 : Fld Z h9 b2 "java/lang/String" "coder" "B" (.int (0 : Int32)) := ((D2 (Or.inr (hw _ (List.mem_of_getElem? (i := 21) rfl))) (ty := .byte) (by decide) : Fld Z h2 b2 "java/lang/String" "coder" "B" (.int (0 : Int32))).ext E9)
    obtain ⟨_, _, ⟨T20, L20, k20, n20⟩, -, X20, hSn20, hgn20, ⟨Lc20, hQ20, l20, y20, z20, hC20⟩, st20⟩ := X9.specialBackS hx (y := (⟨"java/lang/String", "<init>", "([C)V"⟩ : MethodName)) rfl hown (mvT hZ (hw _ (List.mem_of_getElem? (i := 8) rfl))) (mvT hZ (hw _ (List.mem_of_getElem? (i := 9) rfl))) (mvT hZ (hw _ (List.mem_of_getElem? (i := 10) rfl))) (by decide) (backOfSH (W := 1) (rm2 l Z a0 hw [] b2 b9 k9 [] (.int (0 : Int32)) h9 n0 Z13 F17 F18 F19 g3 V9) hZ (hw _ (List.mem_of_getElem? (i := 10) rfl)) (hw _ (List.mem_of_getElem? (i := 6) rfl)) (by decide) (by decide) (own_EW hw) CR16.1) (g := (mkF m 37 #[.val (.int xx), .val (.int ((((xx.toUInt32 >>> ((16 : Int32) &&& 31).toUInt32).toInt32) &&& (3 : Int32)) % (3 : Int32))), .val (.int ((xx &&& (255 : Int32)).toUInt32.toUInt16.toUInt32.toInt32)), .val (.int ((((xx.toUInt32 >>> ((8 : Int32) &&& 31).toUInt32).toInt32) &&& (255 : Int32)).toUInt32.toUInt16.toUInt32.toInt32))] [(.ref b9), (.ref b2), (.ref b2)])) rfl (by rw [hml]; rfl) (Steps.refl _) (a := b2) (argsL := [(.ref b9)]) (rest := [(.ref b2)]) (lenOf own_pd1 rfl) rfl (by show 2 * 0 + _ ≤ _; exact Nat.le_of_eq rfl) (hb hby d1_37) (fun _ _ => ⟨rfl, e9, (by decide : 2 + 4 ≤ _), (by decide : 4 + 8 ≤ _)⟩)
    dsimp only [Pt.U, Pt.locs, Pt.cells, Pt.slots] at X20 l20 y20 z20 st20 hQ20 hSn20 hgn20 hC20
    subst l20 y20 z20
    have hS20 : s.Since T20.vm T20.heap.size := foldS hS0 (by rw [e9]; exact (Nat.zero_le _)) hSn20 hgn20
    have X20 : Stand p l e ({ frames := 4, cells := 6, slots := 12, locals := 66 } : Room) (s.setVm T20.vm) m #[(.int xx)] below meth c T20 _ _ _ := X20
    have hown : (s.setVm T20.vm).vm.findClass "com/example/splitbook/splitbook/book/ReportKeyEqualsPinLaw" = some m.cls := by rw [show (s.setVm T20.vm).vm = T20.vm from rfl, hSn20.1.alike.findClass]; exact hown
    have hZ : Z.Warmed39 (s.setVm T20.vm).vm := State.Warmed39.trans (t := s.setVm s.vm) hZ hSn20.1
    obtain ⟨tb_20, kk_20, rfl, Nq20, K20, u20_0, u20_1, u20_2, u20_3, u20_4, u20_5⟩ := hQ20
    obtain ⟨lc20, Xh20, N20⟩ := own_hide X20 (Fr.app N0 Nq20)
    clear X20
    refine Go.hop st20 ?_
    have CR21 := CHr.trans CR16 hC20
    have Z22 : n0 ≤ T20.heap.size := Nat.le_trans Z13 K20.1
    have K23 : Keep h0 T20.heap [] := K14.trans K20 (own_allC (Or.inr sz4) own_all0)
    have O24 : Old Z n0 T20.heap := O15.keep K20 (own_allC g3 own_all0)
    have hk25 : T20.heap.size ≤ T20.heap.size := Nat.le_refl _
    show Go p.tables e below P T20 (mkF m 40 #[.val (.int xx), .val (.int ((((xx.toUInt32 >>> ((16 : Int32) &&& 31).toUInt32).toInt32) &&& (3 : Int32)) % (3 : Int32))), .val (.int ((xx &&& (255 : Int32)).toUInt32.toUInt16.toUInt32.toInt32)), .val (.int ((((xx.toUInt32 >>> ((8 : Int32) &&& 31).toUInt32).toInt32) &&& (255 : Int32)).toUInt32.toUInt16.toUInt32.toInt32))] [(.ref b2)])
    have Vr27 : Arv Z T20.heap tb_20 kk_20 .byte (own_ln ([] : List Int32)) (([] : List Int32).map Value.int) (.int (0 : Int32)) := by
      rw [show own_ln ([] : List Int32) = (0 : Int32) from rfl]; exact u20_3
    obtain ⟨fs, hr, hrun, hended, hend⟩ := Xh20.leaveW hS20 (by exact hk25) (v := some (.ref b2)) (fun h => by rw [Bd.returns] at h; cases h)
    have hCf : CHr Z consts_1 s.vm s.heap (T20.setFrames fs).vm (T20.setFrames fs).heap := by
      rw [hh]
      show CHr Z consts_1 s.vm h0 T20.vm T20.heap
      exact CHr.trans CR21 (CHv.at Xh20 hZ (own_EW hw) CR21.1)
    refine ⟨_, _, retA Xh20 hx Bd.returns rfl rfl rfl (hb hby d1_40) hr, hrun, hended, hP _ _ ⟨_, _, rfl, ?_, hCf, own_rew hend (by decide) (by decide)⟩⟩
    show Q1 Z xx cs h0 n0 _ T20.heap _
    exact ⟨b2, tb_20, kk_20, ([] : List Int32), rfl, N20, K23, sz4, u20_0, u20_1, u20_2, Vr27, ⟨by decide, fun _ q => nomatch q⟩, Vr27.lt, u20_5⟩
  · refine Go.via (fun t k => XS.ifYes X0.here hx rfl (pc0 := 27) (pc' := 41) rfl (hb hby d1_27) rfl ((if0 _ _).trans (feq hc1).2) (by decide) (by decide) k) ?_
    show Go p.tables e below P s₁ (mkF m 41 #[.val (.int xx), .val (.int ((((xx.toUInt32 >>> ((16 : Int32) &&& 31).toUInt32).toInt32) &&& (3 : Int32)) % (3 : Int32))), .val (.int ((xx &&& (255 : Int32)).toUInt32.toUInt16.toUInt32.toInt32)), .val (.int ((((xx.toUInt32 >>> ((8 : Int32) &&& 31).toUInt32).toInt32) &&& (255 : Int32)).toUInt32.toUInt16.toUInt32.toInt32))] [])
    refine Go.via (fun t k => XS.iloadN X0.here hx rfl (hb hby d1_41) rfl k) ?_
    show Go p.tables e below P s₁ (mkF m 42 #[.val (.int xx), .val (.int ((((xx.toUInt32 >>> ((16 : Int32) &&& 31).toUInt32).toInt32) &&& (3 : Int32)) % (3 : Int32))), .val (.int ((xx &&& (255 : Int32)).toUInt32.toUInt16.toUInt32.toInt32)), .val (.int ((((xx.toUInt32 >>> ((8 : Int32) &&& 31).toUInt32).toInt32) &&& (255 : Int32)).toUInt32.toUInt16.toUInt32.toInt32))] [(.int ((((xx.toUInt32 >>> ((16 : Int32) &&& 31).toUInt32).toInt32) &&& (3 : Int32)) % (3 : Int32)))])
    refine Go.via (fun t k => XS.iconst X0.here hx rfl (hb hby d1_42) k) ?_
    show Go p.tables e below P s₁ (mkF m 43 #[.val (.int xx), .val (.int ((((xx.toUInt32 >>> ((16 : Int32) &&& 31).toUInt32).toInt32) &&& (3 : Int32)) % (3 : Int32))), .val (.int ((xx &&& (255 : Int32)).toUInt32.toUInt16.toUInt32.toInt32)), .val (.int ((((xx.toUInt32 >>> ((8 : Int32) &&& 31).toUInt32).toInt32) &&& (255 : Int32)).toUInt32.toUInt16.toUInt32.toInt32))] [(.int (1 : Int32)), (.int ((((xx.toUInt32 >>> ((16 : Int32) &&& 31).toUInt32).toInt32) &&& (3 : Int32)) % (3 : Int32)))])
    by_cases hc28 : ((((xx.toUInt32 >>> ((16 : Int32) &&& 31).toUInt32).toInt32) &&& (3 : Int32)) % (3 : Int32)) = (1 : Int32)
    · refine Go.via (fun t k => XS.icmpNo X0.here hx rfl (hb hby d1_43) rfl (teq hc28).2 k) ?_
      show Go p.tables e below P s₁ (mkF m 46 #[.val (.int xx), .val (.int ((((xx.toUInt32 >>> ((16 : Int32) &&& 31).toUInt32).toInt32) &&& (3 : Int32)) % (3 : Int32))), .val (.int ((xx &&& (255 : Int32)).toUInt32.toUInt16.toUInt32.toInt32)), .val (.int ((((xx.toUInt32 >>> ((8 : Int32) &&& 31).toUInt32).toInt32) &&& (255 : Int32)).toUInt32.toUInt16.toUInt32.toInt32))] [])
      obtain ⟨T29, h29, X29, e29, E29, A29, D29, -, st29⟩ := newO X0 hx hZ hown (hw _ (List.mem_of_getElem? (i := 4) rfl)) (hw _ (List.mem_of_getElem? (i := 5) rfl)) (hw _ (List.mem_of_getElem? (i := 6) rfl)) e0 (g := (mkF m 46 #[.val (.int xx), .val (.int ((((xx.toUInt32 >>> ((16 : Int32) &&& 31).toUInt32).toInt32) &&& (3 : Int32)) % (3 : Int32))), .val (.int ((xx &&& (255 : Int32)).toUInt32.toUInt16.toUInt32.toInt32)), .val (.int ((((xx.toUInt32 >>> ((8 : Int32) &&& 31).toUInt32).toInt32) &&& (255 : Int32)).toUInt32.toUInt16.toUInt32.toInt32))] [])) rfl (hb hby d1_46) (by decide) (by decide)
      obtain ⟨b29, g29⟩ : ∃ z, z = h0.size := ⟨_, rfl⟩
      rw [← g29] at A29 D29 st29
      refine Go.via st29 ?_
      have g30 : n0 ≤ b29 := Nat.le_trans Z0 (Nat.le_of_eq g29.symm)
      have sz31 : h0.size ≤ b29 := Nat.le_trans K0.1 (Nat.le_of_eq g29.symm)
      have Z32 : n0 ≤ h29.size := Nat.le_trans Z0 E29.1
      have K33 : Keep h0 h29 [] := K0.ext E29
      have O34 : Old Z n0 h29 := O0.ext E29
      have CR35 := CHr.trans CR0 (CHr.ext E29 CR0.1)
      show Go p.tables e below P T29 (mkF m 49 #[.val (.int xx), .val (.int ((((xx.toUInt32 >>> ((16 : Int32) &&& 31).toUInt32).toInt32) &&& (3 : Int32)) % (3 : Int32))), .val (.int ((xx &&& (255 : Int32)).toUInt32.toUInt16.toUInt32.toInt32)), .val (.int ((((xx.toUInt32 >>> ((8 : Int32) &&& 31).toUInt32).toInt32) &&& (255 : Int32)).toUInt32.toUInt16.toUInt32.toInt32))] [(.ref b29)])
      refine Go.via (fun t k => XS.dup X29.here hx rfl (hb hby d1_49) rfl rfl k) ?_
      show Go p.tables e below P T29 (mkF m 50 #[.val (.int xx), .val (.int ((((xx.toUInt32 >>> ((16 : Int32) &&& 31).toUInt32).toInt32) &&& (3 : Int32)) % (3 : Int32))), .val (.int ((xx &&& (255 : Int32)).toUInt32.toUInt16.toUInt32.toInt32)), .val (.int ((((xx.toUInt32 >>> ((8 : Int32) &&& 31).toUInt32).toInt32) &&& (255 : Int32)).toUInt32.toUInt16.toUInt32.toInt32))] [(.ref b29), (.ref b29)])
      refine Go.via (fun t k => XS.iconst X29.here hx rfl (hb hby d1_50) k) ?_
      show Go p.tables e below P T29 (mkF m 51 #[.val (.int xx), .val (.int ((((xx.toUInt32 >>> ((16 : Int32) &&& 31).toUInt32).toInt32) &&& (3 : Int32)) % (3 : Int32))), .val (.int ((xx &&& (255 : Int32)).toUInt32.toUInt16.toUInt32.toInt32)), .val (.int ((((xx.toUInt32 >>> ((8 : Int32) &&& 31).toUInt32).toInt32) &&& (255 : Int32)).toUInt32.toUInt16.toUInt32.toInt32))] [(.int (1 : Int32)), (.ref b29), (.ref b29)])
      obtain ⟨T36, h36, k36, X36, e36, E36, A36, st36⟩ := newP X29 hx hZ (hw _ (List.mem_of_getElem? (i := 7) rfl)) e29 (g := (mkF m 51 #[.val (.int xx), .val (.int ((((xx.toUInt32 >>> ((16 : Int32) &&& 31).toUInt32).toInt32) &&& (3 : Int32)) % (3 : Int32))), .val (.int ((xx &&& (255 : Int32)).toUInt32.toUInt16.toUInt32.toInt32)), .val (.int ((((xx.toUInt32 >>> ((8 : Int32) &&& 31).toUInt32).toInt32) &&& (255 : Int32)).toUInt32.toUInt16.toUInt32.toInt32))] [(.int (1 : Int32)), (.ref b29), (.ref b29)])) rfl (hb hby d1_51) rfl (by decide) (cap := 1) (by decide) (by decide) (by decide) (by decide)
      obtain ⟨b36, g36⟩ : ∃ z, z = h29.size := ⟨_, rfl⟩
      rw [← g36] at A36 st36
      refine Go.via st36 ?_
      have ne37 : b29 ≠ b36 := Nat.ne_of_lt (Nat.lt_of_lt_of_le A29.lt (Nat.le_of_eq g36.symm))
      have g38 : n0 ≤ b36 := Nat.le_trans Z32 (Nat.le_of_eq g36.symm)
      have sz39 : h0.size ≤ b36 := Nat.le_trans K33.1 (Nat.le_of_eq g36.symm)
      have Z40 : n0 ≤ h36.size := Nat.le_trans Z32 E36.1
      have K41 : Keep h0 h36 [] := K33.ext E36
      have O42 : Old Z n0 h36 := O34.ext E36
      have CR43 := CHr.trans CR35 (CHr.ext E36 CR35.1)
      have V36 : Arv Z h36 b36 k36 .char (1 : Int32) [(.int (0 : Int32))] (.int (0 : Int32)) := (Arv.new A36 (by decide)).pad (pad_rep [] (.int (0 : Int32)) 1)
      show Go p.tables e below P T36 (mkF m 53 #[.val (.int xx), .val (.int ((((xx.toUInt32 >>> ((16 : Int32) &&& 31).toUInt32).toInt32) &&& (3 : Int32)) % (3 : Int32))), .val (.int ((xx &&& (255 : Int32)).toUInt32.toUInt16.toUInt32.toInt32)), .val (.int ((((xx.toUInt32 >>> ((8 : Int32) &&& 31).toUInt32).toInt32) &&& (255 : Int32)).toUInt32.toUInt16.toUInt32.toInt32))] [(.ref b36), (.ref b29), (.ref b29)])
      refine Go.via (fun t k => XS.dup X36.here hx rfl (hb hby d1_53) rfl rfl k) ?_
      show Go p.tables e below P T36 (mkF m 54 #[.val (.int xx), .val (.int ((((xx.toUInt32 >>> ((16 : Int32) &&& 31).toUInt32).toInt32) &&& (3 : Int32)) % (3 : Int32))), .val (.int ((xx &&& (255 : Int32)).toUInt32.toUInt16.toUInt32.toInt32)), .val (.int ((((xx.toUInt32 >>> ((8 : Int32) &&& 31).toUInt32).toInt32) &&& (255 : Int32)).toUInt32.toUInt16.toUInt32.toInt32))] [(.ref b36), (.ref b36), (.ref b29), (.ref b29)])
      refine Go.via (fun t k => XS.iconst X36.here hx rfl (hb hby d1_54) k) ?_
      show Go p.tables e below P T36 (mkF m 55 #[.val (.int xx), .val (.int ((((xx.toUInt32 >>> ((16 : Int32) &&& 31).toUInt32).toInt32) &&& (3 : Int32)) % (3 : Int32))), .val (.int ((xx &&& (255 : Int32)).toUInt32.toUInt16.toUInt32.toInt32)), .val (.int ((((xx.toUInt32 >>> ((8 : Int32) &&& 31).toUInt32).toInt32) &&& (255 : Int32)).toUInt32.toUInt16.toUInt32.toInt32))] [(.int (0 : Int32)), (.ref b36), (.ref b36), (.ref b29), (.ref b29)])
      refine Go.via (fun t k => XS.iloadN X36.here hx rfl (hb hby d1_55) rfl k) ?_
      show Go p.tables e below P T36 (mkF m 56 #[.val (.int xx), .val (.int ((((xx.toUInt32 >>> ((16 : Int32) &&& 31).toUInt32).toInt32) &&& (3 : Int32)) % (3 : Int32))), .val (.int ((xx &&& (255 : Int32)).toUInt32.toUInt16.toUInt32.toInt32)), .val (.int ((((xx.toUInt32 >>> ((8 : Int32) &&& 31).toUInt32).toInt32) &&& (255 : Int32)).toUInt32.toUInt16.toUInt32.toInt32))] [(.int ((xx &&& (255 : Int32)).toUInt32.toUInt16.toUInt32.toInt32)), (.int (0 : Int32)), (.ref b36), (.ref b36), (.ref b29), (.ref b29)])
      have F44 : Exa Z h36 b29 "java/lang/String" := (A29.ext E36)
      have F45 : Fld Z h36 b29 "java/lang/String" "value" "[B" .null := ((D29 (Or.inr (hw _ (List.mem_of_getElem? (i := 20) rfl))) (ty := (.array .byte)) (by decide) : Fld Z h29 b29 "java/lang/String" "value" "[B" .null).ext E36)
      have F46 : Fld Z h36 b29 "java/lang/String" "coder" "B" (.int (0 : Int32)) := ((D29 (Or.inr (hw _ (List.mem_of_getElem? (i := 21) rfl))) (ty := .byte) (by decide) : Fld Z h29 b29 "java/lang/String" "coder" "B" (.int (0 : Int32))).ext E36)
      obtain ⟨c47, A47, q47, S47, N47, H47, G47⟩ := id V36
      have hin47 : ¬ ((0 : Int32) < 0 ∨ c47.slots.size ≤ ((0 : Int32)).toNatClampNeg) := inb_of S47 ⟨by decide, by decide⟩
      obtain ⟨T47, h47, X47, e47, W47, st47⟩ := stC X36 hx hZ e36 A47 (j := (0 : Int32)) hin47 (g := (mkF m 56 #[.val (.int xx), .val (.int ((((xx.toUInt32 >>> ((16 : Int32) &&& 31).toUInt32).toInt32) &&& (3 : Int32)) % (3 : Int32))), .val (.int ((xx &&& (255 : Int32)).toUInt32.toUInt16.toUInt32.toInt32)), .val (.int ((((xx.toUInt32 >>> ((8 : Int32) &&& 31).toUInt32).toInt32) &&& (255 : Int32)).toUInt32.toUInt16.toUInt32.toInt32))] [(.int ((xx &&& (255 : Int32)).toUInt32.toUInt16.toUInt32.toInt32)), (.int (0 : Int32)), (.ref b36), (.ref b36), (.ref b29), (.ref b29)])) rfl rfl (hb hby d1_56)
      refine Go.via st47 ?_
      have Z48 : n0 ≤ h47.size := Nat.le_trans Z40 (Nat.le_of_eq W47.size.symm)
      have K49 : Keep h0 h47 [] := K41.wr W47 (Or.inr sz39)
      obtain ⟨lc47, Xh47, N50⟩ := own_hide X47 (Fr.snoc X47 N0 g38)
      clear X47
      have O51 : Old Z n0 h47 := O42.wr W47 g38
      have Sf47 := Safe.wr W47 (Safe.arv hZ.alike V36 (by decide)) CR43.1 (Safe.arv hZ.alike V36 (by decide))
      have CR52 := CHr.trans CR43 (CHr.wr W47 (Safe.arv hZ.alike V36 (by decide)) CR43.1)
      have V47 : Arv Z h47 b36 k36 .char (1 : Int32) [(.int (nar .char ((xx &&& (255 : Int32)).toUInt32.toUInt16.toUInt32.toInt32)))] (.int (0 : Int32)) := Arv.set A47 q47 S47 N47 H47 G47 (fits_nar_char _) W47 0 rfl (Nat.le_of_ble_eq_true rfl)
      show Go p.tables e below P T47 (mkF m 57 #[.val (.int xx), .val (.int ((((xx.toUInt32 >>> ((16 : Int32) &&& 31).toUInt32).toInt32) &&& (3 : Int32)) % (3 : Int32))), .val (.int ((xx &&& (255 : Int32)).toUInt32.toUInt16.toUInt32.toInt32)), .val (.int ((((xx.toUInt32 >>> ((8 : Int32) &&& 31).toUInt32).toInt32) &&& (255 : Int32)).toUInt32.toUInt16.toUInt32.toInt32))] [(.ref b36), (.ref b29), (.ref b29)])
      have F53 : Exa Z h47 b29 "java/lang/String" := (F44.wr W47)
      have F54 : Fld Z h47 b29 "java/lang/String" "value" "[B" .null := (F45.other W47 (Or.inl ne37))
      have F55 : Fld Z h47 b29 "java/lang/String" "coder" "B" (.int (0 : Int32)) := (F46.other W47 (Or.inl ne37))
      obtain ⟨_, _, ⟨T56, L56, k56, n56⟩, -, X56, ⟨Lc56, hQ56, l56, y56, z56⟩, st56⟩ := Xh47.specialBack hx (y := (⟨"java/lang/String", "<init>", "([C)V"⟩ : MethodName)) rfl hown (mvT hZ (hw _ (List.mem_of_getElem? (i := 8) rfl))) (mvT hZ (hw _ (List.mem_of_getElem? (i := 9) rfl))) (mvT hZ (hw _ (List.mem_of_getElem? (i := 10) rfl))) (by decide) (StrChars.Road.backV (W := 1) hZ (own_ws hw) (kI := 4) (hw _ (List.mem_of_getElem? (i := 5) rfl)) (cs := ([(nar .char ((xx &&& (255 : Int32)).toUInt32.toUInt16.toUInt32.toInt32))] : List Int32)) (bs := ([((nar .char ((xx &&& (255 : Int32)).toUInt32.toUInt16.toUInt32.toInt32))).toInt8.toInt32] : List Int32)) (n := 1) g30 Z48 F53 F54 F55 V47 (P1.ext O51.2) hcs rfl rfl (by decide) (by decide) (own_alC (own_ch _) own_al0) rfl (by decide) (by decide)) (g := (mkF m 57 #[.val (.int xx), .val (.int ((((xx.toUInt32 >>> ((16 : Int32) &&& 31).toUInt32).toInt32) &&& (3 : Int32)) % (3 : Int32))), .val (.int ((xx &&& (255 : Int32)).toUInt32.toUInt16.toUInt32.toInt32)), .val (.int ((((xx.toUInt32 >>> ((8 : Int32) &&& 31).toUInt32).toInt32) &&& (255 : Int32)).toUInt32.toUInt16.toUInt32.toInt32))] [(.ref b36), (.ref b29), (.ref b29)])) rfl (by rw [hml]; rfl) (Steps.refl _) (a := b29) (argsL := [(.ref b36)]) (rest := [(.ref b29)]) (lenOf own_pd1 rfl) rfl (by show 2 * 0 + _ ≤ _; exact Nat.le_of_eq rfl) (hb hby d1_57) (fun _ _ => ⟨rfl, e47, (by decide : 2 + 1 ≤ _), (by decide : 5 + 1 ≤ _)⟩)
      dsimp only [Pt.U, Pt.locs, Pt.cells, Pt.slots] at X56 l56 y56 z56 st56 hQ56
      subst l56 y56 z56
      obtain ⟨rfl, Nq56, K56, Ex56, Fc56, t56, kb56, -, lt56, ne56, Fv56, Va56⟩ := hQ56
      obtain ⟨lc56, Xh56, N56⟩ := own_hide X56 (Fr.app N50 Nq56)
      clear X56
      refine Go.hop st56 ?_
      have ne57 : b29 ≠ t56 := Nat.ne_of_lt (Nat.lt_of_lt_of_le F53.lt lt56)
      have ne58 : b36 ≠ t56 := Nat.ne_of_lt (Nat.lt_of_lt_of_le V47.lt lt56)
      have g59 : n0 ≤ t56 := Nat.le_trans Z48 lt56
      have sz60 : h0.size ≤ t56 := Nat.le_trans K49.1 lt56
      have Z61 : n0 ≤ T56.heap.size := Nat.le_trans Z48 K56.1
      have K62 : Keep h0 T56.heap [] := K49.trans K56 (own_allC (Or.inr sz31) own_all0)
      have CR63 := CHr.trans CR52 (CHr.keep K56 (sfS (own_safeS hZ.alike F53 F54) sf0) CR52.1)
      have O64 : Old Z n0 T56.heap := O51.keep K56 (own_allC g30 own_all0)
      have Vt56 : Arv Z T56.heap t56 kb56 .byte (1 : Int32) [(.int ((nar .char ((xx &&& (255 : Int32)).toUInt32.toUInt16.toUInt32.toInt32))).toInt8.toInt32)] (.int (0 : Int32)) := Va56
      show Go p.tables e below P T56 (mkF m 60 #[.val (.int xx), .val (.int ((((xx.toUInt32 >>> ((16 : Int32) &&& 31).toUInt32).toInt32) &&& (3 : Int32)) % (3 : Int32))), .val (.int ((xx &&& (255 : Int32)).toUInt32.toUInt16.toUInt32.toInt32)), .val (.int ((((xx.toUInt32 >>> ((8 : Int32) &&& 31).toUInt32).toInt32) &&& (255 : Int32)).toUInt32.toUInt16.toUInt32.toInt32))] [(.ref b29)])
      have Vr66 : Arv Z T56.heap t56 kb56 .byte (own_ln ([((nar .char ((xx &&& (255 : Int32)).toUInt32.toUInt16.toUInt32.toInt32))).toInt8.toInt32] : List Int32)) (([((nar .char ((xx &&& (255 : Int32)).toUInt32.toUInt16.toUInt32.toInt32))).toInt8.toInt32] : List Int32).map Value.int) (.int (0 : Int32)) := by
        rw [show own_ln ([((nar .char ((xx &&& (255 : Int32)).toUInt32.toUInt16.toUInt32.toInt32))).toInt8.toInt32] : List Int32) = (1 : Int32) from rfl]; exact Vt56
      obtain ⟨fs, hr, hrun, hended, hend⟩ := Xh56.leaveW hS0 (by exact (Nat.zero_le _)) (v := some (.ref b29)) (fun h => by rw [Bd.returns] at h; cases h)
      have hCf : CHr Z consts_1 s.vm s.heap (T56.setFrames fs).vm (T56.setFrames fs).heap := by
        rw [hh]
        show CHr Z consts_1 s.vm h0 T56.vm T56.heap
        exact CHr.trans CR63 (CHv.at Xh56 hZ (own_EW hw) CR63.1)
      refine ⟨_, _, retA Xh56 hx Bd.returns rfl rfl rfl (hb hby d1_60) hr, hrun, hended, hP _ _ ⟨_, _, rfl, ?_, hCf, own_rew hend (by decide) (by decide)⟩⟩
      show Q1 Z xx cs h0 n0 _ T56.heap _
      exact ⟨b29, t56, kb56, ([((nar .char ((xx &&& (255 : Int32)).toUInt32.toUInt16.toUInt32.toInt32))).toInt8.toInt32] : List Int32), rfl, N56, K62, sz31, Ex56, Fv56, Fc56, Vr66, (own_smc (l := []) (by decide) _ (fun _ q => nomatch q)), Vr66.lt, ne57⟩
    · refine Go.via (fun t k => XS.icmpYes X0.here hx rfl (pc0 := 43) (pc' := 61) rfl (hb hby d1_43) rfl (feq hc28).2 (by decide) (by decide) k) ?_
      show Go p.tables e below P s₁ (mkF m 61 #[.val (.int xx), .val (.int ((((xx.toUInt32 >>> ((16 : Int32) &&& 31).toUInt32).toInt32) &&& (3 : Int32)) % (3 : Int32))), .val (.int ((xx &&& (255 : Int32)).toUInt32.toUInt16.toUInt32.toInt32)), .val (.int ((((xx.toUInt32 >>> ((8 : Int32) &&& 31).toUInt32).toInt32) &&& (255 : Int32)).toUInt32.toUInt16.toUInt32.toInt32))] [])
      obtain ⟨T67, h67, X67, e67, E67, A67, D67, -, st67⟩ := newO X0 hx hZ hown (hw _ (List.mem_of_getElem? (i := 4) rfl)) (hw _ (List.mem_of_getElem? (i := 5) rfl)) (hw _ (List.mem_of_getElem? (i := 6) rfl)) e0 (g := (mkF m 61 #[.val (.int xx), .val (.int ((((xx.toUInt32 >>> ((16 : Int32) &&& 31).toUInt32).toInt32) &&& (3 : Int32)) % (3 : Int32))), .val (.int ((xx &&& (255 : Int32)).toUInt32.toUInt16.toUInt32.toInt32)), .val (.int ((((xx.toUInt32 >>> ((8 : Int32) &&& 31).toUInt32).toInt32) &&& (255 : Int32)).toUInt32.toUInt16.toUInt32.toInt32))] [])) rfl (hb hby d1_61) (by decide) (by decide)
      obtain ⟨b67, g67⟩ : ∃ z, z = h0.size := ⟨_, rfl⟩
      rw [← g67] at A67 D67 st67
      refine Go.via st67 ?_
      have g68 : n0 ≤ b67 := Nat.le_trans Z0 (Nat.le_of_eq g67.symm)
      have sz69 : h0.size ≤ b67 := Nat.le_trans K0.1 (Nat.le_of_eq g67.symm)
      have Z70 : n0 ≤ h67.size := Nat.le_trans Z0 E67.1
      have K71 : Keep h0 h67 [] := K0.ext E67
      have O72 : Old Z n0 h67 := O0.ext E67
      have CR73 := CHr.trans CR0 (CHr.ext E67 CR0.1)
      show Go p.tables e below P T67 (mkF m 64 #[.val (.int xx), .val (.int ((((xx.toUInt32 >>> ((16 : Int32) &&& 31).toUInt32).toInt32) &&& (3 : Int32)) % (3 : Int32))), .val (.int ((xx &&& (255 : Int32)).toUInt32.toUInt16.toUInt32.toInt32)), .val (.int ((((xx.toUInt32 >>> ((8 : Int32) &&& 31).toUInt32).toInt32) &&& (255 : Int32)).toUInt32.toUInt16.toUInt32.toInt32))] [(.ref b67)])
      refine Go.via (fun t k => XS.dup X67.here hx rfl (hb hby d1_64) rfl rfl k) ?_
      show Go p.tables e below P T67 (mkF m 65 #[.val (.int xx), .val (.int ((((xx.toUInt32 >>> ((16 : Int32) &&& 31).toUInt32).toInt32) &&& (3 : Int32)) % (3 : Int32))), .val (.int ((xx &&& (255 : Int32)).toUInt32.toUInt16.toUInt32.toInt32)), .val (.int ((((xx.toUInt32 >>> ((8 : Int32) &&& 31).toUInt32).toInt32) &&& (255 : Int32)).toUInt32.toUInt16.toUInt32.toInt32))] [(.ref b67), (.ref b67)])
      refine Go.via (fun t k => XS.iconst X67.here hx rfl (hb hby d1_65) k) ?_
      show Go p.tables e below P T67 (mkF m 66 #[.val (.int xx), .val (.int ((((xx.toUInt32 >>> ((16 : Int32) &&& 31).toUInt32).toInt32) &&& (3 : Int32)) % (3 : Int32))), .val (.int ((xx &&& (255 : Int32)).toUInt32.toUInt16.toUInt32.toInt32)), .val (.int ((((xx.toUInt32 >>> ((8 : Int32) &&& 31).toUInt32).toInt32) &&& (255 : Int32)).toUInt32.toUInt16.toUInt32.toInt32))] [(.int (2 : Int32)), (.ref b67), (.ref b67)])
      obtain ⟨T74, h74, k74, X74, e74, E74, A74, st74⟩ := newP X67 hx hZ (hw _ (List.mem_of_getElem? (i := 7) rfl)) e67 (g := (mkF m 66 #[.val (.int xx), .val (.int ((((xx.toUInt32 >>> ((16 : Int32) &&& 31).toUInt32).toInt32) &&& (3 : Int32)) % (3 : Int32))), .val (.int ((xx &&& (255 : Int32)).toUInt32.toUInt16.toUInt32.toInt32)), .val (.int ((((xx.toUInt32 >>> ((8 : Int32) &&& 31).toUInt32).toInt32) &&& (255 : Int32)).toUInt32.toUInt16.toUInt32.toInt32))] [(.int (2 : Int32)), (.ref b67), (.ref b67)])) rfl (hb hby d1_66) rfl (by decide) (cap := 2) (by decide) (by decide) (by decide) (by decide)
      obtain ⟨b74, g74⟩ : ∃ z, z = h67.size := ⟨_, rfl⟩
      rw [← g74] at A74 st74
      refine Go.via st74 ?_
      have ne75 : b67 ≠ b74 := Nat.ne_of_lt (Nat.lt_of_lt_of_le A67.lt (Nat.le_of_eq g74.symm))
      have g76 : n0 ≤ b74 := Nat.le_trans Z70 (Nat.le_of_eq g74.symm)
      have sz77 : h0.size ≤ b74 := Nat.le_trans K71.1 (Nat.le_of_eq g74.symm)
      have Z78 : n0 ≤ h74.size := Nat.le_trans Z70 E74.1
      have K79 : Keep h0 h74 [] := K71.ext E74
      have O80 : Old Z n0 h74 := O72.ext E74
      have CR81 := CHr.trans CR73 (CHr.ext E74 CR73.1)
      have V74 : Arv Z h74 b74 k74 .char (2 : Int32) [(.int (0 : Int32)), (.int (0 : Int32))] (.int (0 : Int32)) := (Arv.new A74 (by decide)).pad (pad_rep [] (.int (0 : Int32)) 2)
      show Go p.tables e below P T74 (mkF m 68 #[.val (.int xx), .val (.int ((((xx.toUInt32 >>> ((16 : Int32) &&& 31).toUInt32).toInt32) &&& (3 : Int32)) % (3 : Int32))), .val (.int ((xx &&& (255 : Int32)).toUInt32.toUInt16.toUInt32.toInt32)), .val (.int ((((xx.toUInt32 >>> ((8 : Int32) &&& 31).toUInt32).toInt32) &&& (255 : Int32)).toUInt32.toUInt16.toUInt32.toInt32))] [(.ref b74), (.ref b67), (.ref b67)])
      refine Go.via (fun t k => XS.dup X74.here hx rfl (hb hby d1_68) rfl rfl k) ?_
      show Go p.tables e below P T74 (mkF m 69 #[.val (.int xx), .val (.int ((((xx.toUInt32 >>> ((16 : Int32) &&& 31).toUInt32).toInt32) &&& (3 : Int32)) % (3 : Int32))), .val (.int ((xx &&& (255 : Int32)).toUInt32.toUInt16.toUInt32.toInt32)), .val (.int ((((xx.toUInt32 >>> ((8 : Int32) &&& 31).toUInt32).toInt32) &&& (255 : Int32)).toUInt32.toUInt16.toUInt32.toInt32))] [(.ref b74), (.ref b74), (.ref b67), (.ref b67)])
      refine Go.via (fun t k => XS.iconst X74.here hx rfl (hb hby d1_69) k) ?_
      show Go p.tables e below P T74 (mkF m 70 #[.val (.int xx), .val (.int ((((xx.toUInt32 >>> ((16 : Int32) &&& 31).toUInt32).toInt32) &&& (3 : Int32)) % (3 : Int32))), .val (.int ((xx &&& (255 : Int32)).toUInt32.toUInt16.toUInt32.toInt32)), .val (.int ((((xx.toUInt32 >>> ((8 : Int32) &&& 31).toUInt32).toInt32) &&& (255 : Int32)).toUInt32.toUInt16.toUInt32.toInt32))] [(.int (0 : Int32)), (.ref b74), (.ref b74), (.ref b67), (.ref b67)])
      refine Go.via (fun t k => XS.iloadN X74.here hx rfl (hb hby d1_70) rfl k) ?_
      show Go p.tables e below P T74 (mkF m 71 #[.val (.int xx), .val (.int ((((xx.toUInt32 >>> ((16 : Int32) &&& 31).toUInt32).toInt32) &&& (3 : Int32)) % (3 : Int32))), .val (.int ((xx &&& (255 : Int32)).toUInt32.toUInt16.toUInt32.toInt32)), .val (.int ((((xx.toUInt32 >>> ((8 : Int32) &&& 31).toUInt32).toInt32) &&& (255 : Int32)).toUInt32.toUInt16.toUInt32.toInt32))] [(.int ((xx &&& (255 : Int32)).toUInt32.toUInt16.toUInt32.toInt32)), (.int (0 : Int32)), (.ref b74), (.ref b74), (.ref b67), (.ref b67)])
      have F82 : Exa Z h74 b67 "java/lang/String" := (A67.ext E74)
      have F83 : Fld Z h74 b67 "java/lang/String" "value" "[B" .null := ((D67 (Or.inr (hw _ (List.mem_of_getElem? (i := 20) rfl))) (ty := (.array .byte)) (by decide) : Fld Z h67 b67 "java/lang/String" "value" "[B" .null).ext E74)
      have F84 : Fld Z h74 b67 "java/lang/String" "coder" "B" (.int (0 : Int32)) := ((D67 (Or.inr (hw _ (List.mem_of_getElem? (i := 21) rfl))) (ty := .byte) (by decide) : Fld Z h67 b67 "java/lang/String" "coder" "B" (.int (0 : Int32))).ext E74)
      obtain ⟨c85, A85, q85, S85, N85, H85, G85⟩ := id V74
      have hin85 : ¬ ((0 : Int32) < 0 ∨ c85.slots.size ≤ ((0 : Int32)).toNatClampNeg) := inb_of S85 ⟨by decide, by decide⟩
      obtain ⟨T85, h85, X85, e85, W85, st85⟩ := stC X74 hx hZ e74 A85 (j := (0 : Int32)) hin85 (g := (mkF m 71 #[.val (.int xx), .val (.int ((((xx.toUInt32 >>> ((16 : Int32) &&& 31).toUInt32).toInt32) &&& (3 : Int32)) % (3 : Int32))), .val (.int ((xx &&& (255 : Int32)).toUInt32.toUInt16.toUInt32.toInt32)), .val (.int ((((xx.toUInt32 >>> ((8 : Int32) &&& 31).toUInt32).toInt32) &&& (255 : Int32)).toUInt32.toUInt16.toUInt32.toInt32))] [(.int ((xx &&& (255 : Int32)).toUInt32.toUInt16.toUInt32.toInt32)), (.int (0 : Int32)), (.ref b74), (.ref b74), (.ref b67), (.ref b67)])) rfl rfl (hb hby d1_71)
      refine Go.via st85 ?_
      have Z86 : n0 ≤ h85.size := Nat.le_trans Z78 (Nat.le_of_eq W85.size.symm)
      have K87 : Keep h0 h85 [] := K79.wr W85 (Or.inr sz77)
      obtain ⟨lc85, Xh85, N88⟩ := own_hide X85 (Fr.snoc X85 N0 g76)
      clear X85
      have O89 : Old Z n0 h85 := O80.wr W85 g76
      have Sf85 := Safe.wr W85 (Safe.arv hZ.alike V74 (by decide)) CR81.1 (Safe.arv hZ.alike V74 (by decide))
      have CR90 := CHr.trans CR81 (CHr.wr W85 (Safe.arv hZ.alike V74 (by decide)) CR81.1)
      have V85 : Arv Z h85 b74 k74 .char (2 : Int32) [(.int (nar .char ((xx &&& (255 : Int32)).toUInt32.toUInt16.toUInt32.toInt32))), (.int (0 : Int32))] (.int (0 : Int32)) := Arv.set A85 q85 S85 N85 H85 G85 (fits_nar_char _) W85 0 rfl (Nat.le_of_ble_eq_true rfl)
      show Go p.tables e below P T85 (mkF m 72 #[.val (.int xx), .val (.int ((((xx.toUInt32 >>> ((16 : Int32) &&& 31).toUInt32).toInt32) &&& (3 : Int32)) % (3 : Int32))), .val (.int ((xx &&& (255 : Int32)).toUInt32.toUInt16.toUInt32.toInt32)), .val (.int ((((xx.toUInt32 >>> ((8 : Int32) &&& 31).toUInt32).toInt32) &&& (255 : Int32)).toUInt32.toUInt16.toUInt32.toInt32))] [(.ref b74), (.ref b67), (.ref b67)])
      refine Go.via (fun t k => XS.dup Xh85.here hx rfl (hb hby d1_72) rfl rfl k) ?_
      show Go p.tables e below P T85 (mkF m 73 #[.val (.int xx), .val (.int ((((xx.toUInt32 >>> ((16 : Int32) &&& 31).toUInt32).toInt32) &&& (3 : Int32)) % (3 : Int32))), .val (.int ((xx &&& (255 : Int32)).toUInt32.toUInt16.toUInt32.toInt32)), .val (.int ((((xx.toUInt32 >>> ((8 : Int32) &&& 31).toUInt32).toInt32) &&& (255 : Int32)).toUInt32.toUInt16.toUInt32.toInt32))] [(.ref b74), (.ref b74), (.ref b67), (.ref b67)])
      refine Go.via (fun t k => XS.iconst Xh85.here hx rfl (hb hby d1_73) k) ?_
      show Go p.tables e below P T85 (mkF m 74 #[.val (.int xx), .val (.int ((((xx.toUInt32 >>> ((16 : Int32) &&& 31).toUInt32).toInt32) &&& (3 : Int32)) % (3 : Int32))), .val (.int ((xx &&& (255 : Int32)).toUInt32.toUInt16.toUInt32.toInt32)), .val (.int ((((xx.toUInt32 >>> ((8 : Int32) &&& 31).toUInt32).toInt32) &&& (255 : Int32)).toUInt32.toUInt16.toUInt32.toInt32))] [(.int (1 : Int32)), (.ref b74), (.ref b74), (.ref b67), (.ref b67)])
      refine Go.via (fun t k => XS.iloadN Xh85.here hx rfl (hb hby d1_74) rfl k) ?_
      show Go p.tables e below P T85 (mkF m 75 #[.val (.int xx), .val (.int ((((xx.toUInt32 >>> ((16 : Int32) &&& 31).toUInt32).toInt32) &&& (3 : Int32)) % (3 : Int32))), .val (.int ((xx &&& (255 : Int32)).toUInt32.toUInt16.toUInt32.toInt32)), .val (.int ((((xx.toUInt32 >>> ((8 : Int32) &&& 31).toUInt32).toInt32) &&& (255 : Int32)).toUInt32.toUInt16.toUInt32.toInt32))] [(.int ((((xx.toUInt32 >>> ((8 : Int32) &&& 31).toUInt32).toInt32) &&& (255 : Int32)).toUInt32.toUInt16.toUInt32.toInt32)), (.int (1 : Int32)), (.ref b74), (.ref b74), (.ref b67), (.ref b67)])
      have F91 : Exa Z h85 b67 "java/lang/String" := (F82.wr W85)
      have F92 : Fld Z h85 b67 "java/lang/String" "value" "[B" .null := (F83.other W85 (Or.inl ne75))
      have F93 : Fld Z h85 b67 "java/lang/String" "coder" "B" (.int (0 : Int32)) := (F84.other W85 (Or.inl ne75))
      obtain ⟨c94, A94, q94, S94, N94, H94, G94⟩ := id V85
      have hin94 : ¬ ((1 : Int32) < 0 ∨ c94.slots.size ≤ ((1 : Int32)).toNatClampNeg) := inb_of S94 ⟨by decide, by decide⟩
      obtain ⟨T94, h94, X94, e94, W94, st94⟩ := stC Xh85 hx hZ e85 A94 (j := (1 : Int32)) hin94 (g := (mkF m 75 #[.val (.int xx), .val (.int ((((xx.toUInt32 >>> ((16 : Int32) &&& 31).toUInt32).toInt32) &&& (3 : Int32)) % (3 : Int32))), .val (.int ((xx &&& (255 : Int32)).toUInt32.toUInt16.toUInt32.toInt32)), .val (.int ((((xx.toUInt32 >>> ((8 : Int32) &&& 31).toUInt32).toInt32) &&& (255 : Int32)).toUInt32.toUInt16.toUInt32.toInt32))] [(.int ((((xx.toUInt32 >>> ((8 : Int32) &&& 31).toUInt32).toInt32) &&& (255 : Int32)).toUInt32.toUInt16.toUInt32.toInt32)), (.int (1 : Int32)), (.ref b74), (.ref b74), (.ref b67), (.ref b67)])) rfl rfl (hb hby d1_75)
      refine Go.via st94 ?_
      have Z95 : n0 ≤ h94.size := Nat.le_trans Z86 (Nat.le_of_eq W94.size.symm)
      have K96 : Keep h0 h94 [] := K87.wr W94 (Or.inr sz77)
      obtain ⟨lc94, Xh94, N97⟩ := own_hide X94 (Fr.snoc X94 N88 g76)
      clear X94
      have O98 : Old Z n0 h94 := O89.wr W94 g76
      have Sf94 := Safe.wr W94 (Safe.arv hZ.alike V85 (by decide)) CR90.1 (Safe.arv hZ.alike V85 (by decide))
      have CR99 := CHr.trans CR90 (CHr.wr W94 (Safe.arv hZ.alike V85 (by decide)) CR90.1)
      have V94 : Arv Z h94 b74 k74 .char (2 : Int32) [(.int (nar .char ((xx &&& (255 : Int32)).toUInt32.toUInt16.toUInt32.toInt32))), (.int (nar .char ((((xx.toUInt32 >>> ((8 : Int32) &&& 31).toUInt32).toInt32) &&& (255 : Int32)).toUInt32.toUInt16.toUInt32.toInt32)))] (.int (0 : Int32)) := Arv.set A94 q94 S94 N94 H94 G94 (fits_nar_char _) W94 1 rfl (Nat.le_of_ble_eq_true rfl)
      show Go p.tables e below P T94 (mkF m 76 #[.val (.int xx), .val (.int ((((xx.toUInt32 >>> ((16 : Int32) &&& 31).toUInt32).toInt32) &&& (3 : Int32)) % (3 : Int32))), .val (.int ((xx &&& (255 : Int32)).toUInt32.toUInt16.toUInt32.toInt32)), .val (.int ((((xx.toUInt32 >>> ((8 : Int32) &&& 31).toUInt32).toInt32) &&& (255 : Int32)).toUInt32.toUInt16.toUInt32.toInt32))] [(.ref b74), (.ref b67), (.ref b67)])
      have F100 : Exa Z h94 b67 "java/lang/String" := (F91.wr W94)
      have F101 : Fld Z h94 b67 "java/lang/String" "value" "[B" .null := (F92.other W94 (Or.inl ne75))
      have F102 : Fld Z h94 b67 "java/lang/String" "coder" "B" (.int (0 : Int32)) := (F93.other W94 (Or.inl ne75))
      obtain ⟨_, _, ⟨T103, L103, k103, n103⟩, -, X103, ⟨Lc103, hQ103, l103, y103, z103⟩, st103⟩ := Xh94.specialBack hx (y := (⟨"java/lang/String", "<init>", "([C)V"⟩ : MethodName)) rfl hown (mvT hZ (hw _ (List.mem_of_getElem? (i := 8) rfl))) (mvT hZ (hw _ (List.mem_of_getElem? (i := 9) rfl))) (mvT hZ (hw _ (List.mem_of_getElem? (i := 10) rfl))) (by decide) (StrChars.Road.backV (W := 1) hZ (own_ws hw) (kI := 4) (hw _ (List.mem_of_getElem? (i := 5) rfl)) (cs := ([(nar .char ((xx &&& (255 : Int32)).toUInt32.toUInt16.toUInt32.toInt32)), (nar .char ((((xx.toUInt32 >>> ((8 : Int32) &&& 31).toUInt32).toInt32) &&& (255 : Int32)).toUInt32.toUInt16.toUInt32.toInt32))] : List Int32)) (bs := ([((nar .char ((xx &&& (255 : Int32)).toUInt32.toUInt16.toUInt32.toInt32))).toInt8.toInt32, ((nar .char ((((xx.toUInt32 >>> ((8 : Int32) &&& 31).toUInt32).toInt32) &&& (255 : Int32)).toUInt32.toUInt16.toUInt32.toInt32))).toInt8.toInt32] : List Int32)) (n := 2) g68 Z95 F100 F101 F102 V94 (P1.ext O98.2) hcs rfl rfl (by decide) (by decide) (own_alC (own_ch _) (own_alC (own_ch _) own_al0)) rfl (by decide) (by decide)) (g := (mkF m 76 #[.val (.int xx), .val (.int ((((xx.toUInt32 >>> ((16 : Int32) &&& 31).toUInt32).toInt32) &&& (3 : Int32)) % (3 : Int32))), .val (.int ((xx &&& (255 : Int32)).toUInt32.toUInt16.toUInt32.toInt32)), .val (.int ((((xx.toUInt32 >>> ((8 : Int32) &&& 31).toUInt32).toInt32) &&& (255 : Int32)).toUInt32.toUInt16.toUInt32.toInt32))] [(.ref b74), (.ref b67), (.ref b67)])) rfl (by rw [hml]; rfl) (Steps.refl _) (a := b67) (argsL := [(.ref b74)]) (rest := [(.ref b67)]) (lenOf own_pd1 rfl) rfl (by show 2 * 0 + _ ≤ _; exact Nat.le_of_eq rfl) (hb hby d1_76) (fun _ _ => ⟨rfl, e94, (by decide : 2 + 1 ≤ _), (by decide : 6 + 2 ≤ _)⟩)
      dsimp only [Pt.U, Pt.locs, Pt.cells, Pt.slots] at X103 l103 y103 z103 st103 hQ103
      subst l103 y103 z103
      obtain ⟨rfl, Nq103, K103, Ex103, Fc103, t103, kb103, -, lt103, ne103, Fv103, Va103⟩ := hQ103
      obtain ⟨lc103, Xh103, N103⟩ := own_hide X103 (Fr.app N97 Nq103)
      clear X103
      refine Go.hop st103 ?_
      have ne104 : b67 ≠ t103 := Nat.ne_of_lt (Nat.lt_of_lt_of_le F100.lt lt103)
      have ne105 : b74 ≠ t103 := Nat.ne_of_lt (Nat.lt_of_lt_of_le V94.lt lt103)
      have g106 : n0 ≤ t103 := Nat.le_trans Z95 lt103
      have sz107 : h0.size ≤ t103 := Nat.le_trans K96.1 lt103
      have Z108 : n0 ≤ T103.heap.size := Nat.le_trans Z95 K103.1
      have K109 : Keep h0 T103.heap [] := K96.trans K103 (own_allC (Or.inr sz69) own_all0)
      have CR110 := CHr.trans CR99 (CHr.keep K103 (sfS (own_safeS hZ.alike F100 F101) sf0) CR99.1)
      have O111 : Old Z n0 T103.heap := O98.keep K103 (own_allC g68 own_all0)
      have Vt103 : Arv Z T103.heap t103 kb103 .byte (2 : Int32) [(.int ((nar .char ((xx &&& (255 : Int32)).toUInt32.toUInt16.toUInt32.toInt32))).toInt8.toInt32), (.int ((nar .char ((((xx.toUInt32 >>> ((8 : Int32) &&& 31).toUInt32).toInt32) &&& (255 : Int32)).toUInt32.toUInt16.toUInt32.toInt32))).toInt8.toInt32)] (.int (0 : Int32)) := Va103
      show Go p.tables e below P T103 (mkF m 79 #[.val (.int xx), .val (.int ((((xx.toUInt32 >>> ((16 : Int32) &&& 31).toUInt32).toInt32) &&& (3 : Int32)) % (3 : Int32))), .val (.int ((xx &&& (255 : Int32)).toUInt32.toUInt16.toUInt32.toInt32)), .val (.int ((((xx.toUInt32 >>> ((8 : Int32) &&& 31).toUInt32).toInt32) &&& (255 : Int32)).toUInt32.toUInt16.toUInt32.toInt32))] [(.ref b67)])
      have Vr113 : Arv Z T103.heap t103 kb103 .byte (own_ln ([((nar .char ((xx &&& (255 : Int32)).toUInt32.toUInt16.toUInt32.toInt32))).toInt8.toInt32, ((nar .char ((((xx.toUInt32 >>> ((8 : Int32) &&& 31).toUInt32).toInt32) &&& (255 : Int32)).toUInt32.toUInt16.toUInt32.toInt32))).toInt8.toInt32] : List Int32)) (([((nar .char ((xx &&& (255 : Int32)).toUInt32.toUInt16.toUInt32.toInt32))).toInt8.toInt32, ((nar .char ((((xx.toUInt32 >>> ((8 : Int32) &&& 31).toUInt32).toInt32) &&& (255 : Int32)).toUInt32.toUInt16.toUInt32.toInt32))).toInt8.toInt32] : List Int32).map Value.int) (.int (0 : Int32)) := by
        rw [show own_ln ([((nar .char ((xx &&& (255 : Int32)).toUInt32.toUInt16.toUInt32.toInt32))).toInt8.toInt32, ((nar .char ((((xx.toUInt32 >>> ((8 : Int32) &&& 31).toUInt32).toInt32) &&& (255 : Int32)).toUInt32.toUInt16.toUInt32.toInt32))).toInt8.toInt32] : List Int32) = (2 : Int32) from rfl]; exact Vt103
      obtain ⟨fs, hr, hrun, hended, hend⟩ := Xh103.leaveW hS0 (by exact (Nat.zero_le _)) (v := some (.ref b67)) (fun h => by rw [Bd.returns] at h; cases h)
      have hCf : CHr Z consts_1 s.vm s.heap (T103.setFrames fs).vm (T103.setFrames fs).heap := by
        rw [hh]
        show CHr Z consts_1 s.vm h0 T103.vm T103.heap
        exact CHr.trans CR110 (CHv.at Xh103 hZ (own_EW hw) CR110.1)
      refine ⟨_, _, retA Xh103 hx Bd.returns rfl rfl rfl (hb hby d1_79) hr, hrun, hended, hP _ _ ⟨_, _, rfl, ?_, hCf, own_rew hend (by decide) (by decide)⟩⟩
      show Q1 Z xx cs h0 n0 _ T103.heap _
      exact ⟨b67, t103, kb103, ([((nar .char ((xx &&& (255 : Int32)).toUInt32.toUInt16.toUInt32.toInt32))).toInt8.toInt32, ((nar .char ((((xx.toUInt32 >>> ((8 : Int32) &&& 31).toUInt32).toInt32) &&& (255 : Int32)).toUInt32.toUInt16.toUInt32.toInt32))).toInt8.toInt32] : List Int32), rfl, N103, K109, sz69, Ex103, Fv103, Fc103, Vr113, (own_smc (by simp) _ (own_smc (l := []) (by decide) _ (fun _ q => nomatch q)).2), Vr113.lt, ne104⟩
theorem d12_0 : decode jdk_42_method_152_code 0 = .ok (.getstatic 38, 3) := by decide +kernel
theorem d12_3 : decode jdk_42_method_152_code 3 = .ok (.ifCond .eq 10, 3) := by decide +kernel
theorem d12_6 : decode jdk_42_method_152_code 6 = .ok (.aload_n 0, 1) := by decide +kernel
theorem d12_7 : decode jdk_42_method_152_code 7 = .ok (.getfield 15, 3) := by decide +kernel
theorem d12_10 : decode jdk_42_method_152_code 10 = .ok (.goto 4, 3) := by decide +kernel
theorem d12_14 : decode jdk_42_method_152_code 14 = .ok (.ireturn, 1) := by decide +kernel
theorem ef_12 (m : MethodId) (x0 : Addr) : entryFrame m #[(.ref x0)] 1 = mkF m 0 #[.val (.ref x0)] [] := by first | (simp [entryFrame, mkF, argsToLocals, Value.category]; done) | rfl
def Q12 (Z : State) (so : Addr) (cs : Int32) (h0 : Heap) (n0 : Nat) (v : Option Value) (h : Heap) (L : List Loc) : Prop := v = some (.int (0 : Int32)) ∧ Fr n0 L ∧ h = h0
set_option maxRecDepth 65536 in
set_option maxHeartbeats 40000000 in
theorem rm12 (l : Launch) (Z : State) (a0 : Array Value) (hw : ∀ d ∈ tables_1, d.before a0 Z = true) (ws : List Jvm.Cond) (so : Addr) (cs : Int32) (h0 : Heap) (n0 : Nat) (Z0 : n0 ≤ h0.size) (O0 : Old Z n0 h0) (P1 : Sta Z Z.heap "java/lang/String" "COMPACT_STRINGS" "Z" (.int cs)) (hcs : ¬ cs = (0 : Int32)) (P3 : Fld Z h0 so "java/lang/String" "coder" "B" (.int (0 : Int32))) :
    MetFree l (⟨"java/lang/String", "coder", "()B"⟩ : MethodName) (head1 (Jvm.Cond.code (⟨"java/lang/String", "coder", "()B"⟩ : MethodName) jdk_42_method_152_code 1 (some .byte) :: ws) ({ frames := 0, cells := 0, slots := 0, locals := 0 } : Room)) (fun a U => a = #[(.ref so)] ∧ Z.Warmed39 U.vm ∧ U.heap = h0) (fun _ _ _ _ _ => True) (fun _ U o U' => ∃ v L, o = .returned v ∧ Q12 Z so cs h0 n0 v U'.heap L ∧ FrameEnd U o U' L ({ frames := 0, cells := 0, slots := 0, locals := 0 } : Room).cells ({ frames := 0, cells := 0, slots := 0, locals := 0 } : Room).slots) := by
  refine MetFree.of_bodySF (plainFor_of_name own_pn0) hisR ?_
  intro p e s m args below meth c s₁ Bd hml0 hP hK
  obtain ⟨rfl, hZ, hh⟩ := hP
  have hx := Bd.exec
  have hby := Bd.bytes
  have hml : c.maxLocals = 1 := hml0
  have hown : s.vm.findClass "java/lang/String" = some m.cls := findClass_of_methodNamed Bd.named
  have hnm := (name_of_methodNamed Bd.named Bd.method).1
  have X0 : Stand p l e ({ frames := 0, cells := 0, slots := 0, locals := 0 } : Room) s m #[(.ref so)] below meth c s₁ [] 0 0 := Stand.of_body Bd
  have e0 : s₁.heap = h0 := by rw [← hh, Bd.state]; rfl
  have N0 := Fr.nil n0
  have K0 : Keep h0 h0 [] := Keep.refl _ _
  suffices GO : ∀ P : Outcome → State → Prop, (∀ o U', (∃ v L, o = .returned v ∧ Q12 Z so cs h0 n0 v U'.heap L ∧ FrameEnd s o U' L ({ frames := 0, cells := 0, slots := 0, locals := 0 } : Room).cells ({ frames := 0, cells := 0, slots := 0, locals := 0 } : Room).slots) → P o U') → Go p.tables e below P s₁ (mkF m 0 #[.val (.ref so)] []) by
    obtain ⟨s2, o, st, r⟩ := GO _ (fun _ _ q => q)
    exact ⟨s2, o, castTop (ef_12 m so) st, r⟩
  clear hh
  intro P hP
  show Go p.tables e below P s₁ (mkF m 0 #[.val (.ref so)] [])
  obtain ⟨T1, X1, e1, st1⟩ := getS2 X0 hx hZ hown (host := "") (Or.inl (hw _ (List.mem_of_getElem? (i := 44) rfl))) Via.refl e0 (P1.ext O0.2) (g := (mkF m 0 #[.val (.ref so)] [])) rfl (hb hby d12_0)
  refine Go.via st1 ?_
  show Go p.tables e below P T1 (mkF m 3 #[.val (.ref so)] [(.int cs)])
  refine Go.via (fun t k => XS.ifNo X1.here hx rfl (hb hby d12_3) rfl ((if0 _ _).trans (feq hcs).1) k) ?_
  show Go p.tables e below P T1 (mkF m 6 #[.val (.ref so)] [])
  refine Go.via (fun t k => XS.aloadN X1.here hx rfl (hb hby d12_6) rfl rfl k) ?_
  show Go p.tables e below P T1 (mkF m 7 #[.val (.ref so)] [(.ref so)])
  obtain ⟨T2, X2, e2, st2⟩ := getF X1 hx hZ hown (host := "") (Or.inl (hw _ (List.mem_of_getElem? (i := 25) rfl))) Via.refl e1 P3 (g := (mkF m 7 #[.val (.ref so)] [(.ref so)])) rfl rfl (hb hby d12_7)
  refine Go.via st2 ?_
  show Go p.tables e below P T2 (mkF m 10 #[.val (.ref so)] [(.int (0 : Int32))])
  refine Go.via (fun t k => XS.goto X2.here hx rfl (pc0 := 10) (pc' := 14) rfl (hb hby d12_10) (by decide) (by decide) k) ?_
  show Go p.tables e below P T2 (mkF m 14 #[.val (.ref so)] [(.int (0 : Int32))])
  obtain ⟨fs, hr, hrun, hended, hW, hsame⟩ := X2.leave (v := some (.int (0 : Int32))) (fun h => by rw [Bd.returns] at h; cases h)
  refine ⟨_, _, retZ X2 hx (t := .byte) Bd.returns (by simp) (hb hby d12_14) rfl hr, hrun, hended, hP _ _ ⟨_, _, rfl, ?_, ⟨_, rfl⟩, hW, hsame.mono (by decide) (by decide)⟩⟩
  show Q12 Z so cs h0 n0 _ T2.heap _
  rw [e2]
  exact ⟨rfl, N0, rfl⟩
theorem own_pd2 : parseMethodDescriptor "()B" = some ⟨[], some .byte⟩ := by decide +kernel
theorem d11_0 : decode jdk_42_method_54_code 0 = .ok (.aload_n 0, 1) := by decide +kernel
theorem d11_1 : decode jdk_42_method_54_code 1 = .ok (.getfield 9, 3) := by decide +kernel
theorem d11_4 : decode jdk_42_method_54_code 4 = .ok (.arraylength, 1) := by decide +kernel
theorem d11_5 : decode jdk_42_method_54_code 5 = .ok (.aload_n 0, 1) := by decide +kernel
theorem d11_6 : decode jdk_42_method_54_code 6 = .ok (.invokevirtual 335, 3) := by decide +kernel
theorem d11_9 : decode jdk_42_method_54_code 9 = .ok (.ishr, 1) := by decide +kernel
theorem d11_10 : decode jdk_42_method_54_code 10 = .ok (.ireturn, 1) := by decide +kernel
theorem ef_11 (m : MethodId) (x0 : Addr) : entryFrame m #[(.ref x0)] 1 = mkF m 0 #[.val (.ref x0)] [] := by first | (simp [entryFrame, mkF, argsToLocals, Value.category]; done) | rfl
def Q11 (Z : State) (so : Addr) (cs : Int32) (tb : Addr) (kk : ClassId) (nn : Int32) (vs : List Value) (h0 : Heap) (n0 : Nat) (v : Option Value) (h : Heap) (L : List Loc) : Prop := v = some (.int nn) ∧ Fr n0 L ∧ h = h0
set_option maxRecDepth 65536 in
set_option maxHeartbeats 40000000 in
theorem rm11 (l : Launch) (Z : State) (a0 : Array Value) (hw : ∀ d ∈ tables_1, d.before a0 Z = true) (ws : List Jvm.Cond) (so : Addr) (cs : Int32) (tb : Addr) (kk : ClassId) (nn : Int32) (vs : List Value) (h0 : Heap) (n0 : Nat) (Z0 : n0 ≤ h0.size) (O0 : Old Z n0 h0) (P1 : Sta Z Z.heap "java/lang/String" "COMPACT_STRINGS" "Z" (.int cs)) (hcs : ¬ cs = (0 : Int32)) (P3 : Exa Z h0 so "java/lang/String") (P4 : Fld Z h0 so "java/lang/String" "value" "[B" (.ref tb)) (P5 : Fld Z h0 so "java/lang/String" "coder" "B" (.int (0 : Int32))) (P6 : Arv Z h0 tb kk .byte nn vs (.int (0 : Int32))) :
    MetFree l (⟨"java/lang/String", "length", "()I"⟩ : MethodName) (head1 (Jvm.Cond.code (⟨"java/lang/String", "length", "()I"⟩ : MethodName) jdk_42_method_54_code 1 (some .int) :: ws) ({ frames := 1, cells := 0, slots := 0, locals := 13 } : Room)) (fun a U => a = #[(.ref so)] ∧ Z.Warmed39 U.vm ∧ U.heap = h0) (fun _ _ _ _ _ => True) (fun _ U o U' => ∃ v L, o = .returned v ∧ Q11 Z so cs tb kk nn vs h0 n0 v U'.heap L ∧ FrameEnd U o U' L ({ frames := 1, cells := 0, slots := 0, locals := 13 } : Room).cells ({ frames := 1, cells := 0, slots := 0, locals := 13 } : Room).slots) := by
  refine MetFree.of_bodySF (plainFor_of_name own_pn0) hisR ?_
  intro p e s m args below meth c s₁ Bd hml0 hP hK
  obtain ⟨rfl, hZ, hh⟩ := hP
  have hx := Bd.exec
  have hby := Bd.bytes
  have hml : c.maxLocals = 1 := hml0
  have hown : s.vm.findClass "java/lang/String" = some m.cls := findClass_of_methodNamed Bd.named
  have hnm := (name_of_methodNamed Bd.named Bd.method).1
  have X0 : Stand p l e ({ frames := 1, cells := 0, slots := 0, locals := 13 } : Room) s m #[(.ref so)] below meth c s₁ [] 0 0 := Stand.of_body Bd
  have e0 : s₁.heap = h0 := by rw [← hh, Bd.state]; rfl
  have N0 := Fr.nil n0
  have K0 : Keep h0 h0 [] := Keep.refl _ _
  suffices GO : ∀ P : Outcome → State → Prop, (∀ o U', (∃ v L, o = .returned v ∧ Q11 Z so cs tb kk nn vs h0 n0 v U'.heap L ∧ FrameEnd s o U' L ({ frames := 1, cells := 0, slots := 0, locals := 13 } : Room).cells ({ frames := 1, cells := 0, slots := 0, locals := 13 } : Room).slots) → P o U') → Go p.tables e below P s₁ (mkF m 0 #[.val (.ref so)] []) by
    obtain ⟨s2, o, st, r⟩ := GO _ (fun _ _ q => q)
    exact ⟨s2, o, castTop (ef_11 m so) st, r⟩
  clear hh
  intro P hP
  show Go p.tables e below P s₁ (mkF m 0 #[.val (.ref so)] [])
  refine Go.via (fun t k => XS.aloadN X0.here hx rfl (hb hby d11_0) rfl rfl k) ?_
  show Go p.tables e below P s₁ (mkF m 1 #[.val (.ref so)] [(.ref so)])
  obtain ⟨T1, X1, e1, st1⟩ := getF X0 hx hZ hown (host := "") (Or.inl (hw _ (List.mem_of_getElem? (i := 24) rfl))) Via.refl e0 P4 (g := (mkF m 1 #[.val (.ref so)] [(.ref so)])) rfl rfl (hb hby d11_1)
  refine Go.via st1 ?_
  show Go p.tables e below P T1 (mkF m 4 #[.val (.ref so)] [(.ref tb)])
  obtain ⟨c2, A2, -, S2, N2, -, -⟩ := id P6
  refine Go.via (fun t k => X1.arraylength hx (by rw [e1]; exact A2.1) (State.isArrayOf_alike hZ.alike A2.2.1) (g := (mkF m 4 #[.val (.ref so)] [(.ref tb)])) rfl rfl (hb hby d11_4) t (by rw [len_of S2 N2]; exact k)) ?_
  show Go p.tables e below P T1 (mkF m 5 #[.val (.ref so)] [(.int nn)])
  refine Go.via (fun t k => XS.aloadN X1.here hx rfl (hb hby d11_5) rfl rfl k) ?_
  show Go p.tables e below P T1 (mkF m 6 #[.val (.ref so)] [(.ref so), (.int nn)])
  obtain ⟨cq3, kq3, q3a, q3b, q3c⟩ := isOf hZ e1 P3
  obtain ⟨_, _, ⟨T3, L3, k3, n3⟩, -, X3, ⟨Lc3, hQ3, l3, y3, z3⟩, st3⟩ := X1.virtualBack hx (y := (⟨"java/lang/String", "coder", "()B"⟩ : MethodName)) (z := (⟨"java/lang/String", "coder", "()B"⟩ : MethodName)) hown (mvT hZ (hw _ (List.mem_of_getElem? (i := 63) rfl))) (mvT hZ (hw _ (List.mem_of_getElem? (i := 64) rfl))) (notFace_of_selects (args := #[]) (mvT hZ (hw _ (List.mem_of_getElem? (i := 66) rfl)))) (mvT hZ (hw _ (List.mem_of_getElem? (i := 66) rfl))) (mvT hZ (hw _ (List.mem_of_getElem? (i := 65) rfl))) (by decide) (backOf (W := 1) (rm12 l Z a0 hw [] so cs h0 n0 Z0 O0 P1 (by first | assumption | decide | omega : ¬ cs = (0 : Int32)) P5) hZ (hw _ (List.mem_of_getElem? (i := 67) rfl)) (hw _ (List.mem_of_getElem? (i := 6) rfl)) (by decide) (by decide)) q3a q3c (g := (mkF m 6 #[.val (.ref so)] [(.ref so), (.int nn)])) rfl (by rw [hml]; rfl) (Steps.refl _) (argsL := []) (rest := [(.int nn)]) (lenOf own_pd2 rfl) rfl (by show 2 * 0 + _ ≤ _; exact Nat.le_of_eq rfl) (hb hby d11_6) (fun _ _ => ⟨rfl, e1, (by decide : 0 + 0 ≤ _), (by decide : 0 + 0 ≤ _)⟩)
  dsimp only [Pt.U, Pt.locs, Pt.cells, Pt.slots] at X3 l3 y3 z3 st3 hQ3
  subst l3 y3 z3
  obtain ⟨rfl, Nq3, hh3⟩ := hQ3
  obtain ⟨lc3, Xh3, N3⟩ := own_hide X3 (Fr.app N0 Nq3)
  clear X3
  refine Go.hop st3 ?_
  show Go p.tables e below P T3 (mkF m 9 #[.val (.ref so)] [(.int (0 : Int32)), (.int nn)])
  refine Go.via (fun t k => XS.ishr Xh3.here hx rfl (hb hby d11_9) rfl k) ?_
  show Go p.tables e below P T3 (mkF m 10 #[.val (.ref so)] [(.int (nn >>> ((0 : Int32) &&& 31)))])
  obtain ⟨fs, hr, hrun, hended, hW, hsame⟩ := Xh3.leave (v := some (.int nn)) (fun h => by rw [Bd.returns] at h; cases h)
  refine ⟨_, _, (by have q := retI Xh3 hx Bd.returns (hb hby d11_10) (z := (nn >>> ((0 : Int32) &&& 31))) (rest := []) (pc := 10) (Ls := #[.val (.ref so)]) (by rw [(own_shr0 nn)]; exact hr); exact q), hrun, hended, hP _ _ ⟨_, _, rfl, ?_, ⟨_, rfl⟩, hW, hsame.mono (by decide) (by decide)⟩⟩
  show Q11 Z so cs tb kk nn vs h0 n0 _ T3.heap _
  rw [hh3]
  exact ⟨rfl, N3, rfl⟩
theorem d14_0 : decode jdk_42_method_154_code 0 = .ok (.getstatic 38, 3) := by decide +kernel
theorem d14_3 : decode jdk_42_method_154_code 3 = .ok (.ifCond .eq 14, 3) := by decide +kernel
theorem d14_6 : decode jdk_42_method_154_code 6 = .ok (.aload_n 0, 1) := by decide +kernel
theorem d14_7 : decode jdk_42_method_154_code 7 = .ok (.getfield 15, 3) := by decide +kernel
theorem d14_10 : decode jdk_42_method_154_code 10 = .ok (.ifCond .ne 7, 3) := by decide +kernel
theorem d14_13 : decode jdk_42_method_154_code 13 = .ok (.iconst 1, 1) := by decide +kernel
theorem d14_14 : decode jdk_42_method_154_code 14 = .ok (.goto 4, 3) := by decide +kernel
theorem d14_18 : decode jdk_42_method_154_code 18 = .ok (.ireturn, 1) := by decide +kernel
theorem ef_14 (m : MethodId) (x0 : Addr) : entryFrame m #[(.ref x0)] 1 = mkF m 0 #[.val (.ref x0)] [] := by first | (simp [entryFrame, mkF, argsToLocals, Value.category]; done) | rfl
def Q14 (Z : State) (so : Addr) (cs : Int32) (h0 : Heap) (n0 : Nat) (v : Option Value) (h : Heap) (L : List Loc) : Prop := v = some (.int (1 : Int32)) ∧ Fr n0 L ∧ h = h0
set_option maxRecDepth 65536 in
set_option maxHeartbeats 40000000 in
theorem rm14 (l : Launch) (Z : State) (a0 : Array Value) (hw : ∀ d ∈ tables_1, d.before a0 Z = true) (ws : List Jvm.Cond) (so : Addr) (cs : Int32) (h0 : Heap) (n0 : Nat) (Z0 : n0 ≤ h0.size) (O0 : Old Z n0 h0) (P1 : Sta Z Z.heap "java/lang/String" "COMPACT_STRINGS" "Z" (.int cs)) (hcs : ¬ cs = (0 : Int32)) (P3 : Fld Z h0 so "java/lang/String" "coder" "B" (.int (0 : Int32))) :
    MetFree l (⟨"java/lang/String", "isLatin1", "()Z"⟩ : MethodName) (head1 (Jvm.Cond.code (⟨"java/lang/String", "isLatin1", "()Z"⟩ : MethodName) jdk_42_method_154_code 1 (some .boolean) :: ws) ({ frames := 0, cells := 0, slots := 0, locals := 0 } : Room)) (fun a U => a = #[(.ref so)] ∧ Z.Warmed39 U.vm ∧ U.heap = h0) (fun _ _ _ _ _ => True) (fun _ U o U' => ∃ v L, o = .returned v ∧ Q14 Z so cs h0 n0 v U'.heap L ∧ FrameEnd U o U' L ({ frames := 0, cells := 0, slots := 0, locals := 0 } : Room).cells ({ frames := 0, cells := 0, slots := 0, locals := 0 } : Room).slots) := by
  refine MetFree.of_bodySF (plainFor_of_name own_pn0) hisR ?_
  intro p e s m args below meth c s₁ Bd hml0 hP hK
  obtain ⟨rfl, hZ, hh⟩ := hP
  have hx := Bd.exec
  have hby := Bd.bytes
  have hml : c.maxLocals = 1 := hml0
  have hown : s.vm.findClass "java/lang/String" = some m.cls := findClass_of_methodNamed Bd.named
  have hnm := (name_of_methodNamed Bd.named Bd.method).1
  have X0 : Stand p l e ({ frames := 0, cells := 0, slots := 0, locals := 0 } : Room) s m #[(.ref so)] below meth c s₁ [] 0 0 := Stand.of_body Bd
  have e0 : s₁.heap = h0 := by rw [← hh, Bd.state]; rfl
  have N0 := Fr.nil n0
  have K0 : Keep h0 h0 [] := Keep.refl _ _
  suffices GO : ∀ P : Outcome → State → Prop, (∀ o U', (∃ v L, o = .returned v ∧ Q14 Z so cs h0 n0 v U'.heap L ∧ FrameEnd s o U' L ({ frames := 0, cells := 0, slots := 0, locals := 0 } : Room).cells ({ frames := 0, cells := 0, slots := 0, locals := 0 } : Room).slots) → P o U') → Go p.tables e below P s₁ (mkF m 0 #[.val (.ref so)] []) by
    obtain ⟨s2, o, st, r⟩ := GO _ (fun _ _ q => q)
    exact ⟨s2, o, castTop (ef_14 m so) st, r⟩
  clear hh
  intro P hP
  show Go p.tables e below P s₁ (mkF m 0 #[.val (.ref so)] [])
  obtain ⟨T1, X1, e1, st1⟩ := getS2 X0 hx hZ hown (host := "") (Or.inl (hw _ (List.mem_of_getElem? (i := 44) rfl))) Via.refl e0 (P1.ext O0.2) (g := (mkF m 0 #[.val (.ref so)] [])) rfl (hb hby d14_0)
  refine Go.via st1 ?_
  show Go p.tables e below P T1 (mkF m 3 #[.val (.ref so)] [(.int cs)])
  refine Go.via (fun t k => XS.ifNo X1.here hx rfl (hb hby d14_3) rfl ((if0 _ _).trans (feq hcs).1) k) ?_
  show Go p.tables e below P T1 (mkF m 6 #[.val (.ref so)] [])
  refine Go.via (fun t k => XS.aloadN X1.here hx rfl (hb hby d14_6) rfl rfl k) ?_
  show Go p.tables e below P T1 (mkF m 7 #[.val (.ref so)] [(.ref so)])
  obtain ⟨T2, X2, e2, st2⟩ := getF X1 hx hZ hown (host := "") (Or.inl (hw _ (List.mem_of_getElem? (i := 25) rfl))) Via.refl e1 P3 (g := (mkF m 7 #[.val (.ref so)] [(.ref so)])) rfl rfl (hb hby d14_7)
  refine Go.via st2 ?_
  show Go p.tables e below P T2 (mkF m 10 #[.val (.ref so)] [(.int (0 : Int32))])
  refine Go.via (fun t k => XS.ifNo X2.here hx rfl (hb hby d14_10) rfl ((if0 _ _).trans (teq (rfl : (0 : Int32) = (0 : Int32))).2) k) ?_
  show Go p.tables e below P T2 (mkF m 13 #[.val (.ref so)] [])
  refine Go.via (fun t k => XS.iconst X2.here hx rfl (hb hby d14_13) k) ?_
  show Go p.tables e below P T2 (mkF m 14 #[.val (.ref so)] [(.int (1 : Int32))])
  refine Go.via (fun t k => XS.goto X2.here hx rfl (pc0 := 14) (pc' := 18) rfl (hb hby d14_14) (by decide) (by decide) k) ?_
  show Go p.tables e below P T2 (mkF m 18 #[.val (.ref so)] [(.int (1 : Int32))])
  obtain ⟨fs, hr, hrun, hended, hW, hsame⟩ := X2.leave (v := some (.int (1 : Int32))) (fun h => by rw [Bd.returns] at h; cases h)
  refine ⟨_, _, retZ X2 hx (t := .boolean) Bd.returns (by simp) (hb hby d14_18) rfl hr, hrun, hended, hP _ _ ⟨_, _, rfl, ?_, ⟨_, rfl⟩, hW, hsame.mono (by decide) (by decide)⟩⟩
  show Q14 Z so cs h0 n0 _ T2.heap _
  rw [e2]
  exact ⟨rfl, N0, rfl⟩
theorem own_pn2 : plainName "jdk/internal/util/Preconditions" = true := by first | (simp [plainName, overriddenIn]; done) | decide +kernel
theorem d17_0 : decode jdk_41_method_11_code 0 = .ok (.iload_n 0, 1) := by decide +kernel
theorem d17_1 : decode jdk_41_method_11_code 1 = .ok (.ifCond .lt 8, 3) := by decide +kernel
theorem d17_4 : decode jdk_41_method_11_code 4 = .ok (.iload_n 0, 1) := by decide +kernel
theorem d17_5 : decode jdk_41_method_11_code 5 = .ok (.iload_n 1, 1) := by decide +kernel
theorem d17_6 : decode jdk_41_method_11_code 6 = .ok (.if_icmp .lt 10, 3) := by decide +kernel
theorem d17_16 : decode jdk_41_method_11_code 16 = .ok (.iload_n 0, 1) := by decide +kernel
theorem d17_17 : decode jdk_41_method_11_code 17 = .ok (.ireturn, 1) := by decide +kernel
theorem ef_17 (m : MethodId) (x0 : Int32) (x1 : Int32) (x2 : Value) (hx2 : x2.isRef = true) : entryFrame m #[(.int x0), (.int x1), x2] 3 = mkF m 0 #[.val (.int x0), .val (.int x1), .val x2] [] := by rcases ref_cases hx2 with rfl | ⟨zx2, rfl⟩ <;> first | (simp [entryFrame, mkF, argsToLocals, Value.category]; done) | rfl
def Q17 (Z : State) (ji : Int32) (nn : Int32) (fm : Value) (h0 : Heap) (n0 : Nat) (v : Option Value) (h : Heap) (L : List Loc) : Prop := v = some (.int ji) ∧ Fr n0 L ∧ h = h0
set_option maxRecDepth 65536 in
set_option maxHeartbeats 40000000 in
theorem rm17 (l : Launch) (Z : State) (a0 : Array Value) (hw : ∀ d ∈ tables_1, d.before a0 Z = true) (ws : List Jvm.Cond) (ji : Int32) (nn : Int32) (fm : Value) (h0 : Heap) (n0 : Nat) (Z0 : n0 ≤ h0.size) (rfm : fm.isRef = true) (hj0 : ¬ (ji < (0 : Int32))) (hjn : ji < nn) :
    MetFree l (⟨"jdk/internal/util/Preconditions", "checkIndex", "(IILjava/util/function/BiFunction;)I"⟩ : MethodName) (head1 (Jvm.Cond.code (⟨"jdk/internal/util/Preconditions", "checkIndex", "(IILjava/util/function/BiFunction;)I"⟩ : MethodName) jdk_41_method_11_code 3 (some .int) :: ws) ({ frames := 0, cells := 0, slots := 0, locals := 0 } : Room)) (fun a U => a = #[(.int ji), (.int nn), fm] ∧ Z.Warmed39 U.vm ∧ U.heap = h0) (fun _ _ _ _ _ => True) (fun _ U o U' => ∃ v L, o = .returned v ∧ Q17 Z ji nn fm h0 n0 v U'.heap L ∧ FrameEnd U o U' L ({ frames := 0, cells := 0, slots := 0, locals := 0 } : Room).cells ({ frames := 0, cells := 0, slots := 0, locals := 0 } : Room).slots) := by
  refine MetFree.of_bodySF (plainFor_of_name own_pn2) hisR ?_
  intro p e s m args below meth c s₁ Bd hml0 hP hK
  obtain ⟨rfl, hZ, hh⟩ := hP
  have hx := Bd.exec
  have hby := Bd.bytes
  have hml : c.maxLocals = 3 := hml0
  have hown : s.vm.findClass "jdk/internal/util/Preconditions" = some m.cls := findClass_of_methodNamed Bd.named
  have hnm := (name_of_methodNamed Bd.named Bd.method).1
  have X0 : Stand p l e ({ frames := 0, cells := 0, slots := 0, locals := 0 } : Room) s m #[(.int ji), (.int nn), fm] below meth c s₁ [] 0 0 := Stand.of_body Bd
  have e0 : s₁.heap = h0 := by rw [← hh, Bd.state]; rfl
  have N0 := Fr.nil n0
  have K0 : Keep h0 h0 [] := Keep.refl _ _
  suffices GO : ∀ P : Outcome → State → Prop, (∀ o U', (∃ v L, o = .returned v ∧ Q17 Z ji nn fm h0 n0 v U'.heap L ∧ FrameEnd s o U' L ({ frames := 0, cells := 0, slots := 0, locals := 0 } : Room).cells ({ frames := 0, cells := 0, slots := 0, locals := 0 } : Room).slots) → P o U') → Go p.tables e below P s₁ (mkF m 0 #[.val (.int ji), .val (.int nn), .val fm] []) by
    obtain ⟨s2, o, st, r⟩ := GO _ (fun _ _ q => q)
    exact ⟨s2, o, castTop (ef_17 m ji nn fm rfm) st, r⟩
  clear hh
  intro P hP
  show Go p.tables e below P s₁ (mkF m 0 #[.val (.int ji), .val (.int nn), .val fm] [])
  refine Go.via (fun t k => XS.iloadN X0.here hx rfl (hb hby d17_0) rfl k) ?_
  show Go p.tables e below P s₁ (mkF m 1 #[.val (.int ji), .val (.int nn), .val fm] [(.int ji)])
  refine Go.via (fun t k => XS.ifNo X0.here hx rfl (hb hby d17_1) rfl ((if0 _ _).trans (flt hj0).1) k) ?_
  show Go p.tables e below P s₁ (mkF m 4 #[.val (.int ji), .val (.int nn), .val fm] [])
  refine Go.via (fun t k => XS.iloadN X0.here hx rfl (hb hby d17_4) rfl k) ?_
  show Go p.tables e below P s₁ (mkF m 5 #[.val (.int ji), .val (.int nn), .val fm] [(.int ji)])
  refine Go.via (fun t k => XS.iloadN X0.here hx rfl (hb hby d17_5) rfl k) ?_
  show Go p.tables e below P s₁ (mkF m 6 #[.val (.int ji), .val (.int nn), .val fm] [(.int nn), (.int ji)])
  refine Go.via (fun t k => XS.icmpYes X0.here hx rfl (pc0 := 6) (pc' := 16) rfl (hb hby d17_6) rfl (tlt hjn).1 (by decide) (by decide) k) ?_
  show Go p.tables e below P s₁ (mkF m 16 #[.val (.int ji), .val (.int nn), .val fm] [])
  refine Go.via (fun t k => XS.iloadN X0.here hx rfl (hb hby d17_16) rfl k) ?_
  show Go p.tables e below P s₁ (mkF m 17 #[.val (.int ji), .val (.int nn), .val fm] [(.int ji)])
  obtain ⟨fs, hr, hrun, hended, hW, hsame⟩ := X0.leave (v := some (.int ji)) (fun h => by rw [Bd.returns] at h; cases h)
  refine ⟨_, _, retI X0 hx Bd.returns (hb hby d17_17) hr, hrun, hended, hP _ _ ⟨_, _, rfl, ?_, ⟨_, rfl⟩, hW, hsame.mono (by decide) (by decide)⟩⟩
  show Q17 Z ji nn fm h0 n0 _ s₁.heap _
  rw [e0]
  exact ⟨rfl, N0, rfl⟩
theorem own_pd3 : parseMethodDescriptor "(IILjava/util/function/BiFunction;)I" = some ⟨[.int, .int, (.object "java/util/function/BiFunction")], some .int⟩ := by decide +kernel
theorem d16_0 : decode jdk_42_method_155_code 0 = .ok (.iload_n 0, 1) := by decide +kernel
theorem d16_1 : decode jdk_42_method_155_code 1 = .ok (.iload_n 1, 1) := by decide +kernel
theorem d16_2 : decode jdk_42_method_155_code 2 = .ok (.getstatic 1053, 3) := by decide +kernel
theorem d16_5 : decode jdk_42_method_155_code 5 = .ok (.invokestatic 1059, 3) := by decide +kernel
theorem d16_8 : decode jdk_42_method_155_code 8 = .ok (.pop, 1) := by decide +kernel
theorem d16_9 : decode jdk_42_method_155_code 9 = .ok (.return_, 1) := by decide +kernel
theorem ef_16 (m : MethodId) (x0 : Int32) (x1 : Int32) : entryFrame m #[(.int x0), (.int x1)] 2 = mkF m 0 #[.val (.int x0), .val (.int x1)] [] := by first | (simp [entryFrame, mkF, argsToLocals, Value.category]; done) | rfl
def Q16 (Z : State) (ji : Int32) (nn : Int32) (fm : Value) (h0 : Heap) (n0 : Nat) (v : Option Value) (h : Heap) (L : List Loc) : Prop := v = none ∧ Fr n0 L ∧ h = h0
set_option maxRecDepth 65536 in
set_option maxHeartbeats 40000000 in
theorem rm16 (l : Launch) (Z : State) (a0 : Array Value) (hw : ∀ d ∈ tables_1, d.before a0 Z = true) (ws : List Jvm.Cond) (ji : Int32) (nn : Int32) (fm : Value) (h0 : Heap) (n0 : Nat) (Z0 : n0 ≤ h0.size) (O0 : Old Z n0 h0) (P1 : Sta Z Z.heap "jdk/internal/util/Preconditions" "SIOOBE_FORMATTER" "Ljava/util/function/BiFunction;" fm) (rfm : fm.isRef = true) (hj0 : ¬ (ji < (0 : Int32))) (hjn : ji < nn) :
    MetFree l (⟨"java/lang/String", "checkIndex", "(II)V"⟩ : MethodName) (head1 (Jvm.Cond.code (⟨"java/lang/String", "checkIndex", "(II)V"⟩ : MethodName) jdk_42_method_155_code 2 none :: ws) ({ frames := 1, cells := 0, slots := 0, locals := 14 } : Room)) (fun a U => a = #[(.int ji), (.int nn)] ∧ Z.Warmed39 U.vm ∧ U.heap = h0) (fun _ _ _ _ _ => True) (fun _ U o U' => ∃ v L, o = .returned v ∧ Q16 Z ji nn fm h0 n0 v U'.heap L ∧ FrameEnd U o U' L ({ frames := 1, cells := 0, slots := 0, locals := 14 } : Room).cells ({ frames := 1, cells := 0, slots := 0, locals := 14 } : Room).slots) := by
  refine MetFree.of_bodySF (plainFor_of_name own_pn0) hisR ?_
  intro p e s m args below meth c s₁ Bd hml0 hP hK
  obtain ⟨rfl, hZ, hh⟩ := hP
  have hx := Bd.exec
  have hby := Bd.bytes
  have hml : c.maxLocals = 2 := hml0
  have hown : s.vm.findClass "java/lang/String" = some m.cls := findClass_of_methodNamed Bd.named
  have hnm := (name_of_methodNamed Bd.named Bd.method).1
  have X0 : Stand p l e ({ frames := 1, cells := 0, slots := 0, locals := 14 } : Room) s m #[(.int ji), (.int nn)] below meth c s₁ [] 0 0 := Stand.of_body Bd
  have e0 : s₁.heap = h0 := by rw [← hh, Bd.state]; rfl
  have N0 := Fr.nil n0
  have K0 : Keep h0 h0 [] := Keep.refl _ _
  suffices GO : ∀ P : Outcome → State → Prop, (∀ o U', (∃ v L, o = .returned v ∧ Q16 Z ji nn fm h0 n0 v U'.heap L ∧ FrameEnd s o U' L ({ frames := 1, cells := 0, slots := 0, locals := 14 } : Room).cells ({ frames := 1, cells := 0, slots := 0, locals := 14 } : Room).slots) → P o U') → Go p.tables e below P s₁ (mkF m 0 #[.val (.int ji), .val (.int nn)] []) by
    obtain ⟨s2, o, st, r⟩ := GO _ (fun _ _ q => q)
    exact ⟨s2, o, castTop (ef_16 m ji nn) st, r⟩
  clear hh
  intro P hP
  show Go p.tables e below P s₁ (mkF m 0 #[.val (.int ji), .val (.int nn)] [])
  refine Go.via (fun t k => XS.iloadN X0.here hx rfl (hb hby d16_0) rfl k) ?_
  show Go p.tables e below P s₁ (mkF m 1 #[.val (.int ji), .val (.int nn)] [(.int ji)])
  refine Go.via (fun t k => XS.iloadN X0.here hx rfl (hb hby d16_1) rfl k) ?_
  show Go p.tables e below P s₁ (mkF m 2 #[.val (.int ji), .val (.int nn)] [(.int nn), (.int ji)])
  obtain ⟨T1, X1, e1, st1⟩ := getS2 X0 hx hZ hown (host := "") (Or.inl (hw _ (List.mem_of_getElem? (i := 85) rfl))) Via.refl e0 (P1.ext O0.2) (g := (mkF m 2 #[.val (.int ji), .val (.int nn)] [(.int nn), (.int ji)])) rfl (hb hby d16_2)
  refine Go.via st1 ?_
  show Go p.tables e below P T1 (mkF m 5 #[.val (.int ji), .val (.int nn)] [fm, (.int nn), (.int ji)])
  obtain ⟨_, _, ⟨T2, L2, k2, n2⟩, -, X2, ⟨Lc2, hQ2, l2, y2, z2⟩, st2⟩ := Jvm.LawKit.callS X1 hx (y := (⟨"jdk/internal/util/Preconditions", "checkIndex", "(IILjava/util/function/BiFunction;)I"⟩ : MethodName)) hown (mvT hZ (hw _ (List.mem_of_getElem? (i := 87) rfl))) (mvT hZ (hw _ (List.mem_of_getElem? (i := 88) rfl))) (mvT hZ (hw _ (List.mem_of_getElem? (i := 86) rfl))) (mvT hZ (hw _ (List.mem_of_getElem? (i := 89) rfl))) (by decide) (backOf (W := 0) (rm17 l Z a0 hw [] ji nn fm h0 n0 Z0 (by first | assumption | decide | omega : fm.isRef = true) (by first | assumption | decide | omega : ¬ (ji < (0 : Int32))) (by first | assumption | decide | omega : ji < nn)) hZ (hw _ (List.mem_of_getElem? (i := 89) rfl)) (hw _ (List.mem_of_getElem? (i := 86) rfl)) (by decide) (by decide)) (g := (mkF m 5 #[.val (.int ji), .val (.int nn)] [fm, (.int nn), (.int ji)])) rfl (by rw [hml]; rfl) (argsL := [(.int ji), (.int nn), fm]) (rest := []) (lenOf own_pd3 rfl) rfl (by show 2 * 0 + _ ≤ _; exact Nat.le_of_eq rfl) (hb hby d16_5) (fun _ _ => ⟨rfl, e1, (by decide : 0 + 0 ≤ _), (by decide : 0 + 0 ≤ _)⟩)
  dsimp only [Pt.U, Pt.locs, Pt.cells, Pt.slots] at X2 l2 y2 z2 st2 hQ2
  subst l2 y2 z2
  obtain ⟨rfl, Nq2, hh2⟩ := hQ2
  obtain ⟨lc2, Xh2, N2⟩ := own_hide X2 (Fr.app N0 Nq2)
  clear X2
  refine Go.via st2 ?_
  show Go p.tables e below P T2 (mkF m 8 #[.val (.int ji), .val (.int nn)] [(.int ji)])
  refine Go.via (fun t k => XS.pop Xh2.here hx rfl (hb hby d16_8) rfl rfl k) ?_
  show Go p.tables e below P T2 (mkF m 9 #[.val (.int ji), .val (.int nn)] [])
  obtain ⟨fs, hr, hrun, hended, hW, hsame⟩ := Xh2.leave (v := none) (fun _ => rfl)
  refine ⟨_, _, Xh2.returnOut hx Bd.returns (hb hby d16_9) hr, hrun, hended, hP _ _ ⟨_, _, rfl, ?_, ⟨_, rfl⟩, hW, hsame.mono (by decide) (by decide)⟩⟩
  show Q16 Z ji nn fm h0 n0 _ T2.heap _
  rw [hh2]
  exact ⟨rfl, N2, rfl⟩
theorem own_pd4 : parseMethodDescriptor "(II)V" = some ⟨[.int, .int], none⟩ := by decide +kernel
theorem own_pn3 : plainName "java/lang/StringLatin1" = true := by first | (simp [plainName, overriddenIn]; done) | decide +kernel
theorem d15_0 : decode jdk_43_method_2_code 0 = .ok (.iload_n 1, 1) := by decide +kernel
theorem d15_1 : decode jdk_43_method_2_code 1 = .ok (.aload_n 0, 1) := by decide +kernel
theorem d15_2 : decode jdk_43_method_2_code 2 = .ok (.arraylength, 1) := by decide +kernel
theorem d15_3 : decode jdk_43_method_2_code 3 = .ok (.invokestatic 9, 3) := by decide +kernel
theorem d15_6 : decode jdk_43_method_2_code 6 = .ok (.aload_n 0, 1) := by decide +kernel
theorem d15_7 : decode jdk_43_method_2_code 7 = .ok (.iload_n 1, 1) := by decide +kernel
theorem d15_8 : decode jdk_43_method_2_code 8 = .ok (.baload, 1) := by decide +kernel
theorem d15_9 : decode jdk_43_method_2_code 9 = .ok (.sipush 255, 3) := by decide +kernel
theorem d15_12 : decode jdk_43_method_2_code 12 = .ok (.iand, 1) := by decide +kernel
theorem d15_13 : decode jdk_43_method_2_code 13 = .ok (.i2c, 1) := by decide +kernel
theorem d15_14 : decode jdk_43_method_2_code 14 = .ok (.ireturn, 1) := by decide +kernel
theorem ef_15 (m : MethodId) (x0 : Addr) (x1 : Int32) : entryFrame m #[(.ref x0), (.int x1)] 2 = mkF m 0 #[.val (.ref x0), .val (.int x1)] [] := by first | (simp [entryFrame, mkF, argsToLocals, Value.category]; done) | rfl
def Q15 (Z : State) (tb : Addr) (ji : Int32) (fm : Value) (kk : ClassId) (nn : Int32) (vs : List Value) (xx : Int32) (h0 : Heap) (n0 : Nat) (v : Option Value) (h : Heap) (L : List Loc) : Prop := v = some (.int (xx &&& (255 : Int32))) ∧ Fr n0 L ∧ h = h0
set_option maxRecDepth 65536 in
set_option maxHeartbeats 40000000 in
theorem rm15 (l : Launch) (Z : State) (a0 : Array Value) (hw : ∀ d ∈ tables_1, d.before a0 Z = true) (ws : List Jvm.Cond) (tb : Addr) (ji : Int32) (fm : Value) (kk : ClassId) (nn : Int32) (vs : List Value) (xx : Int32) (h0 : Heap) (n0 : Nat) (Z0 : n0 ≤ h0.size) (O0 : Old Z n0 h0) (P1 : Sta Z Z.heap "jdk/internal/util/Preconditions" "SIOOBE_FORMATTER" "Ljava/util/function/BiFunction;" fm) (rfm : fm.isRef = true) (P3 : Arv Z h0 tb kk .byte nn vs (.int (0 : Int32))) (hj0 : ¬ (ji < (0 : Int32))) (hjn : ji < nn) (hat : vs.getD ji.toNatClampNeg (.int (0 : Int32)) = .int xx) :
    MetFree l (⟨"java/lang/StringLatin1", "charAt", "([BI)C"⟩ : MethodName) (head1 (Jvm.Cond.code (⟨"java/lang/StringLatin1", "charAt", "([BI)C"⟩ : MethodName) jdk_43_method_2_code 2 (some .char) :: ws) ({ frames := 2, cells := 0, slots := 0, locals := 27 } : Room)) (fun a U => a = #[(.ref tb), (.int ji)] ∧ Z.Warmed39 U.vm ∧ U.heap = h0) (fun _ _ _ _ _ => True) (fun _ U o U' => ∃ v L, o = .returned v ∧ Q15 Z tb ji fm kk nn vs xx h0 n0 v U'.heap L ∧ FrameEnd U o U' L ({ frames := 2, cells := 0, slots := 0, locals := 27 } : Room).cells ({ frames := 2, cells := 0, slots := 0, locals := 27 } : Room).slots) := by
  refine MetFree.of_bodySF (plainFor_of_name own_pn3) hisR ?_
  intro p e s m args below meth c s₁ Bd hml0 hP hK
  obtain ⟨rfl, hZ, hh⟩ := hP
  have hx := Bd.exec
  have hby := Bd.bytes
  have hml : c.maxLocals = 2 := hml0
  have hown : s.vm.findClass "java/lang/StringLatin1" = some m.cls := findClass_of_methodNamed Bd.named
  have hnm := (name_of_methodNamed Bd.named Bd.method).1
  have X0 : Stand p l e ({ frames := 2, cells := 0, slots := 0, locals := 27 } : Room) s m #[(.ref tb), (.int ji)] below meth c s₁ [] 0 0 := Stand.of_body Bd
  have e0 : s₁.heap = h0 := by rw [← hh, Bd.state]; rfl
  have N0 := Fr.nil n0
  have K0 : Keep h0 h0 [] := Keep.refl _ _
  suffices GO : ∀ P : Outcome → State → Prop, (∀ o U', (∃ v L, o = .returned v ∧ Q15 Z tb ji fm kk nn vs xx h0 n0 v U'.heap L ∧ FrameEnd s o U' L ({ frames := 2, cells := 0, slots := 0, locals := 27 } : Room).cells ({ frames := 2, cells := 0, slots := 0, locals := 27 } : Room).slots) → P o U') → Go p.tables e below P s₁ (mkF m 0 #[.val (.ref tb), .val (.int ji)] []) by
    obtain ⟨s2, o, st, r⟩ := GO _ (fun _ _ q => q)
    exact ⟨s2, o, castTop (ef_15 m tb ji) st, r⟩
  clear hh
  intro P hP
  show Go p.tables e below P s₁ (mkF m 0 #[.val (.ref tb), .val (.int ji)] [])
  refine Go.via (fun t k => XS.iloadN X0.here hx rfl (hb hby d15_0) rfl k) ?_
  show Go p.tables e below P s₁ (mkF m 1 #[.val (.ref tb), .val (.int ji)] [(.int ji)])
  refine Go.via (fun t k => XS.aloadN X0.here hx rfl (hb hby d15_1) rfl rfl k) ?_
  show Go p.tables e below P s₁ (mkF m 2 #[.val (.ref tb), .val (.int ji)] [(.ref tb), (.int ji)])
  obtain ⟨c1, A1, -, S1, N1, -, -⟩ := id P3
  refine Go.via (fun t k => X0.arraylength hx (by rw [e0]; exact A1.1) (State.isArrayOf_alike hZ.alike A1.2.1) (g := (mkF m 2 #[.val (.ref tb), .val (.int ji)] [(.ref tb), (.int ji)])) rfl rfl (hb hby d15_2) t (by rw [len_of S1 N1]; exact k)) ?_
  show Go p.tables e below P s₁ (mkF m 3 #[.val (.ref tb), .val (.int ji)] [(.int nn), (.int ji)])
  obtain ⟨_, _, ⟨T2, L2, k2, n2⟩, -, X2, ⟨Lc2, hQ2, l2, y2, z2⟩, st2⟩ := Jvm.LawKit.callS X0 hx (y := (⟨"java/lang/String", "checkIndex", "(II)V"⟩ : MethodName)) hown (mvT hZ (hw _ (List.mem_of_getElem? (i := 82) rfl))) (mvT hZ (hw _ (List.mem_of_getElem? (i := 83) rfl))) (mvT hZ (hw _ (List.mem_of_getElem? (i := 6) rfl))) (mvT hZ (hw _ (List.mem_of_getElem? (i := 84) rfl))) (by decide) (backOf (W := 0) (rm16 l Z a0 hw [] ji nn fm h0 n0 Z0 O0 P1 (by first | assumption | decide | omega : fm.isRef = true) (by first | assumption | decide | omega : ¬ (ji < (0 : Int32))) (by first | assumption | decide | omega : ji < nn)) hZ (hw _ (List.mem_of_getElem? (i := 84) rfl)) (hw _ (List.mem_of_getElem? (i := 6) rfl)) (by decide) (by decide)) (g := (mkF m 3 #[.val (.ref tb), .val (.int ji)] [(.int nn), (.int ji)])) rfl (by rw [hml]; rfl) (argsL := [(.int ji), (.int nn)]) (rest := []) (lenOf own_pd4 rfl) rfl (by show 2 * 0 + _ ≤ _; exact Nat.le_of_eq rfl) (hb hby d15_3) (fun _ _ => ⟨rfl, e0, (by decide : 0 + 0 ≤ _), (by decide : 0 + 0 ≤ _)⟩)
  dsimp only [Pt.U, Pt.locs, Pt.cells, Pt.slots] at X2 l2 y2 z2 st2 hQ2
  subst l2 y2 z2
  obtain ⟨rfl, Nq2, hh2⟩ := hQ2
  obtain ⟨lc2, Xh2, N2⟩ := own_hide X2 (Fr.app N0 Nq2)
  clear X2
  refine Go.via st2 ?_
  show Go p.tables e below P T2 (mkF m 6 #[.val (.ref tb), .val (.int ji)] [])
  refine Go.via (fun t k => XS.aloadN Xh2.here hx rfl (hb hby d15_6) rfl rfl k) ?_
  show Go p.tables e below P T2 (mkF m 7 #[.val (.ref tb), .val (.int ji)] [(.ref tb)])
  refine Go.via (fun t k => XS.iloadN Xh2.here hx rfl (hb hby d15_7) rfl k) ?_
  show Go p.tables e below P T2 (mkF m 8 #[.val (.ref tb), .val (.int ji)] [(.int ji), (.ref tb)])
  obtain ⟨c3, A3, q3, S3, N3, H3, G3⟩ := id P3
  have hin3 : ¬ (ji < 0 ∨ c3.slots.size ≤ (ji).toNatClampNeg) := inb_of S3 ⟨hj0, hjn⟩
  have hat3 : c3.slots[(ji).toNatClampNeg]? = some (.int xx) := (H3 _ (Nat.lt_of_not_le fun q => hin3 (Or.inr q))).trans (congrArg some hat)
  refine Go.via (fun t k => Xh2.baloadBytes hx (j := ji) (v := (.int xx)) (by rw [hh2]; exact A3.1) (State.isArrayOf_alike hZ.alike A3.2.1) A3.2.2 hin3 hat3 (g := (mkF m 8 #[.val (.ref tb), .val (.int ji)] [(.int ji), (.ref tb)])) rfl rfl (hb hby d15_8) t k) ?_
  show Go p.tables e below P T2 (mkF m 9 #[.val (.ref tb), .val (.int ji)] [(.int xx)])
  refine Go.via (fun t k => XS.sipush Xh2.here hx rfl (hb hby d15_9) k) ?_
  show Go p.tables e below P T2 (mkF m 12 #[.val (.ref tb), .val (.int ji)] [(.int (255 : Int32)), (.int xx)])
  refine Go.via (fun t k => XS.iand Xh2.here hx rfl (hb hby d15_12) rfl k) ?_
  show Go p.tables e below P T2 (mkF m 13 #[.val (.ref tb), .val (.int ji)] [(.int (xx &&& (255 : Int32)))])
  refine Go.via (fun t k => XS.i2c Xh2.here hx rfl (hb hby d15_13) rfl k) ?_
  show Go p.tables e below P T2 (mkF m 14 #[.val (.ref tb), .val (.int ji)] [(.int ((xx &&& (255 : Int32)).toUInt32.toUInt16.toUInt32.toInt32))])
  obtain ⟨fs, hr, hrun, hended, hW, hsame⟩ := Xh2.leave (v := some (.int (xx &&& (255 : Int32)))) (fun h => by rw [Bd.returns] at h; cases h)
  refine ⟨_, _, retZ Xh2 hx (t := .char) Bd.returns (by simp) (hb hby d15_14) (own_b2c xx) hr, hrun, hended, hP _ _ ⟨_, _, rfl, ?_, ⟨_, rfl⟩, hW, hsame.mono (by decide) (by decide)⟩⟩
  show Q15 Z tb ji fm kk nn vs xx h0 n0 _ T2.heap _
  rw [hh2]
  exact ⟨rfl, N2, rfl⟩
theorem own_pd5 : parseMethodDescriptor "()Z" = some ⟨[], some .boolean⟩ := by decide +kernel
theorem own_pd6 : parseMethodDescriptor "([BI)C" = some ⟨[(.array .byte), .int], some .char⟩ := by decide +kernel
theorem d13_0 : decode jdk_42_method_56_code 0 = .ok (.aload_n 0, 1) := by decide +kernel
theorem d13_1 : decode jdk_42_method_56_code 1 = .ok (.invokevirtual 492, 3) := by decide +kernel
theorem d13_4 : decode jdk_42_method_56_code 4 = .ok (.ifCond .eq 12, 3) := by decide +kernel
theorem d13_7 : decode jdk_42_method_56_code 7 = .ok (.aload_n 0, 1) := by decide +kernel
theorem d13_8 : decode jdk_42_method_56_code 8 = .ok (.getfield 9, 3) := by decide +kernel
theorem d13_11 : decode jdk_42_method_56_code 11 = .ok (.iload_n 1, 1) := by decide +kernel
theorem d13_12 : decode jdk_42_method_56_code 12 = .ok (.invokestatic 495, 3) := by decide +kernel
theorem d13_15 : decode jdk_42_method_56_code 15 = .ok (.ireturn, 1) := by decide +kernel
theorem ef_13 (m : MethodId) (x0 : Addr) (x1 : Int32) : entryFrame m #[(.ref x0), (.int x1)] 2 = mkF m 0 #[.val (.ref x0), .val (.int x1)] [] := by first | (simp [entryFrame, mkF, argsToLocals, Value.category]; done) | rfl
def Q13 (Z : State) (so : Addr) (ji : Int32) (fm : Value) (cs : Int32) (tb : Addr) (kk : ClassId) (nn : Int32) (vs : List Value) (xx : Int32) (h0 : Heap) (n0 : Nat) (v : Option Value) (h : Heap) (L : List Loc) : Prop := v = some (.int (xx &&& (255 : Int32))) ∧ Fr n0 L ∧ h = h0
set_option maxRecDepth 65536 in
set_option maxHeartbeats 40000000 in
theorem rm13 (l : Launch) (Z : State) (a0 : Array Value) (hw : ∀ d ∈ tables_1, d.before a0 Z = true) (ws : List Jvm.Cond) (so : Addr) (ji : Int32) (fm : Value) (cs : Int32) (tb : Addr) (kk : ClassId) (nn : Int32) (vs : List Value) (xx : Int32) (h0 : Heap) (n0 : Nat) (Z0 : n0 ≤ h0.size) (O0 : Old Z n0 h0) (P1 : Sta Z Z.heap "java/lang/String" "COMPACT_STRINGS" "Z" (.int cs)) (hcs : ¬ cs = (0 : Int32)) (P3 : Sta Z Z.heap "jdk/internal/util/Preconditions" "SIOOBE_FORMATTER" "Ljava/util/function/BiFunction;" fm) (rfm : fm.isRef = true) (P5 : Exa Z h0 so "java/lang/String") (P6 : Fld Z h0 so "java/lang/String" "value" "[B" (.ref tb)) (P7 : Fld Z h0 so "java/lang/String" "coder" "B" (.int (0 : Int32))) (P8 : Arv Z h0 tb kk .byte nn vs (.int (0 : Int32))) (hj0 : ¬ (ji < (0 : Int32))) (hjn : ji < nn) (hat : vs.getD ji.toNatClampNeg (.int (0 : Int32)) = .int xx) :
    MetFree l (⟨"java/lang/String", "charAt", "(I)C"⟩ : MethodName) (head1 (Jvm.Cond.code (⟨"java/lang/String", "charAt", "(I)C"⟩ : MethodName) jdk_42_method_56_code 2 (some .char) :: ws) ({ frames := 3, cells := 0, slots := 0, locals := 40 } : Room)) (fun a U => a = #[(.ref so), (.int ji)] ∧ Z.Warmed39 U.vm ∧ U.heap = h0) (fun _ _ _ _ _ => True) (fun _ U o U' => ∃ v L, o = .returned v ∧ Q13 Z so ji fm cs tb kk nn vs xx h0 n0 v U'.heap L ∧ FrameEnd U o U' L ({ frames := 3, cells := 0, slots := 0, locals := 40 } : Room).cells ({ frames := 3, cells := 0, slots := 0, locals := 40 } : Room).slots) := by
  refine MetFree.of_bodySF (plainFor_of_name own_pn0) hisR ?_
  intro p e s m args below meth c s₁ Bd hml0 hP hK
  obtain ⟨rfl, hZ, hh⟩ := hP
  have hx := Bd.exec
  have hby := Bd.bytes
  have hml : c.maxLocals = 2 := hml0
  have hown : s.vm.findClass "java/lang/String" = some m.cls := findClass_of_methodNamed Bd.named
  have hnm := (name_of_methodNamed Bd.named Bd.method).1
  have X0 : Stand p l e ({ frames := 3, cells := 0, slots := 0, locals := 40 } : Room) s m #[(.ref so), (.int ji)] below meth c s₁ [] 0 0 := Stand.of_body Bd
  have e0 : s₁.heap = h0 := by rw [← hh, Bd.state]; rfl
  have N0 := Fr.nil n0
  have K0 : Keep h0 h0 [] := Keep.refl _ _
  suffices GO : ∀ P : Outcome → State → Prop, (∀ o U', (∃ v L, o = .returned v ∧ Q13 Z so ji fm cs tb kk nn vs xx h0 n0 v U'.heap L ∧ FrameEnd s o U' L ({ frames := 3, cells := 0, slots := 0, locals := 40 } : Room).cells ({ frames := 3, cells := 0, slots := 0, locals := 40 } : Room).slots) → P o U') → Go p.tables e below P s₁ (mkF m 0 #[.val (.ref so), .val (.int ji)] []) by
    obtain ⟨s2, o, st, r⟩ := GO _ (fun _ _ q => q)
    exact ⟨s2, o, castTop (ef_13 m so ji) st, r⟩
  clear hh
  intro P hP
  show Go p.tables e below P s₁ (mkF m 0 #[.val (.ref so), .val (.int ji)] [])
  refine Go.via (fun t k => XS.aloadN X0.here hx rfl (hb hby d13_0) rfl rfl k) ?_
  show Go p.tables e below P s₁ (mkF m 1 #[.val (.ref so), .val (.int ji)] [(.ref so)])
  obtain ⟨cq1, kq1, q1a, q1b, q1c⟩ := isOf hZ e0 P5
  obtain ⟨_, _, ⟨T1, L1, k1, n1⟩, -, X1, ⟨Lc1, hQ1, l1, y1, z1⟩, st1⟩ := X0.virtualBack hx (y := (⟨"java/lang/String", "isLatin1", "()Z"⟩ : MethodName)) (z := (⟨"java/lang/String", "isLatin1", "()Z"⟩ : MethodName)) hown (mvT hZ (hw _ (List.mem_of_getElem? (i := 73) rfl))) (mvT hZ (hw _ (List.mem_of_getElem? (i := 74) rfl))) (notFace_of_selects (args := #[]) (mvT hZ (hw _ (List.mem_of_getElem? (i := 76) rfl)))) (mvT hZ (hw _ (List.mem_of_getElem? (i := 76) rfl))) (mvT hZ (hw _ (List.mem_of_getElem? (i := 75) rfl))) (by decide) (backOf (W := 0) (rm14 l Z a0 hw [] so cs h0 n0 Z0 O0 P1 (by first | assumption | decide | omega : ¬ cs = (0 : Int32)) P7) hZ (hw _ (List.mem_of_getElem? (i := 77) rfl)) (hw _ (List.mem_of_getElem? (i := 6) rfl)) (by decide) (by decide)) q1a q1c (g := (mkF m 1 #[.val (.ref so), .val (.int ji)] [(.ref so)])) rfl (by rw [hml]; rfl) (Steps.refl _) (argsL := []) (rest := []) (lenOf own_pd5 rfl) rfl (by show 2 * 0 + _ ≤ _; exact Nat.le_of_eq rfl) (hb hby d13_1) (fun _ _ => ⟨rfl, e0, (by decide : 0 + 0 ≤ _), (by decide : 0 + 0 ≤ _)⟩)
  dsimp only [Pt.U, Pt.locs, Pt.cells, Pt.slots] at X1 l1 y1 z1 st1 hQ1
  subst l1 y1 z1
  obtain ⟨rfl, Nq1, hh1⟩ := hQ1
  obtain ⟨lc1, Xh1, N1⟩ := own_hide X1 (Fr.app N0 Nq1)
  clear X1
  refine Go.hop st1 ?_
  show Go p.tables e below P T1 (mkF m 4 #[.val (.ref so), .val (.int ji)] [(.int (1 : Int32))])
  refine Go.via (fun t k => XS.ifNo Xh1.here hx rfl (hb hby d13_4) rfl ((if0 _ _).trans (feq (by decide : ¬ ((1 : Int32) = (0 : Int32)))).1) k) ?_
  show Go p.tables e below P T1 (mkF m 7 #[.val (.ref so), .val (.int ji)] [])
  refine Go.via (fun t k => XS.aloadN Xh1.here hx rfl (hb hby d13_7) rfl rfl k) ?_
  show Go p.tables e below P T1 (mkF m 8 #[.val (.ref so), .val (.int ji)] [(.ref so)])
  obtain ⟨T2, X2, e2, st2⟩ := getF Xh1 hx hZ hown (host := "") (Or.inl (hw _ (List.mem_of_getElem? (i := 24) rfl))) Via.refl hh1 P6 (g := (mkF m 8 #[.val (.ref so), .val (.int ji)] [(.ref so)])) rfl rfl (hb hby d13_8)
  refine Go.via st2 ?_
  show Go p.tables e below P T2 (mkF m 11 #[.val (.ref so), .val (.int ji)] [(.ref tb)])
  refine Go.via (fun t k => XS.iloadN X2.here hx rfl (hb hby d13_11) rfl k) ?_
  show Go p.tables e below P T2 (mkF m 12 #[.val (.ref so), .val (.int ji)] [(.int ji), (.ref tb)])
  obtain ⟨_, _, ⟨T3, L3, k3, n3⟩, -, X3, ⟨Lc3, hQ3, l3, y3, z3⟩, st3⟩ := Jvm.LawKit.callS X2 hx (y := (⟨"java/lang/StringLatin1", "charAt", "([BI)C"⟩ : MethodName)) hown (mvT hZ (hw _ (List.mem_of_getElem? (i := 78) rfl))) (mvT hZ (hw _ (List.mem_of_getElem? (i := 79) rfl))) (mvT hZ (hw _ (List.mem_of_getElem? (i := 80) rfl))) (mvT hZ (hw _ (List.mem_of_getElem? (i := 81) rfl))) (by decide) (backOf (W := 0) (rm15 l Z a0 hw [] tb ji fm kk nn vs xx h0 n0 Z0 O0 P3 (by first | assumption | decide | omega : fm.isRef = true) P8 (by first | assumption | decide | omega : ¬ (ji < (0 : Int32))) (by first | assumption | decide | omega : ji < nn) hat) hZ (hw _ (List.mem_of_getElem? (i := 81) rfl)) (hw _ (List.mem_of_getElem? (i := 80) rfl)) (by decide) (by decide)) (g := (mkF m 12 #[.val (.ref so), .val (.int ji)] [(.int ji), (.ref tb)])) rfl (by rw [hml]; rfl) (argsL := [(.ref tb), (.int ji)]) (rest := []) (lenOf own_pd6 rfl) rfl (by show 2 * 0 + _ ≤ _; exact Nat.le_of_eq rfl) (hb hby d13_12) (fun _ _ => ⟨rfl, e2, (by decide : 0 + 0 ≤ _), (by decide : 0 + 0 ≤ _)⟩)
  dsimp only [Pt.U, Pt.locs, Pt.cells, Pt.slots] at X3 l3 y3 z3 st3 hQ3
  subst l3 y3 z3
  obtain ⟨rfl, Nq3, hh3⟩ := hQ3
  obtain ⟨lc3, Xh3, N3⟩ := own_hide X3 (Fr.app N1 Nq3)
  clear X3
  refine Go.via st3 ?_
  show Go p.tables e below P T3 (mkF m 15 #[.val (.ref so), .val (.int ji)] [(.int (xx &&& (255 : Int32)))])
  obtain ⟨fs, hr, hrun, hended, hW, hsame⟩ := Xh3.leave (v := some (.int (xx &&& (255 : Int32)))) (fun h => by rw [Bd.returns] at h; cases h)
  refine ⟨_, _, retZ Xh3 hx (t := .char) Bd.returns (by simp) (hb hby d13_15) (own_nc xx) hr, hrun, hended, hP _ _ ⟨_, _, rfl, ?_, ⟨_, rfl⟩, hW, hsame.mono (by decide) (by decide)⟩⟩
  show Q13 Z so ji fm cs tb kk nn vs xx h0 n0 _ T3.heap _
  rw [hh3]
  exact ⟨rfl, N3, rfl⟩
theorem own_pd7 : parseMethodDescriptor "()I" = some ⟨[], some .int⟩ := by decide +kernel
theorem own_pd8 : parseMethodDescriptor "(I)C" = some ⟨[.int], some .char⟩ := by decide +kernel
theorem d10_0 : decode method_4_code 0 = .ok (.aload_n 0, 1) := by decide +kernel
theorem d10_1 : decode method_4_code 1 = .ok (.invokevirtual 31, 3) := by decide +kernel
theorem d10_4 : decode method_4_code 4 = .ok (.aload_n 1, 1) := by decide +kernel
theorem d10_5 : decode method_4_code 5 = .ok (.invokevirtual 31, 3) := by decide +kernel
theorem d10_8 : decode method_4_code 8 = .ok (.if_icmp .eq 5, 3) := by decide +kernel
theorem d10_11 : decode method_4_code 11 = .ok (.iconst 0, 1) := by decide +kernel
theorem d10_12 : decode method_4_code 12 = .ok (.ireturn, 1) := by decide +kernel
theorem d10_13 : decode method_4_code 13 = .ok (.aload_n 0, 1) := by decide +kernel
theorem d10_14 : decode method_4_code 14 = .ok (.invokevirtual 31, 3) := by decide +kernel
theorem d10_17 : decode method_4_code 17 = .ok (.iconst 1, 1) := by decide +kernel
theorem d10_18 : decode method_4_code 18 = .ok (.if_icmp .lt 18, 3) := by decide +kernel
theorem d10_21 : decode method_4_code 21 = .ok (.aload_n 0, 1) := by decide +kernel
theorem d10_22 : decode method_4_code 22 = .ok (.iconst 0, 1) := by decide +kernel
theorem d10_23 : decode method_4_code 23 = .ok (.invokevirtual 35, 3) := by decide +kernel
theorem d10_26 : decode method_4_code 26 = .ok (.aload_n 1, 1) := by decide +kernel
theorem d10_27 : decode method_4_code 27 = .ok (.iconst 0, 1) := by decide +kernel
theorem d10_28 : decode method_4_code 28 = .ok (.invokevirtual 35, 3) := by decide +kernel
theorem d10_31 : decode method_4_code 31 = .ok (.if_icmp .eq 5, 3) := by decide +kernel
theorem d10_34 : decode method_4_code 34 = .ok (.iconst 0, 1) := by decide +kernel
theorem d10_35 : decode method_4_code 35 = .ok (.ireturn, 1) := by decide +kernel
theorem d10_36 : decode method_4_code 36 = .ok (.aload_n 0, 1) := by decide +kernel
theorem d10_37 : decode method_4_code 37 = .ok (.invokevirtual 31, 3) := by decide +kernel
theorem d10_40 : decode method_4_code 40 = .ok (.iconst 2, 1) := by decide +kernel
theorem d10_41 : decode method_4_code 41 = .ok (.if_icmp .lt 18, 3) := by decide +kernel
theorem d10_44 : decode method_4_code 44 = .ok (.aload_n 0, 1) := by decide +kernel
theorem d10_45 : decode method_4_code 45 = .ok (.iconst 1, 1) := by decide +kernel
theorem d10_46 : decode method_4_code 46 = .ok (.invokevirtual 35, 3) := by decide +kernel
theorem d10_49 : decode method_4_code 49 = .ok (.aload_n 1, 1) := by decide +kernel
theorem d10_50 : decode method_4_code 50 = .ok (.iconst 1, 1) := by decide +kernel
theorem d10_51 : decode method_4_code 51 = .ok (.invokevirtual 35, 3) := by decide +kernel
theorem d10_54 : decode method_4_code 54 = .ok (.if_icmp .eq 5, 3) := by decide +kernel
theorem d10_57 : decode method_4_code 57 = .ok (.iconst 0, 1) := by decide +kernel
theorem d10_58 : decode method_4_code 58 = .ok (.ireturn, 1) := by decide +kernel
theorem d10_59 : decode method_4_code 59 = .ok (.iconst 1, 1) := by decide +kernel
theorem d10_60 : decode method_4_code 60 = .ok (.ireturn, 1) := by decide +kernel
theorem ef_10 (m : MethodId) (x0 : Addr) (x1 : Addr) : entryFrame m #[(.ref x0), (.ref x1)] 2 = mkF m 0 #[.val (.ref x0), .val (.ref x1)] [] := by first | (simp [entryFrame, mkF, argsToLocals, Value.category]; done) | rfl
def Q10 (Z : State) (so : Addr) (sq : Addr) (cs : Int32) (tb : Addr) (tc : Addr) (kk : ClassId) (kc : ClassId) (bx : List Int32) (bz : List Int32) (fm : Value) (h0 : Heap) (n0 : Nat) (v : Option Value) (h : Heap) (L : List Loc) : Prop := v = some (.int (if bx = bz then (1 : Int32) else (0 : Int32))) ∧ Fr n0 L ∧ h = h0
set_option maxRecDepth 65536 in
set_option maxHeartbeats 40000000 in
theorem rm10 (l : Launch) (Z : State) (a0 : Array Value) (hw : ∀ d ∈ tables_1, d.before a0 Z = true) (ws : List Jvm.Cond) (so : Addr) (sq : Addr) (cs : Int32) (tb : Addr) (tc : Addr) (kk : ClassId) (kc : ClassId) (bx : List Int32) (bz : List Int32) (fm : Value) (h0 : Heap) (n0 : Nat) (Z0 : n0 ≤ h0.size) (O0 : Old Z n0 h0) (P1 : Sta Z Z.heap "java/lang/String" "COMPACT_STRINGS" "Z" (.int cs)) (hcs : ¬ cs = (0 : Int32)) (P3 : Sta Z Z.heap "jdk/internal/util/Preconditions" "SIOOBE_FORMATTER" "Ljava/util/function/BiFunction;" fm) (rfm : fm.isRef = true) (P5 : Exa Z h0 so "java/lang/String") (P6 : Fld Z h0 so "java/lang/String" "value" "[B" (.ref tb)) (P7 : Fld Z h0 so "java/lang/String" "coder" "B" (.int (0 : Int32))) (P8 : Arv Z h0 tb kk .byte (own_ln bx) (bx.map Value.int) (.int (0 : Int32))) (P9 : Exa Z h0 sq "java/lang/String") (P10 : Fld Z h0 sq "java/lang/String" "value" "[B" (.ref tc)) (P11 : Fld Z h0 sq "java/lang/String" "coder" "B" (.int (0 : Int32))) (P12 : Arv Z h0 tc kc .byte (own_ln bz) (bz.map Value.int) (.int (0 : Int32))) (smx : own_sm bx) (smz : own_sm bz) :
    MetFree l (⟨"com/example/splitbook/splitbook/book/ReportKeyEqualsPinLaw", "same", "(Ljava/lang/String;Ljava/lang/String;)Z"⟩ : MethodName) (head1 (Jvm.Cond.code (⟨"com/example/splitbook/splitbook/book/ReportKeyEqualsPinLaw", "same", "(Ljava/lang/String;Ljava/lang/String;)Z"⟩ : MethodName) method_4_code 2 (some .boolean) :: ws) ({ frames := 4, cells := 0, slots := 0, locals := 54 } : Room)) (fun a U => a = #[(.ref so), (.ref sq)] ∧ Z.Warmed39 U.vm ∧ U.heap = h0) (fun _ _ _ _ _ => True) (fun _ U o U' => ∃ v L, o = .returned v ∧ Q10 Z so sq cs tb tc kk kc bx bz fm h0 n0 v U'.heap L ∧ FrameEnd U o U' L ({ frames := 4, cells := 0, slots := 0, locals := 54 } : Room).cells ({ frames := 4, cells := 0, slots := 0, locals := 54 } : Room).slots) := by
  refine MetFree.of_bodySF (plainFor_of_name own_pn1) hisR ?_
  intro p e s m args below meth c s₁ Bd hml0 hP hK
  obtain ⟨rfl, hZ, hh⟩ := hP
  have hx := Bd.exec
  have hby := Bd.bytes
  have hml : c.maxLocals = 2 := hml0
  have hown : s.vm.findClass "com/example/splitbook/splitbook/book/ReportKeyEqualsPinLaw" = some m.cls := findClass_of_methodNamed Bd.named
  have hnm := (name_of_methodNamed Bd.named Bd.method).1
  have X0 : Stand p l e ({ frames := 4, cells := 0, slots := 0, locals := 54 } : Room) s m #[(.ref so), (.ref sq)] below meth c s₁ [] 0 0 := Stand.of_body Bd
  have e0 : s₁.heap = h0 := by rw [← hh, Bd.state]; rfl
  have N0 := Fr.nil n0
  have K0 : Keep h0 h0 [] := Keep.refl _ _
  suffices GO : ∀ P : Outcome → State → Prop, (∀ o U', (∃ v L, o = .returned v ∧ Q10 Z so sq cs tb tc kk kc bx bz fm h0 n0 v U'.heap L ∧ FrameEnd s o U' L ({ frames := 4, cells := 0, slots := 0, locals := 54 } : Room).cells ({ frames := 4, cells := 0, slots := 0, locals := 54 } : Room).slots) → P o U') → Go p.tables e below P s₁ (mkF m 0 #[.val (.ref so), .val (.ref sq)] []) by
    obtain ⟨s2, o, st, r⟩ := GO _ (fun _ _ q => q)
    exact ⟨s2, o, castTop (ef_10 m so sq) st, r⟩
  clear hh
  intro P hP
  show Go p.tables e below P s₁ (mkF m 0 #[.val (.ref so), .val (.ref sq)] [])
  refine Go.via (fun t k => XS.aloadN X0.here hx rfl (hb hby d10_0) rfl rfl k) ?_
  show Go p.tables e below P s₁ (mkF m 1 #[.val (.ref so), .val (.ref sq)] [(.ref so)])
  obtain ⟨cq1, kq1, q1a, q1b, q1c⟩ := isOf hZ e0 P5
  obtain ⟨_, _, ⟨T1, L1, k1, n1⟩, -, X1, ⟨Lc1, hQ1, l1, y1, z1⟩, st1⟩ := X0.virtualBack hx (y := (⟨"java/lang/String", "length", "()I"⟩ : MethodName)) (z := (⟨"java/lang/String", "length", "()I"⟩ : MethodName)) hown (mvT hZ (hw _ (List.mem_of_getElem? (i := 58) rfl))) (mvT hZ (hw _ (List.mem_of_getElem? (i := 59) rfl))) (notFace_of_selects (args := #[]) (mvT hZ (hw _ (List.mem_of_getElem? (i := 61) rfl)))) (mvT hZ (hw _ (List.mem_of_getElem? (i := 61) rfl))) (mvT hZ (hw _ (List.mem_of_getElem? (i := 60) rfl))) (by decide) (backOf (W := 0) (rm11 l Z a0 hw [] so cs tb kk (own_ln bx) (bx.map Value.int) h0 n0 Z0 O0 P1 (by first | assumption | decide | omega : ¬ cs = (0 : Int32)) P5 P6 P7 P8) hZ (hw _ (List.mem_of_getElem? (i := 62) rfl)) (hw _ (List.mem_of_getElem? (i := 6) rfl)) (by decide) (by decide)) q1a q1c (g := (mkF m 1 #[.val (.ref so), .val (.ref sq)] [(.ref so)])) rfl (by rw [hml]; rfl) (Steps.refl _) (argsL := []) (rest := []) (lenOf own_pd7 rfl) rfl (by show 2 * 0 + _ ≤ _; exact Nat.le_of_eq rfl) (hb hby d10_1) (fun _ _ => ⟨rfl, e0, (by decide : 0 + 0 ≤ _), (by decide : 0 + 0 ≤ _)⟩)
  dsimp only [Pt.U, Pt.locs, Pt.cells, Pt.slots] at X1 l1 y1 z1 st1 hQ1
  subst l1 y1 z1
  obtain ⟨rfl, Nq1, hh1⟩ := hQ1
  obtain ⟨lc1, Xh1, N1⟩ := own_hide X1 (Fr.app N0 Nq1)
  clear X1
  refine Go.hop st1 ?_
  show Go p.tables e below P T1 (mkF m 4 #[.val (.ref so), .val (.ref sq)] [(.int (own_ln bx))])
  refine Go.via (fun t k => XS.aloadN Xh1.here hx rfl (hb hby d10_4) rfl rfl k) ?_
  show Go p.tables e below P T1 (mkF m 5 #[.val (.ref so), .val (.ref sq)] [(.ref sq), (.int (own_ln bx))])
  obtain ⟨cq2, kq2, q2a, q2b, q2c⟩ := isOf hZ hh1 P9
  obtain ⟨_, _, ⟨T2, L2, k2, n2⟩, -, X2, ⟨Lc2, hQ2, l2, y2, z2⟩, st2⟩ := Xh1.virtualBack hx (y := (⟨"java/lang/String", "length", "()I"⟩ : MethodName)) (z := (⟨"java/lang/String", "length", "()I"⟩ : MethodName)) hown (mvT hZ (hw _ (List.mem_of_getElem? (i := 58) rfl))) (mvT hZ (hw _ (List.mem_of_getElem? (i := 59) rfl))) (notFace_of_selects (args := #[]) (mvT hZ (hw _ (List.mem_of_getElem? (i := 61) rfl)))) (mvT hZ (hw _ (List.mem_of_getElem? (i := 61) rfl))) (mvT hZ (hw _ (List.mem_of_getElem? (i := 60) rfl))) (by decide) (backOf (W := 1) (rm11 l Z a0 hw [] sq cs tc kc (own_ln bz) (bz.map Value.int) h0 n0 Z0 O0 P1 (by first | assumption | decide | omega : ¬ cs = (0 : Int32)) P9 P10 P11 P12) hZ (hw _ (List.mem_of_getElem? (i := 62) rfl)) (hw _ (List.mem_of_getElem? (i := 6) rfl)) (by decide) (by decide)) q2a q2c (g := (mkF m 5 #[.val (.ref so), .val (.ref sq)] [(.ref sq), (.int (own_ln bx))])) rfl (by rw [hml]; rfl) (Steps.refl _) (argsL := []) (rest := [(.int (own_ln bx))]) (lenOf own_pd7 rfl) rfl (by show 2 * 0 + _ ≤ _; exact Nat.le_of_eq rfl) (hb hby d10_5) (fun _ _ => ⟨rfl, hh1, (by decide : 0 + 0 ≤ _), (by decide : 0 + 0 ≤ _)⟩)
  dsimp only [Pt.U, Pt.locs, Pt.cells, Pt.slots] at X2 l2 y2 z2 st2 hQ2
  subst l2 y2 z2
  obtain ⟨rfl, Nq2, hh2⟩ := hQ2
  obtain ⟨lc2, Xh2, N2⟩ := own_hide X2 (Fr.app N1 Nq2)
  clear X2
  refine Go.hop st2 ?_
  show Go p.tables e below P T2 (mkF m 8 #[.val (.ref so), .val (.ref sq)] [(.int (own_ln bz)), (.int (own_ln bx))])
  by_cases hc3 : (own_ln bx) = (own_ln bz)
  · refine Go.via (fun t k => XS.icmpYes Xh2.here hx rfl (pc0 := 8) (pc' := 13) rfl (hb hby d10_8) rfl (teq hc3).1 (by decide) (by decide) k) ?_
    show Go p.tables e below P T2 (mkF m 13 #[.val (.ref so), .val (.ref sq)] [])
    refine Go.via (fun t k => XS.aloadN Xh2.here hx rfl (hb hby d10_13) rfl rfl k) ?_
    show Go p.tables e below P T2 (mkF m 14 #[.val (.ref so), .val (.ref sq)] [(.ref so)])
    obtain ⟨cq4, kq4, q4a, q4b, q4c⟩ := isOf hZ hh2 P5
    obtain ⟨_, _, ⟨T4, L4, k4, n4⟩, -, X4, ⟨Lc4, hQ4, l4, y4, z4⟩, st4⟩ := Xh2.virtualBack hx (y := (⟨"java/lang/String", "length", "()I"⟩ : MethodName)) (z := (⟨"java/lang/String", "length", "()I"⟩ : MethodName)) hown (mvT hZ (hw _ (List.mem_of_getElem? (i := 58) rfl))) (mvT hZ (hw _ (List.mem_of_getElem? (i := 59) rfl))) (notFace_of_selects (args := #[]) (mvT hZ (hw _ (List.mem_of_getElem? (i := 61) rfl)))) (mvT hZ (hw _ (List.mem_of_getElem? (i := 61) rfl))) (mvT hZ (hw _ (List.mem_of_getElem? (i := 60) rfl))) (by decide) (backOf (W := 0) (rm11 l Z a0 hw [] so cs tb kk (own_ln bx) (bx.map Value.int) h0 n0 Z0 O0 P1 (by first | assumption | decide | omega : ¬ cs = (0 : Int32)) P5 P6 P7 P8) hZ (hw _ (List.mem_of_getElem? (i := 62) rfl)) (hw _ (List.mem_of_getElem? (i := 6) rfl)) (by decide) (by decide)) q4a q4c (g := (mkF m 14 #[.val (.ref so), .val (.ref sq)] [(.ref so)])) rfl (by rw [hml]; rfl) (Steps.refl _) (argsL := []) (rest := []) (lenOf own_pd7 rfl) rfl (by show 2 * 0 + _ ≤ _; exact Nat.le_of_eq rfl) (hb hby d10_14) (fun _ _ => ⟨rfl, hh2, (by decide : 0 + 0 ≤ _), (by decide : 0 + 0 ≤ _)⟩)
    dsimp only [Pt.U, Pt.locs, Pt.cells, Pt.slots] at X4 l4 y4 z4 st4 hQ4
    subst l4 y4 z4
    obtain ⟨rfl, Nq4, hh4⟩ := hQ4
    obtain ⟨lc4, Xh4, N4⟩ := own_hide X4 (Fr.app N2 Nq4)
    clear X4
    refine Go.hop st4 ?_
    show Go p.tables e below P T4 (mkF m 17 #[.val (.ref so), .val (.ref sq)] [(.int (own_ln bx))])
    refine Go.via (fun t k => XS.iconst Xh4.here hx rfl (hb hby d10_17) k) ?_
    show Go p.tables e below P T4 (mkF m 18 #[.val (.ref so), .val (.ref sq)] [(.int (1 : Int32)), (.int (own_ln bx))])
    by_cases hc5 : (own_ln bx) < (1 : Int32)
    · refine Go.via (fun t k => XS.icmpYes Xh4.here hx rfl (pc0 := 18) (pc' := 36) rfl (hb hby d10_18) rfl (tlt hc5).1 (by decide) (by decide) k) ?_
      show Go p.tables e below P T4 (mkF m 36 #[.val (.ref so), .val (.ref sq)] [])
      refine Go.via (fun t k => XS.aloadN Xh4.here hx rfl (hb hby d10_36) rfl rfl k) ?_
      show Go p.tables e below P T4 (mkF m 37 #[.val (.ref so), .val (.ref sq)] [(.ref so)])
      obtain ⟨cq6, kq6, q6a, q6b, q6c⟩ := isOf hZ hh4 P5
      obtain ⟨_, _, ⟨T6, L6, k6, n6⟩, -, X6, ⟨Lc6, hQ6, l6, y6, z6⟩, st6⟩ := Xh4.virtualBack hx (y := (⟨"java/lang/String", "length", "()I"⟩ : MethodName)) (z := (⟨"java/lang/String", "length", "()I"⟩ : MethodName)) hown (mvT hZ (hw _ (List.mem_of_getElem? (i := 58) rfl))) (mvT hZ (hw _ (List.mem_of_getElem? (i := 59) rfl))) (notFace_of_selects (args := #[]) (mvT hZ (hw _ (List.mem_of_getElem? (i := 61) rfl)))) (mvT hZ (hw _ (List.mem_of_getElem? (i := 61) rfl))) (mvT hZ (hw _ (List.mem_of_getElem? (i := 60) rfl))) (by decide) (backOf (W := 0) (rm11 l Z a0 hw [] so cs tb kk (own_ln bx) (bx.map Value.int) h0 n0 Z0 O0 P1 (by first | assumption | decide | omega : ¬ cs = (0 : Int32)) P5 P6 P7 P8) hZ (hw _ (List.mem_of_getElem? (i := 62) rfl)) (hw _ (List.mem_of_getElem? (i := 6) rfl)) (by decide) (by decide)) q6a q6c (g := (mkF m 37 #[.val (.ref so), .val (.ref sq)] [(.ref so)])) rfl (by rw [hml]; rfl) (Steps.refl _) (argsL := []) (rest := []) (lenOf own_pd7 rfl) rfl (by show 2 * 0 + _ ≤ _; exact Nat.le_of_eq rfl) (hb hby d10_37) (fun _ _ => ⟨rfl, hh4, (by decide : 0 + 0 ≤ _), (by decide : 0 + 0 ≤ _)⟩)
      dsimp only [Pt.U, Pt.locs, Pt.cells, Pt.slots] at X6 l6 y6 z6 st6 hQ6
      subst l6 y6 z6
      obtain ⟨rfl, Nq6, hh6⟩ := hQ6
      obtain ⟨lc6, Xh6, N6⟩ := own_hide X6 (Fr.app N4 Nq6)
      clear X6
      refine Go.hop st6 ?_
      show Go p.tables e below P T6 (mkF m 40 #[.val (.ref so), .val (.ref sq)] [(.int (own_ln bx))])
      refine Go.via (fun t k => XS.iconst Xh6.here hx rfl (hb hby d10_40) k) ?_
      show Go p.tables e below P T6 (mkF m 41 #[.val (.ref so), .val (.ref sq)] [(.int (2 : Int32)), (.int (own_ln bx))])
      by_cases hc7 : (own_ln bx) < (2 : Int32)
      · refine Go.via (fun t k => XS.icmpYes Xh6.here hx rfl (pc0 := 41) (pc' := 59) rfl (hb hby d10_41) rfl (tlt hc7).1 (by decide) (by decide) k) ?_
        show Go p.tables e below P T6 (mkF m 59 #[.val (.ref so), .val (.ref sq)] [])
        refine Go.via (fun t k => XS.iconst Xh6.here hx rfl (hb hby d10_59) k) ?_
        show Go p.tables e below P T6 (mkF m 60 #[.val (.ref so), .val (.ref sq)] [(.int (1 : Int32))])
        obtain ⟨fs, hr, hrun, hended, hW, hsame⟩ := Xh6.leave (v := some (.int (if bx = bz then (1 : Int32) else (0 : Int32)))) (fun h => by rw [Bd.returns] at h; cases h)
        refine ⟨_, _, retZ Xh6 hx (t := .boolean) Bd.returns (by simp) (hb hby d10_60) (show nar .boolean (1 : Int32) = _ from (if_pos (own_same smx smz hc3 (Or.inl hc5) (Or.inl hc7))).symm) hr, hrun, hended, hP _ _ ⟨_, _, rfl, ?_, ⟨_, rfl⟩, hW, hsame.mono (by decide) (by decide)⟩⟩
        show Q10 Z so sq cs tb tc kk kc bx bz fm h0 n0 _ T6.heap _
        rw [hh6]
        exact ⟨rfl, N6, rfl⟩
      · refine Go.via (fun t k => XS.icmpNo Xh6.here hx rfl (hb hby d10_41) rfl (flt hc7).1 k) ?_
        show Go p.tables e below P T6 (mkF m 44 #[.val (.ref so), .val (.ref sq)] [])
        refine Go.via (fun t k => XS.aloadN Xh6.here hx rfl (hb hby d10_44) rfl rfl k) ?_
        show Go p.tables e below P T6 (mkF m 45 #[.val (.ref so), .val (.ref sq)] [(.ref so)])
        refine Go.via (fun t k => XS.iconst Xh6.here hx rfl (hb hby d10_45) k) ?_
        show Go p.tables e below P T6 (mkF m 46 #[.val (.ref so), .val (.ref sq)] [(.int (1 : Int32)), (.ref so)])
        obtain ⟨cq9, kq9, q9a, q9b, q9c⟩ := isOf hZ hh6 P5
        obtain ⟨_, _, ⟨T9, L9, k9, n9⟩, -, X9, ⟨Lc9, hQ9, l9, y9, z9⟩, st9⟩ := Xh6.virtualBack hx (y := (⟨"java/lang/String", "charAt", "(I)C"⟩ : MethodName)) (z := (⟨"java/lang/String", "charAt", "(I)C"⟩ : MethodName)) hown (mvT hZ (hw _ (List.mem_of_getElem? (i := 68) rfl))) (mvT hZ (hw _ (List.mem_of_getElem? (i := 69) rfl))) (notFace_of_selects (args := #[]) (mvT hZ (hw _ (List.mem_of_getElem? (i := 71) rfl)))) (mvT hZ (hw _ (List.mem_of_getElem? (i := 71) rfl))) (mvT hZ (hw _ (List.mem_of_getElem? (i := 70) rfl))) (by decide) (backOf (W := 0) (rm13 l Z a0 hw [] so (1 : Int32) fm cs tb kk (own_ln bx) (bx.map Value.int) (bx.getD 1 0) h0 n0 Z0 O0 P1 (by first | assumption | decide | omega : ¬ cs = (0 : Int32)) P3 (by first | assumption | decide | omega : fm.isRef = true) P5 P6 P7 P8 (by decide) (own_p1 smx hc7) (own_gD bx 1)) hZ (hw _ (List.mem_of_getElem? (i := 72) rfl)) (hw _ (List.mem_of_getElem? (i := 6) rfl)) (by decide) (by decide)) q9a q9c (g := (mkF m 46 #[.val (.ref so), .val (.ref sq)] [(.int (1 : Int32)), (.ref so)])) rfl (by rw [hml]; rfl) (Steps.refl _) (argsL := [(.int (1 : Int32))]) (rest := []) (lenOf own_pd8 rfl) rfl (by show 2 * 0 + _ ≤ _; exact Nat.le_of_eq rfl) (hb hby d10_46) (fun _ _ => ⟨rfl, hh6, (by decide : 0 + 0 ≤ _), (by decide : 0 + 0 ≤ _)⟩)
        dsimp only [Pt.U, Pt.locs, Pt.cells, Pt.slots] at X9 l9 y9 z9 st9 hQ9
        subst l9 y9 z9
        obtain ⟨rfl, Nq9, hh9⟩ := hQ9
        obtain ⟨lc9, Xh9, N9⟩ := own_hide X9 (Fr.app N6 Nq9)
        clear X9
        refine Go.hop st9 ?_
        show Go p.tables e below P T9 (mkF m 49 #[.val (.ref so), .val (.ref sq)] [(.int ((bx.getD 1 0) &&& (255 : Int32)))])
        refine Go.via (fun t k => XS.aloadN Xh9.here hx rfl (hb hby d10_49) rfl rfl k) ?_
        show Go p.tables e below P T9 (mkF m 50 #[.val (.ref so), .val (.ref sq)] [(.ref sq), (.int ((bx.getD 1 0) &&& (255 : Int32)))])
        refine Go.via (fun t k => XS.iconst Xh9.here hx rfl (hb hby d10_50) k) ?_
        show Go p.tables e below P T9 (mkF m 51 #[.val (.ref so), .val (.ref sq)] [(.int (1 : Int32)), (.ref sq), (.int ((bx.getD 1 0) &&& (255 : Int32)))])
        obtain ⟨cq10, kq10, q10a, q10b, q10c⟩ := isOf hZ hh9 P9
        obtain ⟨_, _, ⟨T10, L10, k10, n10⟩, -, X10, ⟨Lc10, hQ10, l10, y10, z10⟩, st10⟩ := Xh9.virtualBack hx (y := (⟨"java/lang/String", "charAt", "(I)C"⟩ : MethodName)) (z := (⟨"java/lang/String", "charAt", "(I)C"⟩ : MethodName)) hown (mvT hZ (hw _ (List.mem_of_getElem? (i := 68) rfl))) (mvT hZ (hw _ (List.mem_of_getElem? (i := 69) rfl))) (notFace_of_selects (args := #[]) (mvT hZ (hw _ (List.mem_of_getElem? (i := 71) rfl)))) (mvT hZ (hw _ (List.mem_of_getElem? (i := 71) rfl))) (mvT hZ (hw _ (List.mem_of_getElem? (i := 70) rfl))) (by decide) (backOf (W := 1) (rm13 l Z a0 hw [] sq (1 : Int32) fm cs tc kc (own_ln bz) (bz.map Value.int) (bz.getD 1 0) h0 n0 Z0 O0 P1 (by first | assumption | decide | omega : ¬ cs = (0 : Int32)) P3 (by first | assumption | decide | omega : fm.isRef = true) P9 P10 P11 P12 (by decide) (hc3 ▸ (own_p1 smx hc7)) (own_gD bz 1)) hZ (hw _ (List.mem_of_getElem? (i := 72) rfl)) (hw _ (List.mem_of_getElem? (i := 6) rfl)) (by decide) (by decide)) q10a q10c (g := (mkF m 51 #[.val (.ref so), .val (.ref sq)] [(.int (1 : Int32)), (.ref sq), (.int ((bx.getD 1 0) &&& (255 : Int32)))])) rfl (by rw [hml]; rfl) (Steps.refl _) (argsL := [(.int (1 : Int32))]) (rest := [(.int ((bx.getD 1 0) &&& (255 : Int32)))]) (lenOf own_pd8 rfl) rfl (by show 2 * 0 + _ ≤ _; exact Nat.le_of_eq rfl) (hb hby d10_51) (fun _ _ => ⟨rfl, hh9, (by decide : 0 + 0 ≤ _), (by decide : 0 + 0 ≤ _)⟩)
        dsimp only [Pt.U, Pt.locs, Pt.cells, Pt.slots] at X10 l10 y10 z10 st10 hQ10
        subst l10 y10 z10
        obtain ⟨rfl, Nq10, hh10⟩ := hQ10
        obtain ⟨lc10, Xh10, N10⟩ := own_hide X10 (Fr.app N9 Nq10)
        clear X10
        refine Go.hop st10 ?_
        show Go p.tables e below P T10 (mkF m 54 #[.val (.ref so), .val (.ref sq)] [(.int ((bz.getD 1 0) &&& (255 : Int32))), (.int ((bx.getD 1 0) &&& (255 : Int32)))])
        by_cases hc11 : ((bx.getD 1 0) &&& (255 : Int32)) = ((bz.getD 1 0) &&& (255 : Int32))
        · refine Go.via (fun t k => XS.icmpYes Xh10.here hx rfl (pc0 := 54) (pc' := 59) rfl (hb hby d10_54) rfl (teq hc11).1 (by decide) (by decide) k) ?_
          show Go p.tables e below P T10 (mkF m 59 #[.val (.ref so), .val (.ref sq)] [])
          refine Go.via (fun t k => XS.iconst Xh10.here hx rfl (hb hby d10_59) k) ?_
          show Go p.tables e below P T10 (mkF m 60 #[.val (.ref so), .val (.ref sq)] [(.int (1 : Int32))])
          obtain ⟨fs, hr, hrun, hended, hW, hsame⟩ := Xh10.leave (v := some (.int (if bx = bz then (1 : Int32) else (0 : Int32)))) (fun h => by rw [Bd.returns] at h; cases h)
          refine ⟨_, _, retZ Xh10 hx (t := .boolean) Bd.returns (by simp) (hb hby d10_60) (show nar .boolean (1 : Int32) = _ from (if_pos (own_same smx smz hc3 (Or.inl hc5) (Or.inr hc11))).symm) hr, hrun, hended, hP _ _ ⟨_, _, rfl, ?_, ⟨_, rfl⟩, hW, hsame.mono (by decide) (by decide)⟩⟩
          show Q10 Z so sq cs tb tc kk kc bx bz fm h0 n0 _ T10.heap _
          rw [hh10]
          exact ⟨rfl, N10, rfl⟩
        · refine Go.via (fun t k => XS.icmpNo Xh10.here hx rfl (hb hby d10_54) rfl (feq hc11).1 k) ?_
          show Go p.tables e below P T10 (mkF m 57 #[.val (.ref so), .val (.ref sq)] [])
          refine Go.via (fun t k => XS.iconst Xh10.here hx rfl (hb hby d10_57) k) ?_
          show Go p.tables e below P T10 (mkF m 58 #[.val (.ref so), .val (.ref sq)] [(.int (0 : Int32))])
          obtain ⟨fs, hr, hrun, hended, hW, hsame⟩ := Xh10.leave (v := some (.int (if bx = bz then (1 : Int32) else (0 : Int32)))) (fun h => by rw [Bd.returns] at h; cases h)
          refine ⟨_, _, retZ Xh10 hx (t := .boolean) Bd.returns (by simp) (hb hby d10_58) (show nar .boolean (0 : Int32) = _ from (if_neg (fun q => hc11 (by rw [q]))).symm) hr, hrun, hended, hP _ _ ⟨_, _, rfl, ?_, ⟨_, rfl⟩, hW, hsame.mono (by decide) (by decide)⟩⟩
          show Q10 Z so sq cs tb tc kk kc bx bz fm h0 n0 _ T10.heap _
          rw [hh10]
          exact ⟨rfl, N10, rfl⟩
    · refine Go.via (fun t k => XS.icmpNo Xh4.here hx rfl (hb hby d10_18) rfl (flt hc5).1 k) ?_
      show Go p.tables e below P T4 (mkF m 21 #[.val (.ref so), .val (.ref sq)] [])
      refine Go.via (fun t k => XS.aloadN Xh4.here hx rfl (hb hby d10_21) rfl rfl k) ?_
      show Go p.tables e below P T4 (mkF m 22 #[.val (.ref so), .val (.ref sq)] [(.ref so)])
      refine Go.via (fun t k => XS.iconst Xh4.here hx rfl (hb hby d10_22) k) ?_
      show Go p.tables e below P T4 (mkF m 23 #[.val (.ref so), .val (.ref sq)] [(.int (0 : Int32)), (.ref so)])
      obtain ⟨cq14, kq14, q14a, q14b, q14c⟩ := isOf hZ hh4 P5
      obtain ⟨_, _, ⟨T14, L14, k14, n14⟩, -, X14, ⟨Lc14, hQ14, l14, y14, z14⟩, st14⟩ := Xh4.virtualBack hx (y := (⟨"java/lang/String", "charAt", "(I)C"⟩ : MethodName)) (z := (⟨"java/lang/String", "charAt", "(I)C"⟩ : MethodName)) hown (mvT hZ (hw _ (List.mem_of_getElem? (i := 68) rfl))) (mvT hZ (hw _ (List.mem_of_getElem? (i := 69) rfl))) (notFace_of_selects (args := #[]) (mvT hZ (hw _ (List.mem_of_getElem? (i := 71) rfl)))) (mvT hZ (hw _ (List.mem_of_getElem? (i := 71) rfl))) (mvT hZ (hw _ (List.mem_of_getElem? (i := 70) rfl))) (by decide) (backOf (W := 0) (rm13 l Z a0 hw [] so (0 : Int32) fm cs tb kk (own_ln bx) (bx.map Value.int) (bx.getD 0 0) h0 n0 Z0 O0 P1 (by first | assumption | decide | omega : ¬ cs = (0 : Int32)) P3 (by first | assumption | decide | omega : fm.isRef = true) P5 P6 P7 P8 (by decide) (own_p0 smx hc5) (own_gD bx 0)) hZ (hw _ (List.mem_of_getElem? (i := 72) rfl)) (hw _ (List.mem_of_getElem? (i := 6) rfl)) (by decide) (by decide)) q14a q14c (g := (mkF m 23 #[.val (.ref so), .val (.ref sq)] [(.int (0 : Int32)), (.ref so)])) rfl (by rw [hml]; rfl) (Steps.refl _) (argsL := [(.int (0 : Int32))]) (rest := []) (lenOf own_pd8 rfl) rfl (by show 2 * 0 + _ ≤ _; exact Nat.le_of_eq rfl) (hb hby d10_23) (fun _ _ => ⟨rfl, hh4, (by decide : 0 + 0 ≤ _), (by decide : 0 + 0 ≤ _)⟩)
      dsimp only [Pt.U, Pt.locs, Pt.cells, Pt.slots] at X14 l14 y14 z14 st14 hQ14
      subst l14 y14 z14
      obtain ⟨rfl, Nq14, hh14⟩ := hQ14
      obtain ⟨lc14, Xh14, N14⟩ := own_hide X14 (Fr.app N4 Nq14)
      clear X14
      refine Go.hop st14 ?_
      show Go p.tables e below P T14 (mkF m 26 #[.val (.ref so), .val (.ref sq)] [(.int ((bx.getD 0 0) &&& (255 : Int32)))])
      refine Go.via (fun t k => XS.aloadN Xh14.here hx rfl (hb hby d10_26) rfl rfl k) ?_
      show Go p.tables e below P T14 (mkF m 27 #[.val (.ref so), .val (.ref sq)] [(.ref sq), (.int ((bx.getD 0 0) &&& (255 : Int32)))])
      refine Go.via (fun t k => XS.iconst Xh14.here hx rfl (hb hby d10_27) k) ?_
      show Go p.tables e below P T14 (mkF m 28 #[.val (.ref so), .val (.ref sq)] [(.int (0 : Int32)), (.ref sq), (.int ((bx.getD 0 0) &&& (255 : Int32)))])
      obtain ⟨cq15, kq15, q15a, q15b, q15c⟩ := isOf hZ hh14 P9
      obtain ⟨_, _, ⟨T15, L15, k15, n15⟩, -, X15, ⟨Lc15, hQ15, l15, y15, z15⟩, st15⟩ := Xh14.virtualBack hx (y := (⟨"java/lang/String", "charAt", "(I)C"⟩ : MethodName)) (z := (⟨"java/lang/String", "charAt", "(I)C"⟩ : MethodName)) hown (mvT hZ (hw _ (List.mem_of_getElem? (i := 68) rfl))) (mvT hZ (hw _ (List.mem_of_getElem? (i := 69) rfl))) (notFace_of_selects (args := #[]) (mvT hZ (hw _ (List.mem_of_getElem? (i := 71) rfl)))) (mvT hZ (hw _ (List.mem_of_getElem? (i := 71) rfl))) (mvT hZ (hw _ (List.mem_of_getElem? (i := 70) rfl))) (by decide) (backOf (W := 1) (rm13 l Z a0 hw [] sq (0 : Int32) fm cs tc kc (own_ln bz) (bz.map Value.int) (bz.getD 0 0) h0 n0 Z0 O0 P1 (by first | assumption | decide | omega : ¬ cs = (0 : Int32)) P3 (by first | assumption | decide | omega : fm.isRef = true) P9 P10 P11 P12 (by decide) (hc3 ▸ (own_p0 smx hc5)) (own_gD bz 0)) hZ (hw _ (List.mem_of_getElem? (i := 72) rfl)) (hw _ (List.mem_of_getElem? (i := 6) rfl)) (by decide) (by decide)) q15a q15c (g := (mkF m 28 #[.val (.ref so), .val (.ref sq)] [(.int (0 : Int32)), (.ref sq), (.int ((bx.getD 0 0) &&& (255 : Int32)))])) rfl (by rw [hml]; rfl) (Steps.refl _) (argsL := [(.int (0 : Int32))]) (rest := [(.int ((bx.getD 0 0) &&& (255 : Int32)))]) (lenOf own_pd8 rfl) rfl (by show 2 * 0 + _ ≤ _; exact Nat.le_of_eq rfl) (hb hby d10_28) (fun _ _ => ⟨rfl, hh14, (by decide : 0 + 0 ≤ _), (by decide : 0 + 0 ≤ _)⟩)
      dsimp only [Pt.U, Pt.locs, Pt.cells, Pt.slots] at X15 l15 y15 z15 st15 hQ15
      subst l15 y15 z15
      obtain ⟨rfl, Nq15, hh15⟩ := hQ15
      obtain ⟨lc15, Xh15, N15⟩ := own_hide X15 (Fr.app N14 Nq15)
      clear X15
      refine Go.hop st15 ?_
      show Go p.tables e below P T15 (mkF m 31 #[.val (.ref so), .val (.ref sq)] [(.int ((bz.getD 0 0) &&& (255 : Int32))), (.int ((bx.getD 0 0) &&& (255 : Int32)))])
      by_cases hc16 : ((bx.getD 0 0) &&& (255 : Int32)) = ((bz.getD 0 0) &&& (255 : Int32))
      · refine Go.via (fun t k => XS.icmpYes Xh15.here hx rfl (pc0 := 31) (pc' := 36) rfl (hb hby d10_31) rfl (teq hc16).1 (by decide) (by decide) k) ?_
        show Go p.tables e below P T15 (mkF m 36 #[.val (.ref so), .val (.ref sq)] [])
        refine Go.via (fun t k => XS.aloadN Xh15.here hx rfl (hb hby d10_36) rfl rfl k) ?_
        show Go p.tables e below P T15 (mkF m 37 #[.val (.ref so), .val (.ref sq)] [(.ref so)])
        obtain ⟨cq17, kq17, q17a, q17b, q17c⟩ := isOf hZ hh15 P5
        obtain ⟨_, _, ⟨T17, L17, k17, n17⟩, -, X17, ⟨Lc17, hQ17, l17, y17, z17⟩, st17⟩ := Xh15.virtualBack hx (y := (⟨"java/lang/String", "length", "()I"⟩ : MethodName)) (z := (⟨"java/lang/String", "length", "()I"⟩ : MethodName)) hown (mvT hZ (hw _ (List.mem_of_getElem? (i := 58) rfl))) (mvT hZ (hw _ (List.mem_of_getElem? (i := 59) rfl))) (notFace_of_selects (args := #[]) (mvT hZ (hw _ (List.mem_of_getElem? (i := 61) rfl)))) (mvT hZ (hw _ (List.mem_of_getElem? (i := 61) rfl))) (mvT hZ (hw _ (List.mem_of_getElem? (i := 60) rfl))) (by decide) (backOf (W := 0) (rm11 l Z a0 hw [] so cs tb kk (own_ln bx) (bx.map Value.int) h0 n0 Z0 O0 P1 (by first | assumption | decide | omega : ¬ cs = (0 : Int32)) P5 P6 P7 P8) hZ (hw _ (List.mem_of_getElem? (i := 62) rfl)) (hw _ (List.mem_of_getElem? (i := 6) rfl)) (by decide) (by decide)) q17a q17c (g := (mkF m 37 #[.val (.ref so), .val (.ref sq)] [(.ref so)])) rfl (by rw [hml]; rfl) (Steps.refl _) (argsL := []) (rest := []) (lenOf own_pd7 rfl) rfl (by show 2 * 0 + _ ≤ _; exact Nat.le_of_eq rfl) (hb hby d10_37) (fun _ _ => ⟨rfl, hh15, (by decide : 0 + 0 ≤ _), (by decide : 0 + 0 ≤ _)⟩)
        dsimp only [Pt.U, Pt.locs, Pt.cells, Pt.slots] at X17 l17 y17 z17 st17 hQ17
        subst l17 y17 z17
        obtain ⟨rfl, Nq17, hh17⟩ := hQ17
        obtain ⟨lc17, Xh17, N17⟩ := own_hide X17 (Fr.app N15 Nq17)
        clear X17
        refine Go.hop st17 ?_
        show Go p.tables e below P T17 (mkF m 40 #[.val (.ref so), .val (.ref sq)] [(.int (own_ln bx))])
        refine Go.via (fun t k => XS.iconst Xh17.here hx rfl (hb hby d10_40) k) ?_
        show Go p.tables e below P T17 (mkF m 41 #[.val (.ref so), .val (.ref sq)] [(.int (2 : Int32)), (.int (own_ln bx))])
        by_cases hc18 : (own_ln bx) < (2 : Int32)
        · refine Go.via (fun t k => XS.icmpYes Xh17.here hx rfl (pc0 := 41) (pc' := 59) rfl (hb hby d10_41) rfl (tlt hc18).1 (by decide) (by decide) k) ?_
          show Go p.tables e below P T17 (mkF m 59 #[.val (.ref so), .val (.ref sq)] [])
          refine Go.via (fun t k => XS.iconst Xh17.here hx rfl (hb hby d10_59) k) ?_
          show Go p.tables e below P T17 (mkF m 60 #[.val (.ref so), .val (.ref sq)] [(.int (1 : Int32))])
          obtain ⟨fs, hr, hrun, hended, hW, hsame⟩ := Xh17.leave (v := some (.int (if bx = bz then (1 : Int32) else (0 : Int32)))) (fun h => by rw [Bd.returns] at h; cases h)
          refine ⟨_, _, retZ Xh17 hx (t := .boolean) Bd.returns (by simp) (hb hby d10_60) (show nar .boolean (1 : Int32) = _ from (if_pos (own_same smx smz hc3 (Or.inr hc16) (Or.inl hc18))).symm) hr, hrun, hended, hP _ _ ⟨_, _, rfl, ?_, ⟨_, rfl⟩, hW, hsame.mono (by decide) (by decide)⟩⟩
          show Q10 Z so sq cs tb tc kk kc bx bz fm h0 n0 _ T17.heap _
          rw [hh17]
          exact ⟨rfl, N17, rfl⟩
        · refine Go.via (fun t k => XS.icmpNo Xh17.here hx rfl (hb hby d10_41) rfl (flt hc18).1 k) ?_
          show Go p.tables e below P T17 (mkF m 44 #[.val (.ref so), .val (.ref sq)] [])
          refine Go.via (fun t k => XS.aloadN Xh17.here hx rfl (hb hby d10_44) rfl rfl k) ?_
          show Go p.tables e below P T17 (mkF m 45 #[.val (.ref so), .val (.ref sq)] [(.ref so)])
          refine Go.via (fun t k => XS.iconst Xh17.here hx rfl (hb hby d10_45) k) ?_
          show Go p.tables e below P T17 (mkF m 46 #[.val (.ref so), .val (.ref sq)] [(.int (1 : Int32)), (.ref so)])
          obtain ⟨cq20, kq20, q20a, q20b, q20c⟩ := isOf hZ hh17 P5
          obtain ⟨_, _, ⟨T20, L20, k20, n20⟩, -, X20, ⟨Lc20, hQ20, l20, y20, z20⟩, st20⟩ := Xh17.virtualBack hx (y := (⟨"java/lang/String", "charAt", "(I)C"⟩ : MethodName)) (z := (⟨"java/lang/String", "charAt", "(I)C"⟩ : MethodName)) hown (mvT hZ (hw _ (List.mem_of_getElem? (i := 68) rfl))) (mvT hZ (hw _ (List.mem_of_getElem? (i := 69) rfl))) (notFace_of_selects (args := #[]) (mvT hZ (hw _ (List.mem_of_getElem? (i := 71) rfl)))) (mvT hZ (hw _ (List.mem_of_getElem? (i := 71) rfl))) (mvT hZ (hw _ (List.mem_of_getElem? (i := 70) rfl))) (by decide) (backOf (W := 0) (rm13 l Z a0 hw [] so (1 : Int32) fm cs tb kk (own_ln bx) (bx.map Value.int) (bx.getD 1 0) h0 n0 Z0 O0 P1 (by first | assumption | decide | omega : ¬ cs = (0 : Int32)) P3 (by first | assumption | decide | omega : fm.isRef = true) P5 P6 P7 P8 (by decide) (own_p1 smx hc18) (own_gD bx 1)) hZ (hw _ (List.mem_of_getElem? (i := 72) rfl)) (hw _ (List.mem_of_getElem? (i := 6) rfl)) (by decide) (by decide)) q20a q20c (g := (mkF m 46 #[.val (.ref so), .val (.ref sq)] [(.int (1 : Int32)), (.ref so)])) rfl (by rw [hml]; rfl) (Steps.refl _) (argsL := [(.int (1 : Int32))]) (rest := []) (lenOf own_pd8 rfl) rfl (by show 2 * 0 + _ ≤ _; exact Nat.le_of_eq rfl) (hb hby d10_46) (fun _ _ => ⟨rfl, hh17, (by decide : 0 + 0 ≤ _), (by decide : 0 + 0 ≤ _)⟩)
          dsimp only [Pt.U, Pt.locs, Pt.cells, Pt.slots] at X20 l20 y20 z20 st20 hQ20
          subst l20 y20 z20
          obtain ⟨rfl, Nq20, hh20⟩ := hQ20
          obtain ⟨lc20, Xh20, N20⟩ := own_hide X20 (Fr.app N17 Nq20)
          clear X20
          refine Go.hop st20 ?_
          show Go p.tables e below P T20 (mkF m 49 #[.val (.ref so), .val (.ref sq)] [(.int ((bx.getD 1 0) &&& (255 : Int32)))])
          refine Go.via (fun t k => XS.aloadN Xh20.here hx rfl (hb hby d10_49) rfl rfl k) ?_
          show Go p.tables e below P T20 (mkF m 50 #[.val (.ref so), .val (.ref sq)] [(.ref sq), (.int ((bx.getD 1 0) &&& (255 : Int32)))])
          refine Go.via (fun t k => XS.iconst Xh20.here hx rfl (hb hby d10_50) k) ?_
          show Go p.tables e below P T20 (mkF m 51 #[.val (.ref so), .val (.ref sq)] [(.int (1 : Int32)), (.ref sq), (.int ((bx.getD 1 0) &&& (255 : Int32)))])
          obtain ⟨cq21, kq21, q21a, q21b, q21c⟩ := isOf hZ hh20 P9
          obtain ⟨_, _, ⟨T21, L21, k21, n21⟩, -, X21, ⟨Lc21, hQ21, l21, y21, z21⟩, st21⟩ := Xh20.virtualBack hx (y := (⟨"java/lang/String", "charAt", "(I)C"⟩ : MethodName)) (z := (⟨"java/lang/String", "charAt", "(I)C"⟩ : MethodName)) hown (mvT hZ (hw _ (List.mem_of_getElem? (i := 68) rfl))) (mvT hZ (hw _ (List.mem_of_getElem? (i := 69) rfl))) (notFace_of_selects (args := #[]) (mvT hZ (hw _ (List.mem_of_getElem? (i := 71) rfl)))) (mvT hZ (hw _ (List.mem_of_getElem? (i := 71) rfl))) (mvT hZ (hw _ (List.mem_of_getElem? (i := 70) rfl))) (by decide) (backOf (W := 1) (rm13 l Z a0 hw [] sq (1 : Int32) fm cs tc kc (own_ln bz) (bz.map Value.int) (bz.getD 1 0) h0 n0 Z0 O0 P1 (by first | assumption | decide | omega : ¬ cs = (0 : Int32)) P3 (by first | assumption | decide | omega : fm.isRef = true) P9 P10 P11 P12 (by decide) (hc3 ▸ (own_p1 smx hc18)) (own_gD bz 1)) hZ (hw _ (List.mem_of_getElem? (i := 72) rfl)) (hw _ (List.mem_of_getElem? (i := 6) rfl)) (by decide) (by decide)) q21a q21c (g := (mkF m 51 #[.val (.ref so), .val (.ref sq)] [(.int (1 : Int32)), (.ref sq), (.int ((bx.getD 1 0) &&& (255 : Int32)))])) rfl (by rw [hml]; rfl) (Steps.refl _) (argsL := [(.int (1 : Int32))]) (rest := [(.int ((bx.getD 1 0) &&& (255 : Int32)))]) (lenOf own_pd8 rfl) rfl (by show 2 * 0 + _ ≤ _; exact Nat.le_of_eq rfl) (hb hby d10_51) (fun _ _ => ⟨rfl, hh20, (by decide : 0 + 0 ≤ _), (by decide : 0 + 0 ≤ _)⟩)
          dsimp only [Pt.U, Pt.locs, Pt.cells, Pt.slots] at X21 l21 y21 z21 st21 hQ21
          subst l21 y21 z21
          obtain ⟨rfl, Nq21, hh21⟩ := hQ21
          obtain ⟨lc21, Xh21, N21⟩ := own_hide X21 (Fr.app N20 Nq21)
          clear X21
          refine Go.hop st21 ?_
          show Go p.tables e below P T21 (mkF m 54 #[.val (.ref so), .val (.ref sq)] [(.int ((bz.getD 1 0) &&& (255 : Int32))), (.int ((bx.getD 1 0) &&& (255 : Int32)))])
          by_cases hc22 : ((bx.getD 1 0) &&& (255 : Int32)) = ((bz.getD 1 0) &&& (255 : Int32))
          · refine Go.via (fun t k => XS.icmpYes Xh21.here hx rfl (pc0 := 54) (pc' := 59) rfl (hb hby d10_54) rfl (teq hc22).1 (by decide) (by decide) k) ?_
            show Go p.tables e below P T21 (mkF m 59 #[.val (.ref so), .val (.ref sq)] [])
            refine Go.via (fun t k => XS.iconst Xh21.here hx rfl (hb hby d10_59) k) ?_
            show Go p.tables e below P T21 (mkF m 60 #[.val (.ref so), .val (.ref sq)] [(.int (1 : Int32))])
            obtain ⟨fs, hr, hrun, hended, hW, hsame⟩ := Xh21.leave (v := some (.int (if bx = bz then (1 : Int32) else (0 : Int32)))) (fun h => by rw [Bd.returns] at h; cases h)
            refine ⟨_, _, retZ Xh21 hx (t := .boolean) Bd.returns (by simp) (hb hby d10_60) (show nar .boolean (1 : Int32) = _ from (if_pos (own_same smx smz hc3 (Or.inr hc16) (Or.inr hc22))).symm) hr, hrun, hended, hP _ _ ⟨_, _, rfl, ?_, ⟨_, rfl⟩, hW, hsame.mono (by decide) (by decide)⟩⟩
            show Q10 Z so sq cs tb tc kk kc bx bz fm h0 n0 _ T21.heap _
            rw [hh21]
            exact ⟨rfl, N21, rfl⟩
          · refine Go.via (fun t k => XS.icmpNo Xh21.here hx rfl (hb hby d10_54) rfl (feq hc22).1 k) ?_
            show Go p.tables e below P T21 (mkF m 57 #[.val (.ref so), .val (.ref sq)] [])
            refine Go.via (fun t k => XS.iconst Xh21.here hx rfl (hb hby d10_57) k) ?_
            show Go p.tables e below P T21 (mkF m 58 #[.val (.ref so), .val (.ref sq)] [(.int (0 : Int32))])
            obtain ⟨fs, hr, hrun, hended, hW, hsame⟩ := Xh21.leave (v := some (.int (if bx = bz then (1 : Int32) else (0 : Int32)))) (fun h => by rw [Bd.returns] at h; cases h)
            refine ⟨_, _, retZ Xh21 hx (t := .boolean) Bd.returns (by simp) (hb hby d10_58) (show nar .boolean (0 : Int32) = _ from (if_neg (fun q => hc22 (by rw [q]))).symm) hr, hrun, hended, hP _ _ ⟨_, _, rfl, ?_, ⟨_, rfl⟩, hW, hsame.mono (by decide) (by decide)⟩⟩
            show Q10 Z so sq cs tb tc kk kc bx bz fm h0 n0 _ T21.heap _
            rw [hh21]
            exact ⟨rfl, N21, rfl⟩
      · refine Go.via (fun t k => XS.icmpNo Xh15.here hx rfl (hb hby d10_31) rfl (feq hc16).1 k) ?_
        show Go p.tables e below P T15 (mkF m 34 #[.val (.ref so), .val (.ref sq)] [])
        refine Go.via (fun t k => XS.iconst Xh15.here hx rfl (hb hby d10_34) k) ?_
        show Go p.tables e below P T15 (mkF m 35 #[.val (.ref so), .val (.ref sq)] [(.int (0 : Int32))])
        obtain ⟨fs, hr, hrun, hended, hW, hsame⟩ := Xh15.leave (v := some (.int (if bx = bz then (1 : Int32) else (0 : Int32)))) (fun h => by rw [Bd.returns] at h; cases h)
        refine ⟨_, _, retZ Xh15 hx (t := .boolean) Bd.returns (by simp) (hb hby d10_35) (show nar .boolean (0 : Int32) = _ from (if_neg (fun q => hc16 (by rw [q]))).symm) hr, hrun, hended, hP _ _ ⟨_, _, rfl, ?_, ⟨_, rfl⟩, hW, hsame.mono (by decide) (by decide)⟩⟩
        show Q10 Z so sq cs tb tc kk kc bx bz fm h0 n0 _ T15.heap _
        rw [hh15]
        exact ⟨rfl, N15, rfl⟩
  · refine Go.via (fun t k => XS.icmpNo Xh2.here hx rfl (hb hby d10_8) rfl (feq hc3).1 k) ?_
    show Go p.tables e below P T2 (mkF m 11 #[.val (.ref so), .val (.ref sq)] [])
    refine Go.via (fun t k => XS.iconst Xh2.here hx rfl (hb hby d10_11) k) ?_
    show Go p.tables e below P T2 (mkF m 12 #[.val (.ref so), .val (.ref sq)] [(.int (0 : Int32))])
    obtain ⟨fs, hr, hrun, hended, hW, hsame⟩ := Xh2.leave (v := some (.int (if bx = bz then (1 : Int32) else (0 : Int32)))) (fun h => by rw [Bd.returns] at h; cases h)
    refine ⟨_, _, retZ Xh2 hx (t := .boolean) Bd.returns (by simp) (hb hby d10_12) (show nar .boolean (0 : Int32) = _ from (if_neg (fun q => hc3 (congrArg own_ln q))).symm) hr, hrun, hended, hP _ _ ⟨_, _, rfl, ?_, ⟨_, rfl⟩, hW, hsame.mono (by decide) (by decide)⟩⟩
    show Q10 Z so sq cs tb tc kk kc bx bz fm h0 n0 _ T2.heap _
    rw [hh2]
    exact ⟨rfl, N2, rfl⟩
theorem d19_0 : decode jdk_43_method_13_code 0 = .ok (.aload_n 0, 1) := by decide +kernel
theorem d19_1 : decode jdk_43_method_13_code 1 = .ok (.arraylength, 1) := by decide +kernel
theorem d19_2 : decode jdk_43_method_13_code 2 = .ok (.aload_n 1, 1) := by decide +kernel
theorem d19_3 : decode jdk_43_method_13_code 3 = .ok (.arraylength, 1) := by decide +kernel
theorem d19_4 : decode jdk_43_method_13_code 4 = .ok (.if_icmp .ne 30, 3) := by decide +kernel
theorem d19_7 : decode jdk_43_method_13_code 7 = .ok (.iconst 0, 1) := by decide +kernel
theorem d19_8 : decode jdk_43_method_13_code 8 = .ok (.istore_n 2, 1) := by decide +kernel
theorem d19_9 : decode jdk_43_method_13_code 9 = .ok (.iload_n 2, 1) := by decide +kernel
theorem d19_10 : decode jdk_43_method_13_code 10 = .ok (.aload_n 0, 1) := by decide +kernel
theorem d19_11 : decode jdk_43_method_13_code 11 = .ok (.arraylength, 1) := by decide +kernel
theorem d19_12 : decode jdk_43_method_13_code 12 = .ok (.if_icmp .ge 20, 3) := by decide +kernel
theorem d19_15 : decode jdk_43_method_13_code 15 = .ok (.aload_n 0, 1) := by decide +kernel
theorem d19_16 : decode jdk_43_method_13_code 16 = .ok (.iload_n 2, 1) := by decide +kernel
theorem d19_17 : decode jdk_43_method_13_code 17 = .ok (.baload, 1) := by decide +kernel
theorem d19_18 : decode jdk_43_method_13_code 18 = .ok (.aload_n 1, 1) := by decide +kernel
theorem d19_19 : decode jdk_43_method_13_code 19 = .ok (.iload_n 2, 1) := by decide +kernel
theorem d19_20 : decode jdk_43_method_13_code 20 = .ok (.baload, 1) := by decide +kernel
theorem d19_21 : decode jdk_43_method_13_code 21 = .ok (.if_icmp .eq 5, 3) := by decide +kernel
theorem d19_24 : decode jdk_43_method_13_code 24 = .ok (.iconst 0, 1) := by decide +kernel
theorem d19_25 : decode jdk_43_method_13_code 25 = .ok (.ireturn, 1) := by decide +kernel
theorem d19_26 : decode jdk_43_method_13_code 26 = .ok (.iinc 2 1, 3) := by decide +kernel
theorem d19_29 : decode jdk_43_method_13_code 29 = .ok (.goto (-20), 3) := by decide +kernel
theorem d19_32 : decode jdk_43_method_13_code 32 = .ok (.iconst 1, 1) := by decide +kernel
theorem d19_33 : decode jdk_43_method_13_code 33 = .ok (.ireturn, 1) := by decide +kernel
theorem d19_34 : decode jdk_43_method_13_code 34 = .ok (.iconst 0, 1) := by decide +kernel
theorem d19_35 : decode jdk_43_method_13_code 35 = .ok (.ireturn, 1) := by decide +kernel
theorem ef_19 (m : MethodId) (x0 : Addr) (x1 : Addr) : entryFrame m #[(.ref x0), (.ref x1)] 3 = mkF m 0 #[.val (.ref x0), .val (.ref x1), .unset] [] := by first | (simp [entryFrame, mkF, argsToLocals, Value.category]; done) | rfl
def Q19 (Z : State) (tb : Addr) (tc : Addr) (kk : ClassId) (kc : ClassId) (bx : List Int32) (bz : List Int32) (h0 : Heap) (n0 : Nat) (v : Option Value) (h : Heap) (L : List Loc) : Prop := v = some (.int (if bx = bz then (1 : Int32) else (0 : Int32))) ∧ Fr n0 L ∧ h = h0
set_option maxRecDepth 65536 in
set_option maxHeartbeats 40000000 in
theorem rm19 (l : Launch) (Z : State) (a0 : Array Value) (hw : ∀ d ∈ tables_1, d.before a0 Z = true) (ws : List Jvm.Cond) (tb : Addr) (tc : Addr) (kk : ClassId) (kc : ClassId) (bx : List Int32) (bz : List Int32) (h0 : Heap) (n0 : Nat) (Z0 : n0 ≤ h0.size) (P0 : Arv Z h0 tb kk .byte (own_ln bx) (bx.map Value.int) (.int (0 : Int32))) (P1 : Arv Z h0 tc kc .byte (own_ln bz) (bz.map Value.int) (.int (0 : Int32))) (smx : own_sm bx) (smz : own_sm bz) :
    MetFree l (⟨"java/lang/StringLatin1", "equals", "([B[B)Z"⟩ : MethodName) (head1 (Jvm.Cond.code (⟨"java/lang/StringLatin1", "equals", "([B[B)Z"⟩ : MethodName) jdk_43_method_13_code 3 (some .boolean) :: ws) ({ frames := 0, cells := 0, slots := 0, locals := 0 } : Room)) (fun a U => a = #[(.ref tb), (.ref tc)] ∧ Z.Warmed39 U.vm ∧ U.heap = h0) (fun _ _ _ _ _ => True) (fun _ U o U' => ∃ v L, o = .returned v ∧ Q19 Z tb tc kk kc bx bz h0 n0 v U'.heap L ∧ FrameEnd U o U' L ({ frames := 0, cells := 0, slots := 0, locals := 0 } : Room).cells ({ frames := 0, cells := 0, slots := 0, locals := 0 } : Room).slots) := by
  refine MetFree.of_bodySF (plainFor_of_name own_pn3) hisR ?_
  intro p e s m args below meth c s₁ Bd hml0 hP hK
  obtain ⟨rfl, hZ, hh⟩ := hP
  have hx := Bd.exec
  have hby := Bd.bytes
  have hml : c.maxLocals = 3 := hml0
  have hown : s.vm.findClass "java/lang/StringLatin1" = some m.cls := findClass_of_methodNamed Bd.named
  have hnm := (name_of_methodNamed Bd.named Bd.method).1
  have X0 : Stand p l e ({ frames := 0, cells := 0, slots := 0, locals := 0 } : Room) s m #[(.ref tb), (.ref tc)] below meth c s₁ [] 0 0 := Stand.of_body Bd
  have e0 : s₁.heap = h0 := by rw [← hh, Bd.state]; rfl
  have N0 := Fr.nil n0
  have K0 : Keep h0 h0 [] := Keep.refl _ _
  suffices GO : ∀ P : Outcome → State → Prop, (∀ o U', (∃ v L, o = .returned v ∧ Q19 Z tb tc kk kc bx bz h0 n0 v U'.heap L ∧ FrameEnd s o U' L ({ frames := 0, cells := 0, slots := 0, locals := 0 } : Room).cells ({ frames := 0, cells := 0, slots := 0, locals := 0 } : Room).slots) → P o U') → Go p.tables e below P s₁ (mkF m 0 #[.val (.ref tb), .val (.ref tc), .unset] []) by
    obtain ⟨s2, o, st, r⟩ := GO _ (fun _ _ q => q)
    exact ⟨s2, o, castTop (ef_19 m tb tc) st, r⟩
  clear hh
  intro P hP
  show Go p.tables e below P s₁ (mkF m 0 #[.val (.ref tb), .val (.ref tc), .unset] [])
  refine Go.via (fun t k => XS.aloadN X0.here hx rfl (hb hby d19_0) rfl rfl k) ?_
  show Go p.tables e below P s₁ (mkF m 1 #[.val (.ref tb), .val (.ref tc), .unset] [(.ref tb)])
  obtain ⟨c1, A1, -, S1, N1, -, -⟩ := id P0
  refine Go.via (fun t k => X0.arraylength hx (by rw [e0]; exact A1.1) (State.isArrayOf_alike hZ.alike A1.2.1) (g := (mkF m 1 #[.val (.ref tb), .val (.ref tc), .unset] [(.ref tb)])) rfl rfl (hb hby d19_1) t (by rw [len_of S1 N1]; exact k)) ?_
  show Go p.tables e below P s₁ (mkF m 2 #[.val (.ref tb), .val (.ref tc), .unset] [(.int (own_ln bx))])
  refine Go.via (fun t k => XS.aloadN X0.here hx rfl (hb hby d19_2) rfl rfl k) ?_
  show Go p.tables e below P s₁ (mkF m 3 #[.val (.ref tb), .val (.ref tc), .unset] [(.ref tc), (.int (own_ln bx))])
  obtain ⟨c2, A2, -, S2, N2, -, -⟩ := id P1
  refine Go.via (fun t k => X0.arraylength hx (by rw [e0]; exact A2.1) (State.isArrayOf_alike hZ.alike A2.2.1) (g := (mkF m 3 #[.val (.ref tb), .val (.ref tc), .unset] [(.ref tc), (.int (own_ln bx))])) rfl rfl (hb hby d19_3) t (by rw [len_of S2 N2]; exact k)) ?_
  show Go p.tables e below P s₁ (mkF m 4 #[.val (.ref tb), .val (.ref tc), .unset] [(.int (own_ln bz)), (.int (own_ln bx))])
  by_cases hc3 : (own_ln bx) = (own_ln bz)
  · refine Go.via (fun t k => XS.icmpNo X0.here hx rfl (hb hby d19_4) rfl (teq hc3).2 k) ?_
    show Go p.tables e below P s₁ (mkF m 7 #[.val (.ref tb), .val (.ref tc), .unset] [])
    refine Go.via (fun t k => XS.iconst X0.here hx rfl (hb hby d19_7) k) ?_
    show Go p.tables e below P s₁ (mkF m 8 #[.val (.ref tb), .val (.ref tc), .unset] [(.int (0 : Int32))])
    refine Go.via (fun t k => XS.istoreN X0.here hx rfl (hb hby d19_8) rfl (l' := #[.val (.ref tb), .val (.ref tc), .val (.int (0 : Int32))]) rfl k) ?_
    show Go p.tables e below P s₁ (mkF m 9 #[.val (.ref tb), .val (.ref tc), .val (.int (0 : Int32))] [])
    refine Go.via (fun t k => XS.iloadN X0.here hx rfl (hb hby d19_9) rfl k) ?_
    show Go p.tables e below P s₁ (mkF m 10 #[.val (.ref tb), .val (.ref tc), .val (.int (0 : Int32))] [(.int (0 : Int32))])
    refine Go.via (fun t k => XS.aloadN X0.here hx rfl (hb hby d19_10) rfl rfl k) ?_
    show Go p.tables e below P s₁ (mkF m 11 #[.val (.ref tb), .val (.ref tc), .val (.int (0 : Int32))] [(.ref tb), (.int (0 : Int32))])
    obtain ⟨c4, A4, -, S4, N4, -, -⟩ := id P0
    refine Go.via (fun t k => X0.arraylength hx (by rw [e0]; exact A4.1) (State.isArrayOf_alike hZ.alike A4.2.1) (g := (mkF m 11 #[.val (.ref tb), .val (.ref tc), .val (.int (0 : Int32))] [(.ref tb), (.int (0 : Int32))])) rfl rfl (hb hby d19_11) t (by rw [len_of S4 N4]; exact k)) ?_
    show Go p.tables e below P s₁ (mkF m 12 #[.val (.ref tb), .val (.ref tc), .val (.int (0 : Int32))] [(.int (own_ln bx)), (.int (0 : Int32))])
    by_cases hc5 : (0 : Int32) < (own_ln bx)
    · refine Go.via (fun t k => XS.icmpNo X0.here hx rfl (hb hby d19_12) rfl (tlt hc5).2.1 k) ?_
      show Go p.tables e below P s₁ (mkF m 15 #[.val (.ref tb), .val (.ref tc), .val (.int (0 : Int32))] [])
      refine Go.via (fun t k => XS.aloadN X0.here hx rfl (hb hby d19_15) rfl rfl k) ?_
      show Go p.tables e below P s₁ (mkF m 16 #[.val (.ref tb), .val (.ref tc), .val (.int (0 : Int32))] [(.ref tb)])
      refine Go.via (fun t k => XS.iloadN X0.here hx rfl (hb hby d19_16) rfl k) ?_
      show Go p.tables e below P s₁ (mkF m 17 #[.val (.ref tb), .val (.ref tc), .val (.int (0 : Int32))] [(.int (0 : Int32)), (.ref tb)])
      obtain ⟨c6, A6, q6, S6, N6, H6, G6⟩ := id P0
      have hin6 : ¬ ((0 : Int32) < 0 ∨ c6.slots.size ≤ ((0 : Int32)).toNatClampNeg) := inb_of S6 ⟨by decide, hc5⟩
      have hat6 : c6.slots[((0 : Int32)).toNatClampNeg]? = some (.int (bx.getD 0 0)) := (H6 _ (Nat.lt_of_not_le fun q => hin6 (Or.inr q))).trans (congrArg some (own_gD bx 0))
      refine Go.via (fun t k => X0.baloadBytes hx (j := (0 : Int32)) (v := (.int (bx.getD 0 0))) (by rw [e0]; exact A6.1) (State.isArrayOf_alike hZ.alike A6.2.1) A6.2.2 hin6 hat6 (g := (mkF m 17 #[.val (.ref tb), .val (.ref tc), .val (.int (0 : Int32))] [(.int (0 : Int32)), (.ref tb)])) rfl rfl (hb hby d19_17) t k) ?_
      show Go p.tables e below P s₁ (mkF m 18 #[.val (.ref tb), .val (.ref tc), .val (.int (0 : Int32))] [(.int (bx.getD 0 0))])
      refine Go.via (fun t k => XS.aloadN X0.here hx rfl (hb hby d19_18) rfl rfl k) ?_
      show Go p.tables e below P s₁ (mkF m 19 #[.val (.ref tb), .val (.ref tc), .val (.int (0 : Int32))] [(.ref tc), (.int (bx.getD 0 0))])
      refine Go.via (fun t k => XS.iloadN X0.here hx rfl (hb hby d19_19) rfl k) ?_
      show Go p.tables e below P s₁ (mkF m 20 #[.val (.ref tb), .val (.ref tc), .val (.int (0 : Int32))] [(.int (0 : Int32)), (.ref tc), (.int (bx.getD 0 0))])
      obtain ⟨c7, A7, q7, S7, N7, H7, G7⟩ := id P1
      have hin7 : ¬ ((0 : Int32) < 0 ∨ c7.slots.size ≤ ((0 : Int32)).toNatClampNeg) := inb_of S7 ⟨by decide, hc3 ▸ hc5⟩
      have hat7 : c7.slots[((0 : Int32)).toNatClampNeg]? = some (.int (bz.getD 0 0)) := (H7 _ (Nat.lt_of_not_le fun q => hin7 (Or.inr q))).trans (congrArg some (own_gD bz 0))
      refine Go.via (fun t k => X0.baloadBytes hx (j := (0 : Int32)) (v := (.int (bz.getD 0 0))) (by rw [e0]; exact A7.1) (State.isArrayOf_alike hZ.alike A7.2.1) A7.2.2 hin7 hat7 (g := (mkF m 20 #[.val (.ref tb), .val (.ref tc), .val (.int (0 : Int32))] [(.int (0 : Int32)), (.ref tc), (.int (bx.getD 0 0))])) rfl rfl (hb hby d19_20) t k) ?_
      show Go p.tables e below P s₁ (mkF m 21 #[.val (.ref tb), .val (.ref tc), .val (.int (0 : Int32))] [(.int (bz.getD 0 0)), (.int (bx.getD 0 0))])
      by_cases hc8 : (bx.getD 0 0) = (bz.getD 0 0)
      · refine Go.via (fun t k => XS.icmpYes X0.here hx rfl (pc0 := 21) (pc' := 26) rfl (hb hby d19_21) rfl (teq hc8).1 (by decide) (by decide) k) ?_
        show Go p.tables e below P s₁ (mkF m 26 #[.val (.ref tb), .val (.ref tc), .val (.int (0 : Int32))] [])
        refine Go.via (fun t k => XS.iinc X0.here hx rfl (hb hby d19_26) rfl (l' := #[.val (.ref tb), .val (.ref tc), .val (.int ((0 : Int32) + (1 : Int32)))]) rfl k) ?_
        show Go p.tables e below P s₁ (mkF m 29 #[.val (.ref tb), .val (.ref tc), .val (.int ((0 : Int32) + (1 : Int32)))] [])
        refine Go.via (fun t k => XS.goto X0.here hx rfl (pc0 := 29) (pc' := 9) rfl (hb hby d19_29) (by decide) (by decide) k) ?_
        show Go p.tables e below P s₁ (mkF m 9 #[.val (.ref tb), .val (.ref tc), .val (.int ((0 : Int32) + (1 : Int32)))] [])
        refine Go.via (fun t k => XS.iloadN X0.here hx rfl (hb hby d19_9) rfl k) ?_
        show Go p.tables e below P s₁ (mkF m 10 #[.val (.ref tb), .val (.ref tc), .val (.int ((0 : Int32) + (1 : Int32)))] [(.int ((0 : Int32) + (1 : Int32)))])
        refine Go.via (fun t k => XS.aloadN X0.here hx rfl (hb hby d19_10) rfl rfl k) ?_
        show Go p.tables e below P s₁ (mkF m 11 #[.val (.ref tb), .val (.ref tc), .val (.int ((0 : Int32) + (1 : Int32)))] [(.ref tb), (.int ((0 : Int32) + (1 : Int32)))])
        obtain ⟨c9, A9, -, S9, N9, -, -⟩ := id P0
        refine Go.via (fun t k => X0.arraylength hx (by rw [e0]; exact A9.1) (State.isArrayOf_alike hZ.alike A9.2.1) (g := (mkF m 11 #[.val (.ref tb), .val (.ref tc), .val (.int ((0 : Int32) + (1 : Int32)))] [(.ref tb), (.int ((0 : Int32) + (1 : Int32)))])) rfl rfl (hb hby d19_11) t (by rw [len_of S9 N9]; exact k)) ?_
        show Go p.tables e below P s₁ (mkF m 12 #[.val (.ref tb), .val (.ref tc), .val (.int ((0 : Int32) + (1 : Int32)))] [(.int (own_ln bx)), (.int ((0 : Int32) + (1 : Int32)))])
        by_cases hc10 : ((0 : Int32) + (1 : Int32)) < (own_ln bx)
        · refine Go.via (fun t k => XS.icmpNo X0.here hx rfl (hb hby d19_12) rfl (tlt hc10).2.1 k) ?_
          show Go p.tables e below P s₁ (mkF m 15 #[.val (.ref tb), .val (.ref tc), .val (.int ((0 : Int32) + (1 : Int32)))] [])
          refine Go.via (fun t k => XS.aloadN X0.here hx rfl (hb hby d19_15) rfl rfl k) ?_
          show Go p.tables e below P s₁ (mkF m 16 #[.val (.ref tb), .val (.ref tc), .val (.int ((0 : Int32) + (1 : Int32)))] [(.ref tb)])
          refine Go.via (fun t k => XS.iloadN X0.here hx rfl (hb hby d19_16) rfl k) ?_
          show Go p.tables e below P s₁ (mkF m 17 #[.val (.ref tb), .val (.ref tc), .val (.int ((0 : Int32) + (1 : Int32)))] [(.int ((0 : Int32) + (1 : Int32))), (.ref tb)])
          obtain ⟨c11, A11, q11, S11, N11, H11, G11⟩ := id P0
          have hin11 : ¬ (((0 : Int32) + (1 : Int32)) < 0 ∨ c11.slots.size ≤ (((0 : Int32) + (1 : Int32))).toNatClampNeg) := inb_of S11 ⟨by decide, hc10⟩
          have hat11 : c11.slots[(((0 : Int32) + (1 : Int32))).toNatClampNeg]? = some (.int (bx.getD 1 0)) := (H11 _ (Nat.lt_of_not_le fun q => hin11 (Or.inr q))).trans (congrArg some (own_gD bx 1))
          refine Go.via (fun t k => X0.baloadBytes hx (j := ((0 : Int32) + (1 : Int32))) (v := (.int (bx.getD 1 0))) (by rw [e0]; exact A11.1) (State.isArrayOf_alike hZ.alike A11.2.1) A11.2.2 hin11 hat11 (g := (mkF m 17 #[.val (.ref tb), .val (.ref tc), .val (.int ((0 : Int32) + (1 : Int32)))] [(.int ((0 : Int32) + (1 : Int32))), (.ref tb)])) rfl rfl (hb hby d19_17) t k) ?_
          show Go p.tables e below P s₁ (mkF m 18 #[.val (.ref tb), .val (.ref tc), .val (.int ((0 : Int32) + (1 : Int32)))] [(.int (bx.getD 1 0))])
          refine Go.via (fun t k => XS.aloadN X0.here hx rfl (hb hby d19_18) rfl rfl k) ?_
          show Go p.tables e below P s₁ (mkF m 19 #[.val (.ref tb), .val (.ref tc), .val (.int ((0 : Int32) + (1 : Int32)))] [(.ref tc), (.int (bx.getD 1 0))])
          refine Go.via (fun t k => XS.iloadN X0.here hx rfl (hb hby d19_19) rfl k) ?_
          show Go p.tables e below P s₁ (mkF m 20 #[.val (.ref tb), .val (.ref tc), .val (.int ((0 : Int32) + (1 : Int32)))] [(.int ((0 : Int32) + (1 : Int32))), (.ref tc), (.int (bx.getD 1 0))])
          obtain ⟨c12, A12, q12, S12, N12, H12, G12⟩ := id P1
          have hin12 : ¬ (((0 : Int32) + (1 : Int32)) < 0 ∨ c12.slots.size ≤ (((0 : Int32) + (1 : Int32))).toNatClampNeg) := inb_of S12 ⟨by decide, hc3 ▸ hc10⟩
          have hat12 : c12.slots[(((0 : Int32) + (1 : Int32))).toNatClampNeg]? = some (.int (bz.getD 1 0)) := (H12 _ (Nat.lt_of_not_le fun q => hin12 (Or.inr q))).trans (congrArg some (own_gD bz 1))
          refine Go.via (fun t k => X0.baloadBytes hx (j := ((0 : Int32) + (1 : Int32))) (v := (.int (bz.getD 1 0))) (by rw [e0]; exact A12.1) (State.isArrayOf_alike hZ.alike A12.2.1) A12.2.2 hin12 hat12 (g := (mkF m 20 #[.val (.ref tb), .val (.ref tc), .val (.int ((0 : Int32) + (1 : Int32)))] [(.int ((0 : Int32) + (1 : Int32))), (.ref tc), (.int (bx.getD 1 0))])) rfl rfl (hb hby d19_20) t k) ?_
          show Go p.tables e below P s₁ (mkF m 21 #[.val (.ref tb), .val (.ref tc), .val (.int ((0 : Int32) + (1 : Int32)))] [(.int (bz.getD 1 0)), (.int (bx.getD 1 0))])
          by_cases hc13 : (bx.getD 1 0) = (bz.getD 1 0)
          · refine Go.via (fun t k => XS.icmpYes X0.here hx rfl (pc0 := 21) (pc' := 26) rfl (hb hby d19_21) rfl (teq hc13).1 (by decide) (by decide) k) ?_
            show Go p.tables e below P s₁ (mkF m 26 #[.val (.ref tb), .val (.ref tc), .val (.int ((0 : Int32) + (1 : Int32)))] [])
            refine Go.via (fun t k => XS.iinc X0.here hx rfl (hb hby d19_26) rfl (l' := #[.val (.ref tb), .val (.ref tc), .val (.int (((0 : Int32) + (1 : Int32)) + (1 : Int32)))]) rfl k) ?_
            show Go p.tables e below P s₁ (mkF m 29 #[.val (.ref tb), .val (.ref tc), .val (.int (((0 : Int32) + (1 : Int32)) + (1 : Int32)))] [])
            refine Go.via (fun t k => XS.goto X0.here hx rfl (pc0 := 29) (pc' := 9) rfl (hb hby d19_29) (by decide) (by decide) k) ?_
            show Go p.tables e below P s₁ (mkF m 9 #[.val (.ref tb), .val (.ref tc), .val (.int (((0 : Int32) + (1 : Int32)) + (1 : Int32)))] [])
            refine Go.via (fun t k => XS.iloadN X0.here hx rfl (hb hby d19_9) rfl k) ?_
            show Go p.tables e below P s₁ (mkF m 10 #[.val (.ref tb), .val (.ref tc), .val (.int (((0 : Int32) + (1 : Int32)) + (1 : Int32)))] [(.int (((0 : Int32) + (1 : Int32)) + (1 : Int32)))])
            refine Go.via (fun t k => XS.aloadN X0.here hx rfl (hb hby d19_10) rfl rfl k) ?_
            show Go p.tables e below P s₁ (mkF m 11 #[.val (.ref tb), .val (.ref tc), .val (.int (((0 : Int32) + (1 : Int32)) + (1 : Int32)))] [(.ref tb), (.int (((0 : Int32) + (1 : Int32)) + (1 : Int32)))])
            obtain ⟨c14, A14, -, S14, N14, -, -⟩ := id P0
            refine Go.via (fun t k => X0.arraylength hx (by rw [e0]; exact A14.1) (State.isArrayOf_alike hZ.alike A14.2.1) (g := (mkF m 11 #[.val (.ref tb), .val (.ref tc), .val (.int (((0 : Int32) + (1 : Int32)) + (1 : Int32)))] [(.ref tb), (.int (((0 : Int32) + (1 : Int32)) + (1 : Int32)))])) rfl rfl (hb hby d19_11) t (by rw [len_of S14 N14]; exact k)) ?_
            show Go p.tables e below P s₁ (mkF m 12 #[.val (.ref tb), .val (.ref tc), .val (.int (((0 : Int32) + (1 : Int32)) + (1 : Int32)))] [(.int (own_ln bx)), (.int (((0 : Int32) + (1 : Int32)) + (1 : Int32)))])
            refine Go.via (fun t k => XS.icmpYes X0.here hx rfl (pc0 := 12) (pc' := 32) rfl (hb hby d19_12) rfl (flt (own_l2 smx)).2.1 (by decide) (by decide) k) ?_
            show Go p.tables e below P s₁ (mkF m 32 #[.val (.ref tb), .val (.ref tc), .val (.int (((0 : Int32) + (1 : Int32)) + (1 : Int32)))] [])
            refine Go.via (fun t k => XS.iconst X0.here hx rfl (hb hby d19_32) k) ?_
            show Go p.tables e below P s₁ (mkF m 33 #[.val (.ref tb), .val (.ref tc), .val (.int (((0 : Int32) + (1 : Int32)) + (1 : Int32)))] [(.int (1 : Int32))])
            obtain ⟨fs, hr, hrun, hended, hW, hsame⟩ := X0.leave (v := some (.int (if bx = bz then (1 : Int32) else (0 : Int32)))) (fun h => by rw [Bd.returns] at h; cases h)
            refine ⟨_, _, retZ X0 hx (t := .boolean) Bd.returns (by simp) (hb hby d19_33) (show nar .boolean (1 : Int32) = _ from (if_pos (own_eqb smx smz hc3 (Or.inr hc8) (Or.inr hc13))).symm) hr, hrun, hended, hP _ _ ⟨_, _, rfl, ?_, ⟨_, rfl⟩, hW, hsame.mono (by decide) (by decide)⟩⟩
            show Q19 Z tb tc kk kc bx bz h0 n0 _ s₁.heap _
            rw [e0]
            exact ⟨rfl, N0, rfl⟩
          · refine Go.via (fun t k => XS.icmpNo X0.here hx rfl (hb hby d19_21) rfl (feq hc13).1 k) ?_
            show Go p.tables e below P s₁ (mkF m 24 #[.val (.ref tb), .val (.ref tc), .val (.int ((0 : Int32) + (1 : Int32)))] [])
            refine Go.via (fun t k => XS.iconst X0.here hx rfl (hb hby d19_24) k) ?_
            show Go p.tables e below P s₁ (mkF m 25 #[.val (.ref tb), .val (.ref tc), .val (.int ((0 : Int32) + (1 : Int32)))] [(.int (0 : Int32))])
            obtain ⟨fs, hr, hrun, hended, hW, hsame⟩ := X0.leave (v := some (.int (if bx = bz then (1 : Int32) else (0 : Int32)))) (fun h => by rw [Bd.returns] at h; cases h)
            refine ⟨_, _, retZ X0 hx (t := .boolean) Bd.returns (by simp) (hb hby d19_25) (show nar .boolean (0 : Int32) = _ from (if_neg (fun q => hc13 (by rw [q]))).symm) hr, hrun, hended, hP _ _ ⟨_, _, rfl, ?_, ⟨_, rfl⟩, hW, hsame.mono (by decide) (by decide)⟩⟩
            show Q19 Z tb tc kk kc bx bz h0 n0 _ s₁.heap _
            rw [e0]
            exact ⟨rfl, N0, rfl⟩
        · refine Go.via (fun t k => XS.icmpYes X0.here hx rfl (pc0 := 12) (pc' := 32) rfl (hb hby d19_12) rfl (flt hc10).2.1 (by decide) (by decide) k) ?_
          show Go p.tables e below P s₁ (mkF m 32 #[.val (.ref tb), .val (.ref tc), .val (.int ((0 : Int32) + (1 : Int32)))] [])
          refine Go.via (fun t k => XS.iconst X0.here hx rfl (hb hby d19_32) k) ?_
          show Go p.tables e below P s₁ (mkF m 33 #[.val (.ref tb), .val (.ref tc), .val (.int ((0 : Int32) + (1 : Int32)))] [(.int (1 : Int32))])
          obtain ⟨fs, hr, hrun, hended, hW, hsame⟩ := X0.leave (v := some (.int (if bx = bz then (1 : Int32) else (0 : Int32)))) (fun h => by rw [Bd.returns] at h; cases h)
          refine ⟨_, _, retZ X0 hx (t := .boolean) Bd.returns (by simp) (hb hby d19_33) (show nar .boolean (1 : Int32) = _ from (if_pos (own_eqb smx smz hc3 (Or.inr hc8) (Or.inl hc10))).symm) hr, hrun, hended, hP _ _ ⟨_, _, rfl, ?_, ⟨_, rfl⟩, hW, hsame.mono (by decide) (by decide)⟩⟩
          show Q19 Z tb tc kk kc bx bz h0 n0 _ s₁.heap _
          rw [e0]
          exact ⟨rfl, N0, rfl⟩
      · refine Go.via (fun t k => XS.icmpNo X0.here hx rfl (hb hby d19_21) rfl (feq hc8).1 k) ?_
        show Go p.tables e below P s₁ (mkF m 24 #[.val (.ref tb), .val (.ref tc), .val (.int (0 : Int32))] [])
        refine Go.via (fun t k => XS.iconst X0.here hx rfl (hb hby d19_24) k) ?_
        show Go p.tables e below P s₁ (mkF m 25 #[.val (.ref tb), .val (.ref tc), .val (.int (0 : Int32))] [(.int (0 : Int32))])
        obtain ⟨fs, hr, hrun, hended, hW, hsame⟩ := X0.leave (v := some (.int (if bx = bz then (1 : Int32) else (0 : Int32)))) (fun h => by rw [Bd.returns] at h; cases h)
        refine ⟨_, _, retZ X0 hx (t := .boolean) Bd.returns (by simp) (hb hby d19_25) (show nar .boolean (0 : Int32) = _ from (if_neg (fun q => hc8 (by rw [q]))).symm) hr, hrun, hended, hP _ _ ⟨_, _, rfl, ?_, ⟨_, rfl⟩, hW, hsame.mono (by decide) (by decide)⟩⟩
        show Q19 Z tb tc kk kc bx bz h0 n0 _ s₁.heap _
        rw [e0]
        exact ⟨rfl, N0, rfl⟩
    · refine Go.via (fun t k => XS.icmpYes X0.here hx rfl (pc0 := 12) (pc' := 32) rfl (hb hby d19_12) rfl (flt hc5).2.1 (by decide) (by decide) k) ?_
      show Go p.tables e below P s₁ (mkF m 32 #[.val (.ref tb), .val (.ref tc), .val (.int (0 : Int32))] [])
      refine Go.via (fun t k => XS.iconst X0.here hx rfl (hb hby d19_32) k) ?_
      show Go p.tables e below P s₁ (mkF m 33 #[.val (.ref tb), .val (.ref tc), .val (.int (0 : Int32))] [(.int (1 : Int32))])
      obtain ⟨fs, hr, hrun, hended, hW, hsame⟩ := X0.leave (v := some (.int (if bx = bz then (1 : Int32) else (0 : Int32)))) (fun h => by rw [Bd.returns] at h; cases h)
      refine ⟨_, _, retZ X0 hx (t := .boolean) Bd.returns (by simp) (hb hby d19_33) (show nar .boolean (1 : Int32) = _ from (if_pos (own_eqb smx smz hc3 (Or.inl hc5) (Or.inl (own_lt01 hc5)))).symm) hr, hrun, hended, hP _ _ ⟨_, _, rfl, ?_, ⟨_, rfl⟩, hW, hsame.mono (by decide) (by decide)⟩⟩
      show Q19 Z tb tc kk kc bx bz h0 n0 _ s₁.heap _
      rw [e0]
      exact ⟨rfl, N0, rfl⟩
  · refine Go.via (fun t k => XS.icmpYes X0.here hx rfl (pc0 := 4) (pc' := 34) rfl (hb hby d19_4) rfl (feq hc3).2 (by decide) (by decide) k) ?_
    show Go p.tables e below P s₁ (mkF m 34 #[.val (.ref tb), .val (.ref tc), .unset] [])
    refine Go.via (fun t k => XS.iconst X0.here hx rfl (hb hby d19_34) k) ?_
    show Go p.tables e below P s₁ (mkF m 35 #[.val (.ref tb), .val (.ref tc), .unset] [(.int (0 : Int32))])
    obtain ⟨fs, hr, hrun, hended, hW, hsame⟩ := X0.leave (v := some (.int (if bx = bz then (1 : Int32) else (0 : Int32)))) (fun h => by rw [Bd.returns] at h; cases h)
    refine ⟨_, _, retZ X0 hx (t := .boolean) Bd.returns (by simp) (hb hby d19_35) (show nar .boolean (0 : Int32) = _ from (if_neg (fun q => hc3 (congrArg own_ln q))).symm) hr, hrun, hended, hP _ _ ⟨_, _, rfl, ?_, ⟨_, rfl⟩, hW, hsame.mono (by decide) (by decide)⟩⟩
    show Q19 Z tb tc kk kc bx bz h0 n0 _ s₁.heap _
    rw [e0]
    exact ⟨rfl, N0, rfl⟩
theorem own_pd9 : parseMethodDescriptor "([B[B)Z" = some ⟨[(.array .byte), (.array .byte)], some .boolean⟩ := by decide +kernel
theorem d18_0 : decode jdk_42_method_66_code 0 = .ok (.aload_n 0, 1) := by decide +kernel
theorem d18_1 : decode jdk_42_method_66_code 1 = .ok (.aload_n 1, 1) := by decide +kernel
theorem d18_2 : decode jdk_42_method_66_code 2 = .ok (.if_acmp .ne 5, 3) := by decide +kernel
theorem d18_5 : decode jdk_42_method_66_code 5 = .ok (.iconst 1, 1) := by decide +kernel
theorem d18_6 : decode jdk_42_method_66_code 6 = .ok (.ireturn, 1) := by decide +kernel
theorem d18_7 : decode jdk_42_method_66_code 7 = .ok (.aload_n 1, 1) := by decide +kernel
theorem d18_8 : decode jdk_42_method_66_code 8 = .ok (.instanceof 10, 3) := by decide +kernel
theorem d18_11 : decode jdk_42_method_66_code 11 = .ok (.ifCond .eq 43, 3) := by decide +kernel
theorem d18_14 : decode jdk_42_method_66_code 14 = .ok (.aload_n 1, 1) := by decide +kernel
theorem d18_15 : decode jdk_42_method_66_code 15 = .ok (.checkcast 10, 3) := by decide +kernel
theorem d18_18 : decode jdk_42_method_66_code 18 = .ok (.astore_n 2, 1) := by decide +kernel
theorem d18_19 : decode jdk_42_method_66_code 19 = .ok (.getstatic 38, 3) := by decide +kernel
theorem d18_22 : decode jdk_42_method_66_code 22 = .ok (.ifCond .eq 14, 3) := by decide +kernel
theorem d18_25 : decode jdk_42_method_66_code 25 = .ok (.aload_n 0, 1) := by decide +kernel
theorem d18_26 : decode jdk_42_method_66_code 26 = .ok (.getfield 15, 3) := by decide +kernel
theorem d18_29 : decode jdk_42_method_66_code 29 = .ok (.aload_n 2, 1) := by decide +kernel
theorem d18_30 : decode jdk_42_method_66_code 30 = .ok (.getfield 15, 3) := by decide +kernel
theorem d18_33 : decode jdk_42_method_66_code 33 = .ok (.if_icmp .ne 21, 3) := by decide +kernel
theorem d18_36 : decode jdk_42_method_66_code 36 = .ok (.aload_n 0, 1) := by decide +kernel
theorem d18_37 : decode jdk_42_method_66_code 37 = .ok (.getfield 9, 3) := by decide +kernel
theorem d18_40 : decode jdk_42_method_66_code 40 = .ok (.aload_n 2, 1) := by decide +kernel
theorem d18_41 : decode jdk_42_method_66_code 41 = .ok (.getfield 9, 3) := by decide +kernel
theorem d18_44 : decode jdk_42_method_66_code 44 = .ok (.invokestatic 541, 3) := by decide +kernel
theorem d18_47 : decode jdk_42_method_66_code 47 = .ok (.ifCond .eq 7, 3) := by decide +kernel
theorem d18_50 : decode jdk_42_method_66_code 50 = .ok (.iconst 1, 1) := by decide +kernel
theorem d18_51 : decode jdk_42_method_66_code 51 = .ok (.goto 4, 3) := by decide +kernel
theorem d18_54 : decode jdk_42_method_66_code 54 = .ok (.iconst 0, 1) := by decide +kernel
theorem d18_55 : decode jdk_42_method_66_code 55 = .ok (.ireturn, 1) := by decide +kernel
theorem ef_18 (m : MethodId) (x0 : Addr) (x1 : Addr) : entryFrame m #[(.ref x0), (.ref x1)] 3 = mkF m 0 #[.val (.ref x0), .val (.ref x1), .unset] [] := by first | (simp [entryFrame, mkF, argsToLocals, Value.category]; done) | rfl
def Q18 (Z : State) (so : Addr) (sq : Addr) (cs : Int32) (tb : Addr) (tc : Addr) (kk : ClassId) (kc : ClassId) (bx : List Int32) (bz : List Int32) (h0 : Heap) (n0 : Nat) (v : Option Value) (h : Heap) (L : List Loc) : Prop := v = some (.int (if bx = bz then (1 : Int32) else (0 : Int32))) ∧ Fr n0 L ∧ h = h0
set_option maxRecDepth 65536 in
set_option maxHeartbeats 40000000 in
theorem rm18 (l : Launch) (Z : State) (a0 : Array Value) (hw : ∀ d ∈ tables_1, d.before a0 Z = true) (ws : List Jvm.Cond) (so : Addr) (sq : Addr) (cs : Int32) (tb : Addr) (tc : Addr) (kk : ClassId) (kc : ClassId) (bx : List Int32) (bz : List Int32) (h0 : Heap) (n0 : Nat) (Z0 : n0 ≤ h0.size) (O0 : Old Z n0 h0) (P1 : Sta Z Z.heap "java/lang/String" "COMPACT_STRINGS" "Z" (.int cs)) (hcs : ¬ cs = (0 : Int32)) (P3 : Exa Z h0 so "java/lang/String") (P4 : Fld Z h0 so "java/lang/String" "value" "[B" (.ref tb)) (P5 : Fld Z h0 so "java/lang/String" "coder" "B" (.int (0 : Int32))) (P6 : Arv Z h0 tb kk .byte (own_ln bx) (bx.map Value.int) (.int (0 : Int32))) (P7 : Exa Z h0 sq "java/lang/String") (P8 : Fld Z h0 sq "java/lang/String" "value" "[B" (.ref tc)) (P9 : Fld Z h0 sq "java/lang/String" "coder" "B" (.int (0 : Int32))) (P10 : Arv Z h0 tc kc .byte (own_ln bz) (bz.map Value.int) (.int (0 : Int32))) (smx : own_sm bx) (smz : own_sm bz) (hsm_ : so = sq → bx = bz) :
    MetFree l (⟨"java/lang/String", "equals", "(Ljava/lang/Object;)Z"⟩ : MethodName) (head1 (Jvm.Cond.code (⟨"java/lang/String", "equals", "(Ljava/lang/Object;)Z"⟩ : MethodName) jdk_42_method_66_code 3 (some .boolean) :: ws) ({ frames := 1, cells := 0, slots := 0, locals := 14 } : Room)) (fun a U => a = #[(.ref so), (.ref sq)] ∧ Z.Warmed39 U.vm ∧ U.heap = h0) (fun _ _ _ _ _ => True) (fun _ U o U' => ∃ v L, o = .returned v ∧ Q18 Z so sq cs tb tc kk kc bx bz h0 n0 v U'.heap L ∧ FrameEnd U o U' L ({ frames := 1, cells := 0, slots := 0, locals := 14 } : Room).cells ({ frames := 1, cells := 0, slots := 0, locals := 14 } : Room).slots) := by
  refine MetFree.of_bodySF (plainFor_of_name own_pn0) hisR ?_
  intro p e s m args below meth c s₁ Bd hml0 hP hK
  obtain ⟨rfl, hZ, hh⟩ := hP
  have hx := Bd.exec
  have hby := Bd.bytes
  have hml : c.maxLocals = 3 := hml0
  have hown : s.vm.findClass "java/lang/String" = some m.cls := findClass_of_methodNamed Bd.named
  have hnm := (name_of_methodNamed Bd.named Bd.method).1
  have X0 : Stand p l e ({ frames := 1, cells := 0, slots := 0, locals := 14 } : Room) s m #[(.ref so), (.ref sq)] below meth c s₁ [] 0 0 := Stand.of_body Bd
  have e0 : s₁.heap = h0 := by rw [← hh, Bd.state]; rfl
  have N0 := Fr.nil n0
  have K0 : Keep h0 h0 [] := Keep.refl _ _
  suffices GO : ∀ P : Outcome → State → Prop, (∀ o U', (∃ v L, o = .returned v ∧ Q18 Z so sq cs tb tc kk kc bx bz h0 n0 v U'.heap L ∧ FrameEnd s o U' L ({ frames := 1, cells := 0, slots := 0, locals := 14 } : Room).cells ({ frames := 1, cells := 0, slots := 0, locals := 14 } : Room).slots) → P o U') → Go p.tables e below P s₁ (mkF m 0 #[.val (.ref so), .val (.ref sq), .unset] []) by
    obtain ⟨s2, o, st, r⟩ := GO _ (fun _ _ q => q)
    exact ⟨s2, o, castTop (ef_18 m so sq) st, r⟩
  clear hh
  intro P hP
  show Go p.tables e below P s₁ (mkF m 0 #[.val (.ref so), .val (.ref sq), .unset] [])
  refine Go.via (fun t k => XS.aloadN X0.here hx rfl (hb hby d18_0) rfl rfl k) ?_
  show Go p.tables e below P s₁ (mkF m 1 #[.val (.ref so), .val (.ref sq), .unset] [(.ref so)])
  refine Go.via (fun t k => XS.aloadN X0.here hx rfl (hb hby d18_1) rfl rfl k) ?_
  show Go p.tables e below P s₁ (mkF m 2 #[.val (.ref so), .val (.ref sq), .unset] [(.ref sq), (.ref so)])
  by_cases hc1 : ((.ref so) : Value) = (.ref sq)
  · refine Go.via (fun t k => Jvm.RoadKit.acmp (g := (mkF m 2 #[.val (.ref so), .val (.ref sq), .unset] [(.ref sq), (.ref so)])) X0 hx rfl rfl rfl (pc0 := 2) (pc' := 5) (same := true) rfl (hb hby d18_2) rfl (decide_eq_true hc1) (by decide) (by decide) k) ?_
    show Go p.tables e below P s₁ (mkF m 5 #[.val (.ref so), .val (.ref sq), .unset] [])
    refine Go.via (fun t k => XS.iconst X0.here hx rfl (hb hby d18_5) k) ?_
    show Go p.tables e below P s₁ (mkF m 6 #[.val (.ref so), .val (.ref sq), .unset] [(.int (1 : Int32))])
    obtain ⟨fs, hr, hrun, hended, hW, hsame⟩ := X0.leave (v := some (.int (if bx = bz then (1 : Int32) else (0 : Int32)))) (fun h => by rw [Bd.returns] at h; cases h)
    refine ⟨_, _, retZ X0 hx (t := .boolean) Bd.returns (by simp) (hb hby d18_6) (show nar .boolean (1 : Int32) = _ from (if_pos (hsm_ (Value.ref.inj hc1))).symm) hr, hrun, hended, hP _ _ ⟨_, _, rfl, ?_, ⟨_, rfl⟩, hW, hsame.mono (by decide) (by decide)⟩⟩
    show Q18 Z so sq cs tb tc kk kc bx bz h0 n0 _ s₁.heap _
    rw [e0]
    exact ⟨rfl, N0, rfl⟩
  · refine Go.via (fun t k => Jvm.RoadKit.acmp (g := (mkF m 2 #[.val (.ref so), .val (.ref sq), .unset] [(.ref sq), (.ref so)])) X0 hx rfl rfl rfl (pc0 := 2) (pc' := 7) (same := false) rfl (hb hby d18_2) rfl (decide_eq_false hc1) (by decide) (by decide) k) ?_
    show Go p.tables e below P s₁ (mkF m 7 #[.val (.ref so), .val (.ref sq), .unset] [])
    refine Go.via (fun t k => XS.aloadN X0.here hx rfl (hb hby d18_7) rfl rfl k) ?_
    show Go p.tables e below P s₁ (mkF m 8 #[.val (.ref so), .val (.ref sq), .unset] [(.ref sq)])
    obtain ⟨T3, X3, e3, st3⟩ := instY X0 hx hZ hown (hw _ (List.mem_of_getElem? (i := 97) rfl)) e0 (Ins.self P7) (g := (mkF m 8 #[.val (.ref so), .val (.ref sq), .unset] [(.ref sq)])) rfl rfl (hb hby d18_8)
    refine Go.via st3 ?_
    show Go p.tables e below P T3 (mkF m 11 #[.val (.ref so), .val (.ref sq), .unset] [(.int (1 : Int32))])
    refine Go.via (fun t k => XS.ifNo X3.here hx rfl (hb hby d18_11) rfl ((if0 _ _).trans (feq (by decide : ¬ ((1 : Int32) = (0 : Int32)))).1) k) ?_
    show Go p.tables e below P T3 (mkF m 14 #[.val (.ref so), .val (.ref sq), .unset] [])
    refine Go.via (fun t k => XS.aloadN X3.here hx rfl (hb hby d18_14) rfl rfl k) ?_
    show Go p.tables e below P T3 (mkF m 15 #[.val (.ref so), .val (.ref sq), .unset] [(.ref sq)])
    obtain ⟨T4, X4, e4, st4⟩ := castY X3 hx hZ hown (hw _ (List.mem_of_getElem? (i := 97) rfl)) e3 (Ins.self P7) (g := (mkF m 15 #[.val (.ref so), .val (.ref sq), .unset] [(.ref sq)])) rfl rfl (hb hby d18_15)
    refine Go.via st4 ?_
    show Go p.tables e below P T4 (mkF m 18 #[.val (.ref so), .val (.ref sq), .unset] [(.ref sq)])
    refine Go.via (fun t k => XS.astoreN X4.here hx rfl (hb hby d18_18) rfl rfl (l' := #[.val (.ref so), .val (.ref sq), .val (.ref sq)]) rfl k) ?_
    show Go p.tables e below P T4 (mkF m 19 #[.val (.ref so), .val (.ref sq), .val (.ref sq)] [])
    obtain ⟨T5, X5, e5, st5⟩ := getS2 X4 hx hZ hown (host := "") (Or.inl (hw _ (List.mem_of_getElem? (i := 44) rfl))) Via.refl e4 (P1.ext O0.2) (g := (mkF m 19 #[.val (.ref so), .val (.ref sq), .val (.ref sq)] [])) rfl (hb hby d18_19)
    refine Go.via st5 ?_
    show Go p.tables e below P T5 (mkF m 22 #[.val (.ref so), .val (.ref sq), .val (.ref sq)] [(.int cs)])
    refine Go.via (fun t k => XS.ifNo X5.here hx rfl (hb hby d18_22) rfl ((if0 _ _).trans (feq hcs).1) k) ?_
    show Go p.tables e below P T5 (mkF m 25 #[.val (.ref so), .val (.ref sq), .val (.ref sq)] [])
    refine Go.via (fun t k => XS.aloadN X5.here hx rfl (hb hby d18_25) rfl rfl k) ?_
    show Go p.tables e below P T5 (mkF m 26 #[.val (.ref so), .val (.ref sq), .val (.ref sq)] [(.ref so)])
    obtain ⟨T6, X6, e6, st6⟩ := getF X5 hx hZ hown (host := "") (Or.inl (hw _ (List.mem_of_getElem? (i := 25) rfl))) Via.refl e5 P5 (g := (mkF m 26 #[.val (.ref so), .val (.ref sq), .val (.ref sq)] [(.ref so)])) rfl rfl (hb hby d18_26)
    refine Go.via st6 ?_
    show Go p.tables e below P T6 (mkF m 29 #[.val (.ref so), .val (.ref sq), .val (.ref sq)] [(.int (0 : Int32))])
    refine Go.via (fun t k => XS.aloadN X6.here hx rfl (hb hby d18_29) rfl rfl k) ?_
    show Go p.tables e below P T6 (mkF m 30 #[.val (.ref so), .val (.ref sq), .val (.ref sq)] [(.ref sq), (.int (0 : Int32))])
    obtain ⟨T7, X7, e7, st7⟩ := getF X6 hx hZ hown (host := "") (Or.inl (hw _ (List.mem_of_getElem? (i := 25) rfl))) Via.refl e6 P9 (g := (mkF m 30 #[.val (.ref so), .val (.ref sq), .val (.ref sq)] [(.ref sq), (.int (0 : Int32))])) rfl rfl (hb hby d18_30)
    refine Go.via st7 ?_
    show Go p.tables e below P T7 (mkF m 33 #[.val (.ref so), .val (.ref sq), .val (.ref sq)] [(.int (0 : Int32)), (.int (0 : Int32))])
    refine Go.via (fun t k => XS.icmpNo X7.here hx rfl (hb hby d18_33) rfl (teq (rfl : (0 : Int32) = (0 : Int32))).2 k) ?_
    show Go p.tables e below P T7 (mkF m 36 #[.val (.ref so), .val (.ref sq), .val (.ref sq)] [])
    refine Go.via (fun t k => XS.aloadN X7.here hx rfl (hb hby d18_36) rfl rfl k) ?_
    show Go p.tables e below P T7 (mkF m 37 #[.val (.ref so), .val (.ref sq), .val (.ref sq)] [(.ref so)])
    obtain ⟨T8, X8, e8, st8⟩ := getF X7 hx hZ hown (host := "") (Or.inl (hw _ (List.mem_of_getElem? (i := 24) rfl))) Via.refl e7 P4 (g := (mkF m 37 #[.val (.ref so), .val (.ref sq), .val (.ref sq)] [(.ref so)])) rfl rfl (hb hby d18_37)
    refine Go.via st8 ?_
    show Go p.tables e below P T8 (mkF m 40 #[.val (.ref so), .val (.ref sq), .val (.ref sq)] [(.ref tb)])
    refine Go.via (fun t k => XS.aloadN X8.here hx rfl (hb hby d18_40) rfl rfl k) ?_
    show Go p.tables e below P T8 (mkF m 41 #[.val (.ref so), .val (.ref sq), .val (.ref sq)] [(.ref sq), (.ref tb)])
    obtain ⟨T9, X9, e9, st9⟩ := getF X8 hx hZ hown (host := "") (Or.inl (hw _ (List.mem_of_getElem? (i := 24) rfl))) Via.refl e8 P8 (g := (mkF m 41 #[.val (.ref so), .val (.ref sq), .val (.ref sq)] [(.ref sq), (.ref tb)])) rfl rfl (hb hby d18_41)
    refine Go.via st9 ?_
    show Go p.tables e below P T9 (mkF m 44 #[.val (.ref so), .val (.ref sq), .val (.ref sq)] [(.ref tc), (.ref tb)])
    obtain ⟨_, _, ⟨T10, L10, k10, n10⟩, -, X10, ⟨Lc10, hQ10, l10, y10, z10⟩, st10⟩ := Jvm.LawKit.callS X9 hx (y := (⟨"java/lang/StringLatin1", "equals", "([B[B)Z"⟩ : MethodName)) hown (mvT hZ (hw _ (List.mem_of_getElem? (i := 98) rfl))) (mvT hZ (hw _ (List.mem_of_getElem? (i := 99) rfl))) (mvT hZ (hw _ (List.mem_of_getElem? (i := 80) rfl))) (mvT hZ (hw _ (List.mem_of_getElem? (i := 100) rfl))) (by decide) (backOf (W := 0) (rm19 l Z a0 hw [] tb tc kk kc bx bz h0 n0 Z0 P6 P10 (by first | assumption | decide | omega : own_sm bx) (by first | assumption | decide | omega : own_sm bz)) hZ (hw _ (List.mem_of_getElem? (i := 100) rfl)) (hw _ (List.mem_of_getElem? (i := 80) rfl)) (by decide) (by decide)) (g := (mkF m 44 #[.val (.ref so), .val (.ref sq), .val (.ref sq)] [(.ref tc), (.ref tb)])) rfl (by rw [hml]; rfl) (argsL := [(.ref tb), (.ref tc)]) (rest := []) (lenOf own_pd9 rfl) rfl (by show 2 * 0 + _ ≤ _; exact Nat.le_of_eq rfl) (hb hby d18_44) (fun _ _ => ⟨rfl, e9, (by decide : 0 + 0 ≤ _), (by decide : 0 + 0 ≤ _)⟩)
    dsimp only [Pt.U, Pt.locs, Pt.cells, Pt.slots] at X10 l10 y10 z10 st10 hQ10
    subst l10 y10 z10
    obtain ⟨rfl, Nq10, hh10⟩ := hQ10
    obtain ⟨lc10, Xh10, N10⟩ := own_hide X10 (Fr.app N0 Nq10)
    clear X10
    refine Go.via st10 ?_
    show Go p.tables e below P T10 (mkF m 47 #[.val (.ref so), .val (.ref sq), .val (.ref sq)] [(.int (if bx = bz then (1 : Int32) else (0 : Int32)))])
    by_cases hc11 : (if bx = bz then (1 : Int32) else (0 : Int32)) = (0 : Int32)
    · refine Go.via (fun t k => XS.ifYes Xh10.here hx rfl (pc0 := 47) (pc' := 54) rfl (hb hby d18_47) rfl ((if0 _ _).trans (teq hc11).1) (by decide) (by decide) k) ?_
      show Go p.tables e below P T10 (mkF m 54 #[.val (.ref so), .val (.ref sq), .val (.ref sq)] [])
      refine Go.via (fun t k => XS.iconst Xh10.here hx rfl (hb hby d18_54) k) ?_
      show Go p.tables e below P T10 (mkF m 55 #[.val (.ref so), .val (.ref sq), .val (.ref sq)] [(.int (0 : Int32))])
      obtain ⟨fs, hr, hrun, hended, hW, hsame⟩ := Xh10.leave (v := some (.int (if bx = bz then (1 : Int32) else (0 : Int32)))) (fun h => by rw [Bd.returns] at h; cases h)
      refine ⟨_, _, retZ Xh10 hx (t := .boolean) Bd.returns (by simp) (hb hby d18_55) (show nar .boolean (0 : Int32) = _ from (if_neg (own_i0 hc11)).symm) hr, hrun, hended, hP _ _ ⟨_, _, rfl, ?_, ⟨_, rfl⟩, hW, hsame.mono (by decide) (by decide)⟩⟩
      show Q18 Z so sq cs tb tc kk kc bx bz h0 n0 _ T10.heap _
      rw [hh10]
      exact ⟨rfl, N10, rfl⟩
    · refine Go.via (fun t k => XS.ifNo Xh10.here hx rfl (hb hby d18_47) rfl ((if0 _ _).trans (feq hc11).1) k) ?_
      show Go p.tables e below P T10 (mkF m 50 #[.val (.ref so), .val (.ref sq), .val (.ref sq)] [])
      refine Go.via (fun t k => XS.iconst Xh10.here hx rfl (hb hby d18_50) k) ?_
      show Go p.tables e below P T10 (mkF m 51 #[.val (.ref so), .val (.ref sq), .val (.ref sq)] [(.int (1 : Int32))])
      refine Go.via (fun t k => XS.goto Xh10.here hx rfl (pc0 := 51) (pc' := 55) rfl (hb hby d18_51) (by decide) (by decide) k) ?_
      show Go p.tables e below P T10 (mkF m 55 #[.val (.ref so), .val (.ref sq), .val (.ref sq)] [(.int (1 : Int32))])
      obtain ⟨fs, hr, hrun, hended, hW, hsame⟩ := Xh10.leave (v := some (.int (if bx = bz then (1 : Int32) else (0 : Int32)))) (fun h => by rw [Bd.returns] at h; cases h)
      refine ⟨_, _, retZ Xh10 hx (t := .boolean) Bd.returns (by simp) (hb hby d18_55) (show nar .boolean (1 : Int32) = _ from (if_pos (own_i1 hc11)).symm) hr, hrun, hended, hP _ _ ⟨_, _, rfl, ?_, ⟨_, rfl⟩, hW, hsame.mono (by decide) (by decide)⟩⟩
      show Q18 Z so sq cs tb tc kk kc bx bz h0 n0 _ T10.heap _
      rw [hh10]
      exact ⟨rfl, N10, rfl⟩
theorem own_pn4 : plainName "com/example/splitbook/splitbook/book/ReportKey" = true := by first | (simp [plainName, overriddenIn]; done) | decide +kernel
theorem d5_0 : decode prog_33_method_1_code 0 = .ok (.aload_n 0, 1) := by decide +kernel
theorem d5_1 : decode prog_33_method_1_code 1 = .ok (.invokespecial 1, 3) := by decide +kernel
theorem d5_4 : decode prog_33_method_1_code 4 = .ok (.aload_n 1, 1) := by decide +kernel
theorem d5_5 : decode prog_33_method_1_code 5 = .ok (.ifnull 11, 3) := by decide +kernel
theorem d5_8 : decode prog_33_method_1_code 8 = .ok (.aload_n 2, 1) := by decide +kernel
theorem d5_9 : decode prog_33_method_1_code 9 = .ok (.ifnull 7, 3) := by decide +kernel
theorem d5_12 : decode prog_33_method_1_code 12 = .ok (.aload_n 3, 1) := by decide +kernel
theorem d5_13 : decode prog_33_method_1_code 13 = .ok (.ifnonnull 11, 3) := by decide +kernel
theorem d5_24 : decode prog_33_method_1_code 24 = .ok (.aload_n 0, 1) := by decide +kernel
theorem d5_25 : decode prog_33_method_1_code 25 = .ok (.aload_n 1, 1) := by decide +kernel
theorem d5_26 : decode prog_33_method_1_code 26 = .ok (.putfield 10, 3) := by decide +kernel
theorem d5_29 : decode prog_33_method_1_code 29 = .ok (.aload_n 0, 1) := by decide +kernel
theorem d5_30 : decode prog_33_method_1_code 30 = .ok (.aload_n 2, 1) := by decide +kernel
theorem d5_31 : decode prog_33_method_1_code 31 = .ok (.putfield 16, 3) := by decide +kernel
theorem d5_34 : decode prog_33_method_1_code 34 = .ok (.aload_n 0, 1) := by decide +kernel
theorem d5_35 : decode prog_33_method_1_code 35 = .ok (.aload_n 3, 1) := by decide +kernel
theorem d5_36 : decode prog_33_method_1_code 36 = .ok (.putfield 19, 3) := by decide +kernel
theorem d5_39 : decode prog_33_method_1_code 39 = .ok (.return_, 1) := by decide +kernel
theorem ef_5 (m : MethodId) (x0 : Addr) (x1 : Addr) (x2 : Addr) (x3 : Addr) : entryFrame m #[(.ref x0), (.ref x1), (.ref x2), (.ref x3)] 4 = mkF m 0 #[.val (.ref x0), .val (.ref x1), .val (.ref x2), .val (.ref x3)] [] := by first | (simp [entryFrame, mkF, argsToLocals, Value.category]; done) | rfl
def Q5 (Z : State) (oa : Addr) (a0_ : Addr) (a1_ : Addr) (a2_ : Addr) (h0 : Heap) (n0 : Nat) (v : Option Value) (h : Heap) (L : List Loc) : Prop := v = none ∧ Fr n0 L ∧ Keep h0 h [oa] ∧ Exa Z h oa "com/example/splitbook/splitbook/book/ReportKey" ∧ Fld Z h oa "com/example/splitbook/splitbook/book/ReportKey" "senderCompId" "Ljava/lang/String;" (.ref a0_) ∧ Fld Z h oa "com/example/splitbook/splitbook/book/ReportKey" "beginString" "Ljava/lang/String;" (.ref a1_) ∧ Fld Z h oa "com/example/splitbook/splitbook/book/ReportKey" "allocReportId" "Ljava/lang/String;" (.ref a2_)
set_option maxRecDepth 65536 in
set_option maxHeartbeats 40000000 in
theorem rm5 (l : Launch) (Z : State) (a0 : Array Value) (hw : ∀ d ∈ tables_1, d.before a0 Z = true) (ws : List Jvm.Cond) (oa : Addr) (a0_ : Addr) (a1_ : Addr) (a2_ : Addr) (h0 : Heap) (n0 : Nat) (Z0 : n0 ≤ h0.size) (P0 : Exa Z h0 oa "com/example/splitbook/splitbook/book/ReportKey") (P1 : Fld Z h0 oa "com/example/splitbook/splitbook/book/ReportKey" "senderCompId" "Ljava/lang/String;" .null) (P2 : Fld Z h0 oa "com/example/splitbook/splitbook/book/ReportKey" "beginString" "Ljava/lang/String;" .null) (P3 : Fld Z h0 oa "com/example/splitbook/splitbook/book/ReportKey" "allocReportId" "Ljava/lang/String;" .null) (ga : n0 ≤ oa) :
    MetFree l (⟨"com/example/splitbook/splitbook/book/ReportKey", "<init>", "(Ljava/lang/String;Ljava/lang/String;Ljava/lang/String;)V"⟩ : MethodName) (head1 (Jvm.Cond.code (⟨"com/example/splitbook/splitbook/book/ReportKey", "<init>", "(Ljava/lang/String;Ljava/lang/String;Ljava/lang/String;)V"⟩ : MethodName) prog_33_method_1_code 4 none :: ws) ({ frames := 1, cells := 0, slots := 0, locals := 12 } : Room)) (fun a U => a = #[(.ref oa), (.ref a0_), (.ref a1_), (.ref a2_)] ∧ Z.Warmed39 U.vm ∧ U.heap = h0) (fun _ _ _ _ _ => True) (fun _ U o U' => ∃ v L, o = .returned v ∧ Q5 Z oa a0_ a1_ a2_ h0 n0 v U'.heap L ∧ FrameEnd U o U' L ({ frames := 1, cells := 0, slots := 0, locals := 12 } : Room).cells ({ frames := 1, cells := 0, slots := 0, locals := 12 } : Room).slots) := by
  refine MetFree.of_bodySF (plainFor_of_name own_pn4) hisR ?_
  intro p e s m args below meth c s₁ Bd hml0 hP hK
  obtain ⟨rfl, hZ, hh⟩ := hP
  have hx := Bd.exec
  have hby := Bd.bytes
  have hml : c.maxLocals = 4 := hml0
  have hown : s.vm.findClass "com/example/splitbook/splitbook/book/ReportKey" = some m.cls := findClass_of_methodNamed Bd.named
  have hnm := (name_of_methodNamed Bd.named Bd.method).1
  have X0 : Stand p l e ({ frames := 1, cells := 0, slots := 0, locals := 12 } : Room) s m #[(.ref oa), (.ref a0_), (.ref a1_), (.ref a2_)] below meth c s₁ [] 0 0 := Stand.of_body Bd
  have e0 : s₁.heap = h0 := by rw [← hh, Bd.state]; rfl
  have N0 := Fr.nil n0
  have K0 : Keep h0 h0 [oa] := Keep.refl _ _
  suffices GO : ∀ P : Outcome → State → Prop, (∀ o U', (∃ v L, o = .returned v ∧ Q5 Z oa a0_ a1_ a2_ h0 n0 v U'.heap L ∧ FrameEnd s o U' L ({ frames := 1, cells := 0, slots := 0, locals := 12 } : Room).cells ({ frames := 1, cells := 0, slots := 0, locals := 12 } : Room).slots) → P o U') → Go p.tables e below P s₁ (mkF m 0 #[.val (.ref oa), .val (.ref a0_), .val (.ref a1_), .val (.ref a2_)] []) by
    obtain ⟨s2, o, st, r⟩ := GO _ (fun _ _ q => q)
    exact ⟨s2, o, castTop (ef_5 m oa a0_ a1_ a2_) st, r⟩
  clear hh
  intro P hP
  show Go p.tables e below P s₁ (mkF m 0 #[.val (.ref oa), .val (.ref a0_), .val (.ref a1_), .val (.ref a2_)] [])
  refine Go.via (fun t k => XS.aloadN X0.here hx rfl (hb hby d5_0) rfl rfl k) ?_
  show Go p.tables e below P s₁ (mkF m 1 #[.val (.ref oa), .val (.ref a0_), .val (.ref a1_), .val (.ref a2_)] [(.ref oa)])
  obtain ⟨T1, X1, e1, st1⟩ := initO X0 hx hZ hown (hw _ (List.mem_of_getElem? (i := 32) rfl)) (hw _ (List.mem_of_getElem? (i := 16) rfl)) (hw _ (List.mem_of_getElem? (i := 17) rfl)) e0 (g := (mkF m 1 #[.val (.ref oa), .val (.ref a0_), .val (.ref a1_), .val (.ref a2_)] [(.ref oa)])) rfl (by rw [hml]; rfl) rfl (hb hby d5_1) (by decide) (W := 0) (by show 2 * 0 + _ ≤ _; exact Nat.le_of_eq rfl) (by decide)
  refine Go.via st1 ?_
  show Go p.tables e below P T1 (mkF m 4 #[.val (.ref oa), .val (.ref a0_), .val (.ref a1_), .val (.ref a2_)] [])
  refine Go.via (fun t k => XS.aloadN X1.here hx rfl (hb hby d5_4) rfl rfl k) ?_
  show Go p.tables e below P T1 (mkF m 5 #[.val (.ref oa), .val (.ref a0_), .val (.ref a1_), .val (.ref a2_)] [(.ref a0_)])
  refine Go.via (fun t k => XS.ifnullNo X1.here hx rfl (hb hby d5_5) rfl k) ?_
  show Go p.tables e below P T1 (mkF m 8 #[.val (.ref oa), .val (.ref a0_), .val (.ref a1_), .val (.ref a2_)] [])
  refine Go.via (fun t k => XS.aloadN X1.here hx rfl (hb hby d5_8) rfl rfl k) ?_
  show Go p.tables e below P T1 (mkF m 9 #[.val (.ref oa), .val (.ref a0_), .val (.ref a1_), .val (.ref a2_)] [(.ref a1_)])
  refine Go.via (fun t k => XS.ifnullNo X1.here hx rfl (hb hby d5_9) rfl k) ?_
  show Go p.tables e below P T1 (mkF m 12 #[.val (.ref oa), .val (.ref a0_), .val (.ref a1_), .val (.ref a2_)] [])
  refine Go.via (fun t k => XS.aloadN X1.here hx rfl (hb hby d5_12) rfl rfl k) ?_
  show Go p.tables e below P T1 (mkF m 13 #[.val (.ref oa), .val (.ref a0_), .val (.ref a1_), .val (.ref a2_)] [(.ref a2_)])
  refine Go.via (fun t k => XS.ifnonnullYes X1.here hx rfl (pc0 := 13) (pc' := 24) rfl (hb hby d5_13) rfl (by decide) (by decide) k) ?_
  show Go p.tables e below P T1 (mkF m 24 #[.val (.ref oa), .val (.ref a0_), .val (.ref a1_), .val (.ref a2_)] [])
  refine Go.via (fun t k => XS.aloadN X1.here hx rfl (hb hby d5_24) rfl rfl k) ?_
  show Go p.tables e below P T1 (mkF m 25 #[.val (.ref oa), .val (.ref a0_), .val (.ref a1_), .val (.ref a2_)] [(.ref oa)])
  refine Go.via (fun t k => XS.aloadN X1.here hx rfl (hb hby d5_25) rfl rfl k) ?_
  show Go p.tables e below P T1 (mkF m 26 #[.val (.ref oa), .val (.ref a0_), .val (.ref a1_), .val (.ref a2_)] [(.ref a0_), (.ref oa)])
  obtain ⟨T2, h2, X2, e2, W2, st2⟩ := putF X1 hx hZ hown (host := "") (Or.inl (hw _ (List.mem_of_getElem? (i := 33) rfl))) Via.refl e1 P1 P0 (Or.inr ⟨(hw _ (List.mem_of_getElem? (i := 34) rfl)), rfl, hnm⟩) (hw _ (List.mem_of_getElem? (i := 27) rfl)) (ty := (.object "java/lang/String")) (by decide) rfl rfl (g := (mkF m 26 #[.val (.ref oa), .val (.ref a0_), .val (.ref a1_), .val (.ref a2_)] [(.ref a0_), (.ref oa)])) rfl rfl (hb hby d5_26)
  refine Go.via st2 ?_
  have Z3 : n0 ≤ h2.size := Nat.le_trans Z0 (Nat.le_of_eq W2.size.symm)
  have K4 : Keep h0 h2 [oa] := K0.wr W2 (Or.inl (List.mem_of_getElem? (i := 0) rfl))
  obtain ⟨lc2, Xh2, N5⟩ := own_hide X2 (Fr.snoc X2 N0 ga)
  clear X2
  have Fw2 := P1.same W2
  show Go p.tables e below P T2 (mkF m 29 #[.val (.ref oa), .val (.ref a0_), .val (.ref a1_), .val (.ref a2_)] [])
  refine Go.via (fun t k => XS.aloadN Xh2.here hx rfl (hb hby d5_29) rfl rfl k) ?_
  show Go p.tables e below P T2 (mkF m 30 #[.val (.ref oa), .val (.ref a0_), .val (.ref a1_), .val (.ref a2_)] [(.ref oa)])
  refine Go.via (fun t k => XS.aloadN Xh2.here hx rfl (hb hby d5_30) rfl rfl k) ?_
  show Go p.tables e below P T2 (mkF m 31 #[.val (.ref oa), .val (.ref a0_), .val (.ref a1_), .val (.ref a2_)] [(.ref a1_), (.ref oa)])
  have F6 : Exa Z h2 oa "com/example/splitbook/splitbook/book/ReportKey" := (P0.wr W2)
  have F7 : Fld Z h2 oa "com/example/splitbook/splitbook/book/ReportKey" "beginString" "Ljava/lang/String;" .null := (P2.other W2 (Or.inr (slot_ne (Or.inr (hw _ (List.mem_of_getElem? (i := 36) rfl))) (Or.inr (hw _ (List.mem_of_getElem? (i := 34) rfl))) (by decide) (t := (.object "java/lang/String")) (t' := (.object "java/lang/String")) (by decide) (by decide))))
  have F8 : Fld Z h2 oa "com/example/splitbook/splitbook/book/ReportKey" "allocReportId" "Ljava/lang/String;" .null := (P3.other W2 (Or.inr (slot_ne (Or.inr (hw _ (List.mem_of_getElem? (i := 38) rfl))) (Or.inr (hw _ (List.mem_of_getElem? (i := 34) rfl))) (by decide) (t := (.object "java/lang/String")) (t' := (.object "java/lang/String")) (by decide) (by decide))))
  obtain ⟨T9, h9, X9, e9, W9, st9⟩ := putF Xh2 hx hZ hown (host := "") (Or.inl (hw _ (List.mem_of_getElem? (i := 35) rfl))) Via.refl e2 F7 F6 (Or.inr ⟨(hw _ (List.mem_of_getElem? (i := 36) rfl)), rfl, hnm⟩) (hw _ (List.mem_of_getElem? (i := 27) rfl)) (ty := (.object "java/lang/String")) (by decide) rfl rfl (g := (mkF m 31 #[.val (.ref oa), .val (.ref a0_), .val (.ref a1_), .val (.ref a2_)] [(.ref a1_), (.ref oa)])) rfl rfl (hb hby d5_31)
  refine Go.via st9 ?_
  have Z10 : n0 ≤ h9.size := Nat.le_trans Z3 (Nat.le_of_eq W9.size.symm)
  have K11 : Keep h0 h9 [oa] := K4.wr W9 (Or.inl (List.mem_of_getElem? (i := 0) rfl))
  obtain ⟨lc9, Xh9, N12⟩ := own_hide X9 (Fr.snoc X9 N5 ga)
  clear X9
  have Fw9 := F7.same W9
  show Go p.tables e below P T9 (mkF m 34 #[.val (.ref oa), .val (.ref a0_), .val (.ref a1_), .val (.ref a2_)] [])
  refine Go.via (fun t k => XS.aloadN Xh9.here hx rfl (hb hby d5_34) rfl rfl k) ?_
  show Go p.tables e below P T9 (mkF m 35 #[.val (.ref oa), .val (.ref a0_), .val (.ref a1_), .val (.ref a2_)] [(.ref oa)])
  refine Go.via (fun t k => XS.aloadN Xh9.here hx rfl (hb hby d5_35) rfl rfl k) ?_
  show Go p.tables e below P T9 (mkF m 36 #[.val (.ref oa), .val (.ref a0_), .val (.ref a1_), .val (.ref a2_)] [(.ref a2_), (.ref oa)])
  have F13 : Exa Z h9 oa "com/example/splitbook/splitbook/book/ReportKey" := (F6.wr W9)
  have F14 : Fld Z h9 oa "com/example/splitbook/splitbook/book/ReportKey" "allocReportId" "Ljava/lang/String;" .null := (F8.other W9 (Or.inr (slot_ne (Or.inr (hw _ (List.mem_of_getElem? (i := 38) rfl))) (Or.inr (hw _ (List.mem_of_getElem? (i := 36) rfl))) (by decide) (t := (.object "java/lang/String")) (t' := (.object "java/lang/String")) (by decide) (by decide))))
  have F15 : Fld Z h9 oa "com/example/splitbook/splitbook/book/ReportKey" "senderCompId" "Ljava/lang/String;" (.ref a0_) := (Fw2.other W9 (Or.inr (slot_ne (Or.inr (hw _ (List.mem_of_getElem? (i := 34) rfl))) (Or.inr (hw _ (List.mem_of_getElem? (i := 36) rfl))) (by decide) (t := (.object "java/lang/String")) (t' := (.object "java/lang/String")) (by decide) (by decide))))
  obtain ⟨T16, h16, X16, e16, W16, st16⟩ := putF Xh9 hx hZ hown (host := "") (Or.inl (hw _ (List.mem_of_getElem? (i := 37) rfl))) Via.refl e9 F14 F13 (Or.inr ⟨(hw _ (List.mem_of_getElem? (i := 38) rfl)), rfl, hnm⟩) (hw _ (List.mem_of_getElem? (i := 27) rfl)) (ty := (.object "java/lang/String")) (by decide) rfl rfl (g := (mkF m 36 #[.val (.ref oa), .val (.ref a0_), .val (.ref a1_), .val (.ref a2_)] [(.ref a2_), (.ref oa)])) rfl rfl (hb hby d5_36)
  refine Go.via st16 ?_
  have Z17 : n0 ≤ h16.size := Nat.le_trans Z10 (Nat.le_of_eq W16.size.symm)
  have K18 : Keep h0 h16 [oa] := K11.wr W16 (Or.inl (List.mem_of_getElem? (i := 0) rfl))
  obtain ⟨lc16, Xh16, N19⟩ := own_hide X16 (Fr.snoc X16 N12 ga)
  clear X16
  have Fw16 := F14.same W16
  show Go p.tables e below P T16 (mkF m 39 #[.val (.ref oa), .val (.ref a0_), .val (.ref a1_), .val (.ref a2_)] [])
  obtain ⟨fs, hr, hrun, hended, hW, hsame⟩ := Xh16.leave (v := none) (fun _ => rfl)
  have F21 : Exa Z h16 oa "com/example/splitbook/splitbook/book/ReportKey" := (F13.wr W16)
  have F22 : Fld Z h16 oa "com/example/splitbook/splitbook/book/ReportKey" "senderCompId" "Ljava/lang/String;" (.ref a0_) := (F15.other W16 (Or.inr (slot_ne (Or.inr (hw _ (List.mem_of_getElem? (i := 34) rfl))) (Or.inr (hw _ (List.mem_of_getElem? (i := 38) rfl))) (by decide) (t := (.object "java/lang/String")) (t' := (.object "java/lang/String")) (by decide) (by decide))))
  have F23 : Fld Z h16 oa "com/example/splitbook/splitbook/book/ReportKey" "beginString" "Ljava/lang/String;" (.ref a1_) := (Fw9.other W16 (Or.inr (slot_ne (Or.inr (hw _ (List.mem_of_getElem? (i := 36) rfl))) (Or.inr (hw _ (List.mem_of_getElem? (i := 38) rfl))) (by decide) (t := (.object "java/lang/String")) (t' := (.object "java/lang/String")) (by decide) (by decide))))
  refine ⟨_, _, Xh16.returnOut hx Bd.returns (hb hby d5_39) hr, hrun, hended, hP _ _ ⟨_, _, rfl, ?_, ⟨_, rfl⟩, hW, hsame.mono (by decide) (by decide)⟩⟩
  show Q5 Z oa a0_ a1_ a2_ h0 n0 _ T16.heap _
  rw [e16]
  exact ⟨rfl, N19, K18, F21, F22, F23, Fw16⟩
theorem d6_0 : decode prog_33_method_5_code 0 = .ok (.aload_n 1, 1) := by decide +kernel
theorem d6_1 : decode prog_33_method_5_code 1 = .ok (.instanceof 11, 3) := by decide +kernel
theorem d6_4 : decode prog_33_method_5_code 4 = .ok (.ifCond .ne 5, 3) := by decide +kernel
theorem d6_7 : decode prog_33_method_5_code 7 = .ok (.iconst 0, 1) := by decide +kernel
theorem d6_8 : decode prog_33_method_5_code 8 = .ok (.ireturn, 1) := by decide +kernel
theorem ef_6a (m : MethodId) (x0 : Addr) : entryFrame m #[(.ref x0), .null] 3 = mkF m 0 #[.val (.ref x0), .val .null, .unset] [] := by first | (simp [entryFrame, mkF, argsToLocals, Value.category]; done) | rfl
def Q6a (Z : State) (oa : Addr) (h0 : Heap) (n0 : Nat) (v : Option Value) (h : Heap) (L : List Loc) : Prop := v = some (.int (0 : Int32)) ∧ Fr n0 L ∧ h = h0
set_option maxRecDepth 65536 in
set_option maxHeartbeats 40000000 in
theorem rm6a (l : Launch) (Z : State) (a0 : Array Value) (hw : ∀ d ∈ tables_1, d.before a0 Z = true) (ws : List Jvm.Cond) (oa : Addr) (h0 : Heap) (n0 : Nat) (Z0 : n0 ≤ h0.size) :
    MetFree l (⟨"com/example/splitbook/splitbook/book/ReportKey", "equals", "(Ljava/lang/Object;)Z"⟩ : MethodName) (head1 (Jvm.Cond.code (⟨"com/example/splitbook/splitbook/book/ReportKey", "equals", "(Ljava/lang/Object;)Z"⟩ : MethodName) prog_33_method_5_code 3 (some .boolean) :: ws) ({ frames := 0, cells := 0, slots := 0, locals := 0 } : Room)) (fun a U => a = #[(.ref oa), .null] ∧ Z.Warmed39 U.vm ∧ U.heap = h0) (fun _ _ _ _ _ => True) (fun _ U o U' => ∃ v L, o = .returned v ∧ Q6a Z oa h0 n0 v U'.heap L ∧ FrameEnd U o U' L ({ frames := 0, cells := 0, slots := 0, locals := 0 } : Room).cells ({ frames := 0, cells := 0, slots := 0, locals := 0 } : Room).slots) := by
  refine MetFree.of_bodySF (plainFor_of_name own_pn4) hisR ?_
  intro p e s m args below meth c s₁ Bd hml0 hP hK
  obtain ⟨rfl, hZ, hh⟩ := hP
  have hx := Bd.exec
  have hby := Bd.bytes
  have hml : c.maxLocals = 3 := hml0
  have hown : s.vm.findClass "com/example/splitbook/splitbook/book/ReportKey" = some m.cls := findClass_of_methodNamed Bd.named
  have hnm := (name_of_methodNamed Bd.named Bd.method).1
  have X0 : Stand p l e ({ frames := 0, cells := 0, slots := 0, locals := 0 } : Room) s m #[(.ref oa), .null] below meth c s₁ [] 0 0 := Stand.of_body Bd
  have e0 : s₁.heap = h0 := by rw [← hh, Bd.state]; rfl
  have N0 := Fr.nil n0
  have K0 : Keep h0 h0 [] := Keep.refl _ _
  suffices GO : ∀ P : Outcome → State → Prop, (∀ o U', (∃ v L, o = .returned v ∧ Q6a Z oa h0 n0 v U'.heap L ∧ FrameEnd s o U' L ({ frames := 0, cells := 0, slots := 0, locals := 0 } : Room).cells ({ frames := 0, cells := 0, slots := 0, locals := 0 } : Room).slots) → P o U') → Go p.tables e below P s₁ (mkF m 0 #[.val (.ref oa), .val .null, .unset] []) by
    obtain ⟨s2, o, st, r⟩ := GO _ (fun _ _ q => q)
    exact ⟨s2, o, castTop (ef_6a m oa) st, r⟩
  clear hh
  intro P hP
  show Go p.tables e below P s₁ (mkF m 0 #[.val (.ref oa), .val .null, .unset] [])
  refine Go.via (fun t k => XS.aloadN X0.here hx rfl (hb hby d6_0) rfl rfl k) ?_
  show Go p.tables e below P s₁ (mkF m 1 #[.val (.ref oa), .val .null, .unset] [.null])
  refine Go.via (fun t k => X0.instanceofNull hx (g := (mkF m 1 #[.val (.ref oa), .val .null, .unset] [.null])) rfl rfl (hb hby d6_1) t k) ?_
  show Go p.tables e below P s₁ (mkF m 4 #[.val (.ref oa), .val .null, .unset] [(.int (0 : Int32))])
  refine Go.via (fun t k => XS.ifNo X0.here hx rfl (hb hby d6_4) rfl ((if0 _ _).trans (teq (rfl : (0 : Int32) = (0 : Int32))).2) k) ?_
  show Go p.tables e below P s₁ (mkF m 7 #[.val (.ref oa), .val .null, .unset] [])
  refine Go.via (fun t k => XS.iconst X0.here hx rfl (hb hby d6_7) k) ?_
  show Go p.tables e below P s₁ (mkF m 8 #[.val (.ref oa), .val .null, .unset] [(.int (0 : Int32))])
  obtain ⟨fs, hr, hrun, hended, hW, hsame⟩ := X0.leave (v := some (.int (0 : Int32))) (fun h => by rw [Bd.returns] at h; cases h)
  refine ⟨_, _, retZ X0 hx (t := .boolean) Bd.returns (by simp) (hb hby d6_8) rfl hr, hrun, hended, hP _ _ ⟨_, _, rfl, ?_, ⟨_, rfl⟩, hW, hsame.mono (by decide) (by decide)⟩⟩
  show Q6a Z oa h0 n0 _ s₁.heap _
  rw [e0]
  exact ⟨rfl, N0, rfl⟩
theorem ef_6s (m : MethodId) (x0 : Addr) (x1 : Addr) : entryFrame m #[(.ref x0), (.ref x1)] 3 = mkF m 0 #[.val (.ref x0), .val (.ref x1), .unset] [] := by first | (simp [entryFrame, mkF, argsToLocals, Value.category]; done) | rfl
def Q6s (Z : State) (oa : Addr) (sq : Addr) (h0 : Heap) (n0 : Nat) (v : Option Value) (h : Heap) (L : List Loc) : Prop := v = some (.int (0 : Int32)) ∧ Fr n0 L ∧ h = h0
set_option maxRecDepth 65536 in
set_option maxHeartbeats 40000000 in
theorem rm6s (l : Launch) (Z : State) (a0 : Array Value) (hw : ∀ d ∈ tables_1, d.before a0 Z = true) (ws : List Jvm.Cond) (oa : Addr) (sq : Addr) (h0 : Heap) (n0 : Nat) (Z0 : n0 ≤ h0.size) (P0 : Exa Z h0 sq "java/lang/String") :
    MetFree l (⟨"com/example/splitbook/splitbook/book/ReportKey", "equals", "(Ljava/lang/Object;)Z"⟩ : MethodName) (head1 (Jvm.Cond.code (⟨"com/example/splitbook/splitbook/book/ReportKey", "equals", "(Ljava/lang/Object;)Z"⟩ : MethodName) prog_33_method_5_code 3 (some .boolean) :: ws) ({ frames := 0, cells := 0, slots := 0, locals := 0 } : Room)) (fun a U => a = #[(.ref oa), (.ref sq)] ∧ Z.Warmed39 U.vm ∧ U.heap = h0) (fun _ _ _ _ _ => True) (fun _ U o U' => ∃ v L, o = .returned v ∧ Q6s Z oa sq h0 n0 v U'.heap L ∧ FrameEnd U o U' L ({ frames := 0, cells := 0, slots := 0, locals := 0 } : Room).cells ({ frames := 0, cells := 0, slots := 0, locals := 0 } : Room).slots) := by
  refine MetFree.of_bodySF (plainFor_of_name own_pn4) hisR ?_
  intro p e s m args below meth c s₁ Bd hml0 hP hK
  obtain ⟨rfl, hZ, hh⟩ := hP
  have hx := Bd.exec
  have hby := Bd.bytes
  have hml : c.maxLocals = 3 := hml0
  have hown : s.vm.findClass "com/example/splitbook/splitbook/book/ReportKey" = some m.cls := findClass_of_methodNamed Bd.named
  have hnm := (name_of_methodNamed Bd.named Bd.method).1
  have X0 : Stand p l e ({ frames := 0, cells := 0, slots := 0, locals := 0 } : Room) s m #[(.ref oa), (.ref sq)] below meth c s₁ [] 0 0 := Stand.of_body Bd
  have e0 : s₁.heap = h0 := by rw [← hh, Bd.state]; rfl
  have N0 := Fr.nil n0
  have K0 : Keep h0 h0 [] := Keep.refl _ _
  suffices GO : ∀ P : Outcome → State → Prop, (∀ o U', (∃ v L, o = .returned v ∧ Q6s Z oa sq h0 n0 v U'.heap L ∧ FrameEnd s o U' L ({ frames := 0, cells := 0, slots := 0, locals := 0 } : Room).cells ({ frames := 0, cells := 0, slots := 0, locals := 0 } : Room).slots) → P o U') → Go p.tables e below P s₁ (mkF m 0 #[.val (.ref oa), .val (.ref sq), .unset] []) by
    obtain ⟨s2, o, st, r⟩ := GO _ (fun _ _ q => q)
    exact ⟨s2, o, castTop (ef_6s m oa sq) st, r⟩
  clear hh
  intro P hP
  show Go p.tables e below P s₁ (mkF m 0 #[.val (.ref oa), .val (.ref sq), .unset] [])
  refine Go.via (fun t k => XS.aloadN X0.here hx rfl (hb hby d6_0) rfl rfl k) ?_
  show Go p.tables e below P s₁ (mkF m 1 #[.val (.ref oa), .val (.ref sq), .unset] [(.ref sq)])
  obtain ⟨T2, X2, e2, st2⟩ := instNo X0 hx hZ hown (hw _ (List.mem_of_getElem? (i := 90) rfl)) e0 P0 (own_no (hw _ (List.mem_of_getElem? (i := 101) rfl)) (hw _ (List.mem_of_getElem? (i := 102) rfl)) (hw _ (List.mem_of_getElem? (i := 27) rfl)) (by decide) (by decide)) (g := (mkF m 1 #[.val (.ref oa), .val (.ref sq), .unset] [(.ref sq)])) rfl rfl (hb hby d6_1)
  refine Go.via st2 ?_
  show Go p.tables e below P T2 (mkF m 4 #[.val (.ref oa), .val (.ref sq), .unset] [(.int (0 : Int32))])
  refine Go.via (fun t k => XS.ifNo X2.here hx rfl (hb hby d6_4) rfl ((if0 _ _).trans (teq (rfl : (0 : Int32) = (0 : Int32))).2) k) ?_
  show Go p.tables e below P T2 (mkF m 7 #[.val (.ref oa), .val (.ref sq), .unset] [])
  refine Go.via (fun t k => XS.iconst X2.here hx rfl (hb hby d6_7) k) ?_
  show Go p.tables e below P T2 (mkF m 8 #[.val (.ref oa), .val (.ref sq), .unset] [(.int (0 : Int32))])
  obtain ⟨fs, hr, hrun, hended, hW, hsame⟩ := X2.leave (v := some (.int (0 : Int32))) (fun h => by rw [Bd.returns] at h; cases h)
  refine ⟨_, _, retZ X2 hx (t := .boolean) Bd.returns (by simp) (hb hby d6_8) rfl hr, hrun, hended, hP _ _ ⟨_, _, rfl, ?_, ⟨_, rfl⟩, hW, hsame.mono (by decide) (by decide)⟩⟩
  show Q6s Z oa sq h0 n0 _ T2.heap _
  rw [e2]
  exact ⟨rfl, N0, rfl⟩
theorem own_pd10 : parseMethodDescriptor "(Ljava/lang/Object;)Z" = some ⟨[(.object "java/lang/Object")], some .boolean⟩ := by decide +kernel
theorem d6_9 : decode prog_33_method_5_code 9 = .ok (.aload_n 1, 1) := by decide +kernel
theorem d6_10 : decode prog_33_method_5_code 10 = .ok (.checkcast 11, 3) := by decide +kernel
theorem d6_13 : decode prog_33_method_5_code 13 = .ok (.astore_n 2, 1) := by decide +kernel
theorem d6_14 : decode prog_33_method_5_code 14 = .ok (.aload_n 0, 1) := by decide +kernel
theorem d6_15 : decode prog_33_method_5_code 15 = .ok (.getfield 10, 3) := by decide +kernel
theorem d6_18 : decode prog_33_method_5_code 18 = .ok (.aload_n 2, 1) := by decide +kernel
theorem d6_19 : decode prog_33_method_5_code 19 = .ok (.getfield 10, 3) := by decide +kernel
theorem d6_22 : decode prog_33_method_5_code 22 = .ok (.invokevirtual 22, 3) := by decide +kernel
theorem d6_25 : decode prog_33_method_5_code 25 = .ok (.ifCond .eq 35, 3) := by decide +kernel
theorem d6_28 : decode prog_33_method_5_code 28 = .ok (.aload_n 0, 1) := by decide +kernel
theorem d6_29 : decode prog_33_method_5_code 29 = .ok (.getfield 16, 3) := by decide +kernel
theorem d6_32 : decode prog_33_method_5_code 32 = .ok (.aload_n 2, 1) := by decide +kernel
theorem d6_33 : decode prog_33_method_5_code 33 = .ok (.getfield 16, 3) := by decide +kernel
theorem d6_36 : decode prog_33_method_5_code 36 = .ok (.invokevirtual 22, 3) := by decide +kernel
theorem d6_39 : decode prog_33_method_5_code 39 = .ok (.ifCond .eq 21, 3) := by decide +kernel
theorem d6_42 : decode prog_33_method_5_code 42 = .ok (.aload_n 0, 1) := by decide +kernel
theorem d6_43 : decode prog_33_method_5_code 43 = .ok (.getfield 19, 3) := by decide +kernel
theorem d6_46 : decode prog_33_method_5_code 46 = .ok (.aload_n 2, 1) := by decide +kernel
theorem d6_47 : decode prog_33_method_5_code 47 = .ok (.getfield 19, 3) := by decide +kernel
theorem d6_50 : decode prog_33_method_5_code 50 = .ok (.invokevirtual 22, 3) := by decide +kernel
theorem d6_53 : decode prog_33_method_5_code 53 = .ok (.ifCond .eq 7, 3) := by decide +kernel
theorem d6_56 : decode prog_33_method_5_code 56 = .ok (.iconst 1, 1) := by decide +kernel
theorem d6_57 : decode prog_33_method_5_code 57 = .ok (.goto 4, 3) := by decide +kernel
theorem d6_60 : decode prog_33_method_5_code 60 = .ok (.iconst 0, 1) := by decide +kernel
theorem d6_61 : decode prog_33_method_5_code 61 = .ok (.ireturn, 1) := by decide +kernel
theorem ef_6k (m : MethodId) (x0 : Addr) (x1 : Addr) : entryFrame m #[(.ref x0), (.ref x1)] 3 = mkF m 0 #[.val (.ref x0), .val (.ref x1), .unset] [] := by first | (simp [entryFrame, mkF, argsToLocals, Value.category]; done) | rfl
def Q6k (Z : State) (oa : Addr) (ob : Addr) (cs : Int32) (a0_ : Addr) (t0_ : Addr) (k0_ : ClassId) (x0_ : List Int32) (b0_ : Addr) (w0_ : Addr) (l0_ : ClassId) (z0_ : List Int32) (a1_ : Addr) (t1_ : Addr) (k1_ : ClassId) (x1_ : List Int32) (b1_ : Addr) (w1_ : Addr) (l1_ : ClassId) (z1_ : List Int32) (a2_ : Addr) (t2_ : Addr) (k2_ : ClassId) (x2_ : List Int32) (b2_ : Addr) (w2_ : Addr) (l2_ : ClassId) (z2_ : List Int32) (h0 : Heap) (n0 : Nat) (v : Option Value) (h : Heap) (L : List Loc) : Prop := v = some (.int (if x0_ = z0_ ∧ x1_ = z1_ ∧ x2_ = z2_ then (1 : Int32) else (0 : Int32))) ∧ Fr n0 L ∧ h = h0
set_option maxRecDepth 65536 in
set_option maxHeartbeats 40000000 in
theorem rm6k (l : Launch) (Z : State) (a0 : Array Value) (hw : ∀ d ∈ tables_1, d.before a0 Z = true) (ws : List Jvm.Cond) (oa : Addr) (ob : Addr) (cs : Int32) (a0_ : Addr) (t0_ : Addr) (k0_ : ClassId) (x0_ : List Int32) (b0_ : Addr) (w0_ : Addr) (l0_ : ClassId) (z0_ : List Int32) (a1_ : Addr) (t1_ : Addr) (k1_ : ClassId) (x1_ : List Int32) (b1_ : Addr) (w1_ : Addr) (l1_ : ClassId) (z1_ : List Int32) (a2_ : Addr) (t2_ : Addr) (k2_ : ClassId) (x2_ : List Int32) (b2_ : Addr) (w2_ : Addr) (l2_ : ClassId) (z2_ : List Int32) (h0 : Heap) (n0 : Nat) (Z0 : n0 ≤ h0.size) (O0 : Old Z n0 h0) (P1 : Sta Z Z.heap "java/lang/String" "COMPACT_STRINGS" "Z" (.int cs)) (hcs : ¬ cs = (0 : Int32)) (P3 : Exa Z h0 oa "com/example/splitbook/splitbook/book/ReportKey") (P4 : Exa Z h0 ob "com/example/splitbook/splitbook/book/ReportKey") (P5 : Fld Z h0 oa "com/example/splitbook/splitbook/book/ReportKey" "senderCompId" "Ljava/lang/String;" (.ref a0_)) (P6 : Fld Z h0 ob "com/example/splitbook/splitbook/book/ReportKey" "senderCompId" "Ljava/lang/String;" (.ref b0_)) (P7 : Fld Z h0 oa "com/example/splitbook/splitbook/book/ReportKey" "beginString" "Ljava/lang/String;" (.ref a1_)) (P8 : Fld Z h0 ob "com/example/splitbook/splitbook/book/ReportKey" "beginString" "Ljava/lang/String;" (.ref b1_)) (P9 : Fld Z h0 oa "com/example/splitbook/splitbook/book/ReportKey" "allocReportId" "Ljava/lang/String;" (.ref a2_)) (P10 : Fld Z h0 ob "com/example/splitbook/splitbook/book/ReportKey" "allocReportId" "Ljava/lang/String;" (.ref b2_)) (P11 : Exa Z h0 a0_ "java/lang/String") (P12 : Fld Z h0 a0_ "java/lang/String" "value" "[B" (.ref t0_)) (P13 : Fld Z h0 a0_ "java/lang/String" "coder" "B" (.int (0 : Int32))) (P14 : Arv Z h0 t0_ k0_ .byte (own_ln x0_) (x0_.map Value.int) (.int (0 : Int32))) (P15 : Exa Z h0 b0_ "java/lang/String") (P16 : Fld Z h0 b0_ "java/lang/String" "value" "[B" (.ref w0_)) (P17 : Fld Z h0 b0_ "java/lang/String" "coder" "B" (.int (0 : Int32))) (P18 : Arv Z h0 w0_ l0_ .byte (own_ln z0_) (z0_.map Value.int) (.int (0 : Int32))) (sx0_ : own_sm x0_) (sz0_ : own_sm z0_) (hq0_ : a0_ = b0_ → x0_ = z0_) (P22 : Exa Z h0 a1_ "java/lang/String") (P23 : Fld Z h0 a1_ "java/lang/String" "value" "[B" (.ref t1_)) (P24 : Fld Z h0 a1_ "java/lang/String" "coder" "B" (.int (0 : Int32))) (P25 : Arv Z h0 t1_ k1_ .byte (own_ln x1_) (x1_.map Value.int) (.int (0 : Int32))) (P26 : Exa Z h0 b1_ "java/lang/String") (P27 : Fld Z h0 b1_ "java/lang/String" "value" "[B" (.ref w1_)) (P28 : Fld Z h0 b1_ "java/lang/String" "coder" "B" (.int (0 : Int32))) (P29 : Arv Z h0 w1_ l1_ .byte (own_ln z1_) (z1_.map Value.int) (.int (0 : Int32))) (sx1_ : own_sm x1_) (sz1_ : own_sm z1_) (hq1_ : a1_ = b1_ → x1_ = z1_) (P33 : Exa Z h0 a2_ "java/lang/String") (P34 : Fld Z h0 a2_ "java/lang/String" "value" "[B" (.ref t2_)) (P35 : Fld Z h0 a2_ "java/lang/String" "coder" "B" (.int (0 : Int32))) (P36 : Arv Z h0 t2_ k2_ .byte (own_ln x2_) (x2_.map Value.int) (.int (0 : Int32))) (P37 : Exa Z h0 b2_ "java/lang/String") (P38 : Fld Z h0 b2_ "java/lang/String" "value" "[B" (.ref w2_)) (P39 : Fld Z h0 b2_ "java/lang/String" "coder" "B" (.int (0 : Int32))) (P40 : Arv Z h0 w2_ l2_ .byte (own_ln z2_) (z2_.map Value.int) (.int (0 : Int32))) (sx2_ : own_sm x2_) (sz2_ : own_sm z2_) (hq2_ : a2_ = b2_ → x2_ = z2_) :
    MetFree l (⟨"com/example/splitbook/splitbook/book/ReportKey", "equals", "(Ljava/lang/Object;)Z"⟩ : MethodName) (head1 (Jvm.Cond.code (⟨"com/example/splitbook/splitbook/book/ReportKey", "equals", "(Ljava/lang/Object;)Z"⟩ : MethodName) prog_33_method_5_code 3 (some .boolean) :: ws) ({ frames := 2, cells := 0, slots := 0, locals := 28 } : Room)) (fun a U => a = #[(.ref oa), (.ref ob)] ∧ Z.Warmed39 U.vm ∧ U.heap = h0) (fun _ _ _ _ _ => True) (fun _ U o U' => ∃ v L, o = .returned v ∧ Q6k Z oa ob cs a0_ t0_ k0_ x0_ b0_ w0_ l0_ z0_ a1_ t1_ k1_ x1_ b1_ w1_ l1_ z1_ a2_ t2_ k2_ x2_ b2_ w2_ l2_ z2_ h0 n0 v U'.heap L ∧ FrameEnd U o U' L ({ frames := 2, cells := 0, slots := 0, locals := 28 } : Room).cells ({ frames := 2, cells := 0, slots := 0, locals := 28 } : Room).slots) := by
  refine MetFree.of_bodySF (plainFor_of_name own_pn4) hisR ?_
  intro p e s m args below meth c s₁ Bd hml0 hP hK
  obtain ⟨rfl, hZ, hh⟩ := hP
  have hx := Bd.exec
  have hby := Bd.bytes
  have hml : c.maxLocals = 3 := hml0
  have hown : s.vm.findClass "com/example/splitbook/splitbook/book/ReportKey" = some m.cls := findClass_of_methodNamed Bd.named
  have hnm := (name_of_methodNamed Bd.named Bd.method).1
  have X0 : Stand p l e ({ frames := 2, cells := 0, slots := 0, locals := 28 } : Room) s m #[(.ref oa), (.ref ob)] below meth c s₁ [] 0 0 := Stand.of_body Bd
  have e0 : s₁.heap = h0 := by rw [← hh, Bd.state]; rfl
  have N0 := Fr.nil n0
  have K0 : Keep h0 h0 [] := Keep.refl _ _
  suffices GO : ∀ P : Outcome → State → Prop, (∀ o U', (∃ v L, o = .returned v ∧ Q6k Z oa ob cs a0_ t0_ k0_ x0_ b0_ w0_ l0_ z0_ a1_ t1_ k1_ x1_ b1_ w1_ l1_ z1_ a2_ t2_ k2_ x2_ b2_ w2_ l2_ z2_ h0 n0 v U'.heap L ∧ FrameEnd s o U' L ({ frames := 2, cells := 0, slots := 0, locals := 28 } : Room).cells ({ frames := 2, cells := 0, slots := 0, locals := 28 } : Room).slots) → P o U') → Go p.tables e below P s₁ (mkF m 0 #[.val (.ref oa), .val (.ref ob), .unset] []) by
    obtain ⟨s2, o, st, r⟩ := GO _ (fun _ _ q => q)
    exact ⟨s2, o, castTop (ef_6k m oa ob) st, r⟩
  clear hh
  intro P hP
  show Go p.tables e below P s₁ (mkF m 0 #[.val (.ref oa), .val (.ref ob), .unset] [])
  refine Go.via (fun t k => XS.aloadN X0.here hx rfl (hb hby d6_0) rfl rfl k) ?_
  show Go p.tables e below P s₁ (mkF m 1 #[.val (.ref oa), .val (.ref ob), .unset] [(.ref ob)])
  obtain ⟨T1, X1, e1, st1⟩ := instY X0 hx hZ hown (hw _ (List.mem_of_getElem? (i := 90) rfl)) e0 (Ins.self P4) (g := (mkF m 1 #[.val (.ref oa), .val (.ref ob), .unset] [(.ref ob)])) rfl rfl (hb hby d6_1)
  refine Go.via st1 ?_
  show Go p.tables e below P T1 (mkF m 4 #[.val (.ref oa), .val (.ref ob), .unset] [(.int (1 : Int32))])
  refine Go.via (fun t k => XS.ifYes X1.here hx rfl (pc0 := 4) (pc' := 9) rfl (hb hby d6_4) rfl ((if0 _ _).trans (feq (by decide : ¬ ((1 : Int32) = (0 : Int32)))).2) (by decide) (by decide) k) ?_
  show Go p.tables e below P T1 (mkF m 9 #[.val (.ref oa), .val (.ref ob), .unset] [])
  refine Go.via (fun t k => XS.aloadN X1.here hx rfl (hb hby d6_9) rfl rfl k) ?_
  show Go p.tables e below P T1 (mkF m 10 #[.val (.ref oa), .val (.ref ob), .unset] [(.ref ob)])
  obtain ⟨T2, X2, e2, st2⟩ := castY X1 hx hZ hown (hw _ (List.mem_of_getElem? (i := 90) rfl)) e1 (Ins.self P4) (g := (mkF m 10 #[.val (.ref oa), .val (.ref ob), .unset] [(.ref ob)])) rfl rfl (hb hby d6_10)
  refine Go.via st2 ?_
  show Go p.tables e below P T2 (mkF m 13 #[.val (.ref oa), .val (.ref ob), .unset] [(.ref ob)])
  refine Go.via (fun t k => XS.astoreN X2.here hx rfl (hb hby d6_13) rfl rfl (l' := #[.val (.ref oa), .val (.ref ob), .val (.ref ob)]) rfl k) ?_
  show Go p.tables e below P T2 (mkF m 14 #[.val (.ref oa), .val (.ref ob), .val (.ref ob)] [])
  refine Go.via (fun t k => XS.aloadN X2.here hx rfl (hb hby d6_14) rfl rfl k) ?_
  show Go p.tables e below P T2 (mkF m 15 #[.val (.ref oa), .val (.ref ob), .val (.ref ob)] [(.ref oa)])
  obtain ⟨T3, X3, e3, st3⟩ := getF X2 hx hZ hown (host := "") (Or.inl (hw _ (List.mem_of_getElem? (i := 33) rfl))) Via.refl e2 P5 (g := (mkF m 15 #[.val (.ref oa), .val (.ref ob), .val (.ref ob)] [(.ref oa)])) rfl rfl (hb hby d6_15)
  refine Go.via st3 ?_
  show Go p.tables e below P T3 (mkF m 18 #[.val (.ref oa), .val (.ref ob), .val (.ref ob)] [(.ref a0_)])
  refine Go.via (fun t k => XS.aloadN X3.here hx rfl (hb hby d6_18) rfl rfl k) ?_
  show Go p.tables e below P T3 (mkF m 19 #[.val (.ref oa), .val (.ref ob), .val (.ref ob)] [(.ref ob), (.ref a0_)])
  obtain ⟨T4, X4, e4, st4⟩ := getF X3 hx hZ hown (host := "") (Or.inl (hw _ (List.mem_of_getElem? (i := 33) rfl))) Via.refl e3 P6 (g := (mkF m 19 #[.val (.ref oa), .val (.ref ob), .val (.ref ob)] [(.ref ob), (.ref a0_)])) rfl rfl (hb hby d6_19)
  refine Go.via st4 ?_
  show Go p.tables e below P T4 (mkF m 22 #[.val (.ref oa), .val (.ref ob), .val (.ref ob)] [(.ref b0_), (.ref a0_)])
  obtain ⟨cq5, kq5, q5a, q5b, q5c⟩ := isOf hZ e4 P11
  obtain ⟨_, _, ⟨T5, L5, k5, n5⟩, -, X5, ⟨Lc5, hQ5, l5, y5, z5⟩, st5⟩ := X4.virtualBack hx (y := (⟨"java/lang/String", "equals", "(Ljava/lang/Object;)Z"⟩ : MethodName)) (z := (⟨"java/lang/String", "equals", "(Ljava/lang/Object;)Z"⟩ : MethodName)) hown (mvT hZ (hw _ (List.mem_of_getElem? (i := 92) rfl))) (mvT hZ (hw _ (List.mem_of_getElem? (i := 93) rfl))) (notFace_of_selects (args := #[]) (mvT hZ (hw _ (List.mem_of_getElem? (i := 95) rfl)))) (mvT hZ (hw _ (List.mem_of_getElem? (i := 95) rfl))) (mvT hZ (hw _ (List.mem_of_getElem? (i := 94) rfl))) (by decide) (backOf (W := 0) (rm18 l Z a0 hw [] a0_ b0_ cs t0_ w0_ k0_ l0_ x0_ z0_ h0 n0 Z0 O0 P1 (by first | assumption | decide | omega : ¬ cs = (0 : Int32)) P11 P12 P13 P14 P15 P16 P17 P18 sx0_ sz0_ hq0_) hZ (hw _ (List.mem_of_getElem? (i := 96) rfl)) (hw _ (List.mem_of_getElem? (i := 6) rfl)) (by decide) (by decide)) q5a q5c (g := (mkF m 22 #[.val (.ref oa), .val (.ref ob), .val (.ref ob)] [(.ref b0_), (.ref a0_)])) rfl (by rw [hml]; rfl) (Steps.refl _) (argsL := [(.ref b0_)]) (rest := []) (lenOf own_pd10 rfl) rfl (by show 2 * 0 + _ ≤ _; exact Nat.le_of_eq rfl) (hb hby d6_22) (fun _ _ => ⟨rfl, e4, (by decide : 0 + 0 ≤ _), (by decide : 0 + 0 ≤ _)⟩)
  dsimp only [Pt.U, Pt.locs, Pt.cells, Pt.slots] at X5 l5 y5 z5 st5 hQ5
  subst l5 y5 z5
  obtain ⟨rfl, Nq5, hh5⟩ := hQ5
  obtain ⟨lc5, Xh5, N5⟩ := own_hide X5 (Fr.app N0 Nq5)
  clear X5
  refine Go.hop st5 ?_
  show Go p.tables e below P T5 (mkF m 25 #[.val (.ref oa), .val (.ref ob), .val (.ref ob)] [(.int (if x0_ = z0_ then (1 : Int32) else (0 : Int32)))])
  by_cases hc6 : (if x0_ = z0_ then (1 : Int32) else (0 : Int32)) = (0 : Int32)
  · refine Go.via (fun t k => XS.ifYes Xh5.here hx rfl (pc0 := 25) (pc' := 60) rfl (hb hby d6_25) rfl ((if0 _ _).trans (teq hc6).1) (by decide) (by decide) k) ?_
    show Go p.tables e below P T5 (mkF m 60 #[.val (.ref oa), .val (.ref ob), .val (.ref ob)] [])
    refine Go.via (fun t k => XS.iconst Xh5.here hx rfl (hb hby d6_60) k) ?_
    show Go p.tables e below P T5 (mkF m 61 #[.val (.ref oa), .val (.ref ob), .val (.ref ob)] [(.int (0 : Int32))])
    obtain ⟨fs, hr, hrun, hended, hW, hsame⟩ := Xh5.leave (v := some (.int (if x0_ = z0_ ∧ x1_ = z1_ ∧ x2_ = z2_ then (1 : Int32) else (0 : Int32)))) (fun h => by rw [Bd.returns] at h; cases h)
    refine ⟨_, _, retZ Xh5 hx (t := .boolean) Bd.returns (by simp) (hb hby d6_61) (show nar .boolean (0 : Int32) = _ from (if_neg (fun q => own_i0 hc6 q.1)).symm) hr, hrun, hended, hP _ _ ⟨_, _, rfl, ?_, ⟨_, rfl⟩, hW, hsame.mono (by decide) (by decide)⟩⟩
    show Q6k Z oa ob cs a0_ t0_ k0_ x0_ b0_ w0_ l0_ z0_ a1_ t1_ k1_ x1_ b1_ w1_ l1_ z1_ a2_ t2_ k2_ x2_ b2_ w2_ l2_ z2_ h0 n0 _ T5.heap _
    rw [hh5]
    exact ⟨rfl, N5, rfl⟩
  · refine Go.via (fun t k => XS.ifNo Xh5.here hx rfl (hb hby d6_25) rfl ((if0 _ _).trans (feq hc6).1) k) ?_
    show Go p.tables e below P T5 (mkF m 28 #[.val (.ref oa), .val (.ref ob), .val (.ref ob)] [])
    refine Go.via (fun t k => XS.aloadN Xh5.here hx rfl (hb hby d6_28) rfl rfl k) ?_
    show Go p.tables e below P T5 (mkF m 29 #[.val (.ref oa), .val (.ref ob), .val (.ref ob)] [(.ref oa)])
    obtain ⟨T8, X8, e8, st8⟩ := getF Xh5 hx hZ hown (host := "") (Or.inl (hw _ (List.mem_of_getElem? (i := 35) rfl))) Via.refl hh5 P7 (g := (mkF m 29 #[.val (.ref oa), .val (.ref ob), .val (.ref ob)] [(.ref oa)])) rfl rfl (hb hby d6_29)
    refine Go.via st8 ?_
    show Go p.tables e below P T8 (mkF m 32 #[.val (.ref oa), .val (.ref ob), .val (.ref ob)] [(.ref a1_)])
    refine Go.via (fun t k => XS.aloadN X8.here hx rfl (hb hby d6_32) rfl rfl k) ?_
    show Go p.tables e below P T8 (mkF m 33 #[.val (.ref oa), .val (.ref ob), .val (.ref ob)] [(.ref ob), (.ref a1_)])
    obtain ⟨T9, X9, e9, st9⟩ := getF X8 hx hZ hown (host := "") (Or.inl (hw _ (List.mem_of_getElem? (i := 35) rfl))) Via.refl e8 P8 (g := (mkF m 33 #[.val (.ref oa), .val (.ref ob), .val (.ref ob)] [(.ref ob), (.ref a1_)])) rfl rfl (hb hby d6_33)
    refine Go.via st9 ?_
    show Go p.tables e below P T9 (mkF m 36 #[.val (.ref oa), .val (.ref ob), .val (.ref ob)] [(.ref b1_), (.ref a1_)])
    obtain ⟨cq10, kq10, q10a, q10b, q10c⟩ := isOf hZ e9 P22
    obtain ⟨_, _, ⟨T10, L10, k10, n10⟩, -, X10, ⟨Lc10, hQ10, l10, y10, z10⟩, st10⟩ := X9.virtualBack hx (y := (⟨"java/lang/String", "equals", "(Ljava/lang/Object;)Z"⟩ : MethodName)) (z := (⟨"java/lang/String", "equals", "(Ljava/lang/Object;)Z"⟩ : MethodName)) hown (mvT hZ (hw _ (List.mem_of_getElem? (i := 92) rfl))) (mvT hZ (hw _ (List.mem_of_getElem? (i := 93) rfl))) (notFace_of_selects (args := #[]) (mvT hZ (hw _ (List.mem_of_getElem? (i := 95) rfl)))) (mvT hZ (hw _ (List.mem_of_getElem? (i := 95) rfl))) (mvT hZ (hw _ (List.mem_of_getElem? (i := 94) rfl))) (by decide) (backOf (W := 0) (rm18 l Z a0 hw [] a1_ b1_ cs t1_ w1_ k1_ l1_ x1_ z1_ h0 n0 Z0 O0 P1 (by first | assumption | decide | omega : ¬ cs = (0 : Int32)) P22 P23 P24 P25 P26 P27 P28 P29 sx1_ sz1_ hq1_) hZ (hw _ (List.mem_of_getElem? (i := 96) rfl)) (hw _ (List.mem_of_getElem? (i := 6) rfl)) (by decide) (by decide)) q10a q10c (g := (mkF m 36 #[.val (.ref oa), .val (.ref ob), .val (.ref ob)] [(.ref b1_), (.ref a1_)])) rfl (by rw [hml]; rfl) (Steps.refl _) (argsL := [(.ref b1_)]) (rest := []) (lenOf own_pd10 rfl) rfl (by show 2 * 0 + _ ≤ _; exact Nat.le_of_eq rfl) (hb hby d6_36) (fun _ _ => ⟨rfl, e9, (by decide : 0 + 0 ≤ _), (by decide : 0 + 0 ≤ _)⟩)
    dsimp only [Pt.U, Pt.locs, Pt.cells, Pt.slots] at X10 l10 y10 z10 st10 hQ10
    subst l10 y10 z10
    obtain ⟨rfl, Nq10, hh10⟩ := hQ10
    obtain ⟨lc10, Xh10, N10⟩ := own_hide X10 (Fr.app N5 Nq10)
    clear X10
    refine Go.hop st10 ?_
    show Go p.tables e below P T10 (mkF m 39 #[.val (.ref oa), .val (.ref ob), .val (.ref ob)] [(.int (if x1_ = z1_ then (1 : Int32) else (0 : Int32)))])
    by_cases hc11 : (if x1_ = z1_ then (1 : Int32) else (0 : Int32)) = (0 : Int32)
    · refine Go.via (fun t k => XS.ifYes Xh10.here hx rfl (pc0 := 39) (pc' := 60) rfl (hb hby d6_39) rfl ((if0 _ _).trans (teq hc11).1) (by decide) (by decide) k) ?_
      show Go p.tables e below P T10 (mkF m 60 #[.val (.ref oa), .val (.ref ob), .val (.ref ob)] [])
      refine Go.via (fun t k => XS.iconst Xh10.here hx rfl (hb hby d6_60) k) ?_
      show Go p.tables e below P T10 (mkF m 61 #[.val (.ref oa), .val (.ref ob), .val (.ref ob)] [(.int (0 : Int32))])
      obtain ⟨fs, hr, hrun, hended, hW, hsame⟩ := Xh10.leave (v := some (.int (if x0_ = z0_ ∧ x1_ = z1_ ∧ x2_ = z2_ then (1 : Int32) else (0 : Int32)))) (fun h => by rw [Bd.returns] at h; cases h)
      refine ⟨_, _, retZ Xh10 hx (t := .boolean) Bd.returns (by simp) (hb hby d6_61) (show nar .boolean (0 : Int32) = _ from (if_neg (fun q => own_i0 hc11 q.2.1)).symm) hr, hrun, hended, hP _ _ ⟨_, _, rfl, ?_, ⟨_, rfl⟩, hW, hsame.mono (by decide) (by decide)⟩⟩
      show Q6k Z oa ob cs a0_ t0_ k0_ x0_ b0_ w0_ l0_ z0_ a1_ t1_ k1_ x1_ b1_ w1_ l1_ z1_ a2_ t2_ k2_ x2_ b2_ w2_ l2_ z2_ h0 n0 _ T10.heap _
      rw [hh10]
      exact ⟨rfl, N10, rfl⟩
    · refine Go.via (fun t k => XS.ifNo Xh10.here hx rfl (hb hby d6_39) rfl ((if0 _ _).trans (feq hc11).1) k) ?_
      show Go p.tables e below P T10 (mkF m 42 #[.val (.ref oa), .val (.ref ob), .val (.ref ob)] [])
      refine Go.via (fun t k => XS.aloadN Xh10.here hx rfl (hb hby d6_42) rfl rfl k) ?_
      show Go p.tables e below P T10 (mkF m 43 #[.val (.ref oa), .val (.ref ob), .val (.ref ob)] [(.ref oa)])
      obtain ⟨T13, X13, e13, st13⟩ := getF Xh10 hx hZ hown (host := "") (Or.inl (hw _ (List.mem_of_getElem? (i := 37) rfl))) Via.refl hh10 P9 (g := (mkF m 43 #[.val (.ref oa), .val (.ref ob), .val (.ref ob)] [(.ref oa)])) rfl rfl (hb hby d6_43)
      refine Go.via st13 ?_
      show Go p.tables e below P T13 (mkF m 46 #[.val (.ref oa), .val (.ref ob), .val (.ref ob)] [(.ref a2_)])
      refine Go.via (fun t k => XS.aloadN X13.here hx rfl (hb hby d6_46) rfl rfl k) ?_
      show Go p.tables e below P T13 (mkF m 47 #[.val (.ref oa), .val (.ref ob), .val (.ref ob)] [(.ref ob), (.ref a2_)])
      obtain ⟨T14, X14, e14, st14⟩ := getF X13 hx hZ hown (host := "") (Or.inl (hw _ (List.mem_of_getElem? (i := 37) rfl))) Via.refl e13 P10 (g := (mkF m 47 #[.val (.ref oa), .val (.ref ob), .val (.ref ob)] [(.ref ob), (.ref a2_)])) rfl rfl (hb hby d6_47)
      refine Go.via st14 ?_
      show Go p.tables e below P T14 (mkF m 50 #[.val (.ref oa), .val (.ref ob), .val (.ref ob)] [(.ref b2_), (.ref a2_)])
      obtain ⟨cq15, kq15, q15a, q15b, q15c⟩ := isOf hZ e14 P33
      obtain ⟨_, _, ⟨T15, L15, k15, n15⟩, -, X15, ⟨Lc15, hQ15, l15, y15, z15⟩, st15⟩ := X14.virtualBack hx (y := (⟨"java/lang/String", "equals", "(Ljava/lang/Object;)Z"⟩ : MethodName)) (z := (⟨"java/lang/String", "equals", "(Ljava/lang/Object;)Z"⟩ : MethodName)) hown (mvT hZ (hw _ (List.mem_of_getElem? (i := 92) rfl))) (mvT hZ (hw _ (List.mem_of_getElem? (i := 93) rfl))) (notFace_of_selects (args := #[]) (mvT hZ (hw _ (List.mem_of_getElem? (i := 95) rfl)))) (mvT hZ (hw _ (List.mem_of_getElem? (i := 95) rfl))) (mvT hZ (hw _ (List.mem_of_getElem? (i := 94) rfl))) (by decide) (backOf (W := 0) (rm18 l Z a0 hw [] a2_ b2_ cs t2_ w2_ k2_ l2_ x2_ z2_ h0 n0 Z0 O0 P1 (by first | assumption | decide | omega : ¬ cs = (0 : Int32)) P33 P34 P35 P36 P37 P38 P39 P40 sx2_ sz2_ hq2_) hZ (hw _ (List.mem_of_getElem? (i := 96) rfl)) (hw _ (List.mem_of_getElem? (i := 6) rfl)) (by decide) (by decide)) q15a q15c (g := (mkF m 50 #[.val (.ref oa), .val (.ref ob), .val (.ref ob)] [(.ref b2_), (.ref a2_)])) rfl (by rw [hml]; rfl) (Steps.refl _) (argsL := [(.ref b2_)]) (rest := []) (lenOf own_pd10 rfl) rfl (by show 2 * 0 + _ ≤ _; exact Nat.le_of_eq rfl) (hb hby d6_50) (fun _ _ => ⟨rfl, e14, (by decide : 0 + 0 ≤ _), (by decide : 0 + 0 ≤ _)⟩)
      dsimp only [Pt.U, Pt.locs, Pt.cells, Pt.slots] at X15 l15 y15 z15 st15 hQ15
      subst l15 y15 z15
      obtain ⟨rfl, Nq15, hh15⟩ := hQ15
      obtain ⟨lc15, Xh15, N15⟩ := own_hide X15 (Fr.app N10 Nq15)
      clear X15
      refine Go.hop st15 ?_
      show Go p.tables e below P T15 (mkF m 53 #[.val (.ref oa), .val (.ref ob), .val (.ref ob)] [(.int (if x2_ = z2_ then (1 : Int32) else (0 : Int32)))])
      by_cases hc16 : (if x2_ = z2_ then (1 : Int32) else (0 : Int32)) = (0 : Int32)
      · refine Go.via (fun t k => XS.ifYes Xh15.here hx rfl (pc0 := 53) (pc' := 60) rfl (hb hby d6_53) rfl ((if0 _ _).trans (teq hc16).1) (by decide) (by decide) k) ?_
        show Go p.tables e below P T15 (mkF m 60 #[.val (.ref oa), .val (.ref ob), .val (.ref ob)] [])
        refine Go.via (fun t k => XS.iconst Xh15.here hx rfl (hb hby d6_60) k) ?_
        show Go p.tables e below P T15 (mkF m 61 #[.val (.ref oa), .val (.ref ob), .val (.ref ob)] [(.int (0 : Int32))])
        obtain ⟨fs, hr, hrun, hended, hW, hsame⟩ := Xh15.leave (v := some (.int (if x0_ = z0_ ∧ x1_ = z1_ ∧ x2_ = z2_ then (1 : Int32) else (0 : Int32)))) (fun h => by rw [Bd.returns] at h; cases h)
        refine ⟨_, _, retZ Xh15 hx (t := .boolean) Bd.returns (by simp) (hb hby d6_61) (show nar .boolean (0 : Int32) = _ from (if_neg (fun q => own_i0 hc16 q.2.2)).symm) hr, hrun, hended, hP _ _ ⟨_, _, rfl, ?_, ⟨_, rfl⟩, hW, hsame.mono (by decide) (by decide)⟩⟩
        show Q6k Z oa ob cs a0_ t0_ k0_ x0_ b0_ w0_ l0_ z0_ a1_ t1_ k1_ x1_ b1_ w1_ l1_ z1_ a2_ t2_ k2_ x2_ b2_ w2_ l2_ z2_ h0 n0 _ T15.heap _
        rw [hh15]
        exact ⟨rfl, N15, rfl⟩
      · refine Go.via (fun t k => XS.ifNo Xh15.here hx rfl (hb hby d6_53) rfl ((if0 _ _).trans (feq hc16).1) k) ?_
        show Go p.tables e below P T15 (mkF m 56 #[.val (.ref oa), .val (.ref ob), .val (.ref ob)] [])
        refine Go.via (fun t k => XS.iconst Xh15.here hx rfl (hb hby d6_56) k) ?_
        show Go p.tables e below P T15 (mkF m 57 #[.val (.ref oa), .val (.ref ob), .val (.ref ob)] [(.int (1 : Int32))])
        refine Go.via (fun t k => XS.goto Xh15.here hx rfl (pc0 := 57) (pc' := 61) rfl (hb hby d6_57) (by decide) (by decide) k) ?_
        show Go p.tables e below P T15 (mkF m 61 #[.val (.ref oa), .val (.ref ob), .val (.ref ob)] [(.int (1 : Int32))])
        obtain ⟨fs, hr, hrun, hended, hW, hsame⟩ := Xh15.leave (v := some (.int (if x0_ = z0_ ∧ x1_ = z1_ ∧ x2_ = z2_ then (1 : Int32) else (0 : Int32)))) (fun h => by rw [Bd.returns] at h; cases h)
        refine ⟨_, _, retZ Xh15 hx (t := .boolean) Bd.returns (by simp) (hb hby d6_61) (show nar .boolean (1 : Int32) = _ from (if_pos ⟨own_i1 hc6, own_i1 hc11, own_i1 hc16⟩).symm) hr, hrun, hended, hP _ _ ⟨_, _, rfl, ?_, ⟨_, rfl⟩, hW, hsame.mono (by decide) (by decide)⟩⟩
        show Q6k Z oa ob cs a0_ t0_ k0_ x0_ b0_ w0_ l0_ z0_ a1_ t1_ k1_ x1_ b1_ w1_ l1_ z1_ a2_ t2_ k2_ x2_ b2_ w2_ l2_ z2_ h0 n0 _ T15.heap _
        rw [hh15]
        exact ⟨rfl, N15, rfl⟩
theorem own_pd11 : parseMethodDescriptor "(I)Ljava/lang/String;" = some ⟨[.int], some (.object "java/lang/String")⟩ := by decide +kernel
theorem own_pd12 : parseMethodDescriptor "(Ljava/lang/String;Ljava/lang/String;Ljava/lang/String;)V" = some ⟨[(.object "java/lang/String"), (.object "java/lang/String"), (.object "java/lang/String")], none⟩ := by decide +kernel
theorem own_pd13 : parseMethodDescriptor "(Ljava/lang/String;Ljava/lang/String;)Z" = some ⟨[(.object "java/lang/String"), (.object "java/lang/String")], some .boolean⟩ := by decide +kernel
theorem ef_0 (m : MethodId) (x0 : Int32) (x1 : Int32) (x2 : Int32) (x3 : Int32) (x4 : Int32) (x5 : Int32) : entryFrame m #[(.int x0), (.int x1), (.int x2), (.int x3), (.int x4), (.int x5)] maxLocals = mkF m 0 #[.val (.int x0), .val (.int x1), .val (.int x2), .val (.int x3), .val (.int x4), .val (.int x5), .unset, .unset, .unset, .unset, .unset, .unset, .unset, .unset, .unset, .unset] [] := by first | (simp [entryFrame, mkF, argsToLocals, Value.category, maxLocals]; done) | rfl
def Q0 (Z : State) (p1 : Int32) (p2 : Int32) (p3 : Int32) (p4 : Int32) (p5 : Int32) (p6 : Int32) (cs : Int32) (fm : Value) (h0 : Heap) (n0 : Nat) (v : Option Value) (h : Heap) (L : List Loc) : Prop := v = some (.int (1 : Int32)) ∧ Fr n0 L
set_option maxRecDepth 65536 in
set_option maxHeartbeats 40000000 in
theorem rm0 (l : Launch) (Z : State) (a0 : Array Value) (hw : ∀ d ∈ tables_1, d.before a0 Z = true) (ws : List Jvm.Cond) (p1 : Int32) (p2 : Int32) (p3 : Int32) (p4 : Int32) (p5 : Int32) (p6 : Int32) (cs : Int32) (fm : Value) (h0 : Heap) (n0 : Nat) (Z0 : n0 ≤ h0.size) (O0 : Old Z n0 h0) (P1 : Sta Z Z.heap "java/lang/String" "COMPACT_STRINGS" "Z" (.int cs)) (hcs : ¬ cs = (0 : Int32)) (P3 : Sta Z Z.heap "jdk/internal/util/Preconditions" "SIOOBE_FORMATTER" "Ljava/util/function/BiFunction;" fm) (rfm : fm.isRef = true) :
    MetFree l x (head1 (Jvm.Cond.code x code maxLocals ret :: ws) room_1) (fun a U => a = #[(.int p1), (.int p2), (.int p3), (.int p4), (.int p5), (.int p6)] ∧ Z.Warmed39 U.vm ∧ U.heap = h0 ∧ CHv Z consts_1 U.vm h0) (fun _ _ _ _ _ => True) (fun _ U o U' => ∃ v L, o = .returned v ∧ Q0 Z p1 p2 p3 p4 p5 p6 cs fm h0 n0 v U'.heap L ∧ CHr Z consts_1 U.vm U.heap U'.vm U'.heap ∧ ReturnedEndW U o U' L room_1.cells room_1.slots) := by
  refine MetFree.of_bodySF (plainFor_of_name own_pn1) hisR ?_
  intro p e s m args below meth c s₁ Bd hml0 hP hK
  obtain ⟨rfl, hZ, hh, hCH0⟩ := hP
  have hx := Bd.exec
  have hby := Bd.bytes
  have hml : c.maxLocals = 16 := hml0
  have hown : s.vm.findClass "com/example/splitbook/splitbook/book/ReportKeyEqualsPinLaw" = some m.cls := findClass_of_methodNamed Bd.named
  have hnm := (name_of_methodNamed Bd.named Bd.method).1
  have X0 : Stand p l e room_1 s m #[(.int p1), (.int p2), (.int p3), (.int p4), (.int p5), (.int p6)] below meth c s₁ [] 0 0 := Stand.of_body Bd
  have X0 : Stand p l e room_1 (s.setVm s.vm) m #[(.int p1), (.int p2), (.int p3), (.int p4), (.int p5), (.int p6)] below meth c s₁ [] 0 0 := X0
  have hZ : Z.Warmed39 (s.setVm s.vm).vm := hZ
  have hown : (s.setVm s.vm).vm.findClass "com/example/splitbook/splitbook/book/ReportKeyEqualsPinLaw" = some m.cls := hown
  have hS0 : s.Since s.vm 0 := State.WarmedH.since (State.WarmedH.refl s) 0
  have CR0 : CHr Z consts_1 s.vm h0 s.vm h0 := CHr.refl hCH0
  have e0 : s₁.heap = h0 := by rw [← hh, Bd.state]; rfl
  have N0 := Fr.nil n0
  have K0 : Keep h0 h0 [] := Keep.refl _ _
  suffices GO : ∀ P : Outcome → State → Prop, (∀ o U', (∃ v L, o = .returned v ∧ Q0 Z p1 p2 p3 p4 p5 p6 cs fm h0 n0 v U'.heap L ∧ CHr Z consts_1 s.vm s.heap U'.vm U'.heap ∧ ReturnedEndW s o U' L room_1.cells room_1.slots) → P o U') → Go p.tables e below P s₁ (mkF m 0 #[.val (.int p1), .val (.int p2), .val (.int p3), .val (.int p4), .val (.int p5), .val (.int p6), .unset, .unset, .unset, .unset, .unset, .unset, .unset, .unset, .unset, .unset] []) by
    obtain ⟨s2, o, st, r⟩ := GO _ (fun _ _ q => q)
    exact ⟨s2, o, castTop (ef_0 m p1 p2 p3 p4 p5 p6) st, r⟩
  intro P hP
  show Go p.tables e below P s₁ (mkF m 0 #[.val (.int p1), .val (.int p2), .val (.int p3), .val (.int p4), .val (.int p5), .val (.int p6), .unset, .unset, .unset, .unset, .unset, .unset, .unset, .unset, .unset, .unset] [])
  refine Go.via (fun t k => XS.iloadN X0.here hx rfl (hb hby at_0) rfl k) ?_
  show Go p.tables e below P s₁ (mkF m 1 #[.val (.int p1), .val (.int p2), .val (.int p3), .val (.int p4), .val (.int p5), .val (.int p6), .unset, .unset, .unset, .unset, .unset, .unset, .unset, .unset, .unset, .unset] [(.int p1)])
  obtain ⟨_, _, ⟨T1, L1, k1, n1⟩, -, X1, hSn1, hgn1, ⟨Lc1, hQ1, l1, y1, z1, hC1⟩, st1⟩ := callSS X0 hx (y := (⟨"com/example/splitbook/splitbook/book/ReportKeyEqualsPinLaw", "str", "(I)Ljava/lang/String;"⟩ : MethodName)) hown (mvT hZ (hw _ (List.mem_of_getElem? (i := 0) rfl))) (mvT hZ (hw _ (List.mem_of_getElem? (i := 1) rfl))) (mvT hZ (hw _ (List.mem_of_getElem? (i := 2) rfl))) (mvT hZ (hw _ (List.mem_of_getElem? (i := 3) rfl))) (by decide) (backOfSH (W := 0) (rm1 l Z a0 hw [] p1 cs h0 n0 Z0 O0 P1 (by first | assumption | decide | omega : ¬ cs = (0 : Int32))) hZ (hw _ (List.mem_of_getElem? (i := 3) rfl)) (hw _ (List.mem_of_getElem? (i := 2) rfl)) (by decide) (by decide) (own_EW hw) CR0.1) (g := (mkF m 1 #[.val (.int p1), .val (.int p2), .val (.int p3), .val (.int p4), .val (.int p5), .val (.int p6), .unset, .unset, .unset, .unset, .unset, .unset, .unset, .unset, .unset, .unset] [(.int p1)])) rfl (by rw [hml]; rfl) (argsL := [(.int p1)]) (rest := []) (lenOf own_pd11 rfl) rfl (by show 2 * 0 + _ ≤ _; exact Nat.le_of_eq rfl) (hb hby at_1) (fun _ _ => ⟨rfl, e0, (by decide : 0 + 6 ≤ _), (by decide : 0 + 12 ≤ _)⟩)
  dsimp only [Pt.U, Pt.locs, Pt.cells, Pt.slots] at X1 l1 y1 z1 st1 hQ1 hSn1 hgn1 hC1
  subst l1 y1 z1
  have hS1 : s.Since T1.vm T1.heap.size := foldS hS0 (by rw [e0]; exact (Nat.zero_le _)) hSn1 hgn1
  have X1 : Stand p l e room_1 (s.setVm T1.vm) m #[(.int p1), (.int p2), (.int p3), (.int p4), (.int p5), (.int p6)] below meth c T1 _ _ _ := X1
  have hown : (s.setVm T1.vm).vm.findClass "com/example/splitbook/splitbook/book/ReportKeyEqualsPinLaw" = some m.cls := by rw [show (s.setVm T1.vm).vm = T1.vm from rfl, hSn1.1.alike.findClass]; exact hown
  have hZ : Z.Warmed39 (s.setVm T1.vm).vm := State.Warmed39.trans (t := s.setVm s.vm) hZ hSn1.1
  obtain ⟨r_1, tb_1, kk_1, bl_1, rfl, Nq1, K1, fr1_r, u1_0, u1_1, u1_2, u1_3, u1_4, u1_5, u1_6⟩ := hQ1
  obtain ⟨lc1, Xh1, N1⟩ := own_hide X1 (Fr.app N0 Nq1)
  clear X1
  refine Go.hop st1 ?_
  have CR2 := CHr.trans CR0 hC1
  have g3 : n0 ≤ r_1 := Nat.le_trans Z0 fr1_r
  have sz4 : h0.size ≤ r_1 := Nat.le_trans K0.1 fr1_r
  have Z5 : n0 ≤ T1.heap.size := Nat.le_trans Z0 K1.1
  have K6 : Keep h0 T1.heap [] := K0.trans K1 own_all0
  have O7 : Old Z n0 T1.heap := O0.keep K1 own_all0
  have hk8 : T1.heap.size ≤ T1.heap.size := Nat.le_refl _
  show Go p.tables e below P T1 (mkF m 4 #[.val (.int p1), .val (.int p2), .val (.int p3), .val (.int p4), .val (.int p5), .val (.int p6), .unset, .unset, .unset, .unset, .unset, .unset, .unset, .unset, .unset, .unset] [(.ref r_1)])
  refine Go.via (fun t k => XS.astore Xh1.here hx rfl (hb hby at_4) rfl rfl (l' := #[.val (.int p1), .val (.int p2), .val (.int p3), .val (.int p4), .val (.int p5), .val (.int p6), .val (.ref r_1), .unset, .unset, .unset, .unset, .unset, .unset, .unset, .unset, .unset]) rfl k) ?_
  show Go p.tables e below P T1 (mkF m 6 #[.val (.int p1), .val (.int p2), .val (.int p3), .val (.int p4), .val (.int p5), .val (.int p6), .val (.ref r_1), .unset, .unset, .unset, .unset, .unset, .unset, .unset, .unset, .unset] [])
  refine Go.via (fun t k => XS.iloadN Xh1.here hx rfl (hb hby at_6) rfl k) ?_
  show Go p.tables e below P T1 (mkF m 7 #[.val (.int p1), .val (.int p2), .val (.int p3), .val (.int p4), .val (.int p5), .val (.int p6), .val (.ref r_1), .unset, .unset, .unset, .unset, .unset, .unset, .unset, .unset, .unset] [(.int p2)])
  obtain ⟨_, _, ⟨T9, L9, k9, n9⟩, -, X9, hSn9, hgn9, ⟨Lc9, hQ9, l9, y9, z9, hC9⟩, st9⟩ := callSS Xh1 hx (y := (⟨"com/example/splitbook/splitbook/book/ReportKeyEqualsPinLaw", "str", "(I)Ljava/lang/String;"⟩ : MethodName)) hown (mvT hZ (hw _ (List.mem_of_getElem? (i := 0) rfl))) (mvT hZ (hw _ (List.mem_of_getElem? (i := 1) rfl))) (mvT hZ (hw _ (List.mem_of_getElem? (i := 2) rfl))) (mvT hZ (hw _ (List.mem_of_getElem? (i := 3) rfl))) (by decide) (backOfSH (W := 0) (rm1 l Z a0 hw [] p2 cs T1.heap n0 Z5 O7 P1 (by first | assumption | decide | omega : ¬ cs = (0 : Int32))) hZ (hw _ (List.mem_of_getElem? (i := 3) rfl)) (hw _ (List.mem_of_getElem? (i := 2) rfl)) (by decide) (by decide) (own_EW hw) CR2.1) (g := (mkF m 7 #[.val (.int p1), .val (.int p2), .val (.int p3), .val (.int p4), .val (.int p5), .val (.int p6), .val (.ref r_1), .unset, .unset, .unset, .unset, .unset, .unset, .unset, .unset, .unset] [(.int p2)])) rfl (by rw [hml]; rfl) (argsL := [(.int p2)]) (rest := []) (lenOf own_pd11 rfl) rfl (by show 2 * 0 + _ ≤ _; exact Nat.le_of_eq rfl) (hb hby at_7) (fun _ _ => ⟨rfl, rfl, (by decide : 6 + 6 ≤ _), (by decide : 12 + 12 ≤ _)⟩)
  dsimp only [Pt.U, Pt.locs, Pt.cells, Pt.slots] at X9 l9 y9 z9 st9 hQ9 hSn9 hgn9 hC9
  subst l9 y9 z9
  have hS9 : s.Since T9.vm T9.heap.size := foldS hS1 (by exact hk8) hSn9 hgn9
  have X9 : Stand p l e room_1 (s.setVm T9.vm) m #[(.int p1), (.int p2), (.int p3), (.int p4), (.int p5), (.int p6)] below meth c T9 _ _ _ := X9
  have hown : (s.setVm T9.vm).vm.findClass "com/example/splitbook/splitbook/book/ReportKeyEqualsPinLaw" = some m.cls := by rw [show (s.setVm T9.vm).vm = T9.vm from rfl, hSn9.1.alike.findClass]; exact hown
  have hZ : Z.Warmed39 (s.setVm T9.vm).vm := State.Warmed39.trans (t := s.setVm T1.vm) hZ hSn9.1
  obtain ⟨r_9, tb_9, kk_9, bl_9, rfl, Nq9, K9, fr9_r, u9_0, u9_1, u9_2, u9_3, u9_4, u9_5, u9_6⟩ := hQ9
  obtain ⟨lc9, Xh9, N9⟩ := own_hide X9 (Fr.app N1 Nq9)
  clear X9
  refine Go.hop st9 ?_
  have CR10 := CHr.trans CR2 hC9
  have ne11 : r_1 ≠ r_9 := Nat.ne_of_lt (Nat.lt_of_lt_of_le u1_0.lt fr9_r)
  have ne12 : tb_1 ≠ r_9 := Nat.ne_of_lt (Nat.lt_of_lt_of_le u1_3.lt fr9_r)
  have g13 : n0 ≤ r_9 := Nat.le_trans Z5 fr9_r
  have sz14 : h0.size ≤ r_9 := Nat.le_trans K6.1 fr9_r
  have Z15 : n0 ≤ T9.heap.size := Nat.le_trans Z5 K9.1
  have K16 : Keep h0 T9.heap [] := K6.trans K9 own_all0
  have O17 : Old Z n0 T9.heap := O7.keep K9 own_all0
  have hk18 : T9.heap.size ≤ T9.heap.size := Nat.le_refl _
  show Go p.tables e below P T9 (mkF m 10 #[.val (.int p1), .val (.int p2), .val (.int p3), .val (.int p4), .val (.int p5), .val (.int p6), .val (.ref r_1), .unset, .unset, .unset, .unset, .unset, .unset, .unset, .unset, .unset] [(.ref r_9)])
  refine Go.via (fun t k => XS.astore Xh9.here hx rfl (hb hby at_10) rfl rfl (l' := #[.val (.int p1), .val (.int p2), .val (.int p3), .val (.int p4), .val (.int p5), .val (.int p6), .val (.ref r_1), .val (.ref r_9), .unset, .unset, .unset, .unset, .unset, .unset, .unset, .unset]) rfl k) ?_
  show Go p.tables e below P T9 (mkF m 12 #[.val (.int p1), .val (.int p2), .val (.int p3), .val (.int p4), .val (.int p5), .val (.int p6), .val (.ref r_1), .val (.ref r_9), .unset, .unset, .unset, .unset, .unset, .unset, .unset, .unset] [])
  refine Go.via (fun t k => XS.iloadN Xh9.here hx rfl (hb hby at_12) rfl k) ?_
  show Go p.tables e below P T9 (mkF m 13 #[.val (.int p1), .val (.int p2), .val (.int p3), .val (.int p4), .val (.int p5), .val (.int p6), .val (.ref r_1), .val (.ref r_9), .unset, .unset, .unset, .unset, .unset, .unset, .unset, .unset] [(.int p3)])
  have F19 : Exa Z T9.heap r_1 "java/lang/String" := (u1_0.keep K9)
  have F20 : Fld Z T9.heap r_1 "java/lang/String" "value" "[B" (.ref tb_1) := (u1_1.keep K9 own_nin0)
  have F21 : Fld Z T9.heap r_1 "java/lang/String" "coder" "B" (.int (0 : Int32)) := (u1_2.keep K9 own_nin0)
  have F22 : Arv Z T9.heap tb_1 kk_1 .byte (own_ln bl_1) (bl_1.map Value.int) (.int (0 : Int32)) := (u1_3.keep K9 own_nin0)
  obtain ⟨_, _, ⟨T23, L23, k23, n23⟩, -, X23, hSn23, hgn23, ⟨Lc23, hQ23, l23, y23, z23, hC23⟩, st23⟩ := callSS Xh9 hx (y := (⟨"com/example/splitbook/splitbook/book/ReportKeyEqualsPinLaw", "str", "(I)Ljava/lang/String;"⟩ : MethodName)) hown (mvT hZ (hw _ (List.mem_of_getElem? (i := 0) rfl))) (mvT hZ (hw _ (List.mem_of_getElem? (i := 1) rfl))) (mvT hZ (hw _ (List.mem_of_getElem? (i := 2) rfl))) (mvT hZ (hw _ (List.mem_of_getElem? (i := 3) rfl))) (by decide) (backOfSH (W := 0) (rm1 l Z a0 hw [] p3 cs T9.heap n0 Z15 O17 P1 (by first | assumption | decide | omega : ¬ cs = (0 : Int32))) hZ (hw _ (List.mem_of_getElem? (i := 3) rfl)) (hw _ (List.mem_of_getElem? (i := 2) rfl)) (by decide) (by decide) (own_EW hw) CR10.1) (g := (mkF m 13 #[.val (.int p1), .val (.int p2), .val (.int p3), .val (.int p4), .val (.int p5), .val (.int p6), .val (.ref r_1), .val (.ref r_9), .unset, .unset, .unset, .unset, .unset, .unset, .unset, .unset] [(.int p3)])) rfl (by rw [hml]; rfl) (argsL := [(.int p3)]) (rest := []) (lenOf own_pd11 rfl) rfl (by show 2 * 0 + _ ≤ _; exact Nat.le_of_eq rfl) (hb hby at_13) (fun _ _ => ⟨rfl, rfl, (by decide : 12 + 6 ≤ _), (by decide : 24 + 12 ≤ _)⟩)
  dsimp only [Pt.U, Pt.locs, Pt.cells, Pt.slots] at X23 l23 y23 z23 st23 hQ23 hSn23 hgn23 hC23
  subst l23 y23 z23
  have hS23 : s.Since T23.vm T23.heap.size := foldS hS9 (by exact hk18) hSn23 hgn23
  have X23 : Stand p l e room_1 (s.setVm T23.vm) m #[(.int p1), (.int p2), (.int p3), (.int p4), (.int p5), (.int p6)] below meth c T23 _ _ _ := X23
  have hown : (s.setVm T23.vm).vm.findClass "com/example/splitbook/splitbook/book/ReportKeyEqualsPinLaw" = some m.cls := by rw [show (s.setVm T23.vm).vm = T23.vm from rfl, hSn23.1.alike.findClass]; exact hown
  have hZ : Z.Warmed39 (s.setVm T23.vm).vm := State.Warmed39.trans (t := s.setVm T9.vm) hZ hSn23.1
  obtain ⟨r_23, tb_23, kk_23, bl_23, rfl, Nq23, K23, fr23_r, u23_0, u23_1, u23_2, u23_3, u23_4, u23_5, u23_6⟩ := hQ23
  obtain ⟨lc23, Xh23, N23⟩ := own_hide X23 (Fr.app N9 Nq23)
  clear X23
  refine Go.hop st23 ?_
  have CR24 := CHr.trans CR10 hC23
  have ne25 : r_1 ≠ r_23 := Nat.ne_of_lt (Nat.lt_of_lt_of_le F19.lt fr23_r)
  have ne26 : tb_1 ≠ r_23 := Nat.ne_of_lt (Nat.lt_of_lt_of_le F22.lt fr23_r)
  have ne27 : r_9 ≠ r_23 := Nat.ne_of_lt (Nat.lt_of_lt_of_le u9_0.lt fr23_r)
  have ne28 : tb_9 ≠ r_23 := Nat.ne_of_lt (Nat.lt_of_lt_of_le u9_3.lt fr23_r)
  have g29 : n0 ≤ r_23 := Nat.le_trans Z15 fr23_r
  have sz30 : h0.size ≤ r_23 := Nat.le_trans K16.1 fr23_r
  have Z31 : n0 ≤ T23.heap.size := Nat.le_trans Z15 K23.1
  have K32 : Keep h0 T23.heap [] := K16.trans K23 own_all0
  have O33 : Old Z n0 T23.heap := O17.keep K23 own_all0
  have hk34 : T23.heap.size ≤ T23.heap.size := Nat.le_refl _
  show Go p.tables e below P T23 (mkF m 16 #[.val (.int p1), .val (.int p2), .val (.int p3), .val (.int p4), .val (.int p5), .val (.int p6), .val (.ref r_1), .val (.ref r_9), .unset, .unset, .unset, .unset, .unset, .unset, .unset, .unset] [(.ref r_23)])
  refine Go.via (fun t k => XS.astore Xh23.here hx rfl (hb hby at_16) rfl rfl (l' := #[.val (.int p1), .val (.int p2), .val (.int p3), .val (.int p4), .val (.int p5), .val (.int p6), .val (.ref r_1), .val (.ref r_9), .val (.ref r_23), .unset, .unset, .unset, .unset, .unset, .unset, .unset]) rfl k) ?_
  show Go p.tables e below P T23 (mkF m 18 #[.val (.int p1), .val (.int p2), .val (.int p3), .val (.int p4), .val (.int p5), .val (.int p6), .val (.ref r_1), .val (.ref r_9), .val (.ref r_23), .unset, .unset, .unset, .unset, .unset, .unset, .unset] [])
  refine Go.via (fun t k => XS.iloadN Xh23.here hx rfl (hb hby at_18) rfl k) ?_
  show Go p.tables e below P T23 (mkF m 19 #[.val (.int p1), .val (.int p2), .val (.int p3), .val (.int p4), .val (.int p5), .val (.int p6), .val (.ref r_1), .val (.ref r_9), .val (.ref r_23), .unset, .unset, .unset, .unset, .unset, .unset, .unset] [(.int p4)])
  refine Go.via (fun t k => XS.bipush Xh23.here hx rfl (hb hby at_19) k) ?_
  show Go p.tables e below P T23 (mkF m 21 #[.val (.int p1), .val (.int p2), .val (.int p3), .val (.int p4), .val (.int p5), .val (.int p6), .val (.ref r_1), .val (.ref r_9), .val (.ref r_23), .unset, .unset, .unset, .unset, .unset, .unset, .unset] [(.int (20 : Int32)), (.int p4)])
  refine Go.via (fun t k => XS.iushr Xh23.here hx rfl (hb hby at_21) rfl k) ?_
  show Go p.tables e below P T23 (mkF m 22 #[.val (.int p1), .val (.int p2), .val (.int p3), .val (.int p4), .val (.int p5), .val (.int p6), .val (.ref r_1), .val (.ref r_9), .val (.ref r_23), .unset, .unset, .unset, .unset, .unset, .unset, .unset] [(.int ((p4.toUInt32 >>> ((20 : Int32) &&& 31).toUInt32).toInt32))])
  refine Go.via (fun t k => XS.iconst Xh23.here hx rfl (hb hby at_22) k) ?_
  show Go p.tables e below P T23 (mkF m 23 #[.val (.int p1), .val (.int p2), .val (.int p3), .val (.int p4), .val (.int p5), .val (.int p6), .val (.ref r_1), .val (.ref r_9), .val (.ref r_23), .unset, .unset, .unset, .unset, .unset, .unset, .unset] [(.int (1 : Int32)), (.int ((p4.toUInt32 >>> ((20 : Int32) &&& 31).toUInt32).toInt32))])
  refine Go.via (fun t k => XS.iand Xh23.here hx rfl (hb hby at_23) rfl k) ?_
  show Go p.tables e below P T23 (mkF m 24 #[.val (.int p1), .val (.int p2), .val (.int p3), .val (.int p4), .val (.int p5), .val (.int p6), .val (.ref r_1), .val (.ref r_9), .val (.ref r_23), .unset, .unset, .unset, .unset, .unset, .unset, .unset] [(.int (((p4.toUInt32 >>> ((20 : Int32) &&& 31).toUInt32).toInt32) &&& (1 : Int32)))])
  have LP36 : ∀ (T36 : State) (locs36 : List Loc) (hp36 : Heap) (r3 : Addr) (t3 : Addr) (k3 : ClassId) (b3 : List Int32) (vm36 : Vm) (kn36 : Nat), Z.Warmed39 (s.setVm vm36).vm → (s.setVm vm36).vm.findClass "com/example/splitbook/splitbook/book/ReportKeyEqualsPinLaw" = some m.cls → s.Since vm36 kn36 → kn36 ≤ hp36.size → CHr Z consts_1 s.vm h0 vm36 hp36 → Stand p l e room_1 (s.setVm vm36) m #[(.int p1), (.int p2), (.int p3), (.int p4), (.int p5), (.int p6)] below meth c T36 locs36 24 48 → T36.heap = hp36 → Fr n0 locs36 → n0 ≤ hp36.size → Keep h0 hp36 [] → Old Z n0 hp36 → Exa Z hp36 r_1 "java/lang/String" → Fld Z hp36 r_1 "java/lang/String" "value" "[B" (.ref tb_1) → Fld Z hp36 r_1 "java/lang/String" "coder" "B" (.int (0 : Int32)) → Arv Z hp36 tb_1 kk_1 .byte (own_ln bl_1) (bl_1.map Value.int) (.int (0 : Int32)) → Exa Z hp36 r_9 "java/lang/String" → Fld Z hp36 r_9 "java/lang/String" "value" "[B" (.ref tb_9) → Fld Z hp36 r_9 "java/lang/String" "coder" "B" (.int (0 : Int32)) → Arv Z hp36 tb_9 kk_9 .byte (own_ln bl_9) (bl_9.map Value.int) (.int (0 : Int32)) → Exa Z hp36 r_23 "java/lang/String" → Fld Z hp36 r_23 "java/lang/String" "value" "[B" (.ref tb_23) → Fld Z hp36 r_23 "java/lang/String" "coder" "B" (.int (0 : Int32)) → Arv Z hp36 tb_23 kk_23 .byte (own_ln bl_23) (bl_23.map Value.int) (.int (0 : Int32)) → Exa Z hp36 r3 "java/lang/String" → Fld Z hp36 r3 "java/lang/String" "value" "[B" (.ref t3) → Fld Z hp36 r3 "java/lang/String" "coder" "B" (.int (0 : Int32)) → Arv Z hp36 t3 k3 .byte (own_ln b3) (b3.map Value.int) (.int (0 : Int32)) → own_sm b3 → r_1 ≠ r3 → Go p.tables e below P T36 (mkF m 38 #[.val (.int p1), .val (.int p2), .val (.int p3), .val (.int p4), .val (.int p5), .val (.int p6), .val (.ref r_1), .val (.ref r_9), .val (.ref r_23), .unset, .unset, .unset, .unset, .unset, .unset, .unset] [(.ref r3)]) := by
    intro T36 locs36 hp36 r3 t3 k3 b3 vm36 kn36 hZ hown hS36 hk36 CR36 X36 e36 N36 Z36 K36 O36 F36_0 F36_1 F36_2 F36_3 F36_4 F36_5 F36_6 F36_7 F36_8 F36_9 F36_10 F36_11 F36_12 F36_13 F36_14 F36_15 sm3 nr3
    show Go p.tables e below P T36 (mkF m 38 #[.val (.int p1), .val (.int p2), .val (.int p3), .val (.int p4), .val (.int p5), .val (.int p6), .val (.ref r_1), .val (.ref r_9), .val (.ref r_23), .unset, .unset, .unset, .unset, .unset, .unset, .unset] [(.ref r3)])
    refine Go.via (fun t k => XS.astore X36.here hx rfl (hb hby at_38) rfl rfl (l' := #[.val (.int p1), .val (.int p2), .val (.int p3), .val (.int p4), .val (.int p5), .val (.int p6), .val (.ref r_1), .val (.ref r_9), .val (.ref r_23), .val (.ref r3), .unset, .unset, .unset, .unset, .unset, .unset]) rfl k) ?_
    show Go p.tables e below P T36 (mkF m 40 #[.val (.int p1), .val (.int p2), .val (.int p3), .val (.int p4), .val (.int p5), .val (.int p6), .val (.ref r_1), .val (.ref r_9), .val (.ref r_23), .val (.ref r3), .unset, .unset, .unset, .unset, .unset, .unset] [])
    refine Go.via (fun t k => XS.iload X36.here hx rfl (hb hby at_40) rfl k) ?_
    show Go p.tables e below P T36 (mkF m 42 #[.val (.int p1), .val (.int p2), .val (.int p3), .val (.int p4), .val (.int p5), .val (.int p6), .val (.ref r_1), .val (.ref r_9), .val (.ref r_23), .val (.ref r3), .unset, .unset, .unset, .unset, .unset, .unset] [(.int p5)])
    refine Go.via (fun t k => XS.bipush X36.here hx rfl (hb hby at_42) k) ?_
    show Go p.tables e below P T36 (mkF m 44 #[.val (.int p1), .val (.int p2), .val (.int p3), .val (.int p4), .val (.int p5), .val (.int p6), .val (.ref r_1), .val (.ref r_9), .val (.ref r_23), .val (.ref r3), .unset, .unset, .unset, .unset, .unset, .unset] [(.int (20 : Int32)), (.int p5)])
    refine Go.via (fun t k => XS.iushr X36.here hx rfl (hb hby at_44) rfl k) ?_
    show Go p.tables e below P T36 (mkF m 45 #[.val (.int p1), .val (.int p2), .val (.int p3), .val (.int p4), .val (.int p5), .val (.int p6), .val (.ref r_1), .val (.ref r_9), .val (.ref r_23), .val (.ref r3), .unset, .unset, .unset, .unset, .unset, .unset] [(.int ((p5.toUInt32 >>> ((20 : Int32) &&& 31).toUInt32).toInt32))])
    refine Go.via (fun t k => XS.iconst X36.here hx rfl (hb hby at_45) k) ?_
    show Go p.tables e below P T36 (mkF m 46 #[.val (.int p1), .val (.int p2), .val (.int p3), .val (.int p4), .val (.int p5), .val (.int p6), .val (.ref r_1), .val (.ref r_9), .val (.ref r_23), .val (.ref r3), .unset, .unset, .unset, .unset, .unset, .unset] [(.int (1 : Int32)), (.int ((p5.toUInt32 >>> ((20 : Int32) &&& 31).toUInt32).toInt32))])
    refine Go.via (fun t k => XS.iand X36.here hx rfl (hb hby at_46) rfl k) ?_
    show Go p.tables e below P T36 (mkF m 47 #[.val (.int p1), .val (.int p2), .val (.int p3), .val (.int p4), .val (.int p5), .val (.int p6), .val (.ref r_1), .val (.ref r_9), .val (.ref r_23), .val (.ref r3), .unset, .unset, .unset, .unset, .unset, .unset] [(.int (((p5.toUInt32 >>> ((20 : Int32) &&& 31).toUInt32).toInt32) &&& (1 : Int32)))])
    have LP38 : ∀ (T38 : State) (locs38 : List Loc) (hp38 : Heap) (r4 : Addr) (t4 : Addr) (k4 : ClassId) (b4 : List Int32) (vm38 : Vm) (kn38 : Nat), Z.Warmed39 (s.setVm vm38).vm → (s.setVm vm38).vm.findClass "com/example/splitbook/splitbook/book/ReportKeyEqualsPinLaw" = some m.cls → s.Since vm38 kn38 → kn38 ≤ hp38.size → CHr Z consts_1 s.vm h0 vm38 hp38 → Stand p l e room_1 (s.setVm vm38) m #[(.int p1), (.int p2), (.int p3), (.int p4), (.int p5), (.int p6)] below meth c T38 locs38 30 60 → T38.heap = hp38 → Fr n0 locs38 → n0 ≤ hp38.size → Keep h0 hp38 [] → Old Z n0 hp38 → Exa Z hp38 r_1 "java/lang/String" → Fld Z hp38 r_1 "java/lang/String" "value" "[B" (.ref tb_1) → Fld Z hp38 r_1 "java/lang/String" "coder" "B" (.int (0 : Int32)) → Arv Z hp38 tb_1 kk_1 .byte (own_ln bl_1) (bl_1.map Value.int) (.int (0 : Int32)) → Exa Z hp38 r_9 "java/lang/String" → Fld Z hp38 r_9 "java/lang/String" "value" "[B" (.ref tb_9) → Fld Z hp38 r_9 "java/lang/String" "coder" "B" (.int (0 : Int32)) → Arv Z hp38 tb_9 kk_9 .byte (own_ln bl_9) (bl_9.map Value.int) (.int (0 : Int32)) → Exa Z hp38 r_23 "java/lang/String" → Fld Z hp38 r_23 "java/lang/String" "value" "[B" (.ref tb_23) → Fld Z hp38 r_23 "java/lang/String" "coder" "B" (.int (0 : Int32)) → Arv Z hp38 tb_23 kk_23 .byte (own_ln bl_23) (bl_23.map Value.int) (.int (0 : Int32)) → Exa Z hp38 r3 "java/lang/String" → Fld Z hp38 r3 "java/lang/String" "value" "[B" (.ref t3) → Fld Z hp38 r3 "java/lang/String" "coder" "B" (.int (0 : Int32)) → Arv Z hp38 t3 k3 .byte (own_ln b3) (b3.map Value.int) (.int (0 : Int32)) → Exa Z hp38 r4 "java/lang/String" → Fld Z hp38 r4 "java/lang/String" "value" "[B" (.ref t4) → Fld Z hp38 r4 "java/lang/String" "coder" "B" (.int (0 : Int32)) → Arv Z hp38 t4 k4 .byte (own_ln b4) (b4.map Value.int) (.int (0 : Int32)) → own_sm b4 → r_9 ≠ r4 → Go p.tables e below P T38 (mkF m 62 #[.val (.int p1), .val (.int p2), .val (.int p3), .val (.int p4), .val (.int p5), .val (.int p6), .val (.ref r_1), .val (.ref r_9), .val (.ref r_23), .val (.ref r3), .unset, .unset, .unset, .unset, .unset, .unset] [(.ref r4)]) := by
      intro T38 locs38 hp38 r4 t4 k4 b4 vm38 kn38 hZ hown hS38 hk38 CR38 X38 e38 N38 Z38 K38 O38 F38_0 F38_1 F38_2 F38_3 F38_4 F38_5 F38_6 F38_7 F38_8 F38_9 F38_10 F38_11 F38_12 F38_13 F38_14 F38_15 F38_16 F38_17 F38_18 F38_19 sm4 nr4
      show Go p.tables e below P T38 (mkF m 62 #[.val (.int p1), .val (.int p2), .val (.int p3), .val (.int p4), .val (.int p5), .val (.int p6), .val (.ref r_1), .val (.ref r_9), .val (.ref r_23), .val (.ref r3), .unset, .unset, .unset, .unset, .unset, .unset] [(.ref r4)])
      refine Go.via (fun t k => XS.astore X38.here hx rfl (hb hby at_62) rfl rfl (l' := #[.val (.int p1), .val (.int p2), .val (.int p3), .val (.int p4), .val (.int p5), .val (.int p6), .val (.ref r_1), .val (.ref r_9), .val (.ref r_23), .val (.ref r3), .val (.ref r4), .unset, .unset, .unset, .unset, .unset]) rfl k) ?_
      show Go p.tables e below P T38 (mkF m 64 #[.val (.int p1), .val (.int p2), .val (.int p3), .val (.int p4), .val (.int p5), .val (.int p6), .val (.ref r_1), .val (.ref r_9), .val (.ref r_23), .val (.ref r3), .val (.ref r4), .unset, .unset, .unset, .unset, .unset] [])
      refine Go.via (fun t k => XS.iload X38.here hx rfl (hb hby at_64) rfl k) ?_
      show Go p.tables e below P T38 (mkF m 66 #[.val (.int p1), .val (.int p2), .val (.int p3), .val (.int p4), .val (.int p5), .val (.int p6), .val (.ref r_1), .val (.ref r_9), .val (.ref r_23), .val (.ref r3), .val (.ref r4), .unset, .unset, .unset, .unset, .unset] [(.int p6)])
      refine Go.via (fun t k => XS.bipush X38.here hx rfl (hb hby at_66) k) ?_
      show Go p.tables e below P T38 (mkF m 68 #[.val (.int p1), .val (.int p2), .val (.int p3), .val (.int p4), .val (.int p5), .val (.int p6), .val (.ref r_1), .val (.ref r_9), .val (.ref r_23), .val (.ref r3), .val (.ref r4), .unset, .unset, .unset, .unset, .unset] [(.int (20 : Int32)), (.int p6)])
      refine Go.via (fun t k => XS.iushr X38.here hx rfl (hb hby at_68) rfl k) ?_
      show Go p.tables e below P T38 (mkF m 69 #[.val (.int p1), .val (.int p2), .val (.int p3), .val (.int p4), .val (.int p5), .val (.int p6), .val (.ref r_1), .val (.ref r_9), .val (.ref r_23), .val (.ref r3), .val (.ref r4), .unset, .unset, .unset, .unset, .unset] [(.int ((p6.toUInt32 >>> ((20 : Int32) &&& 31).toUInt32).toInt32))])
      refine Go.via (fun t k => XS.iconst X38.here hx rfl (hb hby at_69) k) ?_
      show Go p.tables e below P T38 (mkF m 70 #[.val (.int p1), .val (.int p2), .val (.int p3), .val (.int p4), .val (.int p5), .val (.int p6), .val (.ref r_1), .val (.ref r_9), .val (.ref r_23), .val (.ref r3), .val (.ref r4), .unset, .unset, .unset, .unset, .unset] [(.int (1 : Int32)), (.int ((p6.toUInt32 >>> ((20 : Int32) &&& 31).toUInt32).toInt32))])
      refine Go.via (fun t k => XS.iand X38.here hx rfl (hb hby at_70) rfl k) ?_
      show Go p.tables e below P T38 (mkF m 71 #[.val (.int p1), .val (.int p2), .val (.int p3), .val (.int p4), .val (.int p5), .val (.int p6), .val (.ref r_1), .val (.ref r_9), .val (.ref r_23), .val (.ref r3), .val (.ref r4), .unset, .unset, .unset, .unset, .unset] [(.int (((p6.toUInt32 >>> ((20 : Int32) &&& 31).toUInt32).toInt32) &&& (1 : Int32)))])
      have LP40 : ∀ (T40 : State) (locs40 : List Loc) (hp40 : Heap) (r5 : Addr) (t5 : Addr) (k5 : ClassId) (b5 : List Int32) (vm40 : Vm) (kn40 : Nat), Z.Warmed39 (s.setVm vm40).vm → (s.setVm vm40).vm.findClass "com/example/splitbook/splitbook/book/ReportKeyEqualsPinLaw" = some m.cls → s.Since vm40 kn40 → kn40 ≤ hp40.size → CHr Z consts_1 s.vm h0 vm40 hp40 → Stand p l e room_1 (s.setVm vm40) m #[(.int p1), (.int p2), (.int p3), (.int p4), (.int p5), (.int p6)] below meth c T40 locs40 36 72 → T40.heap = hp40 → Fr n0 locs40 → n0 ≤ hp40.size → Keep h0 hp40 [] → Old Z n0 hp40 → Exa Z hp40 r_1 "java/lang/String" → Fld Z hp40 r_1 "java/lang/String" "value" "[B" (.ref tb_1) → Fld Z hp40 r_1 "java/lang/String" "coder" "B" (.int (0 : Int32)) → Arv Z hp40 tb_1 kk_1 .byte (own_ln bl_1) (bl_1.map Value.int) (.int (0 : Int32)) → Exa Z hp40 r_9 "java/lang/String" → Fld Z hp40 r_9 "java/lang/String" "value" "[B" (.ref tb_9) → Fld Z hp40 r_9 "java/lang/String" "coder" "B" (.int (0 : Int32)) → Arv Z hp40 tb_9 kk_9 .byte (own_ln bl_9) (bl_9.map Value.int) (.int (0 : Int32)) → Exa Z hp40 r_23 "java/lang/String" → Fld Z hp40 r_23 "java/lang/String" "value" "[B" (.ref tb_23) → Fld Z hp40 r_23 "java/lang/String" "coder" "B" (.int (0 : Int32)) → Arv Z hp40 tb_23 kk_23 .byte (own_ln bl_23) (bl_23.map Value.int) (.int (0 : Int32)) → Exa Z hp40 r3 "java/lang/String" → Fld Z hp40 r3 "java/lang/String" "value" "[B" (.ref t3) → Fld Z hp40 r3 "java/lang/String" "coder" "B" (.int (0 : Int32)) → Arv Z hp40 t3 k3 .byte (own_ln b3) (b3.map Value.int) (.int (0 : Int32)) → Exa Z hp40 r4 "java/lang/String" → Fld Z hp40 r4 "java/lang/String" "value" "[B" (.ref t4) → Fld Z hp40 r4 "java/lang/String" "coder" "B" (.int (0 : Int32)) → Arv Z hp40 t4 k4 .byte (own_ln b4) (b4.map Value.int) (.int (0 : Int32)) → Exa Z hp40 r5 "java/lang/String" → Fld Z hp40 r5 "java/lang/String" "value" "[B" (.ref t5) → Fld Z hp40 r5 "java/lang/String" "coder" "B" (.int (0 : Int32)) → Arv Z hp40 t5 k5 .byte (own_ln b5) (b5.map Value.int) (.int (0 : Int32)) → own_sm b5 → r_23 ≠ r5 → Go p.tables e below P T40 (mkF m 86 #[.val (.int p1), .val (.int p2), .val (.int p3), .val (.int p4), .val (.int p5), .val (.int p6), .val (.ref r_1), .val (.ref r_9), .val (.ref r_23), .val (.ref r3), .val (.ref r4), .unset, .unset, .unset, .unset, .unset] [(.ref r5)]) := by
        intro T40 locs40 hp40 r5 t5 k5 b5 vm40 kn40 hZ hown hS40 hk40 CR40 X40 e40 N40 Z40 K40 O40 F40_0 F40_1 F40_2 F40_3 F40_4 F40_5 F40_6 F40_7 F40_8 F40_9 F40_10 F40_11 F40_12 F40_13 F40_14 F40_15 F40_16 F40_17 F40_18 F40_19 F40_20 F40_21 F40_22 F40_23 sm5 nr5
        show Go p.tables e below P T40 (mkF m 86 #[.val (.int p1), .val (.int p2), .val (.int p3), .val (.int p4), .val (.int p5), .val (.int p6), .val (.ref r_1), .val (.ref r_9), .val (.ref r_23), .val (.ref r3), .val (.ref r4), .unset, .unset, .unset, .unset, .unset] [(.ref r5)])
        refine Go.via (fun t k => XS.astore X40.here hx rfl (hb hby at_86) rfl rfl (l' := #[.val (.int p1), .val (.int p2), .val (.int p3), .val (.int p4), .val (.int p5), .val (.int p6), .val (.ref r_1), .val (.ref r_9), .val (.ref r_23), .val (.ref r3), .val (.ref r4), .val (.ref r5), .unset, .unset, .unset, .unset]) rfl k) ?_
        show Go p.tables e below P T40 (mkF m 88 #[.val (.int p1), .val (.int p2), .val (.int p3), .val (.int p4), .val (.int p5), .val (.int p6), .val (.ref r_1), .val (.ref r_9), .val (.ref r_23), .val (.ref r3), .val (.ref r4), .val (.ref r5), .unset, .unset, .unset, .unset] [])
        obtain ⟨T41, h41, X41, e41, E41, A41, D41, -, st41⟩ := newO X40 hx hZ hown (hw _ (List.mem_of_getElem? (i := 26) rfl)) (hw _ (List.mem_of_getElem? (i := 27) rfl)) (hw _ (List.mem_of_getElem? (i := 28) rfl)) e40 (g := (mkF m 88 #[.val (.int p1), .val (.int p2), .val (.int p3), .val (.int p4), .val (.int p5), .val (.int p6), .val (.ref r_1), .val (.ref r_9), .val (.ref r_23), .val (.ref r3), .val (.ref r4), .val (.ref r5), .unset, .unset, .unset, .unset] [])) rfl (hb hby at_88) (by decide) (by decide)
        obtain ⟨b41, g41⟩ : ∃ z, z = hp40.size := ⟨_, rfl⟩
        rw [← g41] at A41 D41 st41
        refine Go.via st41 ?_
        have ne42 : r_1 ≠ b41 := Nat.ne_of_lt (Nat.lt_of_lt_of_le F40_0.lt (Nat.le_of_eq g41.symm))
        have ne43 : tb_1 ≠ b41 := Nat.ne_of_lt (Nat.lt_of_lt_of_le F40_3.lt (Nat.le_of_eq g41.symm))
        have ne44 : r_9 ≠ b41 := Nat.ne_of_lt (Nat.lt_of_lt_of_le F40_4.lt (Nat.le_of_eq g41.symm))
        have ne45 : tb_9 ≠ b41 := Nat.ne_of_lt (Nat.lt_of_lt_of_le F40_7.lt (Nat.le_of_eq g41.symm))
        have ne46 : r_23 ≠ b41 := Nat.ne_of_lt (Nat.lt_of_lt_of_le F40_8.lt (Nat.le_of_eq g41.symm))
        have ne47 : tb_23 ≠ b41 := Nat.ne_of_lt (Nat.lt_of_lt_of_le F40_11.lt (Nat.le_of_eq g41.symm))
        have ne48 : r3 ≠ b41 := Nat.ne_of_lt (Nat.lt_of_lt_of_le F40_12.lt (Nat.le_of_eq g41.symm))
        have ne49 : t3 ≠ b41 := Nat.ne_of_lt (Nat.lt_of_lt_of_le F40_15.lt (Nat.le_of_eq g41.symm))
        have ne50 : r4 ≠ b41 := Nat.ne_of_lt (Nat.lt_of_lt_of_le F40_16.lt (Nat.le_of_eq g41.symm))
        have ne51 : t4 ≠ b41 := Nat.ne_of_lt (Nat.lt_of_lt_of_le F40_19.lt (Nat.le_of_eq g41.symm))
        have ne52 : r5 ≠ b41 := Nat.ne_of_lt (Nat.lt_of_lt_of_le F40_20.lt (Nat.le_of_eq g41.symm))
        have ne53 : t5 ≠ b41 := Nat.ne_of_lt (Nat.lt_of_lt_of_le F40_23.lt (Nat.le_of_eq g41.symm))
        have g54 : n0 ≤ b41 := Nat.le_trans Z40 (Nat.le_of_eq g41.symm)
        have sz55 : h0.size ≤ b41 := Nat.le_trans K40.1 (Nat.le_of_eq g41.symm)
        have Z56 : n0 ≤ h41.size := Nat.le_trans Z40 E41.1
        have K57 : Keep h0 h41 [] := K40.ext E41
        have O58 : Old Z n0 h41 := O40.ext E41
        have CR59 := CHr.trans CR40 (CHr.ext E41 CR40.1)
        have hk60 := Nat.le_trans hk40 E41.1
        show Go p.tables e below P T41 (mkF m 91 #[.val (.int p1), .val (.int p2), .val (.int p3), .val (.int p4), .val (.int p5), .val (.int p6), .val (.ref r_1), .val (.ref r_9), .val (.ref r_23), .val (.ref r3), .val (.ref r4), .val (.ref r5), .unset, .unset, .unset, .unset] [(.ref b41)])
        refine Go.via (fun t k => XS.dup X41.here hx rfl (hb hby at_91) rfl rfl k) ?_
        show Go p.tables e below P T41 (mkF m 92 #[.val (.int p1), .val (.int p2), .val (.int p3), .val (.int p4), .val (.int p5), .val (.int p6), .val (.ref r_1), .val (.ref r_9), .val (.ref r_23), .val (.ref r3), .val (.ref r4), .val (.ref r5), .unset, .unset, .unset, .unset] [(.ref b41), (.ref b41)])
        refine Go.via (fun t k => XS.aload X41.here hx rfl (hb hby at_92) rfl rfl k) ?_
        show Go p.tables e below P T41 (mkF m 94 #[.val (.int p1), .val (.int p2), .val (.int p3), .val (.int p4), .val (.int p5), .val (.int p6), .val (.ref r_1), .val (.ref r_9), .val (.ref r_23), .val (.ref r3), .val (.ref r4), .val (.ref r5), .unset, .unset, .unset, .unset] [(.ref r_1), (.ref b41), (.ref b41)])
        refine Go.via (fun t k => XS.aload X41.here hx rfl (hb hby at_94) rfl rfl k) ?_
        show Go p.tables e below P T41 (mkF m 96 #[.val (.int p1), .val (.int p2), .val (.int p3), .val (.int p4), .val (.int p5), .val (.int p6), .val (.ref r_1), .val (.ref r_9), .val (.ref r_23), .val (.ref r3), .val (.ref r4), .val (.ref r5), .unset, .unset, .unset, .unset] [(.ref r_9), (.ref r_1), (.ref b41), (.ref b41)])
        refine Go.via (fun t k => XS.aload X41.here hx rfl (hb hby at_96) rfl rfl k) ?_
        show Go p.tables e below P T41 (mkF m 98 #[.val (.int p1), .val (.int p2), .val (.int p3), .val (.int p4), .val (.int p5), .val (.int p6), .val (.ref r_1), .val (.ref r_9), .val (.ref r_23), .val (.ref r3), .val (.ref r4), .val (.ref r5), .unset, .unset, .unset, .unset] [(.ref r_23), (.ref r_9), (.ref r_1), (.ref b41), (.ref b41)])
        have F61 : Exa Z h41 r_1 "java/lang/String" := (F40_0.ext E41)
        have F62 : Fld Z h41 r_1 "java/lang/String" "value" "[B" (.ref tb_1) := (F40_1.ext E41)
        have F63 : Fld Z h41 r_1 "java/lang/String" "coder" "B" (.int (0 : Int32)) := (F40_2.ext E41)
        have F64 : Arv Z h41 tb_1 kk_1 .byte (own_ln bl_1) (bl_1.map Value.int) (.int (0 : Int32)) := (F40_3.ext E41)
        have F65 : Exa Z h41 r_9 "java/lang/String" := (F40_4.ext E41)
        have F66 : Fld Z h41 r_9 "java/lang/String" "value" "[B" (.ref tb_9) := (F40_5.ext E41)
        have F67 : Fld Z h41 r_9 "java/lang/String" "coder" "B" (.int (0 : Int32)) := (F40_6.ext E41)
        have F68 : Arv Z h41 tb_9 kk_9 .byte (own_ln bl_9) (bl_9.map Value.int) (.int (0 : Int32)) := (F40_7.ext E41)
        have F69 : Exa Z h41 r_23 "java/lang/String" := (F40_8.ext E41)
        have F70 : Fld Z h41 r_23 "java/lang/String" "value" "[B" (.ref tb_23) := (F40_9.ext E41)
        have F71 : Fld Z h41 r_23 "java/lang/String" "coder" "B" (.int (0 : Int32)) := (F40_10.ext E41)
        have F72 : Arv Z h41 tb_23 kk_23 .byte (own_ln bl_23) (bl_23.map Value.int) (.int (0 : Int32)) := (F40_11.ext E41)
        have F73 : Exa Z h41 r3 "java/lang/String" := (F40_12.ext E41)
        have F74 : Fld Z h41 r3 "java/lang/String" "value" "[B" (.ref t3) := (F40_13.ext E41)
        have F75 : Fld Z h41 r3 "java/lang/String" "coder" "B" (.int (0 : Int32)) := (F40_14.ext E41)
        have F76 : Arv Z h41 t3 k3 .byte (own_ln b3) (b3.map Value.int) (.int (0 : Int32)) := (F40_15.ext E41)
        have F77 : Exa Z h41 r4 "java/lang/String" := (F40_16.ext E41)
        have F78 : Fld Z h41 r4 "java/lang/String" "value" "[B" (.ref t4) := (F40_17.ext E41)
        have F79 : Fld Z h41 r4 "java/lang/String" "coder" "B" (.int (0 : Int32)) := (F40_18.ext E41)
        have F80 : Arv Z h41 t4 k4 .byte (own_ln b4) (b4.map Value.int) (.int (0 : Int32)) := (F40_19.ext E41)
        have F81 : Exa Z h41 r5 "java/lang/String" := (F40_20.ext E41)
        have F82 : Fld Z h41 r5 "java/lang/String" "value" "[B" (.ref t5) := (F40_21.ext E41)
        have F83 : Fld Z h41 r5 "java/lang/String" "coder" "B" (.int (0 : Int32)) := (F40_22.ext E41)
        have F84 : Arv Z h41 t5 k5 .byte (own_ln b5) (b5.map Value.int) (.int (0 : Int32)) := (F40_23.ext E41)
        obtain ⟨_, _, ⟨T85, L85, k85, n85⟩, -, X85, ⟨Lc85, hQ85, l85, y85, z85⟩, st85⟩ := X41.specialBack hx (y := (⟨"com/example/splitbook/splitbook/book/ReportKey", "<init>", "(Ljava/lang/String;Ljava/lang/String;Ljava/lang/String;)V"⟩ : MethodName)) rfl hown (mvT hZ (hw _ (List.mem_of_getElem? (i := 29) rfl))) (mvT hZ (hw _ (List.mem_of_getElem? (i := 30) rfl))) (mvT hZ (hw _ (List.mem_of_getElem? (i := 31) rfl))) (by decide) (backOf (W := 1) (rm5 l Z a0 hw [] b41 r_1 r_9 r_23 h41 n0 Z56 A41 (D41 (Or.inr (hw _ (List.mem_of_getElem? (i := 34) rfl))) (ty := (.object "java/lang/String")) (by decide) : Fld Z h41 b41 "com/example/splitbook/splitbook/book/ReportKey" "senderCompId" "Ljava/lang/String;" .null) (D41 (Or.inr (hw _ (List.mem_of_getElem? (i := 36) rfl))) (ty := (.object "java/lang/String")) (by decide) : Fld Z h41 b41 "com/example/splitbook/splitbook/book/ReportKey" "beginString" "Ljava/lang/String;" .null) (D41 (Or.inr (hw _ (List.mem_of_getElem? (i := 38) rfl))) (ty := (.object "java/lang/String")) (by decide) : Fld Z h41 b41 "com/example/splitbook/splitbook/book/ReportKey" "allocReportId" "Ljava/lang/String;" .null) g54) hZ (hw _ (List.mem_of_getElem? (i := 31) rfl)) (hw _ (List.mem_of_getElem? (i := 28) rfl)) (by decide) (by decide)) (g := (mkF m 98 #[.val (.int p1), .val (.int p2), .val (.int p3), .val (.int p4), .val (.int p5), .val (.int p6), .val (.ref r_1), .val (.ref r_9), .val (.ref r_23), .val (.ref r3), .val (.ref r4), .val (.ref r5), .unset, .unset, .unset, .unset] [(.ref r_23), (.ref r_9), (.ref r_1), (.ref b41), (.ref b41)])) rfl (by rw [hml]; rfl) (Steps.refl _) (a := b41) (argsL := [(.ref r_1), (.ref r_9), (.ref r_23)]) (rest := [(.ref b41)]) (lenOf own_pd12 rfl) rfl (by show 2 * 0 + _ ≤ _; exact Nat.le_of_eq rfl) (hb hby at_98) (fun _ _ => ⟨rfl, e41, (by decide : 37 + 0 ≤ _), (by decide : 75 + 0 ≤ _)⟩)
        dsimp only [Pt.U, Pt.locs, Pt.cells, Pt.slots] at X85 l85 y85 z85 st85 hQ85
        subst l85 y85 z85
        obtain ⟨rfl, Nq85, K85, u85_0, u85_1, u85_2, u85_3⟩ := hQ85
        obtain ⟨lc85, Xh85, N85⟩ := own_hide X85 (Fr.app N40 Nq85)
        clear X85
        refine Go.hop st85 ?_
        have Z86 : n0 ≤ T85.heap.size := Nat.le_trans Z56 K85.1
        have K87 : Keep h0 T85.heap [] := K57.trans K85 (own_allC (Or.inr sz55) own_all0)
        have CR88 := CHr.trans CR59 (CHr.keep K85 (sfS (Safe.exa hZ.alike A41 (by decide) (by decide)) sf0) CR59.1)
        have hk89 := Nat.le_trans hk60 K85.1
        have O90 : Old Z n0 T85.heap := O58.keep K85 (own_allC g54 own_all0)
        show Go p.tables e below P T85 (mkF m 101 #[.val (.int p1), .val (.int p2), .val (.int p3), .val (.int p4), .val (.int p5), .val (.int p6), .val (.ref r_1), .val (.ref r_9), .val (.ref r_23), .val (.ref r3), .val (.ref r4), .val (.ref r5), .unset, .unset, .unset, .unset] [(.ref b41)])
        refine Go.via (fun t k => XS.astore Xh85.here hx rfl (hb hby at_101) rfl rfl (l' := #[.val (.int p1), .val (.int p2), .val (.int p3), .val (.int p4), .val (.int p5), .val (.int p6), .val (.ref r_1), .val (.ref r_9), .val (.ref r_23), .val (.ref r3), .val (.ref r4), .val (.ref r5), .val (.ref b41), .unset, .unset, .unset]) rfl k) ?_
        show Go p.tables e below P T85 (mkF m 103 #[.val (.int p1), .val (.int p2), .val (.int p3), .val (.int p4), .val (.int p5), .val (.int p6), .val (.ref r_1), .val (.ref r_9), .val (.ref r_23), .val (.ref r3), .val (.ref r4), .val (.ref r5), .val (.ref b41), .unset, .unset, .unset] [])
        refine Go.via (fun t k => XS.iload Xh85.here hx rfl (hb hby at_103) rfl k) ?_
        show Go p.tables e below P T85 (mkF m 105 #[.val (.int p1), .val (.int p2), .val (.int p3), .val (.int p4), .val (.int p5), .val (.int p6), .val (.ref r_1), .val (.ref r_9), .val (.ref r_23), .val (.ref r3), .val (.ref r4), .val (.ref r5), .val (.ref b41), .unset, .unset, .unset] [(.int p6)])
        refine Go.via (fun t k => XS.bipush Xh85.here hx rfl (hb hby at_105) k) ?_
        show Go p.tables e below P T85 (mkF m 107 #[.val (.int p1), .val (.int p2), .val (.int p3), .val (.int p4), .val (.int p5), .val (.int p6), .val (.ref r_1), .val (.ref r_9), .val (.ref r_23), .val (.ref r3), .val (.ref r4), .val (.ref r5), .val (.ref b41), .unset, .unset, .unset] [(.int (24 : Int32)), (.int p6)])
        refine Go.via (fun t k => XS.iushr Xh85.here hx rfl (hb hby at_107) rfl k) ?_
        show Go p.tables e below P T85 (mkF m 108 #[.val (.int p1), .val (.int p2), .val (.int p3), .val (.int p4), .val (.int p5), .val (.int p6), .val (.ref r_1), .val (.ref r_9), .val (.ref r_23), .val (.ref r3), .val (.ref r4), .val (.ref r5), .val (.ref b41), .unset, .unset, .unset] [(.int ((p6.toUInt32 >>> ((24 : Int32) &&& 31).toUInt32).toInt32))])
        refine Go.via (fun t k => XS.iconst Xh85.here hx rfl (hb hby at_108) k) ?_
        show Go p.tables e below P T85 (mkF m 109 #[.val (.int p1), .val (.int p2), .val (.int p3), .val (.int p4), .val (.int p5), .val (.int p6), .val (.ref r_1), .val (.ref r_9), .val (.ref r_23), .val (.ref r3), .val (.ref r4), .val (.ref r5), .val (.ref b41), .unset, .unset, .unset] [(.int (3 : Int32)), (.int ((p6.toUInt32 >>> ((24 : Int32) &&& 31).toUInt32).toInt32))])
        refine Go.via (fun t k => XS.iand Xh85.here hx rfl (hb hby at_109) rfl k) ?_
        show Go p.tables e below P T85 (mkF m 110 #[.val (.int p1), .val (.int p2), .val (.int p3), .val (.int p4), .val (.int p5), .val (.int p6), .val (.ref r_1), .val (.ref r_9), .val (.ref r_23), .val (.ref r3), .val (.ref r4), .val (.ref r5), .val (.ref b41), .unset, .unset, .unset] [(.int (((p6.toUInt32 >>> ((24 : Int32) &&& 31).toUInt32).toInt32) &&& (3 : Int32)))])
        refine Go.via (fun t k => XS.istore Xh85.here hx rfl (hb hby at_110) rfl (l' := #[.val (.int p1), .val (.int p2), .val (.int p3), .val (.int p4), .val (.int p5), .val (.int p6), .val (.ref r_1), .val (.ref r_9), .val (.ref r_23), .val (.ref r3), .val (.ref r4), .val (.ref r5), .val (.ref b41), .val (.int (((p6.toUInt32 >>> ((24 : Int32) &&& 31).toUInt32).toInt32) &&& (3 : Int32))), .unset, .unset]) rfl k) ?_
        show Go p.tables e below P T85 (mkF m 112 #[.val (.int p1), .val (.int p2), .val (.int p3), .val (.int p4), .val (.int p5), .val (.int p6), .val (.ref r_1), .val (.ref r_9), .val (.ref r_23), .val (.ref r3), .val (.ref r4), .val (.ref r5), .val (.ref b41), .val (.int (((p6.toUInt32 >>> ((24 : Int32) &&& 31).toUInt32).toInt32) &&& (3 : Int32))), .unset, .unset] [])
        refine Go.via (fun t k => XS.iload Xh85.here hx rfl (hb hby at_112) rfl k) ?_
        show Go p.tables e below P T85 (mkF m 114 #[.val (.int p1), .val (.int p2), .val (.int p3), .val (.int p4), .val (.int p5), .val (.int p6), .val (.ref r_1), .val (.ref r_9), .val (.ref r_23), .val (.ref r3), .val (.ref r4), .val (.ref r5), .val (.ref b41), .val (.int (((p6.toUInt32 >>> ((24 : Int32) &&& 31).toUInt32).toInt32) &&& (3 : Int32))), .unset, .unset] [(.int (((p6.toUInt32 >>> ((24 : Int32) &&& 31).toUInt32).toInt32) &&& (3 : Int32)))])
        by_cases hc91 : (((p6.toUInt32 >>> ((24 : Int32) &&& 31).toUInt32).toInt32) &&& (3 : Int32)) = (0 : Int32)
        · refine Go.via (fun t k => XS.ifNo Xh85.here hx rfl (hb hby at_114) rfl ((if0 _ _).trans (teq hc91).2) k) ?_
          show Go p.tables e below P T85 (mkF m 117 #[.val (.int p1), .val (.int p2), .val (.int p3), .val (.int p4), .val (.int p5), .val (.int p6), .val (.ref r_1), .val (.ref r_9), .val (.ref r_23), .val (.ref r3), .val (.ref r4), .val (.ref r5), .val (.ref b41), .val (.int (((p6.toUInt32 >>> ((24 : Int32) &&& 31).toUInt32).toInt32) &&& (3 : Int32))), .unset, .unset] [])
          refine Go.via (fun t k => XS.aconstNull Xh85.here hx rfl (hb hby at_117) k) ?_
          show Go p.tables e below P T85 (mkF m 118 #[.val (.int p1), .val (.int p2), .val (.int p3), .val (.int p4), .val (.int p5), .val (.int p6), .val (.ref r_1), .val (.ref r_9), .val (.ref r_23), .val (.ref r3), .val (.ref r4), .val (.ref r5), .val (.ref b41), .val (.int (((p6.toUInt32 >>> ((24 : Int32) &&& 31).toUInt32).toInt32) &&& (3 : Int32))), .unset, .unset] [.null])
          refine Go.via (fun t k => XS.astore Xh85.here hx rfl (hb hby at_118) rfl rfl (l' := #[.val (.int p1), .val (.int p2), .val (.int p3), .val (.int p4), .val (.int p5), .val (.int p6), .val (.ref r_1), .val (.ref r_9), .val (.ref r_23), .val (.ref r3), .val (.ref r4), .val (.ref r5), .val (.ref b41), .val (.int (((p6.toUInt32 >>> ((24 : Int32) &&& 31).toUInt32).toInt32) &&& (3 : Int32))), .val .null, .unset]) rfl k) ?_
          show Go p.tables e below P T85 (mkF m 120 #[.val (.int p1), .val (.int p2), .val (.int p3), .val (.int p4), .val (.int p5), .val (.int p6), .val (.ref r_1), .val (.ref r_9), .val (.ref r_23), .val (.ref r3), .val (.ref r4), .val (.ref r5), .val (.ref b41), .val (.int (((p6.toUInt32 >>> ((24 : Int32) &&& 31).toUInt32).toInt32) &&& (3 : Int32))), .val .null, .unset] [])
          refine Go.via (fun t k => XS.iconst Xh85.here hx rfl (hb hby at_120) k) ?_
          show Go p.tables e below P T85 (mkF m 121 #[.val (.int p1), .val (.int p2), .val (.int p3), .val (.int p4), .val (.int p5), .val (.int p6), .val (.ref r_1), .val (.ref r_9), .val (.ref r_23), .val (.ref r3), .val (.ref r4), .val (.ref r5), .val (.ref b41), .val (.int (((p6.toUInt32 >>> ((24 : Int32) &&& 31).toUInt32).toInt32) &&& (3 : Int32))), .val .null, .unset] [(.int (0 : Int32))])
          refine Go.via (fun t k => XS.istore Xh85.here hx rfl (hb hby at_121) rfl (l' := #[.val (.int p1), .val (.int p2), .val (.int p3), .val (.int p4), .val (.int p5), .val (.int p6), .val (.ref r_1), .val (.ref r_9), .val (.ref r_23), .val (.ref r3), .val (.ref r4), .val (.ref r5), .val (.ref b41), .val (.int (((p6.toUInt32 >>> ((24 : Int32) &&& 31).toUInt32).toInt32) &&& (3 : Int32))), .val .null, .val (.int (0 : Int32))]) rfl k) ?_
          show Go p.tables e below P T85 (mkF m 123 #[.val (.int p1), .val (.int p2), .val (.int p3), .val (.int p4), .val (.int p5), .val (.int p6), .val (.ref r_1), .val (.ref r_9), .val (.ref r_23), .val (.ref r3), .val (.ref r4), .val (.ref r5), .val (.ref b41), .val (.int (((p6.toUInt32 >>> ((24 : Int32) &&& 31).toUInt32).toInt32) &&& (3 : Int32))), .val .null, .val (.int (0 : Int32))] [])
          refine Go.via (fun t k => XS.goto Xh85.here hx rfl (pc0 := 123) (pc' := 210) rfl (hb hby at_123) (by decide) (by decide) k) ?_
          show Go p.tables e below P T85 (mkF m 210 #[.val (.int p1), .val (.int p2), .val (.int p3), .val (.int p4), .val (.int p5), .val (.int p6), .val (.ref r_1), .val (.ref r_9), .val (.ref r_23), .val (.ref r3), .val (.ref r4), .val (.ref r5), .val (.ref b41), .val (.int (((p6.toUInt32 >>> ((24 : Int32) &&& 31).toUInt32).toInt32) &&& (3 : Int32))), .val .null, .val (.int (0 : Int32))] [])
          refine Go.via (fun t k => XS.aload Xh85.here hx rfl (hb hby at_210) rfl rfl k) ?_
          show Go p.tables e below P T85 (mkF m 212 #[.val (.int p1), .val (.int p2), .val (.int p3), .val (.int p4), .val (.int p5), .val (.int p6), .val (.ref r_1), .val (.ref r_9), .val (.ref r_23), .val (.ref r3), .val (.ref r4), .val (.ref r5), .val (.ref b41), .val (.int (((p6.toUInt32 >>> ((24 : Int32) &&& 31).toUInt32).toInt32) &&& (3 : Int32))), .val .null, .val (.int (0 : Int32))] [(.ref b41)])
          refine Go.via (fun t k => XS.aload Xh85.here hx rfl (hb hby at_212) rfl rfl k) ?_
          show Go p.tables e below P T85 (mkF m 214 #[.val (.int p1), .val (.int p2), .val (.int p3), .val (.int p4), .val (.int p5), .val (.int p6), .val (.ref r_1), .val (.ref r_9), .val (.ref r_23), .val (.ref r3), .val (.ref r4), .val (.ref r5), .val (.ref b41), .val (.int (((p6.toUInt32 >>> ((24 : Int32) &&& 31).toUInt32).toInt32) &&& (3 : Int32))), .val .null, .val (.int (0 : Int32))] [.null, (.ref b41)])
          have F92 : Exa Z T85.heap r_1 "java/lang/String" := (F61.keep K85)
          have F93 : Fld Z T85.heap r_1 "java/lang/String" "value" "[B" (.ref tb_1) := (F62.keep K85 (own_ninC ne42 own_nin0))
          have F94 : Fld Z T85.heap r_1 "java/lang/String" "coder" "B" (.int (0 : Int32)) := (F63.keep K85 (own_ninC ne42 own_nin0))
          have F95 : Arv Z T85.heap tb_1 kk_1 .byte (own_ln bl_1) (bl_1.map Value.int) (.int (0 : Int32)) := (F64.keep K85 (own_ninC ne43 own_nin0))
          have F96 : Exa Z T85.heap r_9 "java/lang/String" := (F65.keep K85)
          have F97 : Fld Z T85.heap r_9 "java/lang/String" "value" "[B" (.ref tb_9) := (F66.keep K85 (own_ninC ne44 own_nin0))
          have F98 : Fld Z T85.heap r_9 "java/lang/String" "coder" "B" (.int (0 : Int32)) := (F67.keep K85 (own_ninC ne44 own_nin0))
          have F99 : Arv Z T85.heap tb_9 kk_9 .byte (own_ln bl_9) (bl_9.map Value.int) (.int (0 : Int32)) := (F68.keep K85 (own_ninC ne45 own_nin0))
          have F100 : Exa Z T85.heap r_23 "java/lang/String" := (F69.keep K85)
          have F101 : Fld Z T85.heap r_23 "java/lang/String" "value" "[B" (.ref tb_23) := (F70.keep K85 (own_ninC ne46 own_nin0))
          have F102 : Fld Z T85.heap r_23 "java/lang/String" "coder" "B" (.int (0 : Int32)) := (F71.keep K85 (own_ninC ne46 own_nin0))
          have F103 : Arv Z T85.heap tb_23 kk_23 .byte (own_ln bl_23) (bl_23.map Value.int) (.int (0 : Int32)) := (F72.keep K85 (own_ninC ne47 own_nin0))
          have F104 : Exa Z T85.heap r3 "java/lang/String" := (F73.keep K85)
          have F105 : Fld Z T85.heap r3 "java/lang/String" "value" "[B" (.ref t3) := (F74.keep K85 (own_ninC ne48 own_nin0))
          have F106 : Fld Z T85.heap r3 "java/lang/String" "coder" "B" (.int (0 : Int32)) := (F75.keep K85 (own_ninC ne48 own_nin0))
          have F107 : Arv Z T85.heap t3 k3 .byte (own_ln b3) (b3.map Value.int) (.int (0 : Int32)) := (F76.keep K85 (own_ninC ne49 own_nin0))
          have F108 : Exa Z T85.heap r4 "java/lang/String" := (F77.keep K85)
          have F109 : Fld Z T85.heap r4 "java/lang/String" "value" "[B" (.ref t4) := (F78.keep K85 (own_ninC ne50 own_nin0))
          have F110 : Fld Z T85.heap r4 "java/lang/String" "coder" "B" (.int (0 : Int32)) := (F79.keep K85 (own_ninC ne50 own_nin0))
          have F111 : Arv Z T85.heap t4 k4 .byte (own_ln b4) (b4.map Value.int) (.int (0 : Int32)) := (F80.keep K85 (own_ninC ne51 own_nin0))
          have F112 : Exa Z T85.heap r5 "java/lang/String" := (F81.keep K85)
          have F113 : Fld Z T85.heap r5 "java/lang/String" "value" "[B" (.ref t5) := (F82.keep K85 (own_ninC ne52 own_nin0))
          have F114 : Fld Z T85.heap r5 "java/lang/String" "coder" "B" (.int (0 : Int32)) := (F83.keep K85 (own_ninC ne52 own_nin0))
          have F115 : Arv Z T85.heap t5 k5 .byte (own_ln b5) (b5.map Value.int) (.int (0 : Int32)) := (F84.keep K85 (own_ninC ne53 own_nin0))
          obtain ⟨cq116, kq116, q116a, q116b, q116c⟩ := isOf hZ rfl u85_0
          obtain ⟨_, _, ⟨T116, L116, k116, n116⟩, -, X116, ⟨Lc116, hQ116, l116, y116, z116⟩, st116⟩ := Xh85.virtualBack hx (y := (⟨"com/example/splitbook/splitbook/book/ReportKey", "equals", "(Ljava/lang/Object;)Z"⟩ : MethodName)) (z := (⟨"com/example/splitbook/splitbook/book/ReportKey", "equals", "(Ljava/lang/Object;)Z"⟩ : MethodName)) hown (mvT hZ (hw _ (List.mem_of_getElem? (i := 39) rfl))) (mvT hZ (hw _ (List.mem_of_getElem? (i := 40) rfl))) (notFace_of_selects (args := #[]) (mvT hZ (hw _ (List.mem_of_getElem? (i := 42) rfl)))) (mvT hZ (hw _ (List.mem_of_getElem? (i := 42) rfl))) (mvT hZ (hw _ (List.mem_of_getElem? (i := 41) rfl))) (by decide) (backOf (W := 0) (rm6a l Z a0 hw [] b41 T85.heap n0 Z86 ) hZ (hw _ (List.mem_of_getElem? (i := 43) rfl)) (hw _ (List.mem_of_getElem? (i := 28) rfl)) (by decide) (by decide)) q116a q116c (g := (mkF m 214 #[.val (.int p1), .val (.int p2), .val (.int p3), .val (.int p4), .val (.int p5), .val (.int p6), .val (.ref r_1), .val (.ref r_9), .val (.ref r_23), .val (.ref r3), .val (.ref r4), .val (.ref r5), .val (.ref b41), .val (.int (((p6.toUInt32 >>> ((24 : Int32) &&& 31).toUInt32).toInt32) &&& (3 : Int32))), .val .null, .val (.int (0 : Int32))] [.null, (.ref b41)])) rfl (by rw [hml]; rfl) (Steps.refl _) (argsL := [.null]) (rest := []) (lenOf own_pd10 rfl) rfl (by show 2 * 0 + _ ≤ _; exact Nat.le_of_eq rfl) (hb hby at_214) (fun _ _ => ⟨rfl, rfl, (by decide : 37 + 0 ≤ _), (by decide : 75 + 0 ≤ _)⟩)
          dsimp only [Pt.U, Pt.locs, Pt.cells, Pt.slots] at X116 l116 y116 z116 st116 hQ116
          subst l116 y116 z116
          obtain ⟨rfl, Nq116, hh116⟩ := hQ116
          obtain ⟨lc116, Xh116, N116⟩ := own_hide X116 (Fr.app N85 Nq116)
          clear X116
          refine Go.hop st116 ?_
          show Go p.tables e below P T116 (mkF m 217 #[.val (.int p1), .val (.int p2), .val (.int p3), .val (.int p4), .val (.int p5), .val (.int p6), .val (.ref r_1), .val (.ref r_9), .val (.ref r_23), .val (.ref r3), .val (.ref r4), .val (.ref r5), .val (.ref b41), .val (.int (((p6.toUInt32 >>> ((24 : Int32) &&& 31).toUInt32).toInt32) &&& (3 : Int32))), .val .null, .val (.int (0 : Int32))] [(.int (0 : Int32))])
          refine Go.via (fun t k => XS.iload Xh116.here hx rfl (hb hby at_217) rfl k) ?_
          show Go p.tables e below P T116 (mkF m 219 #[.val (.int p1), .val (.int p2), .val (.int p3), .val (.int p4), .val (.int p5), .val (.int p6), .val (.ref r_1), .val (.ref r_9), .val (.ref r_23), .val (.ref r3), .val (.ref r4), .val (.ref r5), .val (.ref b41), .val (.int (((p6.toUInt32 >>> ((24 : Int32) &&& 31).toUInt32).toInt32) &&& (3 : Int32))), .val .null, .val (.int (0 : Int32))] [(.int (0 : Int32)), (.int (0 : Int32))])
          refine Go.via (fun t k => XS.icmpNo Xh116.here hx rfl (hb hby at_219) rfl (teq (rfl : (0 : Int32) = (0 : Int32))).2 k) ?_
          show Go p.tables e below P T116 (mkF m 222 #[.val (.int p1), .val (.int p2), .val (.int p3), .val (.int p4), .val (.int p5), .val (.int p6), .val (.ref r_1), .val (.ref r_9), .val (.ref r_23), .val (.ref r3), .val (.ref r4), .val (.ref r5), .val (.ref b41), .val (.int (((p6.toUInt32 >>> ((24 : Int32) &&& 31).toUInt32).toInt32) &&& (3 : Int32))), .val .null, .val (.int (0 : Int32))] [])
          refine Go.via (fun t k => XS.iconst Xh116.here hx rfl (hb hby at_222) k) ?_
          show Go p.tables e below P T116 (mkF m 223 #[.val (.int p1), .val (.int p2), .val (.int p3), .val (.int p4), .val (.int p5), .val (.int p6), .val (.ref r_1), .val (.ref r_9), .val (.ref r_23), .val (.ref r3), .val (.ref r4), .val (.ref r5), .val (.ref b41), .val (.int (((p6.toUInt32 >>> ((24 : Int32) &&& 31).toUInt32).toInt32) &&& (3 : Int32))), .val .null, .val (.int (0 : Int32))] [(.int (1 : Int32))])
          refine Go.via (fun t k => XS.goto Xh116.here hx rfl (pc0 := 223) (pc' := 227) rfl (hb hby at_223) (by decide) (by decide) k) ?_
          show Go p.tables e below P T116 (mkF m 227 #[.val (.int p1), .val (.int p2), .val (.int p3), .val (.int p4), .val (.int p5), .val (.int p6), .val (.ref r_1), .val (.ref r_9), .val (.ref r_23), .val (.ref r3), .val (.ref r4), .val (.ref r5), .val (.ref b41), .val (.int (((p6.toUInt32 >>> ((24 : Int32) &&& 31).toUInt32).toInt32) &&& (3 : Int32))), .val .null, .val (.int (0 : Int32))] [(.int (1 : Int32))])
          obtain ⟨fs, hr, hrun, hended, hend⟩ := Xh116.leaveW hS40 (by rw [hh116]; exact hk89) (v := some (.int (1 : Int32))) (fun h => by rw [Bd.returns] at h; cases h)
          have hCf : CHr Z consts_1 s.vm s.heap (T116.setFrames fs).vm (T116.setFrames fs).heap := by
            rw [hh]
            show CHr Z consts_1 s.vm h0 T116.vm T116.heap
            rw [hh116]
            exact CHr.trans CR88 (CHv.at Xh116 hZ (own_EW hw) CR88.1)
          refine ⟨_, _, retZ Xh116 hx (t := .boolean) Bd.returns (by simp) (hb hby at_227) rfl hr, hrun, hended, hP _ _ ⟨_, _, rfl, ?_, hCf, own_rew hend (by decide) (by decide)⟩⟩
          show Q0 Z p1 p2 p3 p4 p5 p6 cs fm h0 n0 _ T116.heap _
          rw [hh116]
          exact ⟨rfl, N116⟩
        · refine Go.via (fun t k => XS.ifYes Xh85.here hx rfl (pc0 := 114) (pc' := 126) rfl (hb hby at_114) rfl ((if0 _ _).trans (feq hc91).2) (by decide) (by decide) k) ?_
          show Go p.tables e below P T85 (mkF m 126 #[.val (.int p1), .val (.int p2), .val (.int p3), .val (.int p4), .val (.int p5), .val (.int p6), .val (.ref r_1), .val (.ref r_9), .val (.ref r_23), .val (.ref r3), .val (.ref r4), .val (.ref r5), .val (.ref b41), .val (.int (((p6.toUInt32 >>> ((24 : Int32) &&& 31).toUInt32).toInt32) &&& (3 : Int32))), .unset, .unset] [])
          refine Go.via (fun t k => XS.iload Xh85.here hx rfl (hb hby at_126) rfl k) ?_
          show Go p.tables e below P T85 (mkF m 128 #[.val (.int p1), .val (.int p2), .val (.int p3), .val (.int p4), .val (.int p5), .val (.int p6), .val (.ref r_1), .val (.ref r_9), .val (.ref r_23), .val (.ref r3), .val (.ref r4), .val (.ref r5), .val (.ref b41), .val (.int (((p6.toUInt32 >>> ((24 : Int32) &&& 31).toUInt32).toInt32) &&& (3 : Int32))), .unset, .unset] [(.int (((p6.toUInt32 >>> ((24 : Int32) &&& 31).toUInt32).toInt32) &&& (3 : Int32)))])
          refine Go.via (fun t k => XS.iconst Xh85.here hx rfl (hb hby at_128) k) ?_
          show Go p.tables e below P T85 (mkF m 129 #[.val (.int p1), .val (.int p2), .val (.int p3), .val (.int p4), .val (.int p5), .val (.int p6), .val (.ref r_1), .val (.ref r_9), .val (.ref r_23), .val (.ref r3), .val (.ref r4), .val (.ref r5), .val (.ref b41), .val (.int (((p6.toUInt32 >>> ((24 : Int32) &&& 31).toUInt32).toInt32) &&& (3 : Int32))), .unset, .unset] [(.int (1 : Int32)), (.int (((p6.toUInt32 >>> ((24 : Int32) &&& 31).toUInt32).toInt32) &&& (3 : Int32)))])
          by_cases hc118 : (((p6.toUInt32 >>> ((24 : Int32) &&& 31).toUInt32).toInt32) &&& (3 : Int32)) = (1 : Int32)
          · refine Go.via (fun t k => XS.icmpNo Xh85.here hx rfl (hb hby at_129) rfl (teq hc118).2 k) ?_
            show Go p.tables e below P T85 (mkF m 132 #[.val (.int p1), .val (.int p2), .val (.int p3), .val (.int p4), .val (.int p5), .val (.int p6), .val (.ref r_1), .val (.ref r_9), .val (.ref r_23), .val (.ref r3), .val (.ref r4), .val (.ref r5), .val (.ref b41), .val (.int (((p6.toUInt32 >>> ((24 : Int32) &&& 31).toUInt32).toInt32) &&& (3 : Int32))), .unset, .unset] [])
            refine Go.via (fun t k => XS.aload Xh85.here hx rfl (hb hby at_132) rfl rfl k) ?_
            show Go p.tables e below P T85 (mkF m 134 #[.val (.int p1), .val (.int p2), .val (.int p3), .val (.int p4), .val (.int p5), .val (.int p6), .val (.ref r_1), .val (.ref r_9), .val (.ref r_23), .val (.ref r3), .val (.ref r4), .val (.ref r5), .val (.ref b41), .val (.int (((p6.toUInt32 >>> ((24 : Int32) &&& 31).toUInt32).toInt32) &&& (3 : Int32))), .unset, .unset] [(.ref r_1)])
            refine Go.via (fun t k => XS.astore Xh85.here hx rfl (hb hby at_134) rfl rfl (l' := #[.val (.int p1), .val (.int p2), .val (.int p3), .val (.int p4), .val (.int p5), .val (.int p6), .val (.ref r_1), .val (.ref r_9), .val (.ref r_23), .val (.ref r3), .val (.ref r4), .val (.ref r5), .val (.ref b41), .val (.int (((p6.toUInt32 >>> ((24 : Int32) &&& 31).toUInt32).toInt32) &&& (3 : Int32))), .val (.ref r_1), .unset]) rfl k) ?_
            show Go p.tables e below P T85 (mkF m 136 #[.val (.int p1), .val (.int p2), .val (.int p3), .val (.int p4), .val (.int p5), .val (.int p6), .val (.ref r_1), .val (.ref r_9), .val (.ref r_23), .val (.ref r3), .val (.ref r4), .val (.ref r5), .val (.ref b41), .val (.int (((p6.toUInt32 >>> ((24 : Int32) &&& 31).toUInt32).toInt32) &&& (3 : Int32))), .val (.ref r_1), .unset] [])
            refine Go.via (fun t k => XS.iconst Xh85.here hx rfl (hb hby at_136) k) ?_
            show Go p.tables e below P T85 (mkF m 137 #[.val (.int p1), .val (.int p2), .val (.int p3), .val (.int p4), .val (.int p5), .val (.int p6), .val (.ref r_1), .val (.ref r_9), .val (.ref r_23), .val (.ref r3), .val (.ref r4), .val (.ref r5), .val (.ref b41), .val (.int (((p6.toUInt32 >>> ((24 : Int32) &&& 31).toUInt32).toInt32) &&& (3 : Int32))), .val (.ref r_1), .unset] [(.int (0 : Int32))])
            refine Go.via (fun t k => XS.istore Xh85.here hx rfl (hb hby at_137) rfl (l' := #[.val (.int p1), .val (.int p2), .val (.int p3), .val (.int p4), .val (.int p5), .val (.int p6), .val (.ref r_1), .val (.ref r_9), .val (.ref r_23), .val (.ref r3), .val (.ref r4), .val (.ref r5), .val (.ref b41), .val (.int (((p6.toUInt32 >>> ((24 : Int32) &&& 31).toUInt32).toInt32) &&& (3 : Int32))), .val (.ref r_1), .val (.int (0 : Int32))]) rfl k) ?_
            show Go p.tables e below P T85 (mkF m 139 #[.val (.int p1), .val (.int p2), .val (.int p3), .val (.int p4), .val (.int p5), .val (.int p6), .val (.ref r_1), .val (.ref r_9), .val (.ref r_23), .val (.ref r3), .val (.ref r4), .val (.ref r5), .val (.ref b41), .val (.int (((p6.toUInt32 >>> ((24 : Int32) &&& 31).toUInt32).toInt32) &&& (3 : Int32))), .val (.ref r_1), .val (.int (0 : Int32))] [])
            refine Go.via (fun t k => XS.goto Xh85.here hx rfl (pc0 := 139) (pc' := 210) rfl (hb hby at_139) (by decide) (by decide) k) ?_
            show Go p.tables e below P T85 (mkF m 210 #[.val (.int p1), .val (.int p2), .val (.int p3), .val (.int p4), .val (.int p5), .val (.int p6), .val (.ref r_1), .val (.ref r_9), .val (.ref r_23), .val (.ref r3), .val (.ref r4), .val (.ref r5), .val (.ref b41), .val (.int (((p6.toUInt32 >>> ((24 : Int32) &&& 31).toUInt32).toInt32) &&& (3 : Int32))), .val (.ref r_1), .val (.int (0 : Int32))] [])
            refine Go.via (fun t k => XS.aload Xh85.here hx rfl (hb hby at_210) rfl rfl k) ?_
            show Go p.tables e below P T85 (mkF m 212 #[.val (.int p1), .val (.int p2), .val (.int p3), .val (.int p4), .val (.int p5), .val (.int p6), .val (.ref r_1), .val (.ref r_9), .val (.ref r_23), .val (.ref r3), .val (.ref r4), .val (.ref r5), .val (.ref b41), .val (.int (((p6.toUInt32 >>> ((24 : Int32) &&& 31).toUInt32).toInt32) &&& (3 : Int32))), .val (.ref r_1), .val (.int (0 : Int32))] [(.ref b41)])
            refine Go.via (fun t k => XS.aload Xh85.here hx rfl (hb hby at_212) rfl rfl k) ?_
            show Go p.tables e below P T85 (mkF m 214 #[.val (.int p1), .val (.int p2), .val (.int p3), .val (.int p4), .val (.int p5), .val (.int p6), .val (.ref r_1), .val (.ref r_9), .val (.ref r_23), .val (.ref r3), .val (.ref r4), .val (.ref r5), .val (.ref b41), .val (.int (((p6.toUInt32 >>> ((24 : Int32) &&& 31).toUInt32).toInt32) &&& (3 : Int32))), .val (.ref r_1), .val (.int (0 : Int32))] [(.ref r_1), (.ref b41)])
            have F119 : Exa Z T85.heap r_1 "java/lang/String" := (F61.keep K85)
            have F120 : Fld Z T85.heap r_1 "java/lang/String" "value" "[B" (.ref tb_1) := (F62.keep K85 (own_ninC ne42 own_nin0))
            have F121 : Fld Z T85.heap r_1 "java/lang/String" "coder" "B" (.int (0 : Int32)) := (F63.keep K85 (own_ninC ne42 own_nin0))
            have F122 : Arv Z T85.heap tb_1 kk_1 .byte (own_ln bl_1) (bl_1.map Value.int) (.int (0 : Int32)) := (F64.keep K85 (own_ninC ne43 own_nin0))
            have F123 : Exa Z T85.heap r_9 "java/lang/String" := (F65.keep K85)
            have F124 : Fld Z T85.heap r_9 "java/lang/String" "value" "[B" (.ref tb_9) := (F66.keep K85 (own_ninC ne44 own_nin0))
            have F125 : Fld Z T85.heap r_9 "java/lang/String" "coder" "B" (.int (0 : Int32)) := (F67.keep K85 (own_ninC ne44 own_nin0))
            have F126 : Arv Z T85.heap tb_9 kk_9 .byte (own_ln bl_9) (bl_9.map Value.int) (.int (0 : Int32)) := (F68.keep K85 (own_ninC ne45 own_nin0))
            have F127 : Exa Z T85.heap r_23 "java/lang/String" := (F69.keep K85)
            have F128 : Fld Z T85.heap r_23 "java/lang/String" "value" "[B" (.ref tb_23) := (F70.keep K85 (own_ninC ne46 own_nin0))
            have F129 : Fld Z T85.heap r_23 "java/lang/String" "coder" "B" (.int (0 : Int32)) := (F71.keep K85 (own_ninC ne46 own_nin0))
            have F130 : Arv Z T85.heap tb_23 kk_23 .byte (own_ln bl_23) (bl_23.map Value.int) (.int (0 : Int32)) := (F72.keep K85 (own_ninC ne47 own_nin0))
            have F131 : Exa Z T85.heap r3 "java/lang/String" := (F73.keep K85)
            have F132 : Fld Z T85.heap r3 "java/lang/String" "value" "[B" (.ref t3) := (F74.keep K85 (own_ninC ne48 own_nin0))
            have F133 : Fld Z T85.heap r3 "java/lang/String" "coder" "B" (.int (0 : Int32)) := (F75.keep K85 (own_ninC ne48 own_nin0))
            have F134 : Arv Z T85.heap t3 k3 .byte (own_ln b3) (b3.map Value.int) (.int (0 : Int32)) := (F76.keep K85 (own_ninC ne49 own_nin0))
            have F135 : Exa Z T85.heap r4 "java/lang/String" := (F77.keep K85)
            have F136 : Fld Z T85.heap r4 "java/lang/String" "value" "[B" (.ref t4) := (F78.keep K85 (own_ninC ne50 own_nin0))
            have F137 : Fld Z T85.heap r4 "java/lang/String" "coder" "B" (.int (0 : Int32)) := (F79.keep K85 (own_ninC ne50 own_nin0))
            have F138 : Arv Z T85.heap t4 k4 .byte (own_ln b4) (b4.map Value.int) (.int (0 : Int32)) := (F80.keep K85 (own_ninC ne51 own_nin0))
            have F139 : Exa Z T85.heap r5 "java/lang/String" := (F81.keep K85)
            have F140 : Fld Z T85.heap r5 "java/lang/String" "value" "[B" (.ref t5) := (F82.keep K85 (own_ninC ne52 own_nin0))
            have F141 : Fld Z T85.heap r5 "java/lang/String" "coder" "B" (.int (0 : Int32)) := (F83.keep K85 (own_ninC ne52 own_nin0))
            have F142 : Arv Z T85.heap t5 k5 .byte (own_ln b5) (b5.map Value.int) (.int (0 : Int32)) := (F84.keep K85 (own_ninC ne53 own_nin0))
            obtain ⟨cq143, kq143, q143a, q143b, q143c⟩ := isOf hZ rfl u85_0
            obtain ⟨_, _, ⟨T143, L143, k143, n143⟩, -, X143, ⟨Lc143, hQ143, l143, y143, z143⟩, st143⟩ := Xh85.virtualBack hx (y := (⟨"com/example/splitbook/splitbook/book/ReportKey", "equals", "(Ljava/lang/Object;)Z"⟩ : MethodName)) (z := (⟨"com/example/splitbook/splitbook/book/ReportKey", "equals", "(Ljava/lang/Object;)Z"⟩ : MethodName)) hown (mvT hZ (hw _ (List.mem_of_getElem? (i := 39) rfl))) (mvT hZ (hw _ (List.mem_of_getElem? (i := 40) rfl))) (notFace_of_selects (args := #[]) (mvT hZ (hw _ (List.mem_of_getElem? (i := 42) rfl)))) (mvT hZ (hw _ (List.mem_of_getElem? (i := 42) rfl))) (mvT hZ (hw _ (List.mem_of_getElem? (i := 41) rfl))) (by decide) (backOf (W := 0) (rm6s l Z a0 hw [] b41 r_1 T85.heap n0 Z86 F119) hZ (hw _ (List.mem_of_getElem? (i := 43) rfl)) (hw _ (List.mem_of_getElem? (i := 28) rfl)) (by decide) (by decide)) q143a q143c (g := (mkF m 214 #[.val (.int p1), .val (.int p2), .val (.int p3), .val (.int p4), .val (.int p5), .val (.int p6), .val (.ref r_1), .val (.ref r_9), .val (.ref r_23), .val (.ref r3), .val (.ref r4), .val (.ref r5), .val (.ref b41), .val (.int (((p6.toUInt32 >>> ((24 : Int32) &&& 31).toUInt32).toInt32) &&& (3 : Int32))), .val (.ref r_1), .val (.int (0 : Int32))] [(.ref r_1), (.ref b41)])) rfl (by rw [hml]; rfl) (Steps.refl _) (argsL := [(.ref r_1)]) (rest := []) (lenOf own_pd10 rfl) rfl (by show 2 * 0 + _ ≤ _; exact Nat.le_of_eq rfl) (hb hby at_214) (fun _ _ => ⟨rfl, rfl, (by decide : 37 + 0 ≤ _), (by decide : 75 + 0 ≤ _)⟩)
            dsimp only [Pt.U, Pt.locs, Pt.cells, Pt.slots] at X143 l143 y143 z143 st143 hQ143
            subst l143 y143 z143
            obtain ⟨rfl, Nq143, hh143⟩ := hQ143
            obtain ⟨lc143, Xh143, N143⟩ := own_hide X143 (Fr.app N85 Nq143)
            clear X143
            refine Go.hop st143 ?_
            show Go p.tables e below P T143 (mkF m 217 #[.val (.int p1), .val (.int p2), .val (.int p3), .val (.int p4), .val (.int p5), .val (.int p6), .val (.ref r_1), .val (.ref r_9), .val (.ref r_23), .val (.ref r3), .val (.ref r4), .val (.ref r5), .val (.ref b41), .val (.int (((p6.toUInt32 >>> ((24 : Int32) &&& 31).toUInt32).toInt32) &&& (3 : Int32))), .val (.ref r_1), .val (.int (0 : Int32))] [(.int (0 : Int32))])
            refine Go.via (fun t k => XS.iload Xh143.here hx rfl (hb hby at_217) rfl k) ?_
            show Go p.tables e below P T143 (mkF m 219 #[.val (.int p1), .val (.int p2), .val (.int p3), .val (.int p4), .val (.int p5), .val (.int p6), .val (.ref r_1), .val (.ref r_9), .val (.ref r_23), .val (.ref r3), .val (.ref r4), .val (.ref r5), .val (.ref b41), .val (.int (((p6.toUInt32 >>> ((24 : Int32) &&& 31).toUInt32).toInt32) &&& (3 : Int32))), .val (.ref r_1), .val (.int (0 : Int32))] [(.int (0 : Int32)), (.int (0 : Int32))])
            refine Go.via (fun t k => XS.icmpNo Xh143.here hx rfl (hb hby at_219) rfl (teq (rfl : (0 : Int32) = (0 : Int32))).2 k) ?_
            show Go p.tables e below P T143 (mkF m 222 #[.val (.int p1), .val (.int p2), .val (.int p3), .val (.int p4), .val (.int p5), .val (.int p6), .val (.ref r_1), .val (.ref r_9), .val (.ref r_23), .val (.ref r3), .val (.ref r4), .val (.ref r5), .val (.ref b41), .val (.int (((p6.toUInt32 >>> ((24 : Int32) &&& 31).toUInt32).toInt32) &&& (3 : Int32))), .val (.ref r_1), .val (.int (0 : Int32))] [])
            refine Go.via (fun t k => XS.iconst Xh143.here hx rfl (hb hby at_222) k) ?_
            show Go p.tables e below P T143 (mkF m 223 #[.val (.int p1), .val (.int p2), .val (.int p3), .val (.int p4), .val (.int p5), .val (.int p6), .val (.ref r_1), .val (.ref r_9), .val (.ref r_23), .val (.ref r3), .val (.ref r4), .val (.ref r5), .val (.ref b41), .val (.int (((p6.toUInt32 >>> ((24 : Int32) &&& 31).toUInt32).toInt32) &&& (3 : Int32))), .val (.ref r_1), .val (.int (0 : Int32))] [(.int (1 : Int32))])
            refine Go.via (fun t k => XS.goto Xh143.here hx rfl (pc0 := 223) (pc' := 227) rfl (hb hby at_223) (by decide) (by decide) k) ?_
            show Go p.tables e below P T143 (mkF m 227 #[.val (.int p1), .val (.int p2), .val (.int p3), .val (.int p4), .val (.int p5), .val (.int p6), .val (.ref r_1), .val (.ref r_9), .val (.ref r_23), .val (.ref r3), .val (.ref r4), .val (.ref r5), .val (.ref b41), .val (.int (((p6.toUInt32 >>> ((24 : Int32) &&& 31).toUInt32).toInt32) &&& (3 : Int32))), .val (.ref r_1), .val (.int (0 : Int32))] [(.int (1 : Int32))])
            obtain ⟨fs, hr, hrun, hended, hend⟩ := Xh143.leaveW hS40 (by rw [hh143]; exact hk89) (v := some (.int (1 : Int32))) (fun h => by rw [Bd.returns] at h; cases h)
            have hCf : CHr Z consts_1 s.vm s.heap (T143.setFrames fs).vm (T143.setFrames fs).heap := by
              rw [hh]
              show CHr Z consts_1 s.vm h0 T143.vm T143.heap
              rw [hh143]
              exact CHr.trans CR88 (CHv.at Xh143 hZ (own_EW hw) CR88.1)
            refine ⟨_, _, retZ Xh143 hx (t := .boolean) Bd.returns (by simp) (hb hby at_227) rfl hr, hrun, hended, hP _ _ ⟨_, _, rfl, ?_, hCf, own_rew hend (by decide) (by decide)⟩⟩
            show Q0 Z p1 p2 p3 p4 p5 p6 cs fm h0 n0 _ T143.heap _
            rw [hh143]
            exact ⟨rfl, N143⟩
          · refine Go.via (fun t k => XS.icmpYes Xh85.here hx rfl (pc0 := 129) (pc' := 142) rfl (hb hby at_129) rfl (feq hc118).2 (by decide) (by decide) k) ?_
            show Go p.tables e below P T85 (mkF m 142 #[.val (.int p1), .val (.int p2), .val (.int p3), .val (.int p4), .val (.int p5), .val (.int p6), .val (.ref r_1), .val (.ref r_9), .val (.ref r_23), .val (.ref r3), .val (.ref r4), .val (.ref r5), .val (.ref b41), .val (.int (((p6.toUInt32 >>> ((24 : Int32) &&& 31).toUInt32).toInt32) &&& (3 : Int32))), .unset, .unset] [])
            refine Go.via (fun t k => XS.iload Xh85.here hx rfl (hb hby at_142) rfl k) ?_
            show Go p.tables e below P T85 (mkF m 144 #[.val (.int p1), .val (.int p2), .val (.int p3), .val (.int p4), .val (.int p5), .val (.int p6), .val (.ref r_1), .val (.ref r_9), .val (.ref r_23), .val (.ref r3), .val (.ref r4), .val (.ref r5), .val (.ref b41), .val (.int (((p6.toUInt32 >>> ((24 : Int32) &&& 31).toUInt32).toInt32) &&& (3 : Int32))), .unset, .unset] [(.int (((p6.toUInt32 >>> ((24 : Int32) &&& 31).toUInt32).toInt32) &&& (3 : Int32)))])
            refine Go.via (fun t k => XS.iconst Xh85.here hx rfl (hb hby at_144) k) ?_
            show Go p.tables e below P T85 (mkF m 145 #[.val (.int p1), .val (.int p2), .val (.int p3), .val (.int p4), .val (.int p5), .val (.int p6), .val (.ref r_1), .val (.ref r_9), .val (.ref r_23), .val (.ref r3), .val (.ref r4), .val (.ref r5), .val (.ref b41), .val (.int (((p6.toUInt32 >>> ((24 : Int32) &&& 31).toUInt32).toInt32) &&& (3 : Int32))), .unset, .unset] [(.int (2 : Int32)), (.int (((p6.toUInt32 >>> ((24 : Int32) &&& 31).toUInt32).toInt32) &&& (3 : Int32)))])
            by_cases hc145 : (((p6.toUInt32 >>> ((24 : Int32) &&& 31).toUInt32).toInt32) &&& (3 : Int32)) = (2 : Int32)
            · refine Go.via (fun t k => XS.icmpNo Xh85.here hx rfl (hb hby at_145) rfl (teq hc145).2 k) ?_
              show Go p.tables e below P T85 (mkF m 148 #[.val (.int p1), .val (.int p2), .val (.int p3), .val (.int p4), .val (.int p5), .val (.int p6), .val (.ref r_1), .val (.ref r_9), .val (.ref r_23), .val (.ref r3), .val (.ref r4), .val (.ref r5), .val (.ref b41), .val (.int (((p6.toUInt32 >>> ((24 : Int32) &&& 31).toUInt32).toInt32) &&& (3 : Int32))), .unset, .unset] [])
              refine Go.via (fun t k => XS.aload Xh85.here hx rfl (hb hby at_148) rfl rfl k) ?_
              show Go p.tables e below P T85 (mkF m 150 #[.val (.int p1), .val (.int p2), .val (.int p3), .val (.int p4), .val (.int p5), .val (.int p6), .val (.ref r_1), .val (.ref r_9), .val (.ref r_23), .val (.ref r3), .val (.ref r4), .val (.ref r5), .val (.ref b41), .val (.int (((p6.toUInt32 >>> ((24 : Int32) &&& 31).toUInt32).toInt32) &&& (3 : Int32))), .unset, .unset] [(.ref b41)])
              refine Go.via (fun t k => XS.astore Xh85.here hx rfl (hb hby at_150) rfl rfl (l' := #[.val (.int p1), .val (.int p2), .val (.int p3), .val (.int p4), .val (.int p5), .val (.int p6), .val (.ref r_1), .val (.ref r_9), .val (.ref r_23), .val (.ref r3), .val (.ref r4), .val (.ref r5), .val (.ref b41), .val (.int (((p6.toUInt32 >>> ((24 : Int32) &&& 31).toUInt32).toInt32) &&& (3 : Int32))), .val (.ref b41), .unset]) rfl k) ?_
              show Go p.tables e below P T85 (mkF m 152 #[.val (.int p1), .val (.int p2), .val (.int p3), .val (.int p4), .val (.int p5), .val (.int p6), .val (.ref r_1), .val (.ref r_9), .val (.ref r_23), .val (.ref r3), .val (.ref r4), .val (.ref r5), .val (.ref b41), .val (.int (((p6.toUInt32 >>> ((24 : Int32) &&& 31).toUInt32).toInt32) &&& (3 : Int32))), .val (.ref b41), .unset] [])
              refine Go.via (fun t k => XS.iconst Xh85.here hx rfl (hb hby at_152) k) ?_
              show Go p.tables e below P T85 (mkF m 153 #[.val (.int p1), .val (.int p2), .val (.int p3), .val (.int p4), .val (.int p5), .val (.int p6), .val (.ref r_1), .val (.ref r_9), .val (.ref r_23), .val (.ref r3), .val (.ref r4), .val (.ref r5), .val (.ref b41), .val (.int (((p6.toUInt32 >>> ((24 : Int32) &&& 31).toUInt32).toInt32) &&& (3 : Int32))), .val (.ref b41), .unset] [(.int (1 : Int32))])
              refine Go.via (fun t k => XS.istore Xh85.here hx rfl (hb hby at_153) rfl (l' := #[.val (.int p1), .val (.int p2), .val (.int p3), .val (.int p4), .val (.int p5), .val (.int p6), .val (.ref r_1), .val (.ref r_9), .val (.ref r_23), .val (.ref r3), .val (.ref r4), .val (.ref r5), .val (.ref b41), .val (.int (((p6.toUInt32 >>> ((24 : Int32) &&& 31).toUInt32).toInt32) &&& (3 : Int32))), .val (.ref b41), .val (.int (1 : Int32))]) rfl k) ?_
              show Go p.tables e below P T85 (mkF m 155 #[.val (.int p1), .val (.int p2), .val (.int p3), .val (.int p4), .val (.int p5), .val (.int p6), .val (.ref r_1), .val (.ref r_9), .val (.ref r_23), .val (.ref r3), .val (.ref r4), .val (.ref r5), .val (.ref b41), .val (.int (((p6.toUInt32 >>> ((24 : Int32) &&& 31).toUInt32).toInt32) &&& (3 : Int32))), .val (.ref b41), .val (.int (1 : Int32))] [])
              refine Go.via (fun t k => XS.goto Xh85.here hx rfl (pc0 := 155) (pc' := 210) rfl (hb hby at_155) (by decide) (by decide) k) ?_
              show Go p.tables e below P T85 (mkF m 210 #[.val (.int p1), .val (.int p2), .val (.int p3), .val (.int p4), .val (.int p5), .val (.int p6), .val (.ref r_1), .val (.ref r_9), .val (.ref r_23), .val (.ref r3), .val (.ref r4), .val (.ref r5), .val (.ref b41), .val (.int (((p6.toUInt32 >>> ((24 : Int32) &&& 31).toUInt32).toInt32) &&& (3 : Int32))), .val (.ref b41), .val (.int (1 : Int32))] [])
              refine Go.via (fun t k => XS.aload Xh85.here hx rfl (hb hby at_210) rfl rfl k) ?_
              show Go p.tables e below P T85 (mkF m 212 #[.val (.int p1), .val (.int p2), .val (.int p3), .val (.int p4), .val (.int p5), .val (.int p6), .val (.ref r_1), .val (.ref r_9), .val (.ref r_23), .val (.ref r3), .val (.ref r4), .val (.ref r5), .val (.ref b41), .val (.int (((p6.toUInt32 >>> ((24 : Int32) &&& 31).toUInt32).toInt32) &&& (3 : Int32))), .val (.ref b41), .val (.int (1 : Int32))] [(.ref b41)])
              refine Go.via (fun t k => XS.aload Xh85.here hx rfl (hb hby at_212) rfl rfl k) ?_
              show Go p.tables e below P T85 (mkF m 214 #[.val (.int p1), .val (.int p2), .val (.int p3), .val (.int p4), .val (.int p5), .val (.int p6), .val (.ref r_1), .val (.ref r_9), .val (.ref r_23), .val (.ref r3), .val (.ref r4), .val (.ref r5), .val (.ref b41), .val (.int (((p6.toUInt32 >>> ((24 : Int32) &&& 31).toUInt32).toInt32) &&& (3 : Int32))), .val (.ref b41), .val (.int (1 : Int32))] [(.ref b41), (.ref b41)])
              have F146 : Exa Z T85.heap r_1 "java/lang/String" := (F61.keep K85)
              have F147 : Fld Z T85.heap r_1 "java/lang/String" "value" "[B" (.ref tb_1) := (F62.keep K85 (own_ninC ne42 own_nin0))
              have F148 : Fld Z T85.heap r_1 "java/lang/String" "coder" "B" (.int (0 : Int32)) := (F63.keep K85 (own_ninC ne42 own_nin0))
              have F149 : Arv Z T85.heap tb_1 kk_1 .byte (own_ln bl_1) (bl_1.map Value.int) (.int (0 : Int32)) := (F64.keep K85 (own_ninC ne43 own_nin0))
              have F150 : Exa Z T85.heap r_9 "java/lang/String" := (F65.keep K85)
              have F151 : Fld Z T85.heap r_9 "java/lang/String" "value" "[B" (.ref tb_9) := (F66.keep K85 (own_ninC ne44 own_nin0))
              have F152 : Fld Z T85.heap r_9 "java/lang/String" "coder" "B" (.int (0 : Int32)) := (F67.keep K85 (own_ninC ne44 own_nin0))
              have F153 : Arv Z T85.heap tb_9 kk_9 .byte (own_ln bl_9) (bl_9.map Value.int) (.int (0 : Int32)) := (F68.keep K85 (own_ninC ne45 own_nin0))
              have F154 : Exa Z T85.heap r_23 "java/lang/String" := (F69.keep K85)
              have F155 : Fld Z T85.heap r_23 "java/lang/String" "value" "[B" (.ref tb_23) := (F70.keep K85 (own_ninC ne46 own_nin0))
              have F156 : Fld Z T85.heap r_23 "java/lang/String" "coder" "B" (.int (0 : Int32)) := (F71.keep K85 (own_ninC ne46 own_nin0))
              have F157 : Arv Z T85.heap tb_23 kk_23 .byte (own_ln bl_23) (bl_23.map Value.int) (.int (0 : Int32)) := (F72.keep K85 (own_ninC ne47 own_nin0))
              have F158 : Exa Z T85.heap r3 "java/lang/String" := (F73.keep K85)
              have F159 : Fld Z T85.heap r3 "java/lang/String" "value" "[B" (.ref t3) := (F74.keep K85 (own_ninC ne48 own_nin0))
              have F160 : Fld Z T85.heap r3 "java/lang/String" "coder" "B" (.int (0 : Int32)) := (F75.keep K85 (own_ninC ne48 own_nin0))
              have F161 : Arv Z T85.heap t3 k3 .byte (own_ln b3) (b3.map Value.int) (.int (0 : Int32)) := (F76.keep K85 (own_ninC ne49 own_nin0))
              have F162 : Exa Z T85.heap r4 "java/lang/String" := (F77.keep K85)
              have F163 : Fld Z T85.heap r4 "java/lang/String" "value" "[B" (.ref t4) := (F78.keep K85 (own_ninC ne50 own_nin0))
              have F164 : Fld Z T85.heap r4 "java/lang/String" "coder" "B" (.int (0 : Int32)) := (F79.keep K85 (own_ninC ne50 own_nin0))
              have F165 : Arv Z T85.heap t4 k4 .byte (own_ln b4) (b4.map Value.int) (.int (0 : Int32)) := (F80.keep K85 (own_ninC ne51 own_nin0))
              have F166 : Exa Z T85.heap r5 "java/lang/String" := (F81.keep K85)
              have F167 : Fld Z T85.heap r5 "java/lang/String" "value" "[B" (.ref t5) := (F82.keep K85 (own_ninC ne52 own_nin0))
              have F168 : Fld Z T85.heap r5 "java/lang/String" "coder" "B" (.int (0 : Int32)) := (F83.keep K85 (own_ninC ne52 own_nin0))
              have F169 : Arv Z T85.heap t5 k5 .byte (own_ln b5) (b5.map Value.int) (.int (0 : Int32)) := (F84.keep K85 (own_ninC ne53 own_nin0))
              obtain ⟨cq170, kq170, q170a, q170b, q170c⟩ := isOf hZ rfl u85_0
              obtain ⟨_, _, ⟨T170, L170, k170, n170⟩, -, X170, ⟨Lc170, hQ170, l170, y170, z170⟩, st170⟩ := Xh85.virtualBack hx (y := (⟨"com/example/splitbook/splitbook/book/ReportKey", "equals", "(Ljava/lang/Object;)Z"⟩ : MethodName)) (z := (⟨"com/example/splitbook/splitbook/book/ReportKey", "equals", "(Ljava/lang/Object;)Z"⟩ : MethodName)) hown (mvT hZ (hw _ (List.mem_of_getElem? (i := 39) rfl))) (mvT hZ (hw _ (List.mem_of_getElem? (i := 40) rfl))) (notFace_of_selects (args := #[]) (mvT hZ (hw _ (List.mem_of_getElem? (i := 42) rfl)))) (mvT hZ (hw _ (List.mem_of_getElem? (i := 42) rfl))) (mvT hZ (hw _ (List.mem_of_getElem? (i := 41) rfl))) (by decide) (backOf (W := 0) (rm6k l Z a0 hw [] b41 b41 cs r_1 tb_1 kk_1 bl_1 r_1 tb_1 kk_1 bl_1 r_9 tb_9 kk_9 bl_9 r_9 tb_9 kk_9 bl_9 r_23 tb_23 kk_23 bl_23 r_23 tb_23 kk_23 bl_23 T85.heap n0 Z86 O90 P1 (by first | assumption | decide | omega : ¬ cs = (0 : Int32)) u85_0 u85_0 u85_1 u85_1 u85_2 u85_2 u85_3 u85_3 F146 F147 F148 F149 F146 F147 F148 F149 u1_4 u1_4 (fun _ => rfl) F150 F151 F152 F153 F150 F151 F152 F153 u9_4 u9_4 (fun _ => rfl) F154 F155 F156 F157 F154 F155 F156 F157 u23_4 u23_4 (fun _ => rfl)) hZ (hw _ (List.mem_of_getElem? (i := 43) rfl)) (hw _ (List.mem_of_getElem? (i := 28) rfl)) (by decide) (by decide)) q170a q170c (g := (mkF m 214 #[.val (.int p1), .val (.int p2), .val (.int p3), .val (.int p4), .val (.int p5), .val (.int p6), .val (.ref r_1), .val (.ref r_9), .val (.ref r_23), .val (.ref r3), .val (.ref r4), .val (.ref r5), .val (.ref b41), .val (.int (((p6.toUInt32 >>> ((24 : Int32) &&& 31).toUInt32).toInt32) &&& (3 : Int32))), .val (.ref b41), .val (.int (1 : Int32))] [(.ref b41), (.ref b41)])) rfl (by rw [hml]; rfl) (Steps.refl _) (argsL := [(.ref b41)]) (rest := []) (lenOf own_pd10 rfl) rfl (by show 2 * 0 + _ ≤ _; exact Nat.le_of_eq rfl) (hb hby at_214) (fun _ _ => ⟨rfl, rfl, (by decide : 37 + 0 ≤ _), (by decide : 75 + 0 ≤ _)⟩)
              dsimp only [Pt.U, Pt.locs, Pt.cells, Pt.slots] at X170 l170 y170 z170 st170 hQ170
              subst l170 y170 z170
              obtain ⟨rfl, Nq170, hh170⟩ := hQ170
              obtain ⟨lc170, Xh170, N170⟩ := own_hide X170 (Fr.app N85 Nq170)
              clear X170
              refine Go.hop st170 ?_
              show Go p.tables e below P T170 (mkF m 217 #[.val (.int p1), .val (.int p2), .val (.int p3), .val (.int p4), .val (.int p5), .val (.int p6), .val (.ref r_1), .val (.ref r_9), .val (.ref r_23), .val (.ref r3), .val (.ref r4), .val (.ref r5), .val (.ref b41), .val (.int (((p6.toUInt32 >>> ((24 : Int32) &&& 31).toUInt32).toInt32) &&& (3 : Int32))), .val (.ref b41), .val (.int (1 : Int32))] [(.int (if bl_1 = bl_1 ∧ bl_9 = bl_9 ∧ bl_23 = bl_23 then (1 : Int32) else (0 : Int32)))])
              refine Go.via (fun t k => XS.iload Xh170.here hx rfl (hb hby at_217) rfl k) ?_
              show Go p.tables e below P T170 (mkF m 219 #[.val (.int p1), .val (.int p2), .val (.int p3), .val (.int p4), .val (.int p5), .val (.int p6), .val (.ref r_1), .val (.ref r_9), .val (.ref r_23), .val (.ref r3), .val (.ref r4), .val (.ref r5), .val (.ref b41), .val (.int (((p6.toUInt32 >>> ((24 : Int32) &&& 31).toUInt32).toInt32) &&& (3 : Int32))), .val (.ref b41), .val (.int (1 : Int32))] [(.int (1 : Int32)), (.int (if bl_1 = bl_1 ∧ bl_9 = bl_9 ∧ bl_23 = bl_23 then (1 : Int32) else (0 : Int32)))])
              refine Go.via (fun t k => XS.icmpNo Xh170.here hx rfl (hb hby at_219) rfl (teq (if_pos ⟨rfl, rfl, rfl⟩)).2 k) ?_
              show Go p.tables e below P T170 (mkF m 222 #[.val (.int p1), .val (.int p2), .val (.int p3), .val (.int p4), .val (.int p5), .val (.int p6), .val (.ref r_1), .val (.ref r_9), .val (.ref r_23), .val (.ref r3), .val (.ref r4), .val (.ref r5), .val (.ref b41), .val (.int (((p6.toUInt32 >>> ((24 : Int32) &&& 31).toUInt32).toInt32) &&& (3 : Int32))), .val (.ref b41), .val (.int (1 : Int32))] [])
              refine Go.via (fun t k => XS.iconst Xh170.here hx rfl (hb hby at_222) k) ?_
              show Go p.tables e below P T170 (mkF m 223 #[.val (.int p1), .val (.int p2), .val (.int p3), .val (.int p4), .val (.int p5), .val (.int p6), .val (.ref r_1), .val (.ref r_9), .val (.ref r_23), .val (.ref r3), .val (.ref r4), .val (.ref r5), .val (.ref b41), .val (.int (((p6.toUInt32 >>> ((24 : Int32) &&& 31).toUInt32).toInt32) &&& (3 : Int32))), .val (.ref b41), .val (.int (1 : Int32))] [(.int (1 : Int32))])
              refine Go.via (fun t k => XS.goto Xh170.here hx rfl (pc0 := 223) (pc' := 227) rfl (hb hby at_223) (by decide) (by decide) k) ?_
              show Go p.tables e below P T170 (mkF m 227 #[.val (.int p1), .val (.int p2), .val (.int p3), .val (.int p4), .val (.int p5), .val (.int p6), .val (.ref r_1), .val (.ref r_9), .val (.ref r_23), .val (.ref r3), .val (.ref r4), .val (.ref r5), .val (.ref b41), .val (.int (((p6.toUInt32 >>> ((24 : Int32) &&& 31).toUInt32).toInt32) &&& (3 : Int32))), .val (.ref b41), .val (.int (1 : Int32))] [(.int (1 : Int32))])
              obtain ⟨fs, hr, hrun, hended, hend⟩ := Xh170.leaveW hS40 (by rw [hh170]; exact hk89) (v := some (.int (1 : Int32))) (fun h => by rw [Bd.returns] at h; cases h)
              have hCf : CHr Z consts_1 s.vm s.heap (T170.setFrames fs).vm (T170.setFrames fs).heap := by
                rw [hh]
                show CHr Z consts_1 s.vm h0 T170.vm T170.heap
                rw [hh170]
                exact CHr.trans CR88 (CHv.at Xh170 hZ (own_EW hw) CR88.1)
              refine ⟨_, _, retZ Xh170 hx (t := .boolean) Bd.returns (by simp) (hb hby at_227) rfl hr, hrun, hended, hP _ _ ⟨_, _, rfl, ?_, hCf, own_rew hend (by decide) (by decide)⟩⟩
              show Q0 Z p1 p2 p3 p4 p5 p6 cs fm h0 n0 _ T170.heap _
              rw [hh170]
              exact ⟨rfl, N170⟩
            · refine Go.via (fun t k => XS.icmpYes Xh85.here hx rfl (pc0 := 145) (pc' := 158) rfl (hb hby at_145) rfl (feq hc145).2 (by decide) (by decide) k) ?_
              show Go p.tables e below P T85 (mkF m 158 #[.val (.int p1), .val (.int p2), .val (.int p3), .val (.int p4), .val (.int p5), .val (.int p6), .val (.ref r_1), .val (.ref r_9), .val (.ref r_23), .val (.ref r3), .val (.ref r4), .val (.ref r5), .val (.ref b41), .val (.int (((p6.toUInt32 >>> ((24 : Int32) &&& 31).toUInt32).toInt32) &&& (3 : Int32))), .unset, .unset] [])
              have F173 : Exa Z T85.heap r_1 "java/lang/String" := (F61.keep K85)
              have F174 : Fld Z T85.heap r_1 "java/lang/String" "value" "[B" (.ref tb_1) := (F62.keep K85 (own_ninC ne42 own_nin0))
              have F175 : Fld Z T85.heap r_1 "java/lang/String" "coder" "B" (.int (0 : Int32)) := (F63.keep K85 (own_ninC ne42 own_nin0))
              have F176 : Arv Z T85.heap tb_1 kk_1 .byte (own_ln bl_1) (bl_1.map Value.int) (.int (0 : Int32)) := (F64.keep K85 (own_ninC ne43 own_nin0))
              have F177 : Exa Z T85.heap r_9 "java/lang/String" := (F65.keep K85)
              have F178 : Fld Z T85.heap r_9 "java/lang/String" "value" "[B" (.ref tb_9) := (F66.keep K85 (own_ninC ne44 own_nin0))
              have F179 : Fld Z T85.heap r_9 "java/lang/String" "coder" "B" (.int (0 : Int32)) := (F67.keep K85 (own_ninC ne44 own_nin0))
              have F180 : Arv Z T85.heap tb_9 kk_9 .byte (own_ln bl_9) (bl_9.map Value.int) (.int (0 : Int32)) := (F68.keep K85 (own_ninC ne45 own_nin0))
              have F181 : Exa Z T85.heap r_23 "java/lang/String" := (F69.keep K85)
              have F182 : Fld Z T85.heap r_23 "java/lang/String" "value" "[B" (.ref tb_23) := (F70.keep K85 (own_ninC ne46 own_nin0))
              have F183 : Fld Z T85.heap r_23 "java/lang/String" "coder" "B" (.int (0 : Int32)) := (F71.keep K85 (own_ninC ne46 own_nin0))
              have F184 : Arv Z T85.heap tb_23 kk_23 .byte (own_ln bl_23) (bl_23.map Value.int) (.int (0 : Int32)) := (F72.keep K85 (own_ninC ne47 own_nin0))
              have F185 : Exa Z T85.heap r3 "java/lang/String" := (F73.keep K85)
              have F186 : Fld Z T85.heap r3 "java/lang/String" "value" "[B" (.ref t3) := (F74.keep K85 (own_ninC ne48 own_nin0))
              have F187 : Fld Z T85.heap r3 "java/lang/String" "coder" "B" (.int (0 : Int32)) := (F75.keep K85 (own_ninC ne48 own_nin0))
              have F188 : Arv Z T85.heap t3 k3 .byte (own_ln b3) (b3.map Value.int) (.int (0 : Int32)) := (F76.keep K85 (own_ninC ne49 own_nin0))
              have F189 : Exa Z T85.heap r4 "java/lang/String" := (F77.keep K85)
              have F190 : Fld Z T85.heap r4 "java/lang/String" "value" "[B" (.ref t4) := (F78.keep K85 (own_ninC ne50 own_nin0))
              have F191 : Fld Z T85.heap r4 "java/lang/String" "coder" "B" (.int (0 : Int32)) := (F79.keep K85 (own_ninC ne50 own_nin0))
              have F192 : Arv Z T85.heap t4 k4 .byte (own_ln b4) (b4.map Value.int) (.int (0 : Int32)) := (F80.keep K85 (own_ninC ne51 own_nin0))
              have F193 : Exa Z T85.heap r5 "java/lang/String" := (F81.keep K85)
              have F194 : Fld Z T85.heap r5 "java/lang/String" "value" "[B" (.ref t5) := (F82.keep K85 (own_ninC ne52 own_nin0))
              have F195 : Fld Z T85.heap r5 "java/lang/String" "coder" "B" (.int (0 : Int32)) := (F83.keep K85 (own_ninC ne52 own_nin0))
              have F196 : Arv Z T85.heap t5 k5 .byte (own_ln b5) (b5.map Value.int) (.int (0 : Int32)) := (F84.keep K85 (own_ninC ne53 own_nin0))
              obtain ⟨T172, h172, X172, e172, E172, A172, D172, -, st172⟩ := newO Xh85 hx hZ hown (hw _ (List.mem_of_getElem? (i := 26) rfl)) (hw _ (List.mem_of_getElem? (i := 27) rfl)) (hw _ (List.mem_of_getElem? (i := 28) rfl)) rfl (g := (mkF m 158 #[.val (.int p1), .val (.int p2), .val (.int p3), .val (.int p4), .val (.int p5), .val (.int p6), .val (.ref r_1), .val (.ref r_9), .val (.ref r_23), .val (.ref r3), .val (.ref r4), .val (.ref r5), .val (.ref b41), .val (.int (((p6.toUInt32 >>> ((24 : Int32) &&& 31).toUInt32).toInt32) &&& (3 : Int32))), .unset, .unset] [])) rfl (hb hby at_158) (by decide) (by decide)
              obtain ⟨b172, g172⟩ : ∃ z, z = T85.heap.size := ⟨_, rfl⟩
              rw [← g172] at A172 D172 st172
              refine Go.via st172 ?_
              have ne197 : r_1 ≠ b172 := Nat.ne_of_lt (Nat.lt_of_lt_of_le F173.lt (Nat.le_of_eq g172.symm))
              have ne198 : tb_1 ≠ b172 := Nat.ne_of_lt (Nat.lt_of_lt_of_le F176.lt (Nat.le_of_eq g172.symm))
              have ne199 : r_9 ≠ b172 := Nat.ne_of_lt (Nat.lt_of_lt_of_le F177.lt (Nat.le_of_eq g172.symm))
              have ne200 : tb_9 ≠ b172 := Nat.ne_of_lt (Nat.lt_of_lt_of_le F180.lt (Nat.le_of_eq g172.symm))
              have ne201 : r_23 ≠ b172 := Nat.ne_of_lt (Nat.lt_of_lt_of_le F181.lt (Nat.le_of_eq g172.symm))
              have ne202 : tb_23 ≠ b172 := Nat.ne_of_lt (Nat.lt_of_lt_of_le F184.lt (Nat.le_of_eq g172.symm))
              have ne203 : r3 ≠ b172 := Nat.ne_of_lt (Nat.lt_of_lt_of_le F185.lt (Nat.le_of_eq g172.symm))
              have ne204 : t3 ≠ b172 := Nat.ne_of_lt (Nat.lt_of_lt_of_le F188.lt (Nat.le_of_eq g172.symm))
              have ne205 : r4 ≠ b172 := Nat.ne_of_lt (Nat.lt_of_lt_of_le F189.lt (Nat.le_of_eq g172.symm))
              have ne206 : t4 ≠ b172 := Nat.ne_of_lt (Nat.lt_of_lt_of_le F192.lt (Nat.le_of_eq g172.symm))
              have ne207 : r5 ≠ b172 := Nat.ne_of_lt (Nat.lt_of_lt_of_le F193.lt (Nat.le_of_eq g172.symm))
              have ne208 : t5 ≠ b172 := Nat.ne_of_lt (Nat.lt_of_lt_of_le F196.lt (Nat.le_of_eq g172.symm))
              have ne209 : b41 ≠ b172 := Nat.ne_of_lt (Nat.lt_of_lt_of_le u85_0.lt (Nat.le_of_eq g172.symm))
              have g210 : n0 ≤ b172 := Nat.le_trans Z86 (Nat.le_of_eq g172.symm)
              have sz211 : h0.size ≤ b172 := Nat.le_trans K87.1 (Nat.le_of_eq g172.symm)
              have Z212 : n0 ≤ h172.size := Nat.le_trans Z86 E172.1
              have K213 : Keep h0 h172 [] := K87.ext E172
              have O214 : Old Z n0 h172 := O90.ext E172
              have CR215 := CHr.trans CR88 (CHr.ext E172 CR88.1)
              have hk216 := Nat.le_trans hk89 E172.1
              show Go p.tables e below P T172 (mkF m 161 #[.val (.int p1), .val (.int p2), .val (.int p3), .val (.int p4), .val (.int p5), .val (.int p6), .val (.ref r_1), .val (.ref r_9), .val (.ref r_23), .val (.ref r3), .val (.ref r4), .val (.ref r5), .val (.ref b41), .val (.int (((p6.toUInt32 >>> ((24 : Int32) &&& 31).toUInt32).toInt32) &&& (3 : Int32))), .unset, .unset] [(.ref b172)])
              refine Go.via (fun t k => XS.dup X172.here hx rfl (hb hby at_161) rfl rfl k) ?_
              show Go p.tables e below P T172 (mkF m 162 #[.val (.int p1), .val (.int p2), .val (.int p3), .val (.int p4), .val (.int p5), .val (.int p6), .val (.ref r_1), .val (.ref r_9), .val (.ref r_23), .val (.ref r3), .val (.ref r4), .val (.ref r5), .val (.ref b41), .val (.int (((p6.toUInt32 >>> ((24 : Int32) &&& 31).toUInt32).toInt32) &&& (3 : Int32))), .unset, .unset] [(.ref b172), (.ref b172)])
              refine Go.via (fun t k => XS.aload X172.here hx rfl (hb hby at_162) rfl rfl k) ?_
              show Go p.tables e below P T172 (mkF m 164 #[.val (.int p1), .val (.int p2), .val (.int p3), .val (.int p4), .val (.int p5), .val (.int p6), .val (.ref r_1), .val (.ref r_9), .val (.ref r_23), .val (.ref r3), .val (.ref r4), .val (.ref r5), .val (.ref b41), .val (.int (((p6.toUInt32 >>> ((24 : Int32) &&& 31).toUInt32).toInt32) &&& (3 : Int32))), .unset, .unset] [(.ref r3), (.ref b172), (.ref b172)])
              refine Go.via (fun t k => XS.aload X172.here hx rfl (hb hby at_164) rfl rfl k) ?_
              show Go p.tables e below P T172 (mkF m 166 #[.val (.int p1), .val (.int p2), .val (.int p3), .val (.int p4), .val (.int p5), .val (.int p6), .val (.ref r_1), .val (.ref r_9), .val (.ref r_23), .val (.ref r3), .val (.ref r4), .val (.ref r5), .val (.ref b41), .val (.int (((p6.toUInt32 >>> ((24 : Int32) &&& 31).toUInt32).toInt32) &&& (3 : Int32))), .unset, .unset] [(.ref r4), (.ref r3), (.ref b172), (.ref b172)])
              refine Go.via (fun t k => XS.aload X172.here hx rfl (hb hby at_166) rfl rfl k) ?_
              show Go p.tables e below P T172 (mkF m 168 #[.val (.int p1), .val (.int p2), .val (.int p3), .val (.int p4), .val (.int p5), .val (.int p6), .val (.ref r_1), .val (.ref r_9), .val (.ref r_23), .val (.ref r3), .val (.ref r4), .val (.ref r5), .val (.ref b41), .val (.int (((p6.toUInt32 >>> ((24 : Int32) &&& 31).toUInt32).toInt32) &&& (3 : Int32))), .unset, .unset] [(.ref r5), (.ref r4), (.ref r3), (.ref b172), (.ref b172)])
              have F217 : Exa Z h172 r_1 "java/lang/String" := (F173.ext E172)
              have F218 : Fld Z h172 r_1 "java/lang/String" "value" "[B" (.ref tb_1) := (F174.ext E172)
              have F219 : Fld Z h172 r_1 "java/lang/String" "coder" "B" (.int (0 : Int32)) := (F175.ext E172)
              have F220 : Arv Z h172 tb_1 kk_1 .byte (own_ln bl_1) (bl_1.map Value.int) (.int (0 : Int32)) := (F176.ext E172)
              have F221 : Exa Z h172 r_9 "java/lang/String" := (F177.ext E172)
              have F222 : Fld Z h172 r_9 "java/lang/String" "value" "[B" (.ref tb_9) := (F178.ext E172)
              have F223 : Fld Z h172 r_9 "java/lang/String" "coder" "B" (.int (0 : Int32)) := (F179.ext E172)
              have F224 : Arv Z h172 tb_9 kk_9 .byte (own_ln bl_9) (bl_9.map Value.int) (.int (0 : Int32)) := (F180.ext E172)
              have F225 : Exa Z h172 r_23 "java/lang/String" := (F181.ext E172)
              have F226 : Fld Z h172 r_23 "java/lang/String" "value" "[B" (.ref tb_23) := (F182.ext E172)
              have F227 : Fld Z h172 r_23 "java/lang/String" "coder" "B" (.int (0 : Int32)) := (F183.ext E172)
              have F228 : Arv Z h172 tb_23 kk_23 .byte (own_ln bl_23) (bl_23.map Value.int) (.int (0 : Int32)) := (F184.ext E172)
              have F229 : Exa Z h172 r3 "java/lang/String" := (F185.ext E172)
              have F230 : Fld Z h172 r3 "java/lang/String" "value" "[B" (.ref t3) := (F186.ext E172)
              have F231 : Fld Z h172 r3 "java/lang/String" "coder" "B" (.int (0 : Int32)) := (F187.ext E172)
              have F232 : Arv Z h172 t3 k3 .byte (own_ln b3) (b3.map Value.int) (.int (0 : Int32)) := (F188.ext E172)
              have F233 : Exa Z h172 r4 "java/lang/String" := (F189.ext E172)
              have F234 : Fld Z h172 r4 "java/lang/String" "value" "[B" (.ref t4) := (F190.ext E172)
              have F235 : Fld Z h172 r4 "java/lang/String" "coder" "B" (.int (0 : Int32)) := (F191.ext E172)
              have F236 : Arv Z h172 t4 k4 .byte (own_ln b4) (b4.map Value.int) (.int (0 : Int32)) := (F192.ext E172)
              have F237 : Exa Z h172 r5 "java/lang/String" := (F193.ext E172)
              have F238 : Fld Z h172 r5 "java/lang/String" "value" "[B" (.ref t5) := (F194.ext E172)
              have F239 : Fld Z h172 r5 "java/lang/String" "coder" "B" (.int (0 : Int32)) := (F195.ext E172)
              have F240 : Arv Z h172 t5 k5 .byte (own_ln b5) (b5.map Value.int) (.int (0 : Int32)) := (F196.ext E172)
              have F241 : Exa Z h172 b41 "com/example/splitbook/splitbook/book/ReportKey" := (u85_0.ext E172)
              have F242 : Fld Z h172 b41 "com/example/splitbook/splitbook/book/ReportKey" "senderCompId" "Ljava/lang/String;" (.ref r_1) := (u85_1.ext E172)
              have F243 : Fld Z h172 b41 "com/example/splitbook/splitbook/book/ReportKey" "beginString" "Ljava/lang/String;" (.ref r_9) := (u85_2.ext E172)
              have F244 : Fld Z h172 b41 "com/example/splitbook/splitbook/book/ReportKey" "allocReportId" "Ljava/lang/String;" (.ref r_23) := (u85_3.ext E172)
              obtain ⟨_, _, ⟨T245, L245, k245, n245⟩, -, X245, ⟨Lc245, hQ245, l245, y245, z245⟩, st245⟩ := X172.specialBack hx (y := (⟨"com/example/splitbook/splitbook/book/ReportKey", "<init>", "(Ljava/lang/String;Ljava/lang/String;Ljava/lang/String;)V"⟩ : MethodName)) rfl hown (mvT hZ (hw _ (List.mem_of_getElem? (i := 29) rfl))) (mvT hZ (hw _ (List.mem_of_getElem? (i := 30) rfl))) (mvT hZ (hw _ (List.mem_of_getElem? (i := 31) rfl))) (by decide) (backOf (W := 1) (rm5 l Z a0 hw [] b172 r3 r4 r5 h172 n0 Z212 A172 (D172 (Or.inr (hw _ (List.mem_of_getElem? (i := 34) rfl))) (ty := (.object "java/lang/String")) (by decide) : Fld Z h172 b172 "com/example/splitbook/splitbook/book/ReportKey" "senderCompId" "Ljava/lang/String;" .null) (D172 (Or.inr (hw _ (List.mem_of_getElem? (i := 36) rfl))) (ty := (.object "java/lang/String")) (by decide) : Fld Z h172 b172 "com/example/splitbook/splitbook/book/ReportKey" "beginString" "Ljava/lang/String;" .null) (D172 (Or.inr (hw _ (List.mem_of_getElem? (i := 38) rfl))) (ty := (.object "java/lang/String")) (by decide) : Fld Z h172 b172 "com/example/splitbook/splitbook/book/ReportKey" "allocReportId" "Ljava/lang/String;" .null) g210) hZ (hw _ (List.mem_of_getElem? (i := 31) rfl)) (hw _ (List.mem_of_getElem? (i := 28) rfl)) (by decide) (by decide)) (g := (mkF m 168 #[.val (.int p1), .val (.int p2), .val (.int p3), .val (.int p4), .val (.int p5), .val (.int p6), .val (.ref r_1), .val (.ref r_9), .val (.ref r_23), .val (.ref r3), .val (.ref r4), .val (.ref r5), .val (.ref b41), .val (.int (((p6.toUInt32 >>> ((24 : Int32) &&& 31).toUInt32).toInt32) &&& (3 : Int32))), .unset, .unset] [(.ref r5), (.ref r4), (.ref r3), (.ref b172), (.ref b172)])) rfl (by rw [hml]; rfl) (Steps.refl _) (a := b172) (argsL := [(.ref r3), (.ref r4), (.ref r5)]) (rest := [(.ref b172)]) (lenOf own_pd12 rfl) rfl (by show 2 * 0 + _ ≤ _; exact Nat.le_of_eq rfl) (hb hby at_168) (fun _ _ => ⟨rfl, e172, (by decide : 38 + 0 ≤ _), (by decide : 78 + 0 ≤ _)⟩)
              dsimp only [Pt.U, Pt.locs, Pt.cells, Pt.slots] at X245 l245 y245 z245 st245 hQ245
              subst l245 y245 z245
              obtain ⟨rfl, Nq245, K245, u245_0, u245_1, u245_2, u245_3⟩ := hQ245
              obtain ⟨lc245, Xh245, N245⟩ := own_hide X245 (Fr.app N85 Nq245)
              clear X245
              refine Go.hop st245 ?_
              have Z246 : n0 ≤ T245.heap.size := Nat.le_trans Z212 K245.1
              have K247 : Keep h0 T245.heap [] := K213.trans K245 (own_allC (Or.inr sz211) own_all0)
              have CR248 := CHr.trans CR215 (CHr.keep K245 (sfS (Safe.exa hZ.alike A172 (by decide) (by decide)) sf0) CR215.1)
              have hk249 := Nat.le_trans hk216 K245.1
              have O250 : Old Z n0 T245.heap := O214.keep K245 (own_allC g210 own_all0)
              show Go p.tables e below P T245 (mkF m 171 #[.val (.int p1), .val (.int p2), .val (.int p3), .val (.int p4), .val (.int p5), .val (.int p6), .val (.ref r_1), .val (.ref r_9), .val (.ref r_23), .val (.ref r3), .val (.ref r4), .val (.ref r5), .val (.ref b41), .val (.int (((p6.toUInt32 >>> ((24 : Int32) &&& 31).toUInt32).toInt32) &&& (3 : Int32))), .unset, .unset] [(.ref b172)])
              refine Go.via (fun t k => XS.astore Xh245.here hx rfl (hb hby at_171) rfl rfl (l' := #[.val (.int p1), .val (.int p2), .val (.int p3), .val (.int p4), .val (.int p5), .val (.int p6), .val (.ref r_1), .val (.ref r_9), .val (.ref r_23), .val (.ref r3), .val (.ref r4), .val (.ref r5), .val (.ref b41), .val (.int (((p6.toUInt32 >>> ((24 : Int32) &&& 31).toUInt32).toInt32) &&& (3 : Int32))), .val (.ref b172), .unset]) rfl k) ?_
              show Go p.tables e below P T245 (mkF m 173 #[.val (.int p1), .val (.int p2), .val (.int p3), .val (.int p4), .val (.int p5), .val (.int p6), .val (.ref r_1), .val (.ref r_9), .val (.ref r_23), .val (.ref r3), .val (.ref r4), .val (.ref r5), .val (.ref b41), .val (.int (((p6.toUInt32 >>> ((24 : Int32) &&& 31).toUInt32).toInt32) &&& (3 : Int32))), .val (.ref b172), .unset] [])
              refine Go.via (fun t k => XS.aload Xh245.here hx rfl (hb hby at_173) rfl rfl k) ?_
              show Go p.tables e below P T245 (mkF m 175 #[.val (.int p1), .val (.int p2), .val (.int p3), .val (.int p4), .val (.int p5), .val (.int p6), .val (.ref r_1), .val (.ref r_9), .val (.ref r_23), .val (.ref r3), .val (.ref r4), .val (.ref r5), .val (.ref b41), .val (.int (((p6.toUInt32 >>> ((24 : Int32) &&& 31).toUInt32).toInt32) &&& (3 : Int32))), .val (.ref b172), .unset] [(.ref r_1)])
              refine Go.via (fun t k => XS.aload Xh245.here hx rfl (hb hby at_175) rfl rfl k) ?_
              show Go p.tables e below P T245 (mkF m 177 #[.val (.int p1), .val (.int p2), .val (.int p3), .val (.int p4), .val (.int p5), .val (.int p6), .val (.ref r_1), .val (.ref r_9), .val (.ref r_23), .val (.ref r3), .val (.ref r4), .val (.ref r5), .val (.ref b41), .val (.int (((p6.toUInt32 >>> ((24 : Int32) &&& 31).toUInt32).toInt32) &&& (3 : Int32))), .val (.ref b172), .unset] [(.ref r3), (.ref r_1)])
              have F251 : Exa Z T245.heap r_1 "java/lang/String" := (F217.keep K245)
              have F252 : Fld Z T245.heap r_1 "java/lang/String" "value" "[B" (.ref tb_1) := (F218.keep K245 (own_ninC ne197 own_nin0))
              have F253 : Fld Z T245.heap r_1 "java/lang/String" "coder" "B" (.int (0 : Int32)) := (F219.keep K245 (own_ninC ne197 own_nin0))
              have F254 : Arv Z T245.heap tb_1 kk_1 .byte (own_ln bl_1) (bl_1.map Value.int) (.int (0 : Int32)) := (F220.keep K245 (own_ninC ne198 own_nin0))
              have F255 : Exa Z T245.heap r3 "java/lang/String" := (F229.keep K245)
              have F256 : Fld Z T245.heap r3 "java/lang/String" "value" "[B" (.ref t3) := (F230.keep K245 (own_ninC ne203 own_nin0))
              have F257 : Fld Z T245.heap r3 "java/lang/String" "coder" "B" (.int (0 : Int32)) := (F231.keep K245 (own_ninC ne203 own_nin0))
              have F258 : Arv Z T245.heap t3 k3 .byte (own_ln b3) (b3.map Value.int) (.int (0 : Int32)) := (F232.keep K245 (own_ninC ne204 own_nin0))
              have F259 : Exa Z T245.heap r_9 "java/lang/String" := (F221.keep K245)
              have F260 : Fld Z T245.heap r_9 "java/lang/String" "value" "[B" (.ref tb_9) := (F222.keep K245 (own_ninC ne199 own_nin0))
              have F261 : Fld Z T245.heap r_9 "java/lang/String" "coder" "B" (.int (0 : Int32)) := (F223.keep K245 (own_ninC ne199 own_nin0))
              have F262 : Arv Z T245.heap tb_9 kk_9 .byte (own_ln bl_9) (bl_9.map Value.int) (.int (0 : Int32)) := (F224.keep K245 (own_ninC ne200 own_nin0))
              have F263 : Exa Z T245.heap r_23 "java/lang/String" := (F225.keep K245)
              have F264 : Fld Z T245.heap r_23 "java/lang/String" "value" "[B" (.ref tb_23) := (F226.keep K245 (own_ninC ne201 own_nin0))
              have F265 : Fld Z T245.heap r_23 "java/lang/String" "coder" "B" (.int (0 : Int32)) := (F227.keep K245 (own_ninC ne201 own_nin0))
              have F266 : Arv Z T245.heap tb_23 kk_23 .byte (own_ln bl_23) (bl_23.map Value.int) (.int (0 : Int32)) := (F228.keep K245 (own_ninC ne202 own_nin0))
              have F267 : Exa Z T245.heap r4 "java/lang/String" := (F233.keep K245)
              have F268 : Fld Z T245.heap r4 "java/lang/String" "value" "[B" (.ref t4) := (F234.keep K245 (own_ninC ne205 own_nin0))
              have F269 : Fld Z T245.heap r4 "java/lang/String" "coder" "B" (.int (0 : Int32)) := (F235.keep K245 (own_ninC ne205 own_nin0))
              have F270 : Arv Z T245.heap t4 k4 .byte (own_ln b4) (b4.map Value.int) (.int (0 : Int32)) := (F236.keep K245 (own_ninC ne206 own_nin0))
              have F271 : Exa Z T245.heap r5 "java/lang/String" := (F237.keep K245)
              have F272 : Fld Z T245.heap r5 "java/lang/String" "value" "[B" (.ref t5) := (F238.keep K245 (own_ninC ne207 own_nin0))
              have F273 : Fld Z T245.heap r5 "java/lang/String" "coder" "B" (.int (0 : Int32)) := (F239.keep K245 (own_ninC ne207 own_nin0))
              have F274 : Arv Z T245.heap t5 k5 .byte (own_ln b5) (b5.map Value.int) (.int (0 : Int32)) := (F240.keep K245 (own_ninC ne208 own_nin0))
              have F275 : Exa Z T245.heap b41 "com/example/splitbook/splitbook/book/ReportKey" := (F241.keep K245)
              have F276 : Fld Z T245.heap b41 "com/example/splitbook/splitbook/book/ReportKey" "senderCompId" "Ljava/lang/String;" (.ref r_1) := (F242.keep K245 (own_ninC ne209 own_nin0))
              have F277 : Fld Z T245.heap b41 "com/example/splitbook/splitbook/book/ReportKey" "beginString" "Ljava/lang/String;" (.ref r_9) := (F243.keep K245 (own_ninC ne209 own_nin0))
              have F278 : Fld Z T245.heap b41 "com/example/splitbook/splitbook/book/ReportKey" "allocReportId" "Ljava/lang/String;" (.ref r_23) := (F244.keep K245 (own_ninC ne209 own_nin0))
              obtain ⟨_, _, ⟨T279, L279, k279, n279⟩, -, X279, ⟨Lc279, hQ279, l279, y279, z279⟩, st279⟩ := Jvm.LawKit.callS Xh245 hx (y := (⟨"com/example/splitbook/splitbook/book/ReportKeyEqualsPinLaw", "same", "(Ljava/lang/String;Ljava/lang/String;)Z"⟩ : MethodName)) hown (mvT hZ (hw _ (List.mem_of_getElem? (i := 55) rfl))) (mvT hZ (hw _ (List.mem_of_getElem? (i := 56) rfl))) (mvT hZ (hw _ (List.mem_of_getElem? (i := 2) rfl))) (mvT hZ (hw _ (List.mem_of_getElem? (i := 57) rfl))) (by decide) (backOf (W := 0) (rm10 l Z a0 hw [] r_1 r3 cs tb_1 t3 kk_1 k3 bl_1 b3 fm T245.heap n0 Z246 O250 P1 (by first | assumption | decide | omega : ¬ cs = (0 : Int32)) P3 (by first | assumption | decide | omega : fm.isRef = true) F251 F252 F253 F254 F255 F256 F257 F258 u1_4 sm3) hZ (hw _ (List.mem_of_getElem? (i := 57) rfl)) (hw _ (List.mem_of_getElem? (i := 2) rfl)) (by decide) (by decide)) (g := (mkF m 177 #[.val (.int p1), .val (.int p2), .val (.int p3), .val (.int p4), .val (.int p5), .val (.int p6), .val (.ref r_1), .val (.ref r_9), .val (.ref r_23), .val (.ref r3), .val (.ref r4), .val (.ref r5), .val (.ref b41), .val (.int (((p6.toUInt32 >>> ((24 : Int32) &&& 31).toUInt32).toInt32) &&& (3 : Int32))), .val (.ref b172), .unset] [(.ref r3), (.ref r_1)])) rfl (by rw [hml]; rfl) (argsL := [(.ref r_1), (.ref r3)]) (rest := []) (lenOf own_pd13 rfl) rfl (by show 2 * 0 + _ ≤ _; exact Nat.le_of_eq rfl) (hb hby at_177) (fun _ _ => ⟨rfl, rfl, (by decide : 38 + 0 ≤ _), (by decide : 78 + 0 ≤ _)⟩)
              dsimp only [Pt.U, Pt.locs, Pt.cells, Pt.slots] at X279 l279 y279 z279 st279 hQ279
              subst l279 y279 z279
              obtain ⟨rfl, Nq279, hh279⟩ := hQ279
              obtain ⟨lc279, Xh279, N279⟩ := own_hide X279 (Fr.app N245 Nq279)
              clear X279
              refine Go.via st279 ?_
              show Go p.tables e below P T279 (mkF m 180 #[.val (.int p1), .val (.int p2), .val (.int p3), .val (.int p4), .val (.int p5), .val (.int p6), .val (.ref r_1), .val (.ref r_9), .val (.ref r_23), .val (.ref r3), .val (.ref r4), .val (.ref r5), .val (.ref b41), .val (.int (((p6.toUInt32 >>> ((24 : Int32) &&& 31).toUInt32).toInt32) &&& (3 : Int32))), .val (.ref b172), .unset] [(.int (if bl_1 = b3 then (1 : Int32) else (0 : Int32)))])
              by_cases hc280 : (if bl_1 = b3 then (1 : Int32) else (0 : Int32)) = (0 : Int32)
              · refine Go.via (fun t k => XS.ifYes Xh279.here hx rfl (pc0 := 180) (pc' := 207) rfl (hb hby at_180) rfl ((if0 _ _).trans (teq hc280).1) (by decide) (by decide) k) ?_
                show Go p.tables e below P T279 (mkF m 207 #[.val (.int p1), .val (.int p2), .val (.int p3), .val (.int p4), .val (.int p5), .val (.int p6), .val (.ref r_1), .val (.ref r_9), .val (.ref r_23), .val (.ref r3), .val (.ref r4), .val (.ref r5), .val (.ref b41), .val (.int (((p6.toUInt32 >>> ((24 : Int32) &&& 31).toUInt32).toInt32) &&& (3 : Int32))), .val (.ref b172), .unset] [])
                refine Go.via (fun t k => XS.iconst Xh279.here hx rfl (hb hby at_207) k) ?_
                show Go p.tables e below P T279 (mkF m 208 #[.val (.int p1), .val (.int p2), .val (.int p3), .val (.int p4), .val (.int p5), .val (.int p6), .val (.ref r_1), .val (.ref r_9), .val (.ref r_23), .val (.ref r3), .val (.ref r4), .val (.ref r5), .val (.ref b41), .val (.int (((p6.toUInt32 >>> ((24 : Int32) &&& 31).toUInt32).toInt32) &&& (3 : Int32))), .val (.ref b172), .unset] [(.int (0 : Int32))])
                refine Go.via (fun t k => XS.istore Xh279.here hx rfl (hb hby at_208) rfl (l' := #[.val (.int p1), .val (.int p2), .val (.int p3), .val (.int p4), .val (.int p5), .val (.int p6), .val (.ref r_1), .val (.ref r_9), .val (.ref r_23), .val (.ref r3), .val (.ref r4), .val (.ref r5), .val (.ref b41), .val (.int (((p6.toUInt32 >>> ((24 : Int32) &&& 31).toUInt32).toInt32) &&& (3 : Int32))), .val (.ref b172), .val (.int (0 : Int32))]) rfl k) ?_
                show Go p.tables e below P T279 (mkF m 210 #[.val (.int p1), .val (.int p2), .val (.int p3), .val (.int p4), .val (.int p5), .val (.int p6), .val (.ref r_1), .val (.ref r_9), .val (.ref r_23), .val (.ref r3), .val (.ref r4), .val (.ref r5), .val (.ref b41), .val (.int (((p6.toUInt32 >>> ((24 : Int32) &&& 31).toUInt32).toInt32) &&& (3 : Int32))), .val (.ref b172), .val (.int (0 : Int32))] [])
                refine Go.via (fun t k => XS.aload Xh279.here hx rfl (hb hby at_210) rfl rfl k) ?_
                show Go p.tables e below P T279 (mkF m 212 #[.val (.int p1), .val (.int p2), .val (.int p3), .val (.int p4), .val (.int p5), .val (.int p6), .val (.ref r_1), .val (.ref r_9), .val (.ref r_23), .val (.ref r3), .val (.ref r4), .val (.ref r5), .val (.ref b41), .val (.int (((p6.toUInt32 >>> ((24 : Int32) &&& 31).toUInt32).toInt32) &&& (3 : Int32))), .val (.ref b172), .val (.int (0 : Int32))] [(.ref b41)])
                refine Go.via (fun t k => XS.aload Xh279.here hx rfl (hb hby at_212) rfl rfl k) ?_
                show Go p.tables e below P T279 (mkF m 214 #[.val (.int p1), .val (.int p2), .val (.int p3), .val (.int p4), .val (.int p5), .val (.int p6), .val (.ref r_1), .val (.ref r_9), .val (.ref r_23), .val (.ref r3), .val (.ref r4), .val (.ref r5), .val (.ref b41), .val (.int (((p6.toUInt32 >>> ((24 : Int32) &&& 31).toUInt32).toInt32) &&& (3 : Int32))), .val (.ref b172), .val (.int (0 : Int32))] [(.ref b172), (.ref b41)])
                obtain ⟨cq281, kq281, q281a, q281b, q281c⟩ := isOf hZ hh279 F275
                obtain ⟨_, _, ⟨T281, L281, k281, n281⟩, -, X281, ⟨Lc281, hQ281, l281, y281, z281⟩, st281⟩ := Xh279.virtualBack hx (y := (⟨"com/example/splitbook/splitbook/book/ReportKey", "equals", "(Ljava/lang/Object;)Z"⟩ : MethodName)) (z := (⟨"com/example/splitbook/splitbook/book/ReportKey", "equals", "(Ljava/lang/Object;)Z"⟩ : MethodName)) hown (mvT hZ (hw _ (List.mem_of_getElem? (i := 39) rfl))) (mvT hZ (hw _ (List.mem_of_getElem? (i := 40) rfl))) (notFace_of_selects (args := #[]) (mvT hZ (hw _ (List.mem_of_getElem? (i := 42) rfl)))) (mvT hZ (hw _ (List.mem_of_getElem? (i := 42) rfl))) (mvT hZ (hw _ (List.mem_of_getElem? (i := 41) rfl))) (by decide) (backOf (W := 0) (rm6k l Z a0 hw [] b41 b172 cs r_1 tb_1 kk_1 bl_1 r3 t3 k3 b3 r_9 tb_9 kk_9 bl_9 r4 t4 k4 b4 r_23 tb_23 kk_23 bl_23 r5 t5 k5 b5 T245.heap n0 Z246 O250 P1 (by first | assumption | decide | omega : ¬ cs = (0 : Int32)) F275 u245_0 F276 u245_1 F277 u245_2 F278 u245_3 F251 F252 F253 F254 F255 F256 F257 F258 u1_4 sm3 (fun q => absurd q nr3) F259 F260 F261 F262 F267 F268 F269 F270 u9_4 sm4 (fun q => absurd q nr4) F263 F264 F265 F266 F271 F272 F273 F274 u23_4 sm5 (fun q => absurd q nr5)) hZ (hw _ (List.mem_of_getElem? (i := 43) rfl)) (hw _ (List.mem_of_getElem? (i := 28) rfl)) (by decide) (by decide)) q281a q281c (g := (mkF m 214 #[.val (.int p1), .val (.int p2), .val (.int p3), .val (.int p4), .val (.int p5), .val (.int p6), .val (.ref r_1), .val (.ref r_9), .val (.ref r_23), .val (.ref r3), .val (.ref r4), .val (.ref r5), .val (.ref b41), .val (.int (((p6.toUInt32 >>> ((24 : Int32) &&& 31).toUInt32).toInt32) &&& (3 : Int32))), .val (.ref b172), .val (.int (0 : Int32))] [(.ref b172), (.ref b41)])) rfl (by rw [hml]; rfl) (Steps.refl _) (argsL := [(.ref b172)]) (rest := []) (lenOf own_pd10 rfl) rfl (by show 2 * 0 + _ ≤ _; exact Nat.le_of_eq rfl) (hb hby at_214) (fun _ _ => ⟨rfl, hh279, (by decide : 38 + 0 ≤ _), (by decide : 78 + 0 ≤ _)⟩)
                dsimp only [Pt.U, Pt.locs, Pt.cells, Pt.slots] at X281 l281 y281 z281 st281 hQ281
                subst l281 y281 z281
                obtain ⟨rfl, Nq281, hh281⟩ := hQ281
                obtain ⟨lc281, Xh281, N281⟩ := own_hide X281 (Fr.app N279 Nq281)
                clear X281
                refine Go.hop st281 ?_
                show Go p.tables e below P T281 (mkF m 217 #[.val (.int p1), .val (.int p2), .val (.int p3), .val (.int p4), .val (.int p5), .val (.int p6), .val (.ref r_1), .val (.ref r_9), .val (.ref r_23), .val (.ref r3), .val (.ref r4), .val (.ref r5), .val (.ref b41), .val (.int (((p6.toUInt32 >>> ((24 : Int32) &&& 31).toUInt32).toInt32) &&& (3 : Int32))), .val (.ref b172), .val (.int (0 : Int32))] [(.int (if bl_1 = b3 ∧ bl_9 = b4 ∧ bl_23 = b5 then (1 : Int32) else (0 : Int32)))])
                refine Go.via (fun t k => XS.iload Xh281.here hx rfl (hb hby at_217) rfl k) ?_
                show Go p.tables e below P T281 (mkF m 219 #[.val (.int p1), .val (.int p2), .val (.int p3), .val (.int p4), .val (.int p5), .val (.int p6), .val (.ref r_1), .val (.ref r_9), .val (.ref r_23), .val (.ref r3), .val (.ref r4), .val (.ref r5), .val (.ref b41), .val (.int (((p6.toUInt32 >>> ((24 : Int32) &&& 31).toUInt32).toInt32) &&& (3 : Int32))), .val (.ref b172), .val (.int (0 : Int32))] [(.int (0 : Int32)), (.int (if bl_1 = b3 ∧ bl_9 = b4 ∧ bl_23 = b5 then (1 : Int32) else (0 : Int32)))])
                refine Go.via (fun t k => XS.icmpNo Xh281.here hx rfl (hb hby at_219) rfl (teq (if_neg (fun q => own_i0 hc280 q.1))).2 k) ?_
                show Go p.tables e below P T281 (mkF m 222 #[.val (.int p1), .val (.int p2), .val (.int p3), .val (.int p4), .val (.int p5), .val (.int p6), .val (.ref r_1), .val (.ref r_9), .val (.ref r_23), .val (.ref r3), .val (.ref r4), .val (.ref r5), .val (.ref b41), .val (.int (((p6.toUInt32 >>> ((24 : Int32) &&& 31).toUInt32).toInt32) &&& (3 : Int32))), .val (.ref b172), .val (.int (0 : Int32))] [])
                refine Go.via (fun t k => XS.iconst Xh281.here hx rfl (hb hby at_222) k) ?_
                show Go p.tables e below P T281 (mkF m 223 #[.val (.int p1), .val (.int p2), .val (.int p3), .val (.int p4), .val (.int p5), .val (.int p6), .val (.ref r_1), .val (.ref r_9), .val (.ref r_23), .val (.ref r3), .val (.ref r4), .val (.ref r5), .val (.ref b41), .val (.int (((p6.toUInt32 >>> ((24 : Int32) &&& 31).toUInt32).toInt32) &&& (3 : Int32))), .val (.ref b172), .val (.int (0 : Int32))] [(.int (1 : Int32))])
                refine Go.via (fun t k => XS.goto Xh281.here hx rfl (pc0 := 223) (pc' := 227) rfl (hb hby at_223) (by decide) (by decide) k) ?_
                show Go p.tables e below P T281 (mkF m 227 #[.val (.int p1), .val (.int p2), .val (.int p3), .val (.int p4), .val (.int p5), .val (.int p6), .val (.ref r_1), .val (.ref r_9), .val (.ref r_23), .val (.ref r3), .val (.ref r4), .val (.ref r5), .val (.ref b41), .val (.int (((p6.toUInt32 >>> ((24 : Int32) &&& 31).toUInt32).toInt32) &&& (3 : Int32))), .val (.ref b172), .val (.int (0 : Int32))] [(.int (1 : Int32))])
                obtain ⟨fs, hr, hrun, hended, hend⟩ := Xh281.leaveW hS40 (by rw [hh281]; exact hk249) (v := some (.int (1 : Int32))) (fun h => by rw [Bd.returns] at h; cases h)
                have hCf : CHr Z consts_1 s.vm s.heap (T281.setFrames fs).vm (T281.setFrames fs).heap := by
                  rw [hh]
                  show CHr Z consts_1 s.vm h0 T281.vm T281.heap
                  rw [hh281]
                  exact CHr.trans CR248 (CHv.at Xh281 hZ (own_EW hw) CR248.1)
                refine ⟨_, _, retZ Xh281 hx (t := .boolean) Bd.returns (by simp) (hb hby at_227) rfl hr, hrun, hended, hP _ _ ⟨_, _, rfl, ?_, hCf, own_rew hend (by decide) (by decide)⟩⟩
                show Q0 Z p1 p2 p3 p4 p5 p6 cs fm h0 n0 _ T281.heap _
                rw [hh281]
                exact ⟨rfl, N281⟩
              · refine Go.via (fun t k => XS.ifNo Xh279.here hx rfl (hb hby at_180) rfl ((if0 _ _).trans (feq hc280).1) k) ?_
                show Go p.tables e below P T279 (mkF m 183 #[.val (.int p1), .val (.int p2), .val (.int p3), .val (.int p4), .val (.int p5), .val (.int p6), .val (.ref r_1), .val (.ref r_9), .val (.ref r_23), .val (.ref r3), .val (.ref r4), .val (.ref r5), .val (.ref b41), .val (.int (((p6.toUInt32 >>> ((24 : Int32) &&& 31).toUInt32).toInt32) &&& (3 : Int32))), .val (.ref b172), .unset] [])
                refine Go.via (fun t k => XS.aload Xh279.here hx rfl (hb hby at_183) rfl rfl k) ?_
                show Go p.tables e below P T279 (mkF m 185 #[.val (.int p1), .val (.int p2), .val (.int p3), .val (.int p4), .val (.int p5), .val (.int p6), .val (.ref r_1), .val (.ref r_9), .val (.ref r_23), .val (.ref r3), .val (.ref r4), .val (.ref r5), .val (.ref b41), .val (.int (((p6.toUInt32 >>> ((24 : Int32) &&& 31).toUInt32).toInt32) &&& (3 : Int32))), .val (.ref b172), .unset] [(.ref r_9)])
                refine Go.via (fun t k => XS.aload Xh279.here hx rfl (hb hby at_185) rfl rfl k) ?_
                show Go p.tables e below P T279 (mkF m 187 #[.val (.int p1), .val (.int p2), .val (.int p3), .val (.int p4), .val (.int p5), .val (.int p6), .val (.ref r_1), .val (.ref r_9), .val (.ref r_23), .val (.ref r3), .val (.ref r4), .val (.ref r5), .val (.ref b41), .val (.int (((p6.toUInt32 >>> ((24 : Int32) &&& 31).toUInt32).toInt32) &&& (3 : Int32))), .val (.ref b172), .unset] [(.ref r4), (.ref r_9)])
                obtain ⟨_, _, ⟨T283, L283, k283, n283⟩, -, X283, ⟨Lc283, hQ283, l283, y283, z283⟩, st283⟩ := Jvm.LawKit.callS Xh279 hx (y := (⟨"com/example/splitbook/splitbook/book/ReportKeyEqualsPinLaw", "same", "(Ljava/lang/String;Ljava/lang/String;)Z"⟩ : MethodName)) hown (mvT hZ (hw _ (List.mem_of_getElem? (i := 55) rfl))) (mvT hZ (hw _ (List.mem_of_getElem? (i := 56) rfl))) (mvT hZ (hw _ (List.mem_of_getElem? (i := 2) rfl))) (mvT hZ (hw _ (List.mem_of_getElem? (i := 57) rfl))) (by decide) (backOf (W := 0) (rm10 l Z a0 hw [] r_9 r4 cs tb_9 t4 kk_9 k4 bl_9 b4 fm T245.heap n0 Z246 O250 P1 (by first | assumption | decide | omega : ¬ cs = (0 : Int32)) P3 (by first | assumption | decide | omega : fm.isRef = true) F259 F260 F261 F262 F267 F268 F269 F270 u9_4 sm4) hZ (hw _ (List.mem_of_getElem? (i := 57) rfl)) (hw _ (List.mem_of_getElem? (i := 2) rfl)) (by decide) (by decide)) (g := (mkF m 187 #[.val (.int p1), .val (.int p2), .val (.int p3), .val (.int p4), .val (.int p5), .val (.int p6), .val (.ref r_1), .val (.ref r_9), .val (.ref r_23), .val (.ref r3), .val (.ref r4), .val (.ref r5), .val (.ref b41), .val (.int (((p6.toUInt32 >>> ((24 : Int32) &&& 31).toUInt32).toInt32) &&& (3 : Int32))), .val (.ref b172), .unset] [(.ref r4), (.ref r_9)])) rfl (by rw [hml]; rfl) (argsL := [(.ref r_9), (.ref r4)]) (rest := []) (lenOf own_pd13 rfl) rfl (by show 2 * 0 + _ ≤ _; exact Nat.le_of_eq rfl) (hb hby at_187) (fun _ _ => ⟨rfl, hh279, (by decide : 38 + 0 ≤ _), (by decide : 78 + 0 ≤ _)⟩)
                dsimp only [Pt.U, Pt.locs, Pt.cells, Pt.slots] at X283 l283 y283 z283 st283 hQ283
                subst l283 y283 z283
                obtain ⟨rfl, Nq283, hh283⟩ := hQ283
                obtain ⟨lc283, Xh283, N283⟩ := own_hide X283 (Fr.app N279 Nq283)
                clear X283
                refine Go.via st283 ?_
                show Go p.tables e below P T283 (mkF m 190 #[.val (.int p1), .val (.int p2), .val (.int p3), .val (.int p4), .val (.int p5), .val (.int p6), .val (.ref r_1), .val (.ref r_9), .val (.ref r_23), .val (.ref r3), .val (.ref r4), .val (.ref r5), .val (.ref b41), .val (.int (((p6.toUInt32 >>> ((24 : Int32) &&& 31).toUInt32).toInt32) &&& (3 : Int32))), .val (.ref b172), .unset] [(.int (if bl_9 = b4 then (1 : Int32) else (0 : Int32)))])
                by_cases hc284 : (if bl_9 = b4 then (1 : Int32) else (0 : Int32)) = (0 : Int32)
                · refine Go.via (fun t k => XS.ifYes Xh283.here hx rfl (pc0 := 190) (pc' := 207) rfl (hb hby at_190) rfl ((if0 _ _).trans (teq hc284).1) (by decide) (by decide) k) ?_
                  show Go p.tables e below P T283 (mkF m 207 #[.val (.int p1), .val (.int p2), .val (.int p3), .val (.int p4), .val (.int p5), .val (.int p6), .val (.ref r_1), .val (.ref r_9), .val (.ref r_23), .val (.ref r3), .val (.ref r4), .val (.ref r5), .val (.ref b41), .val (.int (((p6.toUInt32 >>> ((24 : Int32) &&& 31).toUInt32).toInt32) &&& (3 : Int32))), .val (.ref b172), .unset] [])
                  refine Go.via (fun t k => XS.iconst Xh283.here hx rfl (hb hby at_207) k) ?_
                  show Go p.tables e below P T283 (mkF m 208 #[.val (.int p1), .val (.int p2), .val (.int p3), .val (.int p4), .val (.int p5), .val (.int p6), .val (.ref r_1), .val (.ref r_9), .val (.ref r_23), .val (.ref r3), .val (.ref r4), .val (.ref r5), .val (.ref b41), .val (.int (((p6.toUInt32 >>> ((24 : Int32) &&& 31).toUInt32).toInt32) &&& (3 : Int32))), .val (.ref b172), .unset] [(.int (0 : Int32))])
                  refine Go.via (fun t k => XS.istore Xh283.here hx rfl (hb hby at_208) rfl (l' := #[.val (.int p1), .val (.int p2), .val (.int p3), .val (.int p4), .val (.int p5), .val (.int p6), .val (.ref r_1), .val (.ref r_9), .val (.ref r_23), .val (.ref r3), .val (.ref r4), .val (.ref r5), .val (.ref b41), .val (.int (((p6.toUInt32 >>> ((24 : Int32) &&& 31).toUInt32).toInt32) &&& (3 : Int32))), .val (.ref b172), .val (.int (0 : Int32))]) rfl k) ?_
                  show Go p.tables e below P T283 (mkF m 210 #[.val (.int p1), .val (.int p2), .val (.int p3), .val (.int p4), .val (.int p5), .val (.int p6), .val (.ref r_1), .val (.ref r_9), .val (.ref r_23), .val (.ref r3), .val (.ref r4), .val (.ref r5), .val (.ref b41), .val (.int (((p6.toUInt32 >>> ((24 : Int32) &&& 31).toUInt32).toInt32) &&& (3 : Int32))), .val (.ref b172), .val (.int (0 : Int32))] [])
                  refine Go.via (fun t k => XS.aload Xh283.here hx rfl (hb hby at_210) rfl rfl k) ?_
                  show Go p.tables e below P T283 (mkF m 212 #[.val (.int p1), .val (.int p2), .val (.int p3), .val (.int p4), .val (.int p5), .val (.int p6), .val (.ref r_1), .val (.ref r_9), .val (.ref r_23), .val (.ref r3), .val (.ref r4), .val (.ref r5), .val (.ref b41), .val (.int (((p6.toUInt32 >>> ((24 : Int32) &&& 31).toUInt32).toInt32) &&& (3 : Int32))), .val (.ref b172), .val (.int (0 : Int32))] [(.ref b41)])
                  refine Go.via (fun t k => XS.aload Xh283.here hx rfl (hb hby at_212) rfl rfl k) ?_
                  show Go p.tables e below P T283 (mkF m 214 #[.val (.int p1), .val (.int p2), .val (.int p3), .val (.int p4), .val (.int p5), .val (.int p6), .val (.ref r_1), .val (.ref r_9), .val (.ref r_23), .val (.ref r3), .val (.ref r4), .val (.ref r5), .val (.ref b41), .val (.int (((p6.toUInt32 >>> ((24 : Int32) &&& 31).toUInt32).toInt32) &&& (3 : Int32))), .val (.ref b172), .val (.int (0 : Int32))] [(.ref b172), (.ref b41)])
                  obtain ⟨cq285, kq285, q285a, q285b, q285c⟩ := isOf hZ hh283 F275
                  obtain ⟨_, _, ⟨T285, L285, k285, n285⟩, -, X285, ⟨Lc285, hQ285, l285, y285, z285⟩, st285⟩ := Xh283.virtualBack hx (y := (⟨"com/example/splitbook/splitbook/book/ReportKey", "equals", "(Ljava/lang/Object;)Z"⟩ : MethodName)) (z := (⟨"com/example/splitbook/splitbook/book/ReportKey", "equals", "(Ljava/lang/Object;)Z"⟩ : MethodName)) hown (mvT hZ (hw _ (List.mem_of_getElem? (i := 39) rfl))) (mvT hZ (hw _ (List.mem_of_getElem? (i := 40) rfl))) (notFace_of_selects (args := #[]) (mvT hZ (hw _ (List.mem_of_getElem? (i := 42) rfl)))) (mvT hZ (hw _ (List.mem_of_getElem? (i := 42) rfl))) (mvT hZ (hw _ (List.mem_of_getElem? (i := 41) rfl))) (by decide) (backOf (W := 0) (rm6k l Z a0 hw [] b41 b172 cs r_1 tb_1 kk_1 bl_1 r3 t3 k3 b3 r_9 tb_9 kk_9 bl_9 r4 t4 k4 b4 r_23 tb_23 kk_23 bl_23 r5 t5 k5 b5 T245.heap n0 Z246 O250 P1 (by first | assumption | decide | omega : ¬ cs = (0 : Int32)) F275 u245_0 F276 u245_1 F277 u245_2 F278 u245_3 F251 F252 F253 F254 F255 F256 F257 F258 u1_4 sm3 (fun q => absurd q nr3) F259 F260 F261 F262 F267 F268 F269 F270 u9_4 sm4 (fun q => absurd q nr4) F263 F264 F265 F266 F271 F272 F273 F274 u23_4 sm5 (fun q => absurd q nr5)) hZ (hw _ (List.mem_of_getElem? (i := 43) rfl)) (hw _ (List.mem_of_getElem? (i := 28) rfl)) (by decide) (by decide)) q285a q285c (g := (mkF m 214 #[.val (.int p1), .val (.int p2), .val (.int p3), .val (.int p4), .val (.int p5), .val (.int p6), .val (.ref r_1), .val (.ref r_9), .val (.ref r_23), .val (.ref r3), .val (.ref r4), .val (.ref r5), .val (.ref b41), .val (.int (((p6.toUInt32 >>> ((24 : Int32) &&& 31).toUInt32).toInt32) &&& (3 : Int32))), .val (.ref b172), .val (.int (0 : Int32))] [(.ref b172), (.ref b41)])) rfl (by rw [hml]; rfl) (Steps.refl _) (argsL := [(.ref b172)]) (rest := []) (lenOf own_pd10 rfl) rfl (by show 2 * 0 + _ ≤ _; exact Nat.le_of_eq rfl) (hb hby at_214) (fun _ _ => ⟨rfl, hh283, (by decide : 38 + 0 ≤ _), (by decide : 78 + 0 ≤ _)⟩)
                  dsimp only [Pt.U, Pt.locs, Pt.cells, Pt.slots] at X285 l285 y285 z285 st285 hQ285
                  subst l285 y285 z285
                  obtain ⟨rfl, Nq285, hh285⟩ := hQ285
                  obtain ⟨lc285, Xh285, N285⟩ := own_hide X285 (Fr.app N283 Nq285)
                  clear X285
                  refine Go.hop st285 ?_
                  show Go p.tables e below P T285 (mkF m 217 #[.val (.int p1), .val (.int p2), .val (.int p3), .val (.int p4), .val (.int p5), .val (.int p6), .val (.ref r_1), .val (.ref r_9), .val (.ref r_23), .val (.ref r3), .val (.ref r4), .val (.ref r5), .val (.ref b41), .val (.int (((p6.toUInt32 >>> ((24 : Int32) &&& 31).toUInt32).toInt32) &&& (3 : Int32))), .val (.ref b172), .val (.int (0 : Int32))] [(.int (if bl_1 = b3 ∧ bl_9 = b4 ∧ bl_23 = b5 then (1 : Int32) else (0 : Int32)))])
                  refine Go.via (fun t k => XS.iload Xh285.here hx rfl (hb hby at_217) rfl k) ?_
                  show Go p.tables e below P T285 (mkF m 219 #[.val (.int p1), .val (.int p2), .val (.int p3), .val (.int p4), .val (.int p5), .val (.int p6), .val (.ref r_1), .val (.ref r_9), .val (.ref r_23), .val (.ref r3), .val (.ref r4), .val (.ref r5), .val (.ref b41), .val (.int (((p6.toUInt32 >>> ((24 : Int32) &&& 31).toUInt32).toInt32) &&& (3 : Int32))), .val (.ref b172), .val (.int (0 : Int32))] [(.int (0 : Int32)), (.int (if bl_1 = b3 ∧ bl_9 = b4 ∧ bl_23 = b5 then (1 : Int32) else (0 : Int32)))])
                  refine Go.via (fun t k => XS.icmpNo Xh285.here hx rfl (hb hby at_219) rfl (teq (if_neg (fun q => own_i0 hc284 q.2.1))).2 k) ?_
                  show Go p.tables e below P T285 (mkF m 222 #[.val (.int p1), .val (.int p2), .val (.int p3), .val (.int p4), .val (.int p5), .val (.int p6), .val (.ref r_1), .val (.ref r_9), .val (.ref r_23), .val (.ref r3), .val (.ref r4), .val (.ref r5), .val (.ref b41), .val (.int (((p6.toUInt32 >>> ((24 : Int32) &&& 31).toUInt32).toInt32) &&& (3 : Int32))), .val (.ref b172), .val (.int (0 : Int32))] [])
                  refine Go.via (fun t k => XS.iconst Xh285.here hx rfl (hb hby at_222) k) ?_
                  show Go p.tables e below P T285 (mkF m 223 #[.val (.int p1), .val (.int p2), .val (.int p3), .val (.int p4), .val (.int p5), .val (.int p6), .val (.ref r_1), .val (.ref r_9), .val (.ref r_23), .val (.ref r3), .val (.ref r4), .val (.ref r5), .val (.ref b41), .val (.int (((p6.toUInt32 >>> ((24 : Int32) &&& 31).toUInt32).toInt32) &&& (3 : Int32))), .val (.ref b172), .val (.int (0 : Int32))] [(.int (1 : Int32))])
                  refine Go.via (fun t k => XS.goto Xh285.here hx rfl (pc0 := 223) (pc' := 227) rfl (hb hby at_223) (by decide) (by decide) k) ?_
                  show Go p.tables e below P T285 (mkF m 227 #[.val (.int p1), .val (.int p2), .val (.int p3), .val (.int p4), .val (.int p5), .val (.int p6), .val (.ref r_1), .val (.ref r_9), .val (.ref r_23), .val (.ref r3), .val (.ref r4), .val (.ref r5), .val (.ref b41), .val (.int (((p6.toUInt32 >>> ((24 : Int32) &&& 31).toUInt32).toInt32) &&& (3 : Int32))), .val (.ref b172), .val (.int (0 : Int32))] [(.int (1 : Int32))])
                  obtain ⟨fs, hr, hrun, hended, hend⟩ := Xh285.leaveW hS40 (by rw [hh285]; exact hk249) (v := some (.int (1 : Int32))) (fun h => by rw [Bd.returns] at h; cases h)
                  have hCf : CHr Z consts_1 s.vm s.heap (T285.setFrames fs).vm (T285.setFrames fs).heap := by
                    rw [hh]
                    show CHr Z consts_1 s.vm h0 T285.vm T285.heap
                    rw [hh285]
                    exact CHr.trans CR248 (CHv.at Xh285 hZ (own_EW hw) CR248.1)
                  refine ⟨_, _, retZ Xh285 hx (t := .boolean) Bd.returns (by simp) (hb hby at_227) rfl hr, hrun, hended, hP _ _ ⟨_, _, rfl, ?_, hCf, own_rew hend (by decide) (by decide)⟩⟩
                  show Q0 Z p1 p2 p3 p4 p5 p6 cs fm h0 n0 _ T285.heap _
                  rw [hh285]
                  exact ⟨rfl, N285⟩
                · refine Go.via (fun t k => XS.ifNo Xh283.here hx rfl (hb hby at_190) rfl ((if0 _ _).trans (feq hc284).1) k) ?_
                  show Go p.tables e below P T283 (mkF m 193 #[.val (.int p1), .val (.int p2), .val (.int p3), .val (.int p4), .val (.int p5), .val (.int p6), .val (.ref r_1), .val (.ref r_9), .val (.ref r_23), .val (.ref r3), .val (.ref r4), .val (.ref r5), .val (.ref b41), .val (.int (((p6.toUInt32 >>> ((24 : Int32) &&& 31).toUInt32).toInt32) &&& (3 : Int32))), .val (.ref b172), .unset] [])
                  refine Go.via (fun t k => XS.aload Xh283.here hx rfl (hb hby at_193) rfl rfl k) ?_
                  show Go p.tables e below P T283 (mkF m 195 #[.val (.int p1), .val (.int p2), .val (.int p3), .val (.int p4), .val (.int p5), .val (.int p6), .val (.ref r_1), .val (.ref r_9), .val (.ref r_23), .val (.ref r3), .val (.ref r4), .val (.ref r5), .val (.ref b41), .val (.int (((p6.toUInt32 >>> ((24 : Int32) &&& 31).toUInt32).toInt32) &&& (3 : Int32))), .val (.ref b172), .unset] [(.ref r_23)])
                  refine Go.via (fun t k => XS.aload Xh283.here hx rfl (hb hby at_195) rfl rfl k) ?_
                  show Go p.tables e below P T283 (mkF m 197 #[.val (.int p1), .val (.int p2), .val (.int p3), .val (.int p4), .val (.int p5), .val (.int p6), .val (.ref r_1), .val (.ref r_9), .val (.ref r_23), .val (.ref r3), .val (.ref r4), .val (.ref r5), .val (.ref b41), .val (.int (((p6.toUInt32 >>> ((24 : Int32) &&& 31).toUInt32).toInt32) &&& (3 : Int32))), .val (.ref b172), .unset] [(.ref r5), (.ref r_23)])
                  obtain ⟨_, _, ⟨T287, L287, k287, n287⟩, -, X287, ⟨Lc287, hQ287, l287, y287, z287⟩, st287⟩ := Jvm.LawKit.callS Xh283 hx (y := (⟨"com/example/splitbook/splitbook/book/ReportKeyEqualsPinLaw", "same", "(Ljava/lang/String;Ljava/lang/String;)Z"⟩ : MethodName)) hown (mvT hZ (hw _ (List.mem_of_getElem? (i := 55) rfl))) (mvT hZ (hw _ (List.mem_of_getElem? (i := 56) rfl))) (mvT hZ (hw _ (List.mem_of_getElem? (i := 2) rfl))) (mvT hZ (hw _ (List.mem_of_getElem? (i := 57) rfl))) (by decide) (backOf (W := 0) (rm10 l Z a0 hw [] r_23 r5 cs tb_23 t5 kk_23 k5 bl_23 b5 fm T245.heap n0 Z246 O250 P1 (by first | assumption | decide | omega : ¬ cs = (0 : Int32)) P3 (by first | assumption | decide | omega : fm.isRef = true) F263 F264 F265 F266 F271 F272 F273 F274 u23_4 sm5) hZ (hw _ (List.mem_of_getElem? (i := 57) rfl)) (hw _ (List.mem_of_getElem? (i := 2) rfl)) (by decide) (by decide)) (g := (mkF m 197 #[.val (.int p1), .val (.int p2), .val (.int p3), .val (.int p4), .val (.int p5), .val (.int p6), .val (.ref r_1), .val (.ref r_9), .val (.ref r_23), .val (.ref r3), .val (.ref r4), .val (.ref r5), .val (.ref b41), .val (.int (((p6.toUInt32 >>> ((24 : Int32) &&& 31).toUInt32).toInt32) &&& (3 : Int32))), .val (.ref b172), .unset] [(.ref r5), (.ref r_23)])) rfl (by rw [hml]; rfl) (argsL := [(.ref r_23), (.ref r5)]) (rest := []) (lenOf own_pd13 rfl) rfl (by show 2 * 0 + _ ≤ _; exact Nat.le_of_eq rfl) (hb hby at_197) (fun _ _ => ⟨rfl, hh283, (by decide : 38 + 0 ≤ _), (by decide : 78 + 0 ≤ _)⟩)
                  dsimp only [Pt.U, Pt.locs, Pt.cells, Pt.slots] at X287 l287 y287 z287 st287 hQ287
                  subst l287 y287 z287
                  obtain ⟨rfl, Nq287, hh287⟩ := hQ287
                  obtain ⟨lc287, Xh287, N287⟩ := own_hide X287 (Fr.app N283 Nq287)
                  clear X287
                  refine Go.via st287 ?_
                  show Go p.tables e below P T287 (mkF m 200 #[.val (.int p1), .val (.int p2), .val (.int p3), .val (.int p4), .val (.int p5), .val (.int p6), .val (.ref r_1), .val (.ref r_9), .val (.ref r_23), .val (.ref r3), .val (.ref r4), .val (.ref r5), .val (.ref b41), .val (.int (((p6.toUInt32 >>> ((24 : Int32) &&& 31).toUInt32).toInt32) &&& (3 : Int32))), .val (.ref b172), .unset] [(.int (if bl_23 = b5 then (1 : Int32) else (0 : Int32)))])
                  by_cases hc288 : (if bl_23 = b5 then (1 : Int32) else (0 : Int32)) = (0 : Int32)
                  · refine Go.via (fun t k => XS.ifYes Xh287.here hx rfl (pc0 := 200) (pc' := 207) rfl (hb hby at_200) rfl ((if0 _ _).trans (teq hc288).1) (by decide) (by decide) k) ?_
                    show Go p.tables e below P T287 (mkF m 207 #[.val (.int p1), .val (.int p2), .val (.int p3), .val (.int p4), .val (.int p5), .val (.int p6), .val (.ref r_1), .val (.ref r_9), .val (.ref r_23), .val (.ref r3), .val (.ref r4), .val (.ref r5), .val (.ref b41), .val (.int (((p6.toUInt32 >>> ((24 : Int32) &&& 31).toUInt32).toInt32) &&& (3 : Int32))), .val (.ref b172), .unset] [])
                    refine Go.via (fun t k => XS.iconst Xh287.here hx rfl (hb hby at_207) k) ?_
                    show Go p.tables e below P T287 (mkF m 208 #[.val (.int p1), .val (.int p2), .val (.int p3), .val (.int p4), .val (.int p5), .val (.int p6), .val (.ref r_1), .val (.ref r_9), .val (.ref r_23), .val (.ref r3), .val (.ref r4), .val (.ref r5), .val (.ref b41), .val (.int (((p6.toUInt32 >>> ((24 : Int32) &&& 31).toUInt32).toInt32) &&& (3 : Int32))), .val (.ref b172), .unset] [(.int (0 : Int32))])
                    refine Go.via (fun t k => XS.istore Xh287.here hx rfl (hb hby at_208) rfl (l' := #[.val (.int p1), .val (.int p2), .val (.int p3), .val (.int p4), .val (.int p5), .val (.int p6), .val (.ref r_1), .val (.ref r_9), .val (.ref r_23), .val (.ref r3), .val (.ref r4), .val (.ref r5), .val (.ref b41), .val (.int (((p6.toUInt32 >>> ((24 : Int32) &&& 31).toUInt32).toInt32) &&& (3 : Int32))), .val (.ref b172), .val (.int (0 : Int32))]) rfl k) ?_
                    show Go p.tables e below P T287 (mkF m 210 #[.val (.int p1), .val (.int p2), .val (.int p3), .val (.int p4), .val (.int p5), .val (.int p6), .val (.ref r_1), .val (.ref r_9), .val (.ref r_23), .val (.ref r3), .val (.ref r4), .val (.ref r5), .val (.ref b41), .val (.int (((p6.toUInt32 >>> ((24 : Int32) &&& 31).toUInt32).toInt32) &&& (3 : Int32))), .val (.ref b172), .val (.int (0 : Int32))] [])
                    refine Go.via (fun t k => XS.aload Xh287.here hx rfl (hb hby at_210) rfl rfl k) ?_
                    show Go p.tables e below P T287 (mkF m 212 #[.val (.int p1), .val (.int p2), .val (.int p3), .val (.int p4), .val (.int p5), .val (.int p6), .val (.ref r_1), .val (.ref r_9), .val (.ref r_23), .val (.ref r3), .val (.ref r4), .val (.ref r5), .val (.ref b41), .val (.int (((p6.toUInt32 >>> ((24 : Int32) &&& 31).toUInt32).toInt32) &&& (3 : Int32))), .val (.ref b172), .val (.int (0 : Int32))] [(.ref b41)])
                    refine Go.via (fun t k => XS.aload Xh287.here hx rfl (hb hby at_212) rfl rfl k) ?_
                    show Go p.tables e below P T287 (mkF m 214 #[.val (.int p1), .val (.int p2), .val (.int p3), .val (.int p4), .val (.int p5), .val (.int p6), .val (.ref r_1), .val (.ref r_9), .val (.ref r_23), .val (.ref r3), .val (.ref r4), .val (.ref r5), .val (.ref b41), .val (.int (((p6.toUInt32 >>> ((24 : Int32) &&& 31).toUInt32).toInt32) &&& (3 : Int32))), .val (.ref b172), .val (.int (0 : Int32))] [(.ref b172), (.ref b41)])
                    obtain ⟨cq289, kq289, q289a, q289b, q289c⟩ := isOf hZ hh287 F275
                    obtain ⟨_, _, ⟨T289, L289, k289, n289⟩, -, X289, ⟨Lc289, hQ289, l289, y289, z289⟩, st289⟩ := Xh287.virtualBack hx (y := (⟨"com/example/splitbook/splitbook/book/ReportKey", "equals", "(Ljava/lang/Object;)Z"⟩ : MethodName)) (z := (⟨"com/example/splitbook/splitbook/book/ReportKey", "equals", "(Ljava/lang/Object;)Z"⟩ : MethodName)) hown (mvT hZ (hw _ (List.mem_of_getElem? (i := 39) rfl))) (mvT hZ (hw _ (List.mem_of_getElem? (i := 40) rfl))) (notFace_of_selects (args := #[]) (mvT hZ (hw _ (List.mem_of_getElem? (i := 42) rfl)))) (mvT hZ (hw _ (List.mem_of_getElem? (i := 42) rfl))) (mvT hZ (hw _ (List.mem_of_getElem? (i := 41) rfl))) (by decide) (backOf (W := 0) (rm6k l Z a0 hw [] b41 b172 cs r_1 tb_1 kk_1 bl_1 r3 t3 k3 b3 r_9 tb_9 kk_9 bl_9 r4 t4 k4 b4 r_23 tb_23 kk_23 bl_23 r5 t5 k5 b5 T245.heap n0 Z246 O250 P1 (by first | assumption | decide | omega : ¬ cs = (0 : Int32)) F275 u245_0 F276 u245_1 F277 u245_2 F278 u245_3 F251 F252 F253 F254 F255 F256 F257 F258 u1_4 sm3 (fun q => absurd q nr3) F259 F260 F261 F262 F267 F268 F269 F270 u9_4 sm4 (fun q => absurd q nr4) F263 F264 F265 F266 F271 F272 F273 F274 u23_4 sm5 (fun q => absurd q nr5)) hZ (hw _ (List.mem_of_getElem? (i := 43) rfl)) (hw _ (List.mem_of_getElem? (i := 28) rfl)) (by decide) (by decide)) q289a q289c (g := (mkF m 214 #[.val (.int p1), .val (.int p2), .val (.int p3), .val (.int p4), .val (.int p5), .val (.int p6), .val (.ref r_1), .val (.ref r_9), .val (.ref r_23), .val (.ref r3), .val (.ref r4), .val (.ref r5), .val (.ref b41), .val (.int (((p6.toUInt32 >>> ((24 : Int32) &&& 31).toUInt32).toInt32) &&& (3 : Int32))), .val (.ref b172), .val (.int (0 : Int32))] [(.ref b172), (.ref b41)])) rfl (by rw [hml]; rfl) (Steps.refl _) (argsL := [(.ref b172)]) (rest := []) (lenOf own_pd10 rfl) rfl (by show 2 * 0 + _ ≤ _; exact Nat.le_of_eq rfl) (hb hby at_214) (fun _ _ => ⟨rfl, hh287, (by decide : 38 + 0 ≤ _), (by decide : 78 + 0 ≤ _)⟩)
                    dsimp only [Pt.U, Pt.locs, Pt.cells, Pt.slots] at X289 l289 y289 z289 st289 hQ289
                    subst l289 y289 z289
                    obtain ⟨rfl, Nq289, hh289⟩ := hQ289
                    obtain ⟨lc289, Xh289, N289⟩ := own_hide X289 (Fr.app N287 Nq289)
                    clear X289
                    refine Go.hop st289 ?_
                    show Go p.tables e below P T289 (mkF m 217 #[.val (.int p1), .val (.int p2), .val (.int p3), .val (.int p4), .val (.int p5), .val (.int p6), .val (.ref r_1), .val (.ref r_9), .val (.ref r_23), .val (.ref r3), .val (.ref r4), .val (.ref r5), .val (.ref b41), .val (.int (((p6.toUInt32 >>> ((24 : Int32) &&& 31).toUInt32).toInt32) &&& (3 : Int32))), .val (.ref b172), .val (.int (0 : Int32))] [(.int (if bl_1 = b3 ∧ bl_9 = b4 ∧ bl_23 = b5 then (1 : Int32) else (0 : Int32)))])
                    refine Go.via (fun t k => XS.iload Xh289.here hx rfl (hb hby at_217) rfl k) ?_
                    show Go p.tables e below P T289 (mkF m 219 #[.val (.int p1), .val (.int p2), .val (.int p3), .val (.int p4), .val (.int p5), .val (.int p6), .val (.ref r_1), .val (.ref r_9), .val (.ref r_23), .val (.ref r3), .val (.ref r4), .val (.ref r5), .val (.ref b41), .val (.int (((p6.toUInt32 >>> ((24 : Int32) &&& 31).toUInt32).toInt32) &&& (3 : Int32))), .val (.ref b172), .val (.int (0 : Int32))] [(.int (0 : Int32)), (.int (if bl_1 = b3 ∧ bl_9 = b4 ∧ bl_23 = b5 then (1 : Int32) else (0 : Int32)))])
                    refine Go.via (fun t k => XS.icmpNo Xh289.here hx rfl (hb hby at_219) rfl (teq (if_neg (fun q => own_i0 hc288 q.2.2))).2 k) ?_
                    show Go p.tables e below P T289 (mkF m 222 #[.val (.int p1), .val (.int p2), .val (.int p3), .val (.int p4), .val (.int p5), .val (.int p6), .val (.ref r_1), .val (.ref r_9), .val (.ref r_23), .val (.ref r3), .val (.ref r4), .val (.ref r5), .val (.ref b41), .val (.int (((p6.toUInt32 >>> ((24 : Int32) &&& 31).toUInt32).toInt32) &&& (3 : Int32))), .val (.ref b172), .val (.int (0 : Int32))] [])
                    refine Go.via (fun t k => XS.iconst Xh289.here hx rfl (hb hby at_222) k) ?_
                    show Go p.tables e below P T289 (mkF m 223 #[.val (.int p1), .val (.int p2), .val (.int p3), .val (.int p4), .val (.int p5), .val (.int p6), .val (.ref r_1), .val (.ref r_9), .val (.ref r_23), .val (.ref r3), .val (.ref r4), .val (.ref r5), .val (.ref b41), .val (.int (((p6.toUInt32 >>> ((24 : Int32) &&& 31).toUInt32).toInt32) &&& (3 : Int32))), .val (.ref b172), .val (.int (0 : Int32))] [(.int (1 : Int32))])
                    refine Go.via (fun t k => XS.goto Xh289.here hx rfl (pc0 := 223) (pc' := 227) rfl (hb hby at_223) (by decide) (by decide) k) ?_
                    show Go p.tables e below P T289 (mkF m 227 #[.val (.int p1), .val (.int p2), .val (.int p3), .val (.int p4), .val (.int p5), .val (.int p6), .val (.ref r_1), .val (.ref r_9), .val (.ref r_23), .val (.ref r3), .val (.ref r4), .val (.ref r5), .val (.ref b41), .val (.int (((p6.toUInt32 >>> ((24 : Int32) &&& 31).toUInt32).toInt32) &&& (3 : Int32))), .val (.ref b172), .val (.int (0 : Int32))] [(.int (1 : Int32))])
                    obtain ⟨fs, hr, hrun, hended, hend⟩ := Xh289.leaveW hS40 (by rw [hh289]; exact hk249) (v := some (.int (1 : Int32))) (fun h => by rw [Bd.returns] at h; cases h)
                    have hCf : CHr Z consts_1 s.vm s.heap (T289.setFrames fs).vm (T289.setFrames fs).heap := by
                      rw [hh]
                      show CHr Z consts_1 s.vm h0 T289.vm T289.heap
                      rw [hh289]
                      exact CHr.trans CR248 (CHv.at Xh289 hZ (own_EW hw) CR248.1)
                    refine ⟨_, _, retZ Xh289 hx (t := .boolean) Bd.returns (by simp) (hb hby at_227) rfl hr, hrun, hended, hP _ _ ⟨_, _, rfl, ?_, hCf, own_rew hend (by decide) (by decide)⟩⟩
                    show Q0 Z p1 p2 p3 p4 p5 p6 cs fm h0 n0 _ T289.heap _
                    rw [hh289]
                    exact ⟨rfl, N289⟩
                  · refine Go.via (fun t k => XS.ifNo Xh287.here hx rfl (hb hby at_200) rfl ((if0 _ _).trans (feq hc288).1) k) ?_
                    show Go p.tables e below P T287 (mkF m 203 #[.val (.int p1), .val (.int p2), .val (.int p3), .val (.int p4), .val (.int p5), .val (.int p6), .val (.ref r_1), .val (.ref r_9), .val (.ref r_23), .val (.ref r3), .val (.ref r4), .val (.ref r5), .val (.ref b41), .val (.int (((p6.toUInt32 >>> ((24 : Int32) &&& 31).toUInt32).toInt32) &&& (3 : Int32))), .val (.ref b172), .unset] [])
                    refine Go.via (fun t k => XS.iconst Xh287.here hx rfl (hb hby at_203) k) ?_
                    show Go p.tables e below P T287 (mkF m 204 #[.val (.int p1), .val (.int p2), .val (.int p3), .val (.int p4), .val (.int p5), .val (.int p6), .val (.ref r_1), .val (.ref r_9), .val (.ref r_23), .val (.ref r3), .val (.ref r4), .val (.ref r5), .val (.ref b41), .val (.int (((p6.toUInt32 >>> ((24 : Int32) &&& 31).toUInt32).toInt32) &&& (3 : Int32))), .val (.ref b172), .unset] [(.int (1 : Int32))])
                    refine Go.via (fun t k => XS.goto Xh287.here hx rfl (pc0 := 204) (pc' := 208) rfl (hb hby at_204) (by decide) (by decide) k) ?_
                    show Go p.tables e below P T287 (mkF m 208 #[.val (.int p1), .val (.int p2), .val (.int p3), .val (.int p4), .val (.int p5), .val (.int p6), .val (.ref r_1), .val (.ref r_9), .val (.ref r_23), .val (.ref r3), .val (.ref r4), .val (.ref r5), .val (.ref b41), .val (.int (((p6.toUInt32 >>> ((24 : Int32) &&& 31).toUInt32).toInt32) &&& (3 : Int32))), .val (.ref b172), .unset] [(.int (1 : Int32))])
                    refine Go.via (fun t k => XS.istore Xh287.here hx rfl (hb hby at_208) rfl (l' := #[.val (.int p1), .val (.int p2), .val (.int p3), .val (.int p4), .val (.int p5), .val (.int p6), .val (.ref r_1), .val (.ref r_9), .val (.ref r_23), .val (.ref r3), .val (.ref r4), .val (.ref r5), .val (.ref b41), .val (.int (((p6.toUInt32 >>> ((24 : Int32) &&& 31).toUInt32).toInt32) &&& (3 : Int32))), .val (.ref b172), .val (.int (1 : Int32))]) rfl k) ?_
                    show Go p.tables e below P T287 (mkF m 210 #[.val (.int p1), .val (.int p2), .val (.int p3), .val (.int p4), .val (.int p5), .val (.int p6), .val (.ref r_1), .val (.ref r_9), .val (.ref r_23), .val (.ref r3), .val (.ref r4), .val (.ref r5), .val (.ref b41), .val (.int (((p6.toUInt32 >>> ((24 : Int32) &&& 31).toUInt32).toInt32) &&& (3 : Int32))), .val (.ref b172), .val (.int (1 : Int32))] [])
                    refine Go.via (fun t k => XS.aload Xh287.here hx rfl (hb hby at_210) rfl rfl k) ?_
                    show Go p.tables e below P T287 (mkF m 212 #[.val (.int p1), .val (.int p2), .val (.int p3), .val (.int p4), .val (.int p5), .val (.int p6), .val (.ref r_1), .val (.ref r_9), .val (.ref r_23), .val (.ref r3), .val (.ref r4), .val (.ref r5), .val (.ref b41), .val (.int (((p6.toUInt32 >>> ((24 : Int32) &&& 31).toUInt32).toInt32) &&& (3 : Int32))), .val (.ref b172), .val (.int (1 : Int32))] [(.ref b41)])
                    refine Go.via (fun t k => XS.aload Xh287.here hx rfl (hb hby at_212) rfl rfl k) ?_
                    show Go p.tables e below P T287 (mkF m 214 #[.val (.int p1), .val (.int p2), .val (.int p3), .val (.int p4), .val (.int p5), .val (.int p6), .val (.ref r_1), .val (.ref r_9), .val (.ref r_23), .val (.ref r3), .val (.ref r4), .val (.ref r5), .val (.ref b41), .val (.int (((p6.toUInt32 >>> ((24 : Int32) &&& 31).toUInt32).toInt32) &&& (3 : Int32))), .val (.ref b172), .val (.int (1 : Int32))] [(.ref b172), (.ref b41)])
                    obtain ⟨cq291, kq291, q291a, q291b, q291c⟩ := isOf hZ hh287 F275
                    obtain ⟨_, _, ⟨T291, L291, k291, n291⟩, -, X291, ⟨Lc291, hQ291, l291, y291, z291⟩, st291⟩ := Xh287.virtualBack hx (y := (⟨"com/example/splitbook/splitbook/book/ReportKey", "equals", "(Ljava/lang/Object;)Z"⟩ : MethodName)) (z := (⟨"com/example/splitbook/splitbook/book/ReportKey", "equals", "(Ljava/lang/Object;)Z"⟩ : MethodName)) hown (mvT hZ (hw _ (List.mem_of_getElem? (i := 39) rfl))) (mvT hZ (hw _ (List.mem_of_getElem? (i := 40) rfl))) (notFace_of_selects (args := #[]) (mvT hZ (hw _ (List.mem_of_getElem? (i := 42) rfl)))) (mvT hZ (hw _ (List.mem_of_getElem? (i := 42) rfl))) (mvT hZ (hw _ (List.mem_of_getElem? (i := 41) rfl))) (by decide) (backOf (W := 0) (rm6k l Z a0 hw [] b41 b172 cs r_1 tb_1 kk_1 bl_1 r3 t3 k3 b3 r_9 tb_9 kk_9 bl_9 r4 t4 k4 b4 r_23 tb_23 kk_23 bl_23 r5 t5 k5 b5 T245.heap n0 Z246 O250 P1 (by first | assumption | decide | omega : ¬ cs = (0 : Int32)) F275 u245_0 F276 u245_1 F277 u245_2 F278 u245_3 F251 F252 F253 F254 F255 F256 F257 F258 u1_4 sm3 (fun q => absurd q nr3) F259 F260 F261 F262 F267 F268 F269 F270 u9_4 sm4 (fun q => absurd q nr4) F263 F264 F265 F266 F271 F272 F273 F274 u23_4 sm5 (fun q => absurd q nr5)) hZ (hw _ (List.mem_of_getElem? (i := 43) rfl)) (hw _ (List.mem_of_getElem? (i := 28) rfl)) (by decide) (by decide)) q291a q291c (g := (mkF m 214 #[.val (.int p1), .val (.int p2), .val (.int p3), .val (.int p4), .val (.int p5), .val (.int p6), .val (.ref r_1), .val (.ref r_9), .val (.ref r_23), .val (.ref r3), .val (.ref r4), .val (.ref r5), .val (.ref b41), .val (.int (((p6.toUInt32 >>> ((24 : Int32) &&& 31).toUInt32).toInt32) &&& (3 : Int32))), .val (.ref b172), .val (.int (1 : Int32))] [(.ref b172), (.ref b41)])) rfl (by rw [hml]; rfl) (Steps.refl _) (argsL := [(.ref b172)]) (rest := []) (lenOf own_pd10 rfl) rfl (by show 2 * 0 + _ ≤ _; exact Nat.le_of_eq rfl) (hb hby at_214) (fun _ _ => ⟨rfl, hh287, (by decide : 38 + 0 ≤ _), (by decide : 78 + 0 ≤ _)⟩)
                    dsimp only [Pt.U, Pt.locs, Pt.cells, Pt.slots] at X291 l291 y291 z291 st291 hQ291
                    subst l291 y291 z291
                    obtain ⟨rfl, Nq291, hh291⟩ := hQ291
                    obtain ⟨lc291, Xh291, N291⟩ := own_hide X291 (Fr.app N287 Nq291)
                    clear X291
                    refine Go.hop st291 ?_
                    show Go p.tables e below P T291 (mkF m 217 #[.val (.int p1), .val (.int p2), .val (.int p3), .val (.int p4), .val (.int p5), .val (.int p6), .val (.ref r_1), .val (.ref r_9), .val (.ref r_23), .val (.ref r3), .val (.ref r4), .val (.ref r5), .val (.ref b41), .val (.int (((p6.toUInt32 >>> ((24 : Int32) &&& 31).toUInt32).toInt32) &&& (3 : Int32))), .val (.ref b172), .val (.int (1 : Int32))] [(.int (if bl_1 = b3 ∧ bl_9 = b4 ∧ bl_23 = b5 then (1 : Int32) else (0 : Int32)))])
                    refine Go.via (fun t k => XS.iload Xh291.here hx rfl (hb hby at_217) rfl k) ?_
                    show Go p.tables e below P T291 (mkF m 219 #[.val (.int p1), .val (.int p2), .val (.int p3), .val (.int p4), .val (.int p5), .val (.int p6), .val (.ref r_1), .val (.ref r_9), .val (.ref r_23), .val (.ref r3), .val (.ref r4), .val (.ref r5), .val (.ref b41), .val (.int (((p6.toUInt32 >>> ((24 : Int32) &&& 31).toUInt32).toInt32) &&& (3 : Int32))), .val (.ref b172), .val (.int (1 : Int32))] [(.int (1 : Int32)), (.int (if bl_1 = b3 ∧ bl_9 = b4 ∧ bl_23 = b5 then (1 : Int32) else (0 : Int32)))])
                    refine Go.via (fun t k => XS.icmpNo Xh291.here hx rfl (hb hby at_219) rfl (teq (if_pos ⟨own_i1 hc280, own_i1 hc284, own_i1 hc288⟩)).2 k) ?_
                    show Go p.tables e below P T291 (mkF m 222 #[.val (.int p1), .val (.int p2), .val (.int p3), .val (.int p4), .val (.int p5), .val (.int p6), .val (.ref r_1), .val (.ref r_9), .val (.ref r_23), .val (.ref r3), .val (.ref r4), .val (.ref r5), .val (.ref b41), .val (.int (((p6.toUInt32 >>> ((24 : Int32) &&& 31).toUInt32).toInt32) &&& (3 : Int32))), .val (.ref b172), .val (.int (1 : Int32))] [])
                    refine Go.via (fun t k => XS.iconst Xh291.here hx rfl (hb hby at_222) k) ?_
                    show Go p.tables e below P T291 (mkF m 223 #[.val (.int p1), .val (.int p2), .val (.int p3), .val (.int p4), .val (.int p5), .val (.int p6), .val (.ref r_1), .val (.ref r_9), .val (.ref r_23), .val (.ref r3), .val (.ref r4), .val (.ref r5), .val (.ref b41), .val (.int (((p6.toUInt32 >>> ((24 : Int32) &&& 31).toUInt32).toInt32) &&& (3 : Int32))), .val (.ref b172), .val (.int (1 : Int32))] [(.int (1 : Int32))])
                    refine Go.via (fun t k => XS.goto Xh291.here hx rfl (pc0 := 223) (pc' := 227) rfl (hb hby at_223) (by decide) (by decide) k) ?_
                    show Go p.tables e below P T291 (mkF m 227 #[.val (.int p1), .val (.int p2), .val (.int p3), .val (.int p4), .val (.int p5), .val (.int p6), .val (.ref r_1), .val (.ref r_9), .val (.ref r_23), .val (.ref r3), .val (.ref r4), .val (.ref r5), .val (.ref b41), .val (.int (((p6.toUInt32 >>> ((24 : Int32) &&& 31).toUInt32).toInt32) &&& (3 : Int32))), .val (.ref b172), .val (.int (1 : Int32))] [(.int (1 : Int32))])
                    obtain ⟨fs, hr, hrun, hended, hend⟩ := Xh291.leaveW hS40 (by rw [hh291]; exact hk249) (v := some (.int (1 : Int32))) (fun h => by rw [Bd.returns] at h; cases h)
                    have hCf : CHr Z consts_1 s.vm s.heap (T291.setFrames fs).vm (T291.setFrames fs).heap := by
                      rw [hh]
                      show CHr Z consts_1 s.vm h0 T291.vm T291.heap
                      rw [hh291]
                      exact CHr.trans CR248 (CHv.at Xh291 hZ (own_EW hw) CR248.1)
                    refine ⟨_, _, retZ Xh291 hx (t := .boolean) Bd.returns (by simp) (hb hby at_227) rfl hr, hrun, hended, hP _ _ ⟨_, _, rfl, ?_, hCf, own_rew hend (by decide) (by decide)⟩⟩
                    show Q0 Z p1 p2 p3 p4 p5 p6 cs fm h0 n0 _ T291.heap _
                    rw [hh291]
                    exact ⟨rfl, N291⟩
      by_cases hc39 : (((p6.toUInt32 >>> ((20 : Int32) &&& 31).toUInt32).toInt32) &&& (1 : Int32)) = (0 : Int32)
      · refine Go.via (fun t k => XS.ifYes X38.here hx rfl (pc0 := 71) (pc' := 81) rfl (hb hby at_71) rfl ((if0 _ _).trans (teq hc39).1) (by decide) (by decide) k) ?_
        show Go p.tables e below P T38 (mkF m 81 #[.val (.int p1), .val (.int p2), .val (.int p3), .val (.int p4), .val (.int p5), .val (.int p6), .val (.ref r_1), .val (.ref r_9), .val (.ref r_23), .val (.ref r3), .val (.ref r4), .unset, .unset, .unset, .unset, .unset] [])
        refine Go.via (fun t k => XS.iload X38.here hx rfl (hb hby at_81) rfl k) ?_
        show Go p.tables e below P T38 (mkF m 83 #[.val (.int p1), .val (.int p2), .val (.int p3), .val (.int p4), .val (.int p5), .val (.int p6), .val (.ref r_1), .val (.ref r_9), .val (.ref r_23), .val (.ref r3), .val (.ref r4), .unset, .unset, .unset, .unset, .unset] [(.int p6)])
        obtain ⟨_, _, ⟨T293, L293, k293, n293⟩, -, X293, hSn293, hgn293, ⟨Lc293, hQ293, l293, y293, z293, hC293⟩, st293⟩ := callSS X38 hx (y := (⟨"com/example/splitbook/splitbook/book/ReportKeyEqualsPinLaw", "str", "(I)Ljava/lang/String;"⟩ : MethodName)) hown (mvT hZ (hw _ (List.mem_of_getElem? (i := 0) rfl))) (mvT hZ (hw _ (List.mem_of_getElem? (i := 1) rfl))) (mvT hZ (hw _ (List.mem_of_getElem? (i := 2) rfl))) (mvT hZ (hw _ (List.mem_of_getElem? (i := 3) rfl))) (by decide) (backOfSH (W := 0) (rm1 l Z a0 hw [] p6 cs hp38 n0 Z38 O38 P1 (by first | assumption | decide | omega : ¬ cs = (0 : Int32))) hZ (hw _ (List.mem_of_getElem? (i := 3) rfl)) (hw _ (List.mem_of_getElem? (i := 2) rfl)) (by decide) (by decide) (own_EW hw) CR38.1) (g := (mkF m 83 #[.val (.int p1), .val (.int p2), .val (.int p3), .val (.int p4), .val (.int p5), .val (.int p6), .val (.ref r_1), .val (.ref r_9), .val (.ref r_23), .val (.ref r3), .val (.ref r4), .unset, .unset, .unset, .unset, .unset] [(.int p6)])) rfl (by rw [hml]; rfl) (argsL := [(.int p6)]) (rest := []) (lenOf own_pd11 rfl) rfl (by show 2 * 0 + _ ≤ _; exact Nat.le_of_eq rfl) (hb hby at_83) (fun _ _ => ⟨rfl, e38, (by decide : 30 + 6 ≤ _), (by decide : 60 + 12 ≤ _)⟩)
        dsimp only [Pt.U, Pt.locs, Pt.cells, Pt.slots] at X293 l293 y293 z293 st293 hQ293 hSn293 hgn293 hC293
        subst l293 y293 z293
        have hS293 : s.Since T293.vm T293.heap.size := foldS hS38 (by rw [e38]; exact hk38) hSn293 hgn293
        have X293 : Stand p l e room_1 (s.setVm T293.vm) m #[(.int p1), (.int p2), (.int p3), (.int p4), (.int p5), (.int p6)] below meth c T293 _ _ _ := X293
        have hown : (s.setVm T293.vm).vm.findClass "com/example/splitbook/splitbook/book/ReportKeyEqualsPinLaw" = some m.cls := by rw [show (s.setVm T293.vm).vm = T293.vm from rfl, hSn293.1.alike.findClass]; exact hown
        have hZ : Z.Warmed39 (s.setVm T293.vm).vm := State.Warmed39.trans (t := s.setVm vm38) hZ hSn293.1
        obtain ⟨r_293, tb_293, kk_293, bl_293, rfl, Nq293, K293, fr293_r, u293_0, u293_1, u293_2, u293_3, u293_4, u293_5, u293_6⟩ := hQ293
        obtain ⟨lc293, Xh293, N293⟩ := own_hide X293 (Fr.app N38 Nq293)
        clear X293
        refine Go.hop st293 ?_
        have CR294 := CHr.trans CR38 hC293
        have ne295 : r_1 ≠ r_293 := Nat.ne_of_lt (Nat.lt_of_lt_of_le F38_0.lt fr293_r)
        have ne296 : tb_1 ≠ r_293 := Nat.ne_of_lt (Nat.lt_of_lt_of_le F38_3.lt fr293_r)
        have ne297 : r_9 ≠ r_293 := Nat.ne_of_lt (Nat.lt_of_lt_of_le F38_4.lt fr293_r)
        have ne298 : tb_9 ≠ r_293 := Nat.ne_of_lt (Nat.lt_of_lt_of_le F38_7.lt fr293_r)
        have ne299 : r_23 ≠ r_293 := Nat.ne_of_lt (Nat.lt_of_lt_of_le F38_8.lt fr293_r)
        have ne300 : tb_23 ≠ r_293 := Nat.ne_of_lt (Nat.lt_of_lt_of_le F38_11.lt fr293_r)
        have ne301 : r3 ≠ r_293 := Nat.ne_of_lt (Nat.lt_of_lt_of_le F38_12.lt fr293_r)
        have ne302 : t3 ≠ r_293 := Nat.ne_of_lt (Nat.lt_of_lt_of_le F38_15.lt fr293_r)
        have ne303 : r4 ≠ r_293 := Nat.ne_of_lt (Nat.lt_of_lt_of_le F38_16.lt fr293_r)
        have ne304 : t4 ≠ r_293 := Nat.ne_of_lt (Nat.lt_of_lt_of_le F38_19.lt fr293_r)
        have g305 : n0 ≤ r_293 := Nat.le_trans Z38 fr293_r
        have sz306 : h0.size ≤ r_293 := Nat.le_trans K38.1 fr293_r
        have Z307 : n0 ≤ T293.heap.size := Nat.le_trans Z38 K293.1
        have K308 : Keep h0 T293.heap [] := K38.trans K293 own_all0
        have O309 : Old Z n0 T293.heap := O38.keep K293 own_all0
        have hk310 : T293.heap.size ≤ T293.heap.size := Nat.le_refl _
        have F311 : Exa Z T293.heap r_1 "java/lang/String" := (F38_0.keep K293)
        have F312 : Fld Z T293.heap r_1 "java/lang/String" "value" "[B" (.ref tb_1) := (F38_1.keep K293 own_nin0)
        have F313 : Fld Z T293.heap r_1 "java/lang/String" "coder" "B" (.int (0 : Int32)) := (F38_2.keep K293 own_nin0)
        have F314 : Arv Z T293.heap tb_1 kk_1 .byte (own_ln bl_1) (bl_1.map Value.int) (.int (0 : Int32)) := (F38_3.keep K293 own_nin0)
        have F315 : Exa Z T293.heap r_9 "java/lang/String" := (F38_4.keep K293)
        have F316 : Fld Z T293.heap r_9 "java/lang/String" "value" "[B" (.ref tb_9) := (F38_5.keep K293 own_nin0)
        have F317 : Fld Z T293.heap r_9 "java/lang/String" "coder" "B" (.int (0 : Int32)) := (F38_6.keep K293 own_nin0)
        have F318 : Arv Z T293.heap tb_9 kk_9 .byte (own_ln bl_9) (bl_9.map Value.int) (.int (0 : Int32)) := (F38_7.keep K293 own_nin0)
        have F319 : Exa Z T293.heap r_23 "java/lang/String" := (F38_8.keep K293)
        have F320 : Fld Z T293.heap r_23 "java/lang/String" "value" "[B" (.ref tb_23) := (F38_9.keep K293 own_nin0)
        have F321 : Fld Z T293.heap r_23 "java/lang/String" "coder" "B" (.int (0 : Int32)) := (F38_10.keep K293 own_nin0)
        have F322 : Arv Z T293.heap tb_23 kk_23 .byte (own_ln bl_23) (bl_23.map Value.int) (.int (0 : Int32)) := (F38_11.keep K293 own_nin0)
        have F323 : Exa Z T293.heap r3 "java/lang/String" := (F38_12.keep K293)
        have F324 : Fld Z T293.heap r3 "java/lang/String" "value" "[B" (.ref t3) := (F38_13.keep K293 own_nin0)
        have F325 : Fld Z T293.heap r3 "java/lang/String" "coder" "B" (.int (0 : Int32)) := (F38_14.keep K293 own_nin0)
        have F326 : Arv Z T293.heap t3 k3 .byte (own_ln b3) (b3.map Value.int) (.int (0 : Int32)) := (F38_15.keep K293 own_nin0)
        have F327 : Exa Z T293.heap r4 "java/lang/String" := (F38_16.keep K293)
        have F328 : Fld Z T293.heap r4 "java/lang/String" "value" "[B" (.ref t4) := (F38_17.keep K293 own_nin0)
        have F329 : Fld Z T293.heap r4 "java/lang/String" "coder" "B" (.int (0 : Int32)) := (F38_18.keep K293 own_nin0)
        have F330 : Arv Z T293.heap t4 k4 .byte (own_ln b4) (b4.map Value.int) (.int (0 : Int32)) := (F38_19.keep K293 own_nin0)
        exact LP40 T293 _ T293.heap r_293 tb_293 kk_293 bl_293 T293.vm _ hZ hown hS293 hk310 CR294 Xh293 rfl N293 Z307 K308 O309 F311 F312 F313 F314 F315 F316 F317 F318 F319 F320 F321 F322 F323 F324 F325 F326 F327 F328 F329 F330 u293_0 u293_1 u293_2 u293_3 u293_4 ne299
      · refine Go.via (fun t k => XS.ifNo X38.here hx rfl (hb hby at_71) rfl ((if0 _ _).trans (feq hc39).1) k) ?_
        show Go p.tables e below P T38 (mkF m 74 #[.val (.int p1), .val (.int p2), .val (.int p3), .val (.int p4), .val (.int p5), .val (.int p6), .val (.ref r_1), .val (.ref r_9), .val (.ref r_23), .val (.ref r3), .val (.ref r4), .unset, .unset, .unset, .unset, .unset] [])
        refine Go.via (fun t k => XS.iloadN X38.here hx rfl (hb hby at_74) rfl k) ?_
        show Go p.tables e below P T38 (mkF m 75 #[.val (.int p1), .val (.int p2), .val (.int p3), .val (.int p4), .val (.int p5), .val (.int p6), .val (.ref r_1), .val (.ref r_9), .val (.ref r_23), .val (.ref r3), .val (.ref r4), .unset, .unset, .unset, .unset, .unset] [(.int p3)])
        obtain ⟨_, _, ⟨T331, L331, k331, n331⟩, -, X331, hSn331, hgn331, ⟨Lc331, hQ331, l331, y331, z331, hC331⟩, st331⟩ := callSS X38 hx (y := (⟨"com/example/splitbook/splitbook/book/ReportKeyEqualsPinLaw", "str", "(I)Ljava/lang/String;"⟩ : MethodName)) hown (mvT hZ (hw _ (List.mem_of_getElem? (i := 0) rfl))) (mvT hZ (hw _ (List.mem_of_getElem? (i := 1) rfl))) (mvT hZ (hw _ (List.mem_of_getElem? (i := 2) rfl))) (mvT hZ (hw _ (List.mem_of_getElem? (i := 3) rfl))) (by decide) (backOfSH (W := 0) (rm1 l Z a0 hw [] p3 cs hp38 n0 Z38 O38 P1 (by first | assumption | decide | omega : ¬ cs = (0 : Int32))) hZ (hw _ (List.mem_of_getElem? (i := 3) rfl)) (hw _ (List.mem_of_getElem? (i := 2) rfl)) (by decide) (by decide) (own_EW hw) CR38.1) (g := (mkF m 75 #[.val (.int p1), .val (.int p2), .val (.int p3), .val (.int p4), .val (.int p5), .val (.int p6), .val (.ref r_1), .val (.ref r_9), .val (.ref r_23), .val (.ref r3), .val (.ref r4), .unset, .unset, .unset, .unset, .unset] [(.int p3)])) rfl (by rw [hml]; rfl) (argsL := [(.int p3)]) (rest := []) (lenOf own_pd11 rfl) rfl (by show 2 * 0 + _ ≤ _; exact Nat.le_of_eq rfl) (hb hby at_75) (fun _ _ => ⟨rfl, e38, (by decide : 30 + 6 ≤ _), (by decide : 60 + 12 ≤ _)⟩)
        dsimp only [Pt.U, Pt.locs, Pt.cells, Pt.slots] at X331 l331 y331 z331 st331 hQ331 hSn331 hgn331 hC331
        subst l331 y331 z331
        have hS331 : s.Since T331.vm T331.heap.size := foldS hS38 (by rw [e38]; exact hk38) hSn331 hgn331
        have X331 : Stand p l e room_1 (s.setVm T331.vm) m #[(.int p1), (.int p2), (.int p3), (.int p4), (.int p5), (.int p6)] below meth c T331 _ _ _ := X331
        have hown : (s.setVm T331.vm).vm.findClass "com/example/splitbook/splitbook/book/ReportKeyEqualsPinLaw" = some m.cls := by rw [show (s.setVm T331.vm).vm = T331.vm from rfl, hSn331.1.alike.findClass]; exact hown
        have hZ : Z.Warmed39 (s.setVm T331.vm).vm := State.Warmed39.trans (t := s.setVm vm38) hZ hSn331.1
        obtain ⟨r_331, tb_331, kk_331, bl_331, rfl, Nq331, K331, fr331_r, u331_0, u331_1, u331_2, u331_3, u331_4, u331_5, u331_6⟩ := hQ331
        obtain ⟨lc331, Xh331, N331⟩ := own_hide X331 (Fr.app N38 Nq331)
        clear X331
        refine Go.hop st331 ?_
        have CR332 := CHr.trans CR38 hC331
        have ne333 : r_1 ≠ r_331 := Nat.ne_of_lt (Nat.lt_of_lt_of_le F38_0.lt fr331_r)
        have ne334 : tb_1 ≠ r_331 := Nat.ne_of_lt (Nat.lt_of_lt_of_le F38_3.lt fr331_r)
        have ne335 : r_9 ≠ r_331 := Nat.ne_of_lt (Nat.lt_of_lt_of_le F38_4.lt fr331_r)
        have ne336 : tb_9 ≠ r_331 := Nat.ne_of_lt (Nat.lt_of_lt_of_le F38_7.lt fr331_r)
        have ne337 : r_23 ≠ r_331 := Nat.ne_of_lt (Nat.lt_of_lt_of_le F38_8.lt fr331_r)
        have ne338 : tb_23 ≠ r_331 := Nat.ne_of_lt (Nat.lt_of_lt_of_le F38_11.lt fr331_r)
        have ne339 : r3 ≠ r_331 := Nat.ne_of_lt (Nat.lt_of_lt_of_le F38_12.lt fr331_r)
        have ne340 : t3 ≠ r_331 := Nat.ne_of_lt (Nat.lt_of_lt_of_le F38_15.lt fr331_r)
        have ne341 : r4 ≠ r_331 := Nat.ne_of_lt (Nat.lt_of_lt_of_le F38_16.lt fr331_r)
        have ne342 : t4 ≠ r_331 := Nat.ne_of_lt (Nat.lt_of_lt_of_le F38_19.lt fr331_r)
        have g343 : n0 ≤ r_331 := Nat.le_trans Z38 fr331_r
        have sz344 : h0.size ≤ r_331 := Nat.le_trans K38.1 fr331_r
        have Z345 : n0 ≤ T331.heap.size := Nat.le_trans Z38 K331.1
        have K346 : Keep h0 T331.heap [] := K38.trans K331 own_all0
        have O347 : Old Z n0 T331.heap := O38.keep K331 own_all0
        have hk348 : T331.heap.size ≤ T331.heap.size := Nat.le_refl _
        show Go p.tables e below P T331 (mkF m 78 #[.val (.int p1), .val (.int p2), .val (.int p3), .val (.int p4), .val (.int p5), .val (.int p6), .val (.ref r_1), .val (.ref r_9), .val (.ref r_23), .val (.ref r3), .val (.ref r4), .unset, .unset, .unset, .unset, .unset] [(.ref r_331)])
        refine Go.via (fun t k => XS.goto Xh331.here hx rfl (pc0 := 78) (pc' := 86) rfl (hb hby at_78) (by decide) (by decide) k) ?_
        have F349 : Exa Z T331.heap r_1 "java/lang/String" := (F38_0.keep K331)
        have F350 : Fld Z T331.heap r_1 "java/lang/String" "value" "[B" (.ref tb_1) := (F38_1.keep K331 own_nin0)
        have F351 : Fld Z T331.heap r_1 "java/lang/String" "coder" "B" (.int (0 : Int32)) := (F38_2.keep K331 own_nin0)
        have F352 : Arv Z T331.heap tb_1 kk_1 .byte (own_ln bl_1) (bl_1.map Value.int) (.int (0 : Int32)) := (F38_3.keep K331 own_nin0)
        have F353 : Exa Z T331.heap r_9 "java/lang/String" := (F38_4.keep K331)
        have F354 : Fld Z T331.heap r_9 "java/lang/String" "value" "[B" (.ref tb_9) := (F38_5.keep K331 own_nin0)
        have F355 : Fld Z T331.heap r_9 "java/lang/String" "coder" "B" (.int (0 : Int32)) := (F38_6.keep K331 own_nin0)
        have F356 : Arv Z T331.heap tb_9 kk_9 .byte (own_ln bl_9) (bl_9.map Value.int) (.int (0 : Int32)) := (F38_7.keep K331 own_nin0)
        have F357 : Exa Z T331.heap r_23 "java/lang/String" := (F38_8.keep K331)
        have F358 : Fld Z T331.heap r_23 "java/lang/String" "value" "[B" (.ref tb_23) := (F38_9.keep K331 own_nin0)
        have F359 : Fld Z T331.heap r_23 "java/lang/String" "coder" "B" (.int (0 : Int32)) := (F38_10.keep K331 own_nin0)
        have F360 : Arv Z T331.heap tb_23 kk_23 .byte (own_ln bl_23) (bl_23.map Value.int) (.int (0 : Int32)) := (F38_11.keep K331 own_nin0)
        have F361 : Exa Z T331.heap r3 "java/lang/String" := (F38_12.keep K331)
        have F362 : Fld Z T331.heap r3 "java/lang/String" "value" "[B" (.ref t3) := (F38_13.keep K331 own_nin0)
        have F363 : Fld Z T331.heap r3 "java/lang/String" "coder" "B" (.int (0 : Int32)) := (F38_14.keep K331 own_nin0)
        have F364 : Arv Z T331.heap t3 k3 .byte (own_ln b3) (b3.map Value.int) (.int (0 : Int32)) := (F38_15.keep K331 own_nin0)
        have F365 : Exa Z T331.heap r4 "java/lang/String" := (F38_16.keep K331)
        have F366 : Fld Z T331.heap r4 "java/lang/String" "value" "[B" (.ref t4) := (F38_17.keep K331 own_nin0)
        have F367 : Fld Z T331.heap r4 "java/lang/String" "coder" "B" (.int (0 : Int32)) := (F38_18.keep K331 own_nin0)
        have F368 : Arv Z T331.heap t4 k4 .byte (own_ln b4) (b4.map Value.int) (.int (0 : Int32)) := (F38_19.keep K331 own_nin0)
        exact LP40 T331 _ T331.heap r_331 tb_331 kk_331 bl_331 T331.vm _ hZ hown hS331 hk348 CR332 Xh331 rfl N331 Z345 K346 O347 F349 F350 F351 F352 F353 F354 F355 F356 F357 F358 F359 F360 F361 F362 F363 F364 F365 F366 F367 F368 u331_0 u331_1 u331_2 u331_3 u331_4 ne337
    by_cases hc37 : (((p5.toUInt32 >>> ((20 : Int32) &&& 31).toUInt32).toInt32) &&& (1 : Int32)) = (0 : Int32)
    · refine Go.via (fun t k => XS.ifYes X36.here hx rfl (pc0 := 47) (pc' := 57) rfl (hb hby at_47) rfl ((if0 _ _).trans (teq hc37).1) (by decide) (by decide) k) ?_
      show Go p.tables e below P T36 (mkF m 57 #[.val (.int p1), .val (.int p2), .val (.int p3), .val (.int p4), .val (.int p5), .val (.int p6), .val (.ref r_1), .val (.ref r_9), .val (.ref r_23), .val (.ref r3), .unset, .unset, .unset, .unset, .unset, .unset] [])
      refine Go.via (fun t k => XS.iload X36.here hx rfl (hb hby at_57) rfl k) ?_
      show Go p.tables e below P T36 (mkF m 59 #[.val (.int p1), .val (.int p2), .val (.int p3), .val (.int p4), .val (.int p5), .val (.int p6), .val (.ref r_1), .val (.ref r_9), .val (.ref r_23), .val (.ref r3), .unset, .unset, .unset, .unset, .unset, .unset] [(.int p5)])
      obtain ⟨_, _, ⟨T369, L369, k369, n369⟩, -, X369, hSn369, hgn369, ⟨Lc369, hQ369, l369, y369, z369, hC369⟩, st369⟩ := callSS X36 hx (y := (⟨"com/example/splitbook/splitbook/book/ReportKeyEqualsPinLaw", "str", "(I)Ljava/lang/String;"⟩ : MethodName)) hown (mvT hZ (hw _ (List.mem_of_getElem? (i := 0) rfl))) (mvT hZ (hw _ (List.mem_of_getElem? (i := 1) rfl))) (mvT hZ (hw _ (List.mem_of_getElem? (i := 2) rfl))) (mvT hZ (hw _ (List.mem_of_getElem? (i := 3) rfl))) (by decide) (backOfSH (W := 0) (rm1 l Z a0 hw [] p5 cs hp36 n0 Z36 O36 P1 (by first | assumption | decide | omega : ¬ cs = (0 : Int32))) hZ (hw _ (List.mem_of_getElem? (i := 3) rfl)) (hw _ (List.mem_of_getElem? (i := 2) rfl)) (by decide) (by decide) (own_EW hw) CR36.1) (g := (mkF m 59 #[.val (.int p1), .val (.int p2), .val (.int p3), .val (.int p4), .val (.int p5), .val (.int p6), .val (.ref r_1), .val (.ref r_9), .val (.ref r_23), .val (.ref r3), .unset, .unset, .unset, .unset, .unset, .unset] [(.int p5)])) rfl (by rw [hml]; rfl) (argsL := [(.int p5)]) (rest := []) (lenOf own_pd11 rfl) rfl (by show 2 * 0 + _ ≤ _; exact Nat.le_of_eq rfl) (hb hby at_59) (fun _ _ => ⟨rfl, e36, (by decide : 24 + 6 ≤ _), (by decide : 48 + 12 ≤ _)⟩)
      dsimp only [Pt.U, Pt.locs, Pt.cells, Pt.slots] at X369 l369 y369 z369 st369 hQ369 hSn369 hgn369 hC369
      subst l369 y369 z369
      have hS369 : s.Since T369.vm T369.heap.size := foldS hS36 (by rw [e36]; exact hk36) hSn369 hgn369
      have X369 : Stand p l e room_1 (s.setVm T369.vm) m #[(.int p1), (.int p2), (.int p3), (.int p4), (.int p5), (.int p6)] below meth c T369 _ _ _ := X369
      have hown : (s.setVm T369.vm).vm.findClass "com/example/splitbook/splitbook/book/ReportKeyEqualsPinLaw" = some m.cls := by rw [show (s.setVm T369.vm).vm = T369.vm from rfl, hSn369.1.alike.findClass]; exact hown
      have hZ : Z.Warmed39 (s.setVm T369.vm).vm := State.Warmed39.trans (t := s.setVm vm36) hZ hSn369.1
      obtain ⟨r_369, tb_369, kk_369, bl_369, rfl, Nq369, K369, fr369_r, u369_0, u369_1, u369_2, u369_3, u369_4, u369_5, u369_6⟩ := hQ369
      obtain ⟨lc369, Xh369, N369⟩ := own_hide X369 (Fr.app N36 Nq369)
      clear X369
      refine Go.hop st369 ?_
      have CR370 := CHr.trans CR36 hC369
      have ne371 : r_1 ≠ r_369 := Nat.ne_of_lt (Nat.lt_of_lt_of_le F36_0.lt fr369_r)
      have ne372 : tb_1 ≠ r_369 := Nat.ne_of_lt (Nat.lt_of_lt_of_le F36_3.lt fr369_r)
      have ne373 : r_9 ≠ r_369 := Nat.ne_of_lt (Nat.lt_of_lt_of_le F36_4.lt fr369_r)
      have ne374 : tb_9 ≠ r_369 := Nat.ne_of_lt (Nat.lt_of_lt_of_le F36_7.lt fr369_r)
      have ne375 : r_23 ≠ r_369 := Nat.ne_of_lt (Nat.lt_of_lt_of_le F36_8.lt fr369_r)
      have ne376 : tb_23 ≠ r_369 := Nat.ne_of_lt (Nat.lt_of_lt_of_le F36_11.lt fr369_r)
      have ne377 : r3 ≠ r_369 := Nat.ne_of_lt (Nat.lt_of_lt_of_le F36_12.lt fr369_r)
      have ne378 : t3 ≠ r_369 := Nat.ne_of_lt (Nat.lt_of_lt_of_le F36_15.lt fr369_r)
      have g379 : n0 ≤ r_369 := Nat.le_trans Z36 fr369_r
      have sz380 : h0.size ≤ r_369 := Nat.le_trans K36.1 fr369_r
      have Z381 : n0 ≤ T369.heap.size := Nat.le_trans Z36 K369.1
      have K382 : Keep h0 T369.heap [] := K36.trans K369 own_all0
      have O383 : Old Z n0 T369.heap := O36.keep K369 own_all0
      have hk384 : T369.heap.size ≤ T369.heap.size := Nat.le_refl _
      have F385 : Exa Z T369.heap r_1 "java/lang/String" := (F36_0.keep K369)
      have F386 : Fld Z T369.heap r_1 "java/lang/String" "value" "[B" (.ref tb_1) := (F36_1.keep K369 own_nin0)
      have F387 : Fld Z T369.heap r_1 "java/lang/String" "coder" "B" (.int (0 : Int32)) := (F36_2.keep K369 own_nin0)
      have F388 : Arv Z T369.heap tb_1 kk_1 .byte (own_ln bl_1) (bl_1.map Value.int) (.int (0 : Int32)) := (F36_3.keep K369 own_nin0)
      have F389 : Exa Z T369.heap r_9 "java/lang/String" := (F36_4.keep K369)
      have F390 : Fld Z T369.heap r_9 "java/lang/String" "value" "[B" (.ref tb_9) := (F36_5.keep K369 own_nin0)
      have F391 : Fld Z T369.heap r_9 "java/lang/String" "coder" "B" (.int (0 : Int32)) := (F36_6.keep K369 own_nin0)
      have F392 : Arv Z T369.heap tb_9 kk_9 .byte (own_ln bl_9) (bl_9.map Value.int) (.int (0 : Int32)) := (F36_7.keep K369 own_nin0)
      have F393 : Exa Z T369.heap r_23 "java/lang/String" := (F36_8.keep K369)
      have F394 : Fld Z T369.heap r_23 "java/lang/String" "value" "[B" (.ref tb_23) := (F36_9.keep K369 own_nin0)
      have F395 : Fld Z T369.heap r_23 "java/lang/String" "coder" "B" (.int (0 : Int32)) := (F36_10.keep K369 own_nin0)
      have F396 : Arv Z T369.heap tb_23 kk_23 .byte (own_ln bl_23) (bl_23.map Value.int) (.int (0 : Int32)) := (F36_11.keep K369 own_nin0)
      have F397 : Exa Z T369.heap r3 "java/lang/String" := (F36_12.keep K369)
      have F398 : Fld Z T369.heap r3 "java/lang/String" "value" "[B" (.ref t3) := (F36_13.keep K369 own_nin0)
      have F399 : Fld Z T369.heap r3 "java/lang/String" "coder" "B" (.int (0 : Int32)) := (F36_14.keep K369 own_nin0)
      have F400 : Arv Z T369.heap t3 k3 .byte (own_ln b3) (b3.map Value.int) (.int (0 : Int32)) := (F36_15.keep K369 own_nin0)
      exact LP38 T369 _ T369.heap r_369 tb_369 kk_369 bl_369 T369.vm _ hZ hown hS369 hk384 CR370 Xh369 rfl N369 Z381 K382 O383 F385 F386 F387 F388 F389 F390 F391 F392 F393 F394 F395 F396 F397 F398 F399 F400 u369_0 u369_1 u369_2 u369_3 u369_4 ne373
    · refine Go.via (fun t k => XS.ifNo X36.here hx rfl (hb hby at_47) rfl ((if0 _ _).trans (feq hc37).1) k) ?_
      show Go p.tables e below P T36 (mkF m 50 #[.val (.int p1), .val (.int p2), .val (.int p3), .val (.int p4), .val (.int p5), .val (.int p6), .val (.ref r_1), .val (.ref r_9), .val (.ref r_23), .val (.ref r3), .unset, .unset, .unset, .unset, .unset, .unset] [])
      refine Go.via (fun t k => XS.iloadN X36.here hx rfl (hb hby at_50) rfl k) ?_
      show Go p.tables e below P T36 (mkF m 51 #[.val (.int p1), .val (.int p2), .val (.int p3), .val (.int p4), .val (.int p5), .val (.int p6), .val (.ref r_1), .val (.ref r_9), .val (.ref r_23), .val (.ref r3), .unset, .unset, .unset, .unset, .unset, .unset] [(.int p2)])
      obtain ⟨_, _, ⟨T401, L401, k401, n401⟩, -, X401, hSn401, hgn401, ⟨Lc401, hQ401, l401, y401, z401, hC401⟩, st401⟩ := callSS X36 hx (y := (⟨"com/example/splitbook/splitbook/book/ReportKeyEqualsPinLaw", "str", "(I)Ljava/lang/String;"⟩ : MethodName)) hown (mvT hZ (hw _ (List.mem_of_getElem? (i := 0) rfl))) (mvT hZ (hw _ (List.mem_of_getElem? (i := 1) rfl))) (mvT hZ (hw _ (List.mem_of_getElem? (i := 2) rfl))) (mvT hZ (hw _ (List.mem_of_getElem? (i := 3) rfl))) (by decide) (backOfSH (W := 0) (rm1 l Z a0 hw [] p2 cs hp36 n0 Z36 O36 P1 (by first | assumption | decide | omega : ¬ cs = (0 : Int32))) hZ (hw _ (List.mem_of_getElem? (i := 3) rfl)) (hw _ (List.mem_of_getElem? (i := 2) rfl)) (by decide) (by decide) (own_EW hw) CR36.1) (g := (mkF m 51 #[.val (.int p1), .val (.int p2), .val (.int p3), .val (.int p4), .val (.int p5), .val (.int p6), .val (.ref r_1), .val (.ref r_9), .val (.ref r_23), .val (.ref r3), .unset, .unset, .unset, .unset, .unset, .unset] [(.int p2)])) rfl (by rw [hml]; rfl) (argsL := [(.int p2)]) (rest := []) (lenOf own_pd11 rfl) rfl (by show 2 * 0 + _ ≤ _; exact Nat.le_of_eq rfl) (hb hby at_51) (fun _ _ => ⟨rfl, e36, (by decide : 24 + 6 ≤ _), (by decide : 48 + 12 ≤ _)⟩)
      dsimp only [Pt.U, Pt.locs, Pt.cells, Pt.slots] at X401 l401 y401 z401 st401 hQ401 hSn401 hgn401 hC401
      subst l401 y401 z401
      have hS401 : s.Since T401.vm T401.heap.size := foldS hS36 (by rw [e36]; exact hk36) hSn401 hgn401
      have X401 : Stand p l e room_1 (s.setVm T401.vm) m #[(.int p1), (.int p2), (.int p3), (.int p4), (.int p5), (.int p6)] below meth c T401 _ _ _ := X401
      have hown : (s.setVm T401.vm).vm.findClass "com/example/splitbook/splitbook/book/ReportKeyEqualsPinLaw" = some m.cls := by rw [show (s.setVm T401.vm).vm = T401.vm from rfl, hSn401.1.alike.findClass]; exact hown
      have hZ : Z.Warmed39 (s.setVm T401.vm).vm := State.Warmed39.trans (t := s.setVm vm36) hZ hSn401.1
      obtain ⟨r_401, tb_401, kk_401, bl_401, rfl, Nq401, K401, fr401_r, u401_0, u401_1, u401_2, u401_3, u401_4, u401_5, u401_6⟩ := hQ401
      obtain ⟨lc401, Xh401, N401⟩ := own_hide X401 (Fr.app N36 Nq401)
      clear X401
      refine Go.hop st401 ?_
      have CR402 := CHr.trans CR36 hC401
      have ne403 : r_1 ≠ r_401 := Nat.ne_of_lt (Nat.lt_of_lt_of_le F36_0.lt fr401_r)
      have ne404 : tb_1 ≠ r_401 := Nat.ne_of_lt (Nat.lt_of_lt_of_le F36_3.lt fr401_r)
      have ne405 : r_9 ≠ r_401 := Nat.ne_of_lt (Nat.lt_of_lt_of_le F36_4.lt fr401_r)
      have ne406 : tb_9 ≠ r_401 := Nat.ne_of_lt (Nat.lt_of_lt_of_le F36_7.lt fr401_r)
      have ne407 : r_23 ≠ r_401 := Nat.ne_of_lt (Nat.lt_of_lt_of_le F36_8.lt fr401_r)
      have ne408 : tb_23 ≠ r_401 := Nat.ne_of_lt (Nat.lt_of_lt_of_le F36_11.lt fr401_r)
      have ne409 : r3 ≠ r_401 := Nat.ne_of_lt (Nat.lt_of_lt_of_le F36_12.lt fr401_r)
      have ne410 : t3 ≠ r_401 := Nat.ne_of_lt (Nat.lt_of_lt_of_le F36_15.lt fr401_r)
      have g411 : n0 ≤ r_401 := Nat.le_trans Z36 fr401_r
      have sz412 : h0.size ≤ r_401 := Nat.le_trans K36.1 fr401_r
      have Z413 : n0 ≤ T401.heap.size := Nat.le_trans Z36 K401.1
      have K414 : Keep h0 T401.heap [] := K36.trans K401 own_all0
      have O415 : Old Z n0 T401.heap := O36.keep K401 own_all0
      have hk416 : T401.heap.size ≤ T401.heap.size := Nat.le_refl _
      show Go p.tables e below P T401 (mkF m 54 #[.val (.int p1), .val (.int p2), .val (.int p3), .val (.int p4), .val (.int p5), .val (.int p6), .val (.ref r_1), .val (.ref r_9), .val (.ref r_23), .val (.ref r3), .unset, .unset, .unset, .unset, .unset, .unset] [(.ref r_401)])
      refine Go.via (fun t k => XS.goto Xh401.here hx rfl (pc0 := 54) (pc' := 62) rfl (hb hby at_54) (by decide) (by decide) k) ?_
      have F417 : Exa Z T401.heap r_1 "java/lang/String" := (F36_0.keep K401)
      have F418 : Fld Z T401.heap r_1 "java/lang/String" "value" "[B" (.ref tb_1) := (F36_1.keep K401 own_nin0)
      have F419 : Fld Z T401.heap r_1 "java/lang/String" "coder" "B" (.int (0 : Int32)) := (F36_2.keep K401 own_nin0)
      have F420 : Arv Z T401.heap tb_1 kk_1 .byte (own_ln bl_1) (bl_1.map Value.int) (.int (0 : Int32)) := (F36_3.keep K401 own_nin0)
      have F421 : Exa Z T401.heap r_9 "java/lang/String" := (F36_4.keep K401)
      have F422 : Fld Z T401.heap r_9 "java/lang/String" "value" "[B" (.ref tb_9) := (F36_5.keep K401 own_nin0)
      have F423 : Fld Z T401.heap r_9 "java/lang/String" "coder" "B" (.int (0 : Int32)) := (F36_6.keep K401 own_nin0)
      have F424 : Arv Z T401.heap tb_9 kk_9 .byte (own_ln bl_9) (bl_9.map Value.int) (.int (0 : Int32)) := (F36_7.keep K401 own_nin0)
      have F425 : Exa Z T401.heap r_23 "java/lang/String" := (F36_8.keep K401)
      have F426 : Fld Z T401.heap r_23 "java/lang/String" "value" "[B" (.ref tb_23) := (F36_9.keep K401 own_nin0)
      have F427 : Fld Z T401.heap r_23 "java/lang/String" "coder" "B" (.int (0 : Int32)) := (F36_10.keep K401 own_nin0)
      have F428 : Arv Z T401.heap tb_23 kk_23 .byte (own_ln bl_23) (bl_23.map Value.int) (.int (0 : Int32)) := (F36_11.keep K401 own_nin0)
      have F429 : Exa Z T401.heap r3 "java/lang/String" := (F36_12.keep K401)
      have F430 : Fld Z T401.heap r3 "java/lang/String" "value" "[B" (.ref t3) := (F36_13.keep K401 own_nin0)
      have F431 : Fld Z T401.heap r3 "java/lang/String" "coder" "B" (.int (0 : Int32)) := (F36_14.keep K401 own_nin0)
      have F432 : Arv Z T401.heap t3 k3 .byte (own_ln b3) (b3.map Value.int) (.int (0 : Int32)) := (F36_15.keep K401 own_nin0)
      exact LP38 T401 _ T401.heap r_401 tb_401 kk_401 bl_401 T401.vm _ hZ hown hS401 hk416 CR402 Xh401 rfl N401 Z413 K414 O415 F417 F418 F419 F420 F421 F422 F423 F424 F425 F426 F427 F428 F429 F430 F431 F432 u401_0 u401_1 u401_2 u401_3 u401_4 ne405
  by_cases hc35 : (((p4.toUInt32 >>> ((20 : Int32) &&& 31).toUInt32).toInt32) &&& (1 : Int32)) = (0 : Int32)
  · refine Go.via (fun t k => XS.ifYes Xh23.here hx rfl (pc0 := 24) (pc' := 34) rfl (hb hby at_24) rfl ((if0 _ _).trans (teq hc35).1) (by decide) (by decide) k) ?_
    show Go p.tables e below P T23 (mkF m 34 #[.val (.int p1), .val (.int p2), .val (.int p3), .val (.int p4), .val (.int p5), .val (.int p6), .val (.ref r_1), .val (.ref r_9), .val (.ref r_23), .unset, .unset, .unset, .unset, .unset, .unset, .unset] [])
    refine Go.via (fun t k => XS.iloadN Xh23.here hx rfl (hb hby at_34) rfl k) ?_
    show Go p.tables e below P T23 (mkF m 35 #[.val (.int p1), .val (.int p2), .val (.int p3), .val (.int p4), .val (.int p5), .val (.int p6), .val (.ref r_1), .val (.ref r_9), .val (.ref r_23), .unset, .unset, .unset, .unset, .unset, .unset, .unset] [(.int p4)])
    have F433 : Exa Z T23.heap r_1 "java/lang/String" := (F19.keep K23)
    have F434 : Fld Z T23.heap r_1 "java/lang/String" "value" "[B" (.ref tb_1) := (F20.keep K23 own_nin0)
    have F435 : Fld Z T23.heap r_1 "java/lang/String" "coder" "B" (.int (0 : Int32)) := (F21.keep K23 own_nin0)
    have F436 : Arv Z T23.heap tb_1 kk_1 .byte (own_ln bl_1) (bl_1.map Value.int) (.int (0 : Int32)) := (F22.keep K23 own_nin0)
    have F437 : Exa Z T23.heap r_9 "java/lang/String" := (u9_0.keep K23)
    have F438 : Fld Z T23.heap r_9 "java/lang/String" "value" "[B" (.ref tb_9) := (u9_1.keep K23 own_nin0)
    have F439 : Fld Z T23.heap r_9 "java/lang/String" "coder" "B" (.int (0 : Int32)) := (u9_2.keep K23 own_nin0)
    have F440 : Arv Z T23.heap tb_9 kk_9 .byte (own_ln bl_9) (bl_9.map Value.int) (.int (0 : Int32)) := (u9_3.keep K23 own_nin0)
    obtain ⟨_, _, ⟨T441, L441, k441, n441⟩, -, X441, hSn441, hgn441, ⟨Lc441, hQ441, l441, y441, z441, hC441⟩, st441⟩ := callSS Xh23 hx (y := (⟨"com/example/splitbook/splitbook/book/ReportKeyEqualsPinLaw", "str", "(I)Ljava/lang/String;"⟩ : MethodName)) hown (mvT hZ (hw _ (List.mem_of_getElem? (i := 0) rfl))) (mvT hZ (hw _ (List.mem_of_getElem? (i := 1) rfl))) (mvT hZ (hw _ (List.mem_of_getElem? (i := 2) rfl))) (mvT hZ (hw _ (List.mem_of_getElem? (i := 3) rfl))) (by decide) (backOfSH (W := 0) (rm1 l Z a0 hw [] p4 cs T23.heap n0 Z31 O33 P1 (by first | assumption | decide | omega : ¬ cs = (0 : Int32))) hZ (hw _ (List.mem_of_getElem? (i := 3) rfl)) (hw _ (List.mem_of_getElem? (i := 2) rfl)) (by decide) (by decide) (own_EW hw) CR24.1) (g := (mkF m 35 #[.val (.int p1), .val (.int p2), .val (.int p3), .val (.int p4), .val (.int p5), .val (.int p6), .val (.ref r_1), .val (.ref r_9), .val (.ref r_23), .unset, .unset, .unset, .unset, .unset, .unset, .unset] [(.int p4)])) rfl (by rw [hml]; rfl) (argsL := [(.int p4)]) (rest := []) (lenOf own_pd11 rfl) rfl (by show 2 * 0 + _ ≤ _; exact Nat.le_of_eq rfl) (hb hby at_35) (fun _ _ => ⟨rfl, rfl, (by decide : 18 + 6 ≤ _), (by decide : 36 + 12 ≤ _)⟩)
    dsimp only [Pt.U, Pt.locs, Pt.cells, Pt.slots] at X441 l441 y441 z441 st441 hQ441 hSn441 hgn441 hC441
    subst l441 y441 z441
    have hS441 : s.Since T441.vm T441.heap.size := foldS hS23 (by exact hk34) hSn441 hgn441
    have X441 : Stand p l e room_1 (s.setVm T441.vm) m #[(.int p1), (.int p2), (.int p3), (.int p4), (.int p5), (.int p6)] below meth c T441 _ _ _ := X441
    have hown : (s.setVm T441.vm).vm.findClass "com/example/splitbook/splitbook/book/ReportKeyEqualsPinLaw" = some m.cls := by rw [show (s.setVm T441.vm).vm = T441.vm from rfl, hSn441.1.alike.findClass]; exact hown
    have hZ : Z.Warmed39 (s.setVm T441.vm).vm := State.Warmed39.trans (t := s.setVm T23.vm) hZ hSn441.1
    obtain ⟨r_441, tb_441, kk_441, bl_441, rfl, Nq441, K441, fr441_r, u441_0, u441_1, u441_2, u441_3, u441_4, u441_5, u441_6⟩ := hQ441
    obtain ⟨lc441, Xh441, N441⟩ := own_hide X441 (Fr.app N23 Nq441)
    clear X441
    refine Go.hop st441 ?_
    have CR442 := CHr.trans CR24 hC441
    have ne443 : r_1 ≠ r_441 := Nat.ne_of_lt (Nat.lt_of_lt_of_le F433.lt fr441_r)
    have ne444 : tb_1 ≠ r_441 := Nat.ne_of_lt (Nat.lt_of_lt_of_le F436.lt fr441_r)
    have ne445 : r_9 ≠ r_441 := Nat.ne_of_lt (Nat.lt_of_lt_of_le F437.lt fr441_r)
    have ne446 : tb_9 ≠ r_441 := Nat.ne_of_lt (Nat.lt_of_lt_of_le F440.lt fr441_r)
    have ne447 : r_23 ≠ r_441 := Nat.ne_of_lt (Nat.lt_of_lt_of_le u23_0.lt fr441_r)
    have ne448 : tb_23 ≠ r_441 := Nat.ne_of_lt (Nat.lt_of_lt_of_le u23_3.lt fr441_r)
    have g449 : n0 ≤ r_441 := Nat.le_trans Z31 fr441_r
    have sz450 : h0.size ≤ r_441 := Nat.le_trans K32.1 fr441_r
    have Z451 : n0 ≤ T441.heap.size := Nat.le_trans Z31 K441.1
    have K452 : Keep h0 T441.heap [] := K32.trans K441 own_all0
    have O453 : Old Z n0 T441.heap := O33.keep K441 own_all0
    have hk454 : T441.heap.size ≤ T441.heap.size := Nat.le_refl _
    have F455 : Exa Z T441.heap r_1 "java/lang/String" := (F433.keep K441)
    have F456 : Fld Z T441.heap r_1 "java/lang/String" "value" "[B" (.ref tb_1) := (F434.keep K441 own_nin0)
    have F457 : Fld Z T441.heap r_1 "java/lang/String" "coder" "B" (.int (0 : Int32)) := (F435.keep K441 own_nin0)
    have F458 : Arv Z T441.heap tb_1 kk_1 .byte (own_ln bl_1) (bl_1.map Value.int) (.int (0 : Int32)) := (F436.keep K441 own_nin0)
    have F459 : Exa Z T441.heap r_9 "java/lang/String" := (F437.keep K441)
    have F460 : Fld Z T441.heap r_9 "java/lang/String" "value" "[B" (.ref tb_9) := (F438.keep K441 own_nin0)
    have F461 : Fld Z T441.heap r_9 "java/lang/String" "coder" "B" (.int (0 : Int32)) := (F439.keep K441 own_nin0)
    have F462 : Arv Z T441.heap tb_9 kk_9 .byte (own_ln bl_9) (bl_9.map Value.int) (.int (0 : Int32)) := (F440.keep K441 own_nin0)
    have F463 : Exa Z T441.heap r_23 "java/lang/String" := (u23_0.keep K441)
    have F464 : Fld Z T441.heap r_23 "java/lang/String" "value" "[B" (.ref tb_23) := (u23_1.keep K441 own_nin0)
    have F465 : Fld Z T441.heap r_23 "java/lang/String" "coder" "B" (.int (0 : Int32)) := (u23_2.keep K441 own_nin0)
    have F466 : Arv Z T441.heap tb_23 kk_23 .byte (own_ln bl_23) (bl_23.map Value.int) (.int (0 : Int32)) := (u23_3.keep K441 own_nin0)
    exact LP36 T441 _ T441.heap r_441 tb_441 kk_441 bl_441 T441.vm _ hZ hown hS441 hk454 CR442 Xh441 rfl N441 Z451 K452 O453 F455 F456 F457 F458 F459 F460 F461 F462 F463 F464 F465 F466 u441_0 u441_1 u441_2 u441_3 u441_4 ne443
  · refine Go.via (fun t k => XS.ifNo Xh23.here hx rfl (hb hby at_24) rfl ((if0 _ _).trans (feq hc35).1) k) ?_
    show Go p.tables e below P T23 (mkF m 27 #[.val (.int p1), .val (.int p2), .val (.int p3), .val (.int p4), .val (.int p5), .val (.int p6), .val (.ref r_1), .val (.ref r_9), .val (.ref r_23), .unset, .unset, .unset, .unset, .unset, .unset, .unset] [])
    refine Go.via (fun t k => XS.iloadN Xh23.here hx rfl (hb hby at_27) rfl k) ?_
    show Go p.tables e below P T23 (mkF m 28 #[.val (.int p1), .val (.int p2), .val (.int p3), .val (.int p4), .val (.int p5), .val (.int p6), .val (.ref r_1), .val (.ref r_9), .val (.ref r_23), .unset, .unset, .unset, .unset, .unset, .unset, .unset] [(.int p1)])
    have F467 : Exa Z T23.heap r_1 "java/lang/String" := (F19.keep K23)
    have F468 : Fld Z T23.heap r_1 "java/lang/String" "value" "[B" (.ref tb_1) := (F20.keep K23 own_nin0)
    have F469 : Fld Z T23.heap r_1 "java/lang/String" "coder" "B" (.int (0 : Int32)) := (F21.keep K23 own_nin0)
    have F470 : Arv Z T23.heap tb_1 kk_1 .byte (own_ln bl_1) (bl_1.map Value.int) (.int (0 : Int32)) := (F22.keep K23 own_nin0)
    have F471 : Exa Z T23.heap r_9 "java/lang/String" := (u9_0.keep K23)
    have F472 : Fld Z T23.heap r_9 "java/lang/String" "value" "[B" (.ref tb_9) := (u9_1.keep K23 own_nin0)
    have F473 : Fld Z T23.heap r_9 "java/lang/String" "coder" "B" (.int (0 : Int32)) := (u9_2.keep K23 own_nin0)
    have F474 : Arv Z T23.heap tb_9 kk_9 .byte (own_ln bl_9) (bl_9.map Value.int) (.int (0 : Int32)) := (u9_3.keep K23 own_nin0)
    obtain ⟨_, _, ⟨T475, L475, k475, n475⟩, -, X475, hSn475, hgn475, ⟨Lc475, hQ475, l475, y475, z475, hC475⟩, st475⟩ := callSS Xh23 hx (y := (⟨"com/example/splitbook/splitbook/book/ReportKeyEqualsPinLaw", "str", "(I)Ljava/lang/String;"⟩ : MethodName)) hown (mvT hZ (hw _ (List.mem_of_getElem? (i := 0) rfl))) (mvT hZ (hw _ (List.mem_of_getElem? (i := 1) rfl))) (mvT hZ (hw _ (List.mem_of_getElem? (i := 2) rfl))) (mvT hZ (hw _ (List.mem_of_getElem? (i := 3) rfl))) (by decide) (backOfSH (W := 0) (rm1 l Z a0 hw [] p1 cs T23.heap n0 Z31 O33 P1 (by first | assumption | decide | omega : ¬ cs = (0 : Int32))) hZ (hw _ (List.mem_of_getElem? (i := 3) rfl)) (hw _ (List.mem_of_getElem? (i := 2) rfl)) (by decide) (by decide) (own_EW hw) CR24.1) (g := (mkF m 28 #[.val (.int p1), .val (.int p2), .val (.int p3), .val (.int p4), .val (.int p5), .val (.int p6), .val (.ref r_1), .val (.ref r_9), .val (.ref r_23), .unset, .unset, .unset, .unset, .unset, .unset, .unset] [(.int p1)])) rfl (by rw [hml]; rfl) (argsL := [(.int p1)]) (rest := []) (lenOf own_pd11 rfl) rfl (by show 2 * 0 + _ ≤ _; exact Nat.le_of_eq rfl) (hb hby at_28) (fun _ _ => ⟨rfl, rfl, (by decide : 18 + 6 ≤ _), (by decide : 36 + 12 ≤ _)⟩)
    dsimp only [Pt.U, Pt.locs, Pt.cells, Pt.slots] at X475 l475 y475 z475 st475 hQ475 hSn475 hgn475 hC475
    subst l475 y475 z475
    have hS475 : s.Since T475.vm T475.heap.size := foldS hS23 (by exact hk34) hSn475 hgn475
    have X475 : Stand p l e room_1 (s.setVm T475.vm) m #[(.int p1), (.int p2), (.int p3), (.int p4), (.int p5), (.int p6)] below meth c T475 _ _ _ := X475
    have hown : (s.setVm T475.vm).vm.findClass "com/example/splitbook/splitbook/book/ReportKeyEqualsPinLaw" = some m.cls := by rw [show (s.setVm T475.vm).vm = T475.vm from rfl, hSn475.1.alike.findClass]; exact hown
    have hZ : Z.Warmed39 (s.setVm T475.vm).vm := State.Warmed39.trans (t := s.setVm T23.vm) hZ hSn475.1
    obtain ⟨r_475, tb_475, kk_475, bl_475, rfl, Nq475, K475, fr475_r, u475_0, u475_1, u475_2, u475_3, u475_4, u475_5, u475_6⟩ := hQ475
    obtain ⟨lc475, Xh475, N475⟩ := own_hide X475 (Fr.app N23 Nq475)
    clear X475
    refine Go.hop st475 ?_
    have CR476 := CHr.trans CR24 hC475
    have ne477 : r_1 ≠ r_475 := Nat.ne_of_lt (Nat.lt_of_lt_of_le F467.lt fr475_r)
    have ne478 : tb_1 ≠ r_475 := Nat.ne_of_lt (Nat.lt_of_lt_of_le F470.lt fr475_r)
    have ne479 : r_9 ≠ r_475 := Nat.ne_of_lt (Nat.lt_of_lt_of_le F471.lt fr475_r)
    have ne480 : tb_9 ≠ r_475 := Nat.ne_of_lt (Nat.lt_of_lt_of_le F474.lt fr475_r)
    have ne481 : r_23 ≠ r_475 := Nat.ne_of_lt (Nat.lt_of_lt_of_le u23_0.lt fr475_r)
    have ne482 : tb_23 ≠ r_475 := Nat.ne_of_lt (Nat.lt_of_lt_of_le u23_3.lt fr475_r)
    have g483 : n0 ≤ r_475 := Nat.le_trans Z31 fr475_r
    have sz484 : h0.size ≤ r_475 := Nat.le_trans K32.1 fr475_r
    have Z485 : n0 ≤ T475.heap.size := Nat.le_trans Z31 K475.1
    have K486 : Keep h0 T475.heap [] := K32.trans K475 own_all0
    have O487 : Old Z n0 T475.heap := O33.keep K475 own_all0
    have hk488 : T475.heap.size ≤ T475.heap.size := Nat.le_refl _
    show Go p.tables e below P T475 (mkF m 31 #[.val (.int p1), .val (.int p2), .val (.int p3), .val (.int p4), .val (.int p5), .val (.int p6), .val (.ref r_1), .val (.ref r_9), .val (.ref r_23), .unset, .unset, .unset, .unset, .unset, .unset, .unset] [(.ref r_475)])
    refine Go.via (fun t k => XS.goto Xh475.here hx rfl (pc0 := 31) (pc' := 38) rfl (hb hby at_31) (by decide) (by decide) k) ?_
    have F489 : Exa Z T475.heap r_1 "java/lang/String" := (F467.keep K475)
    have F490 : Fld Z T475.heap r_1 "java/lang/String" "value" "[B" (.ref tb_1) := (F468.keep K475 own_nin0)
    have F491 : Fld Z T475.heap r_1 "java/lang/String" "coder" "B" (.int (0 : Int32)) := (F469.keep K475 own_nin0)
    have F492 : Arv Z T475.heap tb_1 kk_1 .byte (own_ln bl_1) (bl_1.map Value.int) (.int (0 : Int32)) := (F470.keep K475 own_nin0)
    have F493 : Exa Z T475.heap r_9 "java/lang/String" := (F471.keep K475)
    have F494 : Fld Z T475.heap r_9 "java/lang/String" "value" "[B" (.ref tb_9) := (F472.keep K475 own_nin0)
    have F495 : Fld Z T475.heap r_9 "java/lang/String" "coder" "B" (.int (0 : Int32)) := (F473.keep K475 own_nin0)
    have F496 : Arv Z T475.heap tb_9 kk_9 .byte (own_ln bl_9) (bl_9.map Value.int) (.int (0 : Int32)) := (F474.keep K475 own_nin0)
    have F497 : Exa Z T475.heap r_23 "java/lang/String" := (u23_0.keep K475)
    have F498 : Fld Z T475.heap r_23 "java/lang/String" "value" "[B" (.ref tb_23) := (u23_1.keep K475 own_nin0)
    have F499 : Fld Z T475.heap r_23 "java/lang/String" "coder" "B" (.int (0 : Int32)) := (u23_2.keep K475 own_nin0)
    have F500 : Arv Z T475.heap tb_23 kk_23 .byte (own_ln bl_23) (bl_23.map Value.int) (.int (0 : Int32)) := (u23_3.keep K475 own_nin0)
    exact LP36 T475 _ T475.heap r_475 tb_475 kk_475 bl_475 T475.vm _ hZ hown hS475 hk488 CR476 Xh475 rfl N475 Z485 K486 O487 F489 F490 F491 F492 F493 F494 F495 F496 F497 F498 F499 F500 u475_0 u475_1 u475_2 u475_3 u475_4 ne477
set_option maxRecDepth 65536 in
set_option maxHeartbeats 40000000 in
theorem comes_1 {Post : Tables → Env → Array Value → State → Outcome → State → Prop} (hpost : ∀ tb e args s v u, (limb_1_1.after args s (.returned v) u = true ∧ limb_1_2.after args s (.returned v) u = true ∧ True) → ReturnedEndW s (.returned v) u (Jvm.fieldLocs frame_1_writes args s ++ Jvm.arrayLocs frame_1_arrays args s ++ Jvm.staticLocs frame_1_statics s) 48 1216 → Post tb e args s (.returned v) u) :
    ArmFor flags0 classFile x code maxLocals ret World_1 tables_1 room_1 Calls_1 rest_1 Pre_1 Post := by
  intro l hfl _ _ p e ha hc hk s m args below hf hA hF happ hP
  obtain ⟨hcalls, hrest, hpre⟩ := hP
  obtain ⟨-, -, -, hnamed, -, -, -, hat⟩ := (Spec.applies_iff hf).mp happ
  obtain ⟨hg, hn⟩ := and_e (Cond.before_iff.mp (show (Jvm.Cond.and given_1 narrow_1).before args s = true from hpre))
  obtain ⟨hv0, hr0⟩ := and_e hg
  obtain ⟨hv1, hr1⟩ := and_e hr0
  obtain ⟨hv2, hr2⟩ := and_e hr1
  obtain ⟨hv3, hr3⟩ := and_e hr2
  obtain ⟨hv4, hr4⟩ := and_e hr3
  obtain ⟨hv5, hr5⟩ := and_e hr4
  obtain ⟨w0, w1, w2, w3, w4, w5, rfl⟩ : ∃ w0 w1 w2 w3 w4 w5 : Value, args = #[w0, w1, w2, w3, w4, w5] := by
    have hs : args.size = 6 := by simpa [Cond.value, given_1] using hv0
    obtain ⟨L⟩ := args
    match L, hs with
    | [w0, w1, w2, w3, w4, w5], _ => exact ⟨w0, w1, w2, w3, w4, w5, rfl⟩
  have hw := fun d (hd : d ∈ tables_1) => atoms_spec (ws := Jvm.Cond.code x code maxLocals ret :: tables_1) hat d (List.mem_cons_of_mem _ hd)
  have hfit : Fit s := fun {y c} hc i hi => by
    obtain ⟨ha, rfl⟩ := Array.getElem?_eq_some_iff.mp hc
    have q := List.all_eq_true.mp ((Array.all_eq_true_iff_forall_mem.mp hF) _ (Array.getElem_mem ha)) i (List.mem_range.mpr hi)
    simpa [Array.getElem?_eq_getElem hi] using q
  obtain ⟨hsets, hown0⟩ := atoms_of _ (rest_1_c_eq ▸ (show rest_1_c.before _ s = true from hrest))
  have hr00 := Cond.before_iff.mp hown0
  obtain ⟨i0, ei0⟩ := is_v hv1
  obtain rfl : w0 = (.int i0) := Option.some.inj ei0
  obtain ⟨i1, ei1⟩ := is_v hv2
  obtain rfl : w1 = (.int i1) := Option.some.inj ei1
  obtain ⟨i2, ei2⟩ := is_v hv3
  obtain rfl : w2 = (.int i2) := Option.some.inj ei2
  obtain ⟨i3, ei3⟩ := is_v hv4
  obtain rfl : w3 = (.int i3) := Option.some.inj ei3
  obtain ⟨i4, ei4⟩ := is_v hv5
  obtain rfl : w4 = (.int i4) := Option.some.inj ei4
  obtain ⟨i5, ei5⟩ := is_v hr5
  obtain rfl : w5 = (.int i5) := Option.some.inj ei5
  have ncs := not_v (Cond.before_iff.mp (hsets _ (List.mem_of_getElem? (i := 2) rfl)))
  obtain ⟨cs, ecs⟩ := is_v (Cond.before_iff.mp (hsets _ (List.mem_of_getElem? (i := 1) rfl)))
  have Scs : Sta s s.heap "java/lang/String" "COMPACT_STRINGS" "Z" (.int cs) := Sta.start ecs (Or.inl (hsets _ (List.mem_of_getElem? (i := 0) rfl)))
  have hcs : ¬ (cs = (0 : Int32)) := gotF (Cond.eq_ints ecs (Term.int_eval (0))) ncs
  obtain ⟨fm, efm, rfm⟩ := isR_v (Cond.before_iff.mp (hsets _ (List.mem_of_getElem? (i := 8) rfl)))
  have Sfm : Sta s s.heap "jdk/internal/util/Preconditions" "SIOOBE_FORMATTER" "Ljava/util/function/BiFunction;" fm := Sta.start efm (Or.inl (hsets _ (List.mem_of_getElem? (i := 7) rfl)))
  have hCH : CHv s consts_1 s.vm s.heap := CHv.start (own_EW hw) (fun p hp => hcalls.1 p hp) (hsets _ (List.mem_of_getElem? (i := 2) rfl)) (hw _ (List.mem_of_getElem? (i := 19) rfl)) (hw _ (List.mem_of_getElem? (i := 5) rfl))
  obtain ⟨n, o, h1, h2, h3, _, L, rfl, ⟨rfl, N⟩, -, hq⟩ := rm0 l s _ hw tables_1 i0 i1 i2 i3 i4 i5 cs fm s.heap s.heap.size (Nat.le_refl _) (Old.start s) Scs hcs Sfm rfm p e ha hc hk s m _ below hf ((Spec.applies_iff_loose hf).mp happ).1 ⟨rfl, State.Warmed39.refl s, rfl, hCH⟩ trivial
  refine ⟨n, _, h1, h2, h3, hpost _ _ _ _ _ _ ⟨Cond.after_iff.mpr rfl, Cond.after_iff.mpr (eq_i res_at (Term.int_eval (1)) rfl), trivial⟩ ⟨hq.1, hq.2.1, hq.2.2.1, (hq.2.2.2.sift fun y hy => Or.inr (N y hy)).mono (by decide) (by decide)⟩⟩
theorem main_1_1 : Claimed_1_1 := comes_1 fun _ _ _ _ _ _ h hF => ⟨h.1, hF⟩
theorem main_1_2 : Claimed_1_2 := comes_1 fun _ _ _ _ _ _ h hF => ⟨h.2.1, hF⟩
end Jvm.Pilot.@@N@@
namespace Jvm.Pilot.@@N@@
open Jvm Jvm.ClassFile Sem Op Lib Jvm.Free Jvm.Stand Jvm.Pilot.@@N@@.Jvm.D
/-! MADE BY PROGRAM (witnessworld.py) out of the Statement's table words and the real class files: 20 classes; the members and pool entries that the words name. The judged class is class 1, her method 1. -/
namespace start1
open Jvm.ClassFile
def u (s : String) : CpInfo := .utf8 (stringToUtf16 s)
/-- a pool by its gaps: so many unusable entries, then the entry; so many at the end -/
def gap : Nat → List CpInfo → List CpInfo
  | 0, r => r
  | n + 1, r => .unusable :: gap n r
def poolList (es : List (Nat × CpInfo)) (last : Nat) : List CpInfo := es.foldr (fun e r => gap e.1 (e.2 :: r)) (gap last [])
def pool (es : List (Nat × CpInfo)) (last : Nat) : Array CpInfo := ⟨poolList es last⟩
def fileOf (pool : Array CpInfo) (this : Nat) (attrs : Array Attribute := #[]) (ms : Array MethodInfo := #[]) (fl : Nat := 33) (sup : Nat := 0) (ifs : Array Nat := #[]) (fds : Array FieldInfo := #[]) : ClassFile where
  minorVersion := 0
  majorVersion := 65
  constantPool := pool
  accessFlags := fl
  thisClass := this
  superClass := sup
  interfaces := ifs
  fields := fds
  methods := ms
  attributes := attrs
def plain (name : String) (sup : Option ClassId) : Class where
  name := name
  kind := .ordinary
  loader := none
  accessFlags := 33
  super := sup
  interfaces := #[]
  cf := none
  fields := #[]
  methods := #[]
  instanceTypes := #[]
  staticTypes := #[]
  resolved := #[]
  callSites := []
  init := .initialized
  statics := none
  mirror := none

def pool0 : Array CpInfo := pool [(5, u "<init>"), (0, u "()V"), (1, .class_ 10), (1, u "java/lang/Object")] 113

def k0c0 : Code := { maxStack := 0, maxLocals := 1, code := object_method_1_code, exceptionTable := #[], attributes := #[] }
def k0m0 : Method := { name := "<init>", desc := "()V", sig := { parameters := [], returnType := none }, accessFlags := 1, code := some k0c0 }
/-- java/lang/Object -/
def k0 : Class := { plain "java/lang/Object" none with
  accessFlags := 33
  interfaces := #[]
  cf := some (fileOf pool0 8 #[] #[{ accessFlags := 1, nameIndex := 5, descriptorIndex := 6, attributes := #[] }] 33 0 #[] #[])
  fields := #[]
  methods := #[k0m0]
  instanceTypes := #[]
  staticTypes := #[]
  resolved := Array.replicate 124 none
  statics := none }

def pool1 : Array CpInfo := pool [(2, .class_ 4), (1, u "java/lang/Object"), (0, u "<init>"), (0, u "()V"), (0, .methodref 8 9), (0, .class_ 10), (0, .nameAndType 11 12), (0, u "com/example/splitbook/splitbook/book/ReportKeyEqualsPinLaw"), (0, u "str"), (0, u "(I)Ljava/lang/String;"), (0, .class_ 14), (0, u "com/example/splitbook/splitbook/book/ReportKey"), (0, .methodref 13 16), (0, .nameAndType 5 17), (0, u "(Ljava/lang/String;Ljava/lang/String;Ljava/lang/String;)V"), (0, .methodref 8 19), (0, .nameAndType 20 21), (0, u "same"), (0, u "(Ljava/lang/String;Ljava/lang/String;)Z"), (0, .methodref 13 23), (0, .nameAndType 24 25), (0, u "equals"), (0, u "(Ljava/lang/Object;)Z"), (0, .class_ 27), (0, u "java/lang/String"), (0, .methodref 26 29), (0, .nameAndType 5 30), (0, u "([C)V"), (0, .methodref 26 32), (0, .nameAndType 33 34), (0, u "length"), (0, u "()I"), (0, .methodref 26 36), (0, .nameAndType 37 38), (0, u "charAt"), (0, u "(I)C"), (2, u "law"), (0, u "(IIIIII)Z")] 3

def k1m0 : Method := { name := "<init>", desc := "()V", sig := { parameters := [], returnType := none }, accessFlags := 1, code := none }
def k1c1 : Code := { maxStack := 5, maxLocals := 16, code := code, exceptionTable := #[], attributes := #[] }
def k1m1 : Method := { name := "law", desc := "(IIIIII)Z", sig := { parameters := [.int, .int, .int, .int, .int, .int], returnType := some .boolean }, accessFlags := 9, code := some k1c1 }
def k1c2 : Code := { maxStack := 6, maxLocals := 4, code := method_3_code, exceptionTable := #[], attributes := #[] }
def k1m2 : Method := { name := "str", desc := "(I)Ljava/lang/String;", sig := { parameters := [.int], returnType := some (.object "java/lang/String") }, accessFlags := 10, code := some k1c2 }
def k1c3 : Code := { maxStack := 3, maxLocals := 2, code := method_4_code, exceptionTable := #[], attributes := #[] }
def k1m3 : Method := { name := "same", desc := "(Ljava/lang/String;Ljava/lang/String;)Z", sig := { parameters := [(.object "java/lang/String"), (.object "java/lang/String")], returnType := some .boolean }, accessFlags := 10, code := some k1c3 }
/-- com/example/splitbook/splitbook/book/ReportKeyEqualsPinLaw -/
def k1 : Class := { plain "com/example/splitbook/splitbook/book/ReportKeyEqualsPinLaw" (some 0) with
  accessFlags := 49
  interfaces := #[]
  cf := some (fileOf pool1 8 #[] #[{ accessFlags := 1, nameIndex := 5, descriptorIndex := 6, attributes := #[] }, { accessFlags := 9, nameIndex := 41, descriptorIndex := 42, attributes := #[] }, { accessFlags := 10, nameIndex := 11, descriptorIndex := 12, attributes := #[] }, { accessFlags := 10, nameIndex := 20, descriptorIndex := 21, attributes := #[] }] 49 2 #[] #[])
  fields := #[]
  methods := #[k1m0, k1m1, k1m2, k1m3]
  instanceTypes := #[]
  staticTypes := #[]
  resolved := Array.replicate 46 none
  statics := none }

def pool2 : Array CpInfo := pool [(1, .class_ 2), (0, u "java/io/Serializable"), (0, .class_ 4), (0, u "java/lang/Object")] 2

/-- java/io/Serializable -/
def k2 : Class := { plain "java/io/Serializable" (some 0) with
  accessFlags := 1537
  interfaces := #[]
  cf := some (fileOf pool2 1 #[] #[] 1537 3 #[] #[])
  fields := #[]
  methods := #[]
  instanceTypes := #[]
  staticTypes := #[]
  resolved := Array.replicate 7 none
  statics := none }

def pool3 : Array CpInfo := pool [(1, .class_ 2), (0, u "java/lang/Comparable"), (0, .class_ 4), (0, u "java/lang/Object")] 7

/-- java/lang/Comparable -/
def k3 : Class := { plain "java/lang/Comparable" (some 0) with
  accessFlags := 1537
  interfaces := #[]
  cf := some (fileOf pool3 1 #[] #[] 1537 3 #[] #[])
  fields := #[]
  methods := #[]
  instanceTypes := #[]
  staticTypes := #[]
  resolved := Array.replicate 12 none
  statics := none }

def pool4 : Array CpInfo := pool [(2, .class_ 4), (1, u "java/lang/CharSequence"), (42, .class_ 48), (0, u "java/lang/CharSequence$1CodePointIterator"), (10, .class_ 60), (0, u "java/lang/CharSequence$1CharIterator"), (5, .class_ 67), (0, u "java/lang/Object")] 63

/-- java/lang/CharSequence -/
def k4 : Class := { plain "java/lang/CharSequence" (some 0) with
  accessFlags := 1537
  interfaces := #[]
  cf := some (fileOf pool4 2 #[.nestMembers #[47, 59]] #[] 1537 66 #[] #[])
  fields := #[]
  methods := #[]
  instanceTypes := #[]
  staticTypes := #[]
  resolved := Array.replicate 131 none
  statics := none }

def pool5 : Array CpInfo := pool [(1, .class_ 2), (0, u "java/lang/constant/Constable"), (0, .class_ 4), (0, u "java/lang/Object")] 6

/-- java/lang/constant/Constable -/
def k5 : Class := { plain "java/lang/constant/Constable" (some 0) with
  accessFlags := 1537
  interfaces := #[]
  cf := some (fileOf pool5 1 #[] #[] 1537 3 #[] #[])
  fields := #[]
  methods := #[]
  instanceTypes := #[]
  staticTypes := #[]
  resolved := Array.replicate 11 none
  statics := none }

def pool6 : Array CpInfo := pool [(1, .class_ 2), (0, u "java/lang/constant/ConstantDesc"), (0, .class_ 4), (0, u "java/lang/Object")] 32

/-- java/lang/constant/ConstantDesc -/
def k6 : Class := { plain "java/lang/constant/ConstantDesc" (some 0) with
  accessFlags := 1537
  interfaces := #[]
  cf := some (fileOf pool6 1 #[] #[] 1537 3 #[] #[])
  fields := #[]
  methods := #[]
  instanceTypes := #[]
  staticTypes := #[]
  resolved := Array.replicate 37 none
  statics := none }

def pool7 : Array CpInfo := pool [(1, .methodref 2 3), (0, .class_ 4), (0, .nameAndType 5 6), (0, u "java/lang/Object"), (0, u "<init>"), (0, u "()V"), (0, .string 8), (0, u ""), (0, .fieldref 10 11), (0, .class_ 12), (0, .nameAndType 13 14), (0, u "java/lang/String"), (0, u "value"), (0, u "[B"), (0, .fieldref 10 16), (0, .nameAndType 17 18), (0, u "coder"), (0, u "B"), (2, u "hash"), (0, u "I"), (2, u "hashIsZero"), (0, u "Z"), (0, .methodref 10 28), (0, .nameAndType 5 29), (0, u "([CIILjava/lang/Void;)V"), (8, .fieldref 10 39), (0, .nameAndType 40 26), (0, u "COMPACT_STRINGS"), (1, .class_ 44), (1, u "java/lang/StringUTF16"), (0, u "compress"), (1, .methodref 42 48), (0, .nameAndType 49 50), (0, u "coderFromArrayLen"), (0, u "([BI)B"), (56, .class_ 109), (1, u "java/lang/StringLatin1"), (32, u "()Z"), (34, .methodref 42 178), (0, .nameAndType 45 179), (0, u "([CII)[B"), (154, u "()I"), (0, .methodref 10 336), (0, .nameAndType 17 337), (0, u "()B"), (25, u "([BI)C"), (27, u "(II)V"), (35, u "(I)C"), (64, .methodref 10 493), (0, .nameAndType 494 142), (0, u "isLatin1"), (0, .methodref 107 496), (0, .nameAndType 497 363), (0, u "charAt"), (3, u "checkIndex"), (5, u "length"), (33, .methodref 107 542), (0, .nameAndType 543 544), (0, u "equals"), (0, u "([B[B)Z"), (28, u "(Ljava/lang/Object;)Z"), (1, .class_ 576), (0, u "java/lang/CharSequence"), (22, u "CASE_INSENSITIVE_ORDER"), (0, u "Ljava/util/Comparator;"), (409, u "([C)V"), (42, .fieldref 1054 1055), (0, .class_ 1056), (0, .nameAndType 1057 1058), (0, u "jdk/internal/util/Preconditions"), (0, u "SIOOBE_FORMATTER"), (0, u "Ljava/util/function/BiFunction;"), (0, .methodref 1054 1060), (0, .nameAndType 501 1061), (0, u "(IILjava/util/function/BiFunction;)I"), (39, u "serialPersistentFields"), (0, u "[Ljava/io/ObjectStreamField;"), (0, .class_ 1104), (0, u "java/lang/String$CaseInsensitiveComparator"), (1, .class_ 1107), (0, u "java/io/Serializable"), (0, .class_ 1109), (0, u "java/lang/Comparable"), (0, .class_ 1111), (0, u "java/lang/constant/Constable"), (0, .class_ 1113), (0, u "java/lang/constant/ConstantDesc"), (2, u "serialVersionUID"), (0, u "J"), (3, u "REPL"), (0, u "C"), (2, u "LATIN1"), (1, u "UTF16")] 323

def k7m0 : Method := { name := "<init>", desc := "()V", sig := { parameters := [], returnType := none }, accessFlags := 1, code := none }
def k7c1 : Code := { maxStack := 5, maxLocals := 2, code := jdk_42_method_3_code, exceptionTable := #[], attributes := #[] }
def k7m1 : Method := { name := "<init>", desc := "([C)V", sig := { parameters := [(.array .char)], returnType := none }, accessFlags := 1, code := some k7c1 }
def k7c2 : Code := { maxStack := 2, maxLocals := 1, code := jdk_42_method_54_code, exceptionTable := #[], attributes := #[] }
def k7m2 : Method := { name := "length", desc := "()I", sig := { parameters := [], returnType := some .int }, accessFlags := 1, code := some k7c2 }
def k7c3 : Code := { maxStack := 2, maxLocals := 2, code := jdk_42_method_56_code, exceptionTable := #[], attributes := #[] }
def k7m3 : Method := { name := "charAt", desc := "(I)C", sig := { parameters := [.int], returnType := some .char }, accessFlags := 1, code := some k7c3 }
def k7c4 : Code := { maxStack := 2, maxLocals := 3, code := jdk_42_method_66_code, exceptionTable := #[], attributes := #[] }
def k7m4 : Method := { name := "equals", desc := "(Ljava/lang/Object;)Z", sig := { parameters := [(.object "java/lang/Object")], returnType := some .boolean }, accessFlags := 1, code := some k7c4 }
def k7c5 : Code := { maxStack := 4, maxLocals := 6, code := jdk_42_method_149_code, exceptionTable := #[], attributes := #[] }
def k7m5 : Method := { name := "<init>", desc := "([CIILjava/lang/Void;)V", sig := { parameters := [(.array .char), .int, .int, (.object "java/lang/Void")], returnType := none }, accessFlags := 2, code := some k7c5 }
def k7c6 : Code := { maxStack := 1, maxLocals := 1, code := jdk_42_method_152_code, exceptionTable := #[], attributes := #[] }
def k7m6 : Method := { name := "coder", desc := "()B", sig := { parameters := [], returnType := some .byte }, accessFlags := 0, code := some k7c6 }
def k7c7 : Code := { maxStack := 1, maxLocals := 1, code := jdk_42_method_154_code, exceptionTable := #[], attributes := #[] }
def k7m7 : Method := { name := "isLatin1", desc := "()Z", sig := { parameters := [], returnType := some .boolean }, accessFlags := 0, code := some k7c7 }
def k7c8 : Code := { maxStack := 3, maxLocals := 2, code := jdk_42_method_155_code, exceptionTable := #[], attributes := #[] }
def k7m8 : Method := { name := "checkIndex", desc := "(II)V", sig := { parameters := [.int, .int], returnType := none }, accessFlags := 8, code := some k7c8 }
/-- java/lang/String -/
def k7 : Class := { plain "java/lang/String" (some 0) with
  accessFlags := 49
  interfaces := #[2, 3, 4, 5, 6]
  cf := some (fileOf pool7 10 #[.nestMembers #[1103]] #[{ accessFlags := 1, nameIndex := 5, descriptorIndex := 6, attributes := #[] }, { accessFlags := 1, nameIndex := 5, descriptorIndex := 1010, attributes := #[] }, { accessFlags := 1, nameIndex := 507, descriptorIndex := 334, attributes := #[] }, { accessFlags := 1, nameIndex := 497, descriptorIndex := 427, attributes := #[] }, { accessFlags := 1, nameIndex := 543, descriptorIndex := 573, attributes := #[] }, { accessFlags := 2, nameIndex := 5, descriptorIndex := 29, attributes := #[] }, { accessFlags := 0, nameIndex := 17, descriptorIndex := 337, attributes := #[] }, { accessFlags := 0, nameIndex := 494, descriptorIndex := 142, attributes := #[] }, { accessFlags := 8, nameIndex := 501, descriptorIndex := 391, attributes := #[] }] 49 2 #[1106, 1108, 575, 1110, 1112] #[{ accessFlags := 18, nameIndex := 13, descriptorIndex := 14, attributes := #[] }, { accessFlags := 18, nameIndex := 17, descriptorIndex := 18, attributes := #[] }, { accessFlags := 2, nameIndex := 21, descriptorIndex := 22, attributes := #[] }, { accessFlags := 2, nameIndex := 25, descriptorIndex := 26, attributes := #[] }, { accessFlags := 26, nameIndex := 1116, descriptorIndex := 1117, attributes := #[] }, { accessFlags := 24, nameIndex := 40, descriptorIndex := 26, attributes := #[] }, { accessFlags := 26, nameIndex := 1101, descriptorIndex := 1102, attributes := #[] }, { accessFlags := 26, nameIndex := 1121, descriptorIndex := 1122, attributes := #[] }, { accessFlags := 25, nameIndex := 599, descriptorIndex := 600, attributes := #[] }, { accessFlags := 24, nameIndex := 1125, descriptorIndex := 18, attributes := #[] }, { accessFlags := 24, nameIndex := 1127, descriptorIndex := 18, attributes := #[] }])
  fields := #[{ name := "value", type := (.array .byte), accessFlags := 18, slot := 0, constantValue := 0 }, { name := "coder", type := .byte, accessFlags := 18, slot := 1, constantValue := 0 }, { name := "hash", type := .int, accessFlags := 2, slot := 2, constantValue := 0 }, { name := "hashIsZero", type := .boolean, accessFlags := 2, slot := 3, constantValue := 0 }, { name := "serialVersionUID", type := .long, accessFlags := 26, slot := 0, constantValue := 0 }, { name := "COMPACT_STRINGS", type := .boolean, accessFlags := 24, slot := 1, constantValue := 0 }, { name := "serialPersistentFields", type := (.array (.object "java/io/ObjectStreamField")), accessFlags := 26, slot := 2, constantValue := 0 }, { name := "REPL", type := .char, accessFlags := 26, slot := 3, constantValue := 0 }, { name := "CASE_INSENSITIVE_ORDER", type := (.object "java/util/Comparator"), accessFlags := 25, slot := 4, constantValue := 0 }, { name := "LATIN1", type := .byte, accessFlags := 24, slot := 5, constantValue := 0 }, { name := "UTF16", type := .byte, accessFlags := 24, slot := 6, constantValue := 0 }]
  methods := #[k7m0, k7m1, k7m2, k7m3, k7m4, k7m5, k7m6, k7m7, k7m8]
  instanceTypes := #[(.array .byte), .byte, .int, .boolean]
  staticTypes := #[.long, .boolean, (.array (.object "java/io/ObjectStreamField")), .char, (.object "java/util/Comparator"), .byte, .byte]
  resolved := Array.replicate 1451 none
  statics := some 0 }

def pool8 : Array CpInfo := pool [(1, .methodref 2 3), (0, .class_ 4), (0, .nameAndType 5 6), (0, u "java/lang/Object"), (0, u "<init>"), (0, u "()V"), (3, .fieldref 11 12), (0, .class_ 13), (0, .nameAndType 14 15), (0, u "com/example/splitbook/splitbook/book/ReportKey"), (0, u "senderCompId"), (0, u "Ljava/lang/String;"), (0, .fieldref 11 17), (0, .nameAndType 18 15), (0, u "beginString"), (0, .fieldref 11 20), (0, .nameAndType 21 15), (0, u "allocReportId"), (0, .methodref 23 24), (0, .class_ 25), (0, .nameAndType 26 27), (0, u "java/lang/String"), (0, u "equals"), (0, u "(Ljava/lang/Object;)Z"), (10, u "(Ljava/lang/String;Ljava/lang/String;Ljava/lang/String;)V")] 24

def k8c0 : Code := { maxStack := 2, maxLocals := 4, code := prog_33_method_1_code, exceptionTable := #[], attributes := #[] }
def k8m0 : Method := { name := "<init>", desc := "(Ljava/lang/String;Ljava/lang/String;Ljava/lang/String;)V", sig := { parameters := [(.object "java/lang/String"), (.object "java/lang/String"), (.object "java/lang/String")], returnType := none }, accessFlags := 1, code := some k8c0 }
def k8c1 : Code := { maxStack := 2, maxLocals := 3, code := prog_33_method_5_code, exceptionTable := #[], attributes := #[] }
def k8m1 : Method := { name := "equals", desc := "(Ljava/lang/Object;)Z", sig := { parameters := [(.object "java/lang/Object")], returnType := some .boolean }, accessFlags := 1, code := some k8c1 }
/-- com/example/splitbook/splitbook/book/ReportKey -/
def k8 : Class := { plain "com/example/splitbook/splitbook/book/ReportKey" (some 0) with
  accessFlags := 49
  interfaces := #[]
  cf := some (fileOf pool8 11 #[] #[{ accessFlags := 1, nameIndex := 5, descriptorIndex := 38, attributes := #[] }, { accessFlags := 1, nameIndex := 26, descriptorIndex := 27, attributes := #[] }] 49 2 #[] #[{ accessFlags := 18, nameIndex := 14, descriptorIndex := 15, attributes := #[] }, { accessFlags := 18, nameIndex := 18, descriptorIndex := 15, attributes := #[] }, { accessFlags := 18, nameIndex := 21, descriptorIndex := 15, attributes := #[] }])
  fields := #[{ name := "senderCompId", type := (.object "java/lang/String"), accessFlags := 18, slot := 0, constantValue := 0 }, { name := "beginString", type := (.object "java/lang/String"), accessFlags := 18, slot := 1, constantValue := 0 }, { name := "allocReportId", type := (.object "java/lang/String"), accessFlags := 18, slot := 2, constantValue := 0 }]
  methods := #[k8m0, k8m1]
  instanceTypes := #[(.object "java/lang/String"), (.object "java/lang/String"), (.object "java/lang/String")]
  staticTypes := #[]
  resolved := Array.replicate 63 none
  statics := none }

def pool9 : Array CpInfo := pool [(6, .class_ 8), (1, u "java/lang/Object"), (0, u "<init>"), (0, u "()V"), (1, .class_ 14), (1, u "java/lang/StringUTF16"), (31, u "$assertionsDisabled"), (0, u "Z"), (13, u "HI_BYTE_SHIFT"), (0, u "I"), (2, u "LO_BYTE_SHIFT"), (49, .methodref 12 116), (0, .nameAndType 117 118), (0, u "compress"), (0, u "([CI[BII)I"), (3, u "([CII)[B"), (138, u "coderFromArrayLen"), (0, u "([BI)B"), (106, .class_ 371), (1, u "java/lang/StringUTF16$LinesSpliterator"), (58, u "MAX_LENGTH"), (196, .class_ 628), (0, u "java/lang/StringUTF16$CodePointsSpliterator"), (0, .class_ 630), (0, u "java/lang/StringUTF16$CharsSpliterator")] 4

def k9m0 : Method := { name := "<init>", desc := "()V", sig := { parameters := [], returnType := none }, accessFlags := 0, code := none }
def k9c1 : Code := { maxStack := 2, maxLocals := 2, code := jdk_52_method_15_code, exceptionTable := #[], attributes := #[] }
def k9m1 : Method := { name := "coderFromArrayLen", desc := "([BI)B", sig := { parameters := [(.array .byte), .int], returnType := some .byte }, accessFlags := 8, code := some k9c1 }
def k9c2 : Code := { maxStack := 5, maxLocals := 6, code := jdk_52_method_16_code, exceptionTable := #[], attributes := #[] }
def k9m2 : Method := { name := "compress", desc := "([CII)[B", sig := { parameters := [(.array .char), .int, .int], returnType := some (.array .byte) }, accessFlags := 9, code := some k9c2 }
def k9c3 : Code := { maxStack := 3, maxLocals := 7, code := jdk_52_method_21_code, exceptionTable := #[], attributes := #[] }
def k9m3 : Method := { name := "compress", desc := "([CI[BII)I", sig := { parameters := [(.array .char), .int, (.array .byte), .int, .int], returnType := some .int }, accessFlags := 9, code := some k9c3 }
/-- java/lang/StringUTF16 -/
def k9 : Class := { plain "java/lang/StringUTF16" (some 0) with
  accessFlags := 48
  interfaces := #[]
  cf := some (fileOf pool9 12 #[.nestMembers #[627, 629, 369]] #[{ accessFlags := 0, nameIndex := 9, descriptorIndex := 10, attributes := #[] }, { accessFlags := 8, nameIndex := 261, descriptorIndex := 262, attributes := #[] }, { accessFlags := 9, nameIndex := 117, descriptorIndex := 122, attributes := #[] }, { accessFlags := 9, nameIndex := 117, descriptorIndex := 118, attributes := #[] }] 48 6 #[] #[{ accessFlags := 26, nameIndex := 61, descriptorIndex := 62, attributes := #[] }, { accessFlags := 26, nameIndex := 65, descriptorIndex := 62, attributes := #[] }, { accessFlags := 24, nameIndex := 430, descriptorIndex := 62, attributes := #[] }, { accessFlags := 4120, nameIndex := 46, descriptorIndex := 47, attributes := #[] }])
  fields := #[{ name := "HI_BYTE_SHIFT", type := .int, accessFlags := 26, slot := 0, constantValue := 0 }, { name := "LO_BYTE_SHIFT", type := .int, accessFlags := 26, slot := 1, constantValue := 0 }, { name := "MAX_LENGTH", type := .int, accessFlags := 24, slot := 2, constantValue := 0 }, { name := "$assertionsDisabled", type := .boolean, accessFlags := 4120, slot := 3, constantValue := 0 }]
  methods := #[k9m0, k9m1, k9m2, k9m3]
  instanceTypes := #[]
  staticTypes := #[.int, .int, .int, .boolean]
  resolved := Array.replicate 635 none
  statics := none }

def pool10 : Array CpInfo := pool [(1, .class_ 2), (0, u "java/lang/String"), (1, .class_ 6), (1, u "java/lang/Object"), (0, u "<init>"), (0, u "()V"), (0, .methodref 1 10), (0, .nameAndType 11 12), (0, u "checkIndex"), (0, u "(II)V"), (1, .class_ 16), (1, u "java/lang/StringLatin1"), (36, u "([BI)C"), (67, u "$assertionsDisabled"), (0, u "Z"), (98, .class_ 223), (1, u "java/lang/StringLatin1$LinesSpliterator"), (28, u "charAt"), (28, u "equals"), (0, u "([B[B)Z"), (107, .class_ 391), (0, u "java/lang/StringLatin1$CharsSpliterator")] 3

def k10m0 : Method := { name := "<init>", desc := "()V", sig := { parameters := [], returnType := none }, accessFlags := 0, code := none }
def k10c1 : Code := { maxStack := 2, maxLocals := 2, code := jdk_43_method_2_code, exceptionTable := #[], attributes := #[] }
def k10m1 : Method := { name := "charAt", desc := "([BI)C", sig := { parameters := [(.array .byte), .int], returnType := some .char }, accessFlags := 9, code := some k10c1 }
def k10c2 : Code := { maxStack := 3, maxLocals := 3, code := jdk_43_method_13_code, exceptionTable := #[], attributes := #[] }
def k10m2 : Method := { name := "equals", desc := "([B[B)Z", sig := { parameters := [(.array .byte), (.array .byte)], returnType := some .boolean }, accessFlags := 9, code := some k10c2 }
/-- java/lang/StringLatin1 -/
def k10 : Class := { plain "java/lang/StringLatin1" (some 0) with
  accessFlags := 48
  interfaces := #[]
  cf := some (fileOf pool10 14 #[.nestMembers #[390, 221]] #[{ accessFlags := 0, nameIndex := 7, descriptorIndex := 8, attributes := #[] }, { accessFlags := 9, nameIndex := 252, descriptorIndex := 53, attributes := #[] }, { accessFlags := 9, nameIndex := 281, descriptorIndex := 282, attributes := #[] }] 48 4 #[] #[{ accessFlags := 4120, nameIndex := 121, descriptorIndex := 122, attributes := #[] }])
  fields := #[{ name := "$assertionsDisabled", type := .boolean, accessFlags := 4120, slot := 0, constantValue := 0 }]
  methods := #[k10m0, k10m1, k10m2]
  instanceTypes := #[]
  staticTypes := #[.boolean]
  resolved := Array.replicate 395 none
  statics := none }

def pool11 : Array CpInfo := pool [(2, .class_ 4), (1, u "java/lang/Object"), (0, u "<init>"), (0, u "()V"), (17, .class_ 26), (1, u "jdk/internal/util/Preconditions"), (6, u "checkIndex"), (21, .class_ 56), (0, u "jdk/internal/util/Preconditions$4"), (57, .class_ 115), (0, u "jdk/internal/util/Preconditions$1"), (7, u "SIOOBE_FORMATTER"), (0, u "Ljava/util/function/BiFunction;"), (0, .class_ 126), (0, u "jdk/internal/util/Preconditions$2"), (3, u "AIOOBE_FORMATTER"), (0, .class_ 132), (0, u "jdk/internal/util/Preconditions$3"), (3, u "IOOBE_FORMATTER"), (41, u "(IILjava/util/function/BiFunction;)I")] 15

def k11m0 : Method := { name := "<init>", desc := "()V", sig := { parameters := [], returnType := none }, accessFlags := 1, code := none }
def k11c1 : Code := { maxStack := 3, maxLocals := 3, code := jdk_41_method_11_code, exceptionTable := #[], attributes := #[] }
def k11m1 : Method := { name := "checkIndex", desc := "(IILjava/util/function/BiFunction;)I", sig := { parameters := [.int, .int, (.object "java/util/function/BiFunction")], returnType := some .int }, accessFlags := 9, code := some k11c1 }
/-- jdk/internal/util/Preconditions -/
def k11 : Class := { plain "jdk/internal/util/Preconditions" (some 0) with
  accessFlags := 33
  interfaces := #[]
  cf := some (fileOf pool11 24 #[.nestMembers #[55, 131, 125, 114]] #[{ accessFlags := 1, nameIndex := 5, descriptorIndex := 6, attributes := #[] }, { accessFlags := 9, nameIndex := 33, descriptorIndex := 178, attributes := #[] }] 33 2 #[] #[{ accessFlags := 25, nameIndex := 123, descriptorIndex := 124, attributes := #[] }, { accessFlags := 25, nameIndex := 130, descriptorIndex := 124, attributes := #[] }, { accessFlags := 25, nameIndex := 136, descriptorIndex := 124, attributes := #[] }])
  fields := #[{ name := "SIOOBE_FORMATTER", type := (.object "java/util/function/BiFunction"), accessFlags := 25, slot := 0, constantValue := 0 }, { name := "AIOOBE_FORMATTER", type := (.object "java/util/function/BiFunction"), accessFlags := 25, slot := 1, constantValue := 0 }, { name := "IOOBE_FORMATTER", type := (.object "java/util/function/BiFunction"), accessFlags := 25, slot := 2, constantValue := 0 }]
  methods := #[k11m0, k11m1]
  instanceTypes := #[]
  staticTypes := #[(.object "java/util/function/BiFunction"), (.object "java/util/function/BiFunction"), (.object "java/util/function/BiFunction")]
  resolved := Array.replicate 194 none
  statics := some 1 }

def pool12 : Array CpInfo := pool [(9, u "<init>"), (6, .class_ 18), (1, u "java/lang/Object"), (0, u "()V"), (1, .class_ 23), (1, u "jdk/internal/util/ArraysSupport"), (0, u "LOG2_ARRAY_LONG_INDEX_SCALE"), (0, u "I"), (2, u "U"), (0, u "Ljdk/internal/misc/Unsafe;"), (8, u "BIG_ENDIAN"), (0, u "Z"), (8, u "LOG2_BYTE_BIT_SIZE"), (4, u "LOG2_ARRAY_INT_INDEX_SCALE"), (54, u "JLA"), (0, u "Ljdk/internal/access/JavaLangAccess;"), (11, u "LOG2_ARRAY_BOOLEAN_INDEX_SCALE"), (9, u "LOG2_ARRAY_BYTE_INDEX_SCALE"), (5, u "LOG2_ARRAY_CHAR_INDEX_SCALE"), (5, u "LOG2_ARRAY_SHORT_INDEX_SCALE"), (18, u "LOG2_ARRAY_FLOAT_INDEX_SCALE"), (24, u "LOG2_ARRAY_DOUBLE_INDEX_SCALE"), (89, u "T_BOOLEAN"), (2, u "T_CHAR"), (1, u "T_FLOAT"), (1, u "T_DOUBLE"), (1, u "T_BYTE"), (1, u "T_SHORT"), (1, u "T_INT"), (1, u "T_LONG"), (1, u "SOFT_MAX_ARRAY_LENGTH")] 83

def k12m0 : Method := { name := "<init>", desc := "()V", sig := { parameters := [], returnType := none }, accessFlags := 2, code := none }
/-- jdk/internal/util/ArraysSupport -/
def k12 : Class := { plain "jdk/internal/util/ArraysSupport" (some 0) with
  accessFlags := 33
  interfaces := #[]
  cf := some (fileOf pool12 21 #[] #[{ accessFlags := 2, nameIndex := 9, descriptorIndex := 19, attributes := #[] }] 33 16 #[] #[{ accessFlags := 24, nameIndex := 28, descriptorIndex := 29, attributes := #[] }, { accessFlags := 26, nameIndex := 38, descriptorIndex := 39, attributes := #[] }, { accessFlags := 25, nameIndex := 121, descriptorIndex := 25, attributes := #[] }, { accessFlags := 25, nameIndex := 131, descriptorIndex := 25, attributes := #[] }, { accessFlags := 25, nameIndex := 137, descriptorIndex := 25, attributes := #[] }, { accessFlags := 25, nameIndex := 143, descriptorIndex := 25, attributes := #[] }, { accessFlags := 25, nameIndex := 53, descriptorIndex := 25, attributes := #[] }, { accessFlags := 25, nameIndex := 24, descriptorIndex := 25, attributes := #[] }, { accessFlags := 25, nameIndex := 162, descriptorIndex := 25, attributes := #[] }, { accessFlags := 25, nameIndex := 187, descriptorIndex := 25, attributes := #[] }, { accessFlags := 26, nameIndex := 48, descriptorIndex := 25, attributes := #[] }, { accessFlags := 25, nameIndex := 277, descriptorIndex := 25, attributes := #[] }, { accessFlags := 25, nameIndex := 280, descriptorIndex := 25, attributes := #[] }, { accessFlags := 25, nameIndex := 282, descriptorIndex := 25, attributes := #[] }, { accessFlags := 25, nameIndex := 284, descriptorIndex := 25, attributes := #[] }, { accessFlags := 25, nameIndex := 286, descriptorIndex := 25, attributes := #[] }, { accessFlags := 25, nameIndex := 288, descriptorIndex := 25, attributes := #[] }, { accessFlags := 25, nameIndex := 290, descriptorIndex := 25, attributes := #[] }, { accessFlags := 25, nameIndex := 292, descriptorIndex := 25, attributes := #[] }, { accessFlags := 26, nameIndex := 108, descriptorIndex := 109, attributes := #[] }, { accessFlags := 25, nameIndex := 294, descriptorIndex := 25, attributes := #[] }])
  fields := #[{ name := "U", type := (.object "jdk/internal/misc/Unsafe"), accessFlags := 24, slot := 0, constantValue := 0 }, { name := "BIG_ENDIAN", type := .boolean, accessFlags := 26, slot := 1, constantValue := 0 }, { name := "LOG2_ARRAY_BOOLEAN_INDEX_SCALE", type := .int, accessFlags := 25, slot := 2, constantValue := 0 }, { name := "LOG2_ARRAY_BYTE_INDEX_SCALE", type := .int, accessFlags := 25, slot := 3, constantValue := 0 }, { name := "LOG2_ARRAY_CHAR_INDEX_SCALE", type := .int, accessFlags := 25, slot := 4, constantValue := 0 }, { name := "LOG2_ARRAY_SHORT_INDEX_SCALE", type := .int, accessFlags := 25, slot := 5, constantValue := 0 }, { name := "LOG2_ARRAY_INT_INDEX_SCALE", type := .int, accessFlags := 25, slot := 6, constantValue := 0 }, { name := "LOG2_ARRAY_LONG_INDEX_SCALE", type := .int, accessFlags := 25, slot := 7, constantValue := 0 }, { name := "LOG2_ARRAY_FLOAT_INDEX_SCALE", type := .int, accessFlags := 25, slot := 8, constantValue := 0 }, { name := "LOG2_ARRAY_DOUBLE_INDEX_SCALE", type := .int, accessFlags := 25, slot := 9, constantValue := 0 }, { name := "LOG2_BYTE_BIT_SIZE", type := .int, accessFlags := 26, slot := 10, constantValue := 0 }, { name := "T_BOOLEAN", type := .int, accessFlags := 25, slot := 11, constantValue := 0 }, { name := "T_CHAR", type := .int, accessFlags := 25, slot := 12, constantValue := 0 }, { name := "T_FLOAT", type := .int, accessFlags := 25, slot := 13, constantValue := 0 }, { name := "T_DOUBLE", type := .int, accessFlags := 25, slot := 14, constantValue := 0 }, { name := "T_BYTE", type := .int, accessFlags := 25, slot := 15, constantValue := 0 }, { name := "T_SHORT", type := .int, accessFlags := 25, slot := 16, constantValue := 0 }, { name := "T_INT", type := .int, accessFlags := 25, slot := 17, constantValue := 0 }, { name := "T_LONG", type := .int, accessFlags := 25, slot := 18, constantValue := 0 }, { name := "JLA", type := (.object "jdk/internal/access/JavaLangAccess"), accessFlags := 26, slot := 19, constantValue := 0 }, { name := "SOFT_MAX_ARRAY_LENGTH", type := .int, accessFlags := 25, slot := 20, constantValue := 0 }]
  methods := #[k12m0]
  instanceTypes := #[]
  staticTypes := #[(.object "jdk/internal/misc/Unsafe"), .boolean, .int, .int, .int, .int, .int, .int, .int, .int, .int, .int, .int, .int, .int, .int, .int, .int, .int, (.object "jdk/internal/access/JavaLangAccess"), .int]
  resolved := Array.replicate 378 none
  statics := none }

def pool13 : Array CpInfo := pool [(1, u "java/lang/Cloneable"), (0, .class_ 1), (0, u "java/lang/Object"), (0, .class_ 3)] 3

/-- java/lang/Cloneable -/
def k13 : Class := { plain "java/lang/Cloneable" (some 0) with
  accessFlags := 1537
  interfaces := #[]
  cf := some (fileOf pool13 2 #[] #[] 1537 4 #[] #[])
  fields := #[]
  methods := #[]
  instanceTypes := #[]
  staticTypes := #[]
  resolved := Array.replicate 8 none
  statics := none }

/-- the primitive byte -/
def k14 : Class := { plain "byte" none with kind := .primitive 'B', accessFlags := 0x411 }
/-- [B -/
def k15 : Class := { plain "[B" (some 0) with kind := .array 14 .byte, interfaces := #[13, 2], accessFlags := 1041 }

/-- the primitive char -/
def k16 : Class := { plain "char" none with kind := .primitive 'C', accessFlags := 0x411 }
/-- [C -/
def k17 : Class := { plain "[C" (some 0) with kind := .array 16 .char, interfaces := #[13, 2], accessFlags := 1041 }

/-- the primitive int -/
def k18 : Class := { plain "int" none with kind := .primitive 'I', accessFlags := 0x411 }
/-- [I -/
def k19 : Class := { plain "[I" (some 0) with kind := .array 18 .int, interfaces := #[13, 2], accessFlags := 1041 }

def heap : Heap := #[{ cls := 7, slots := #[.long 0, .int 1, .null, .int 0, .null, .int 0, .int 0], vm := .statics 7 },
  { cls := 11, slots := #[.null, .null, .null], vm := .statics 11 }]
def classes : Array Class := #[k0, k1, k2, k3, k4, k5, k6, k7, k8, k9, k10, k11, k12, k13, k14, k15, k16, k17, k18, k19]
def interned : List (Array UInt16 × Addr) := []
def slotsUsed : Nat := 10
def theMethod : MethodId := ⟨1, 1⟩
def args0 : Array Value := #[.int 5, .int 5, .int 5, .int 5, .int 5, .int 5]
def aboutOver (below : List Frame) : State where
  vm := { classes := classes, interned := interned.toArray }
  heap := heap
  slotsUsed := slotsUsed
  threads := #[{ frames := .invoking theMethod args0 :: below }]
def below0 : List Frame := [.native { method := ⟨0, 0⟩, args := #[] }]
def about1 : State := aboutOver below0
def p0 : Program := .bare "" "" ""
def e0 : Env := launch0.env 0 0 0
theorem w_frames : about1.frames = Frame.invoking theMethod args0 :: below0 := rfl
set_option maxRecDepth 65536 in
theorem w_args : argsFit about1.vm theMethod args0 = true := by decide +kernel
set_option maxRecDepth 65536 in
theorem w_heap : heapFits about1 = true := by decide +kernel
set_option maxRecDepth 65536 in
theorem w_runnable : about1.curStatus? = some .runnable := by decide +kernel
set_option maxRecDepth 65536 in
theorem w_alone : about1.alone = true := by decide +kernel
set_option maxRecDepth 65536 in
theorem w_named : about1.methodNamed? x = some theMethod := by decide +kernel
set_option maxRecDepth 65536 in
theorem w_hears : about1.hears theMethod below0 = true := by decide +kernel
set_option maxRecDepth 65536 in
theorem w_ripe : about1.ripe theMethod args0 below0 = true := by decide +kernel
theorem w_running : about1.status = .running := rfl
set_option maxRecDepth 65536 in
theorem w_room : about1.hasRoom e0.platform room_1 = true :=
  launch0.hasRoom_least _ room_1 (by decide +kernel) (by decide +kernel) (by decide +kernel) (by decide +kernel) (by decide +kernel) (by decide +kernel)
theorem allAtoms_all (ts : List Jvm.Cond) (a : Array Jvm.Value) (st : Jvm.State) : (allAtoms ts).before a st = ts.all (fun c => c.before a st) := by
  induction ts with
  | nil => rfl
  | cons c t ih =>
    show (Jvm.Cond.and c (allAtoms t)).before a st = _
    rw [Jvm.Cond.before_and, ih, List.all_cons]
def words1 : List Jvm.Cond := Jvm.Cond.code x code maxLocals ret :: tables_1
/-- a 'code' word, met by the world's own term for the bytes: nothing is compared byte by byte -/
theorem code_word {y : MethodName} {bytes : ByteArray} {mx : Nat} {rt : Option FieldType} {a : Array Value} {s : State} {m : MethodId} {meth : Method} {c : Code} (h1 : s.methodNamed? y = some m) (h2 : s.vm.method? m = some meth) (h3 : meth.code = some c) (h4 : c.code = bytes)
    (h5 : (c.maxLocals == mx && c.exceptionTable.isEmpty && decide (c.maxStack ≤ mostOperands) && decide (meth.sig.returnType = rt) && !meth.locks && decide (parseMethodDescriptor y.desc = some meth.sig)) = true) : (Jvm.Cond.code y bytes mx rt).before a s = true := by
  simp only [Bool.and_eq_true, beq_iff_eq, Bool.not_eq_true', decide_eq_true_eq] at h5
  obtain ⟨⟨⟨⟨⟨g1, g2⟩, g3⟩, g4⟩, g5⟩, g6⟩ := h5
  simp [Cond.before, Cond.holds, Cond.value, h1, h2, h3, h4, g1, g2, g3, g4, g5, g6]
def isCode : Jvm.Cond → Bool
  | .code _ _ _ _ => true
  | _ => false
theorem all_split {L : List Jvm.Cond} {P : Jvm.Cond → Bool} (h1 : L.all (fun c => isCode c || P c) = true) (h2 : ∀ c ∈ L.filter isCode, P c = true) : L.all P = true := by
  refine List.all_eq_true.mpr fun c hc => ?_
  have h := List.all_eq_true.mp h1 c hc
  rcases Bool.eq_false_or_eq_true (isCode c) with hi | hi
  · exact h2 c (List.mem_filter.mpr ⟨hc, hi⟩)
  · simpa [hi] using h
set_option maxRecDepth 65536 in
theorem w_c0 : (Jvm.Cond.code x code maxLocals ret).before args0 about1 = true := code_word (m := ⟨1, 1⟩) (meth := k1m1) (c := k1c1) (by decide +kernel) rfl rfl rfl (by decide +kernel)
set_option maxRecDepth 65536 in
theorem w_c1 : (Jvm.Cond.code ({ cls := "com/example/splitbook/splitbook/book/ReportKeyEqualsPinLaw", name := "str", desc := "(I)Ljava/lang/String;" } : Jvm.MethodName) method_3_code (4 : Nat) (Option.some (Jvm.ClassFile.FieldType.object "java/lang/String"))).before args0 about1 = true := code_word (m := ⟨1, 2⟩) (meth := k1m2) (c := k1c2) (by decide +kernel) rfl rfl rfl (by decide +kernel)
set_option maxRecDepth 65536 in
theorem w_c2 : (Jvm.Cond.code ({ cls := "java/lang/String", name := "<init>", desc := "([C)V" } : Jvm.MethodName) jdk_42_method_3_code (2 : Nat) (Option.none : Option Jvm.ClassFile.FieldType)).before args0 about1 = true := code_word (m := ⟨7, 1⟩) (meth := k7m1) (c := k7c1) (by decide +kernel) rfl rfl rfl (by decide +kernel)
set_option maxRecDepth 65536 in
theorem w_c3 : (Jvm.Cond.code ({ cls := "java/lang/String", name := "<init>", desc := "([CIILjava/lang/Void;)V" } : Jvm.MethodName) jdk_42_method_149_code (6 : Nat) (Option.none : Option Jvm.ClassFile.FieldType)).before args0 about1 = true := code_word (m := ⟨7, 5⟩) (meth := k7m5) (c := k7c5) (by decide +kernel) rfl rfl rfl (by decide +kernel)
set_option maxRecDepth 65536 in
theorem w_c4 : (Jvm.Cond.code ({ cls := "java/lang/Object", name := "<init>", desc := "()V" } : Jvm.MethodName) object_method_1_code (1 : Nat) (Option.none : Option Jvm.ClassFile.FieldType)).before args0 about1 = true := code_word (m := ⟨0, 0⟩) (meth := k0m0) (c := k0c0) (by decide +kernel) rfl rfl rfl (by decide +kernel)
set_option maxRecDepth 65536 in
theorem w_c5 : (Jvm.Cond.code ({ cls := "com/example/splitbook/splitbook/book/ReportKey", name := "<init>", desc := "(Ljava/lang/String;Ljava/lang/String;Ljava/lang/String;)V" } : Jvm.MethodName) prog_33_method_1_code (4 : Nat) (Option.none : Option Jvm.ClassFile.FieldType)).before args0 about1 = true := code_word (m := ⟨8, 0⟩) (meth := k8m0) (c := k8c0) (by decide +kernel) rfl rfl rfl (by decide +kernel)
set_option maxRecDepth 65536 in
theorem w_c6 : (Jvm.Cond.code ({ cls := "com/example/splitbook/splitbook/book/ReportKey", name := "equals", desc := "(Ljava/lang/Object;)Z" } : Jvm.MethodName) prog_33_method_5_code (3 : Nat) (Option.some Jvm.ClassFile.FieldType.boolean)).before args0 about1 = true := code_word (m := ⟨8, 1⟩) (meth := k8m1) (c := k8c1) (by decide +kernel) rfl rfl rfl (by decide +kernel)
set_option maxRecDepth 65536 in
theorem w_c7 : (Jvm.Cond.code ({ cls := "java/lang/StringUTF16", name := "compress", desc := "([CII)[B" } : Jvm.MethodName) jdk_52_method_16_code (6 : Nat) (Option.some (Jvm.ClassFile.FieldType.array Jvm.ClassFile.FieldType.byte))).before args0 about1 = true := code_word (m := ⟨9, 2⟩) (meth := k9m2) (c := k9c2) (by decide +kernel) rfl rfl rfl (by decide +kernel)
set_option maxRecDepth 65536 in
theorem w_c8 : (Jvm.Cond.code ({ cls := "java/lang/StringUTF16", name := "compress", desc := "([CI[BII)I" } : Jvm.MethodName) jdk_52_method_21_code (7 : Nat) (Option.some Jvm.ClassFile.FieldType.int)).before args0 about1 = true := code_word (m := ⟨9, 3⟩) (meth := k9m3) (c := k9c3) (by decide +kernel) rfl rfl rfl (by decide +kernel)
set_option maxRecDepth 65536 in
theorem w_c9 : (Jvm.Cond.code ({ cls := "java/lang/StringUTF16", name := "coderFromArrayLen", desc := "([BI)B" } : Jvm.MethodName) jdk_52_method_15_code (2 : Nat) (Option.some Jvm.ClassFile.FieldType.byte)).before args0 about1 = true := code_word (m := ⟨9, 1⟩) (meth := k9m1) (c := k9c1) (by decide +kernel) rfl rfl rfl (by decide +kernel)
set_option maxRecDepth 65536 in
theorem w_c10 : (Jvm.Cond.code ({ cls := "com/example/splitbook/splitbook/book/ReportKeyEqualsPinLaw", name := "same", desc := "(Ljava/lang/String;Ljava/lang/String;)Z" } : Jvm.MethodName) method_4_code (2 : Nat) (Option.some Jvm.ClassFile.FieldType.boolean)).before args0 about1 = true := code_word (m := ⟨1, 3⟩) (meth := k1m3) (c := k1c3) (by decide +kernel) rfl rfl rfl (by decide +kernel)
set_option maxRecDepth 65536 in
theorem w_c11 : (Jvm.Cond.code ({ cls := "java/lang/String", name := "length", desc := "()I" } : Jvm.MethodName) jdk_42_method_54_code (1 : Nat) (Option.some Jvm.ClassFile.FieldType.int)).before args0 about1 = true := code_word (m := ⟨7, 2⟩) (meth := k7m2) (c := k7c2) (by decide +kernel) rfl rfl rfl (by decide +kernel)
set_option maxRecDepth 65536 in
theorem w_c12 : (Jvm.Cond.code ({ cls := "java/lang/String", name := "coder", desc := "()B" } : Jvm.MethodName) jdk_42_method_152_code (1 : Nat) (Option.some Jvm.ClassFile.FieldType.byte)).before args0 about1 = true := code_word (m := ⟨7, 6⟩) (meth := k7m6) (c := k7c6) (by decide +kernel) rfl rfl rfl (by decide +kernel)
set_option maxRecDepth 65536 in
theorem w_c13 : (Jvm.Cond.code ({ cls := "java/lang/String", name := "charAt", desc := "(I)C" } : Jvm.MethodName) jdk_42_method_56_code (2 : Nat) (Option.some Jvm.ClassFile.FieldType.char)).before args0 about1 = true := code_word (m := ⟨7, 3⟩) (meth := k7m3) (c := k7c3) (by decide +kernel) rfl rfl rfl (by decide +kernel)
set_option maxRecDepth 65536 in
theorem w_c14 : (Jvm.Cond.code ({ cls := "java/lang/String", name := "isLatin1", desc := "()Z" } : Jvm.MethodName) jdk_42_method_154_code (1 : Nat) (Option.some Jvm.ClassFile.FieldType.boolean)).before args0 about1 = true := code_word (m := ⟨7, 7⟩) (meth := k7m7) (c := k7c7) (by decide +kernel) rfl rfl rfl (by decide +kernel)
set_option maxRecDepth 65536 in
theorem w_c15 : (Jvm.Cond.code ({ cls := "java/lang/StringLatin1", name := "charAt", desc := "([BI)C" } : Jvm.MethodName) jdk_43_method_2_code (2 : Nat) (Option.some Jvm.ClassFile.FieldType.char)).before args0 about1 = true := code_word (m := ⟨10, 1⟩) (meth := k10m1) (c := k10c1) (by decide +kernel) rfl rfl rfl (by decide +kernel)
set_option maxRecDepth 65536 in
theorem w_c16 : (Jvm.Cond.code ({ cls := "java/lang/String", name := "checkIndex", desc := "(II)V" } : Jvm.MethodName) jdk_42_method_155_code (2 : Nat) (Option.none : Option Jvm.ClassFile.FieldType)).before args0 about1 = true := code_word (m := ⟨7, 8⟩) (meth := k7m8) (c := k7c8) (by decide +kernel) rfl rfl rfl (by decide +kernel)
set_option maxRecDepth 65536 in
theorem w_c17 : (Jvm.Cond.code ({ cls := "jdk/internal/util/Preconditions", name := "checkIndex", desc := "(IILjava/util/function/BiFunction;)I" } : Jvm.MethodName) jdk_41_method_11_code (3 : Nat) (Option.some Jvm.ClassFile.FieldType.int)).before args0 about1 = true := code_word (m := ⟨11, 1⟩) (meth := k11m1) (c := k11c1) (by decide +kernel) rfl rfl rfl (by decide +kernel)
set_option maxRecDepth 65536 in
theorem w_c18 : (Jvm.Cond.code ({ cls := "java/lang/String", name := "equals", desc := "(Ljava/lang/Object;)Z" } : Jvm.MethodName) jdk_42_method_66_code (3 : Nat) (Option.some Jvm.ClassFile.FieldType.boolean)).before args0 about1 = true := code_word (m := ⟨7, 4⟩) (meth := k7m4) (c := k7c4) (by decide +kernel) rfl rfl rfl (by decide +kernel)
set_option maxRecDepth 65536 in
theorem w_c19 : (Jvm.Cond.code ({ cls := "java/lang/StringLatin1", name := "equals", desc := "([B[B)Z" } : Jvm.MethodName) jdk_43_method_13_code (3 : Nat) (Option.some Jvm.ClassFile.FieldType.boolean)).before args0 about1 = true := code_word (m := ⟨10, 2⟩) (meth := k10m2) (c := k10c2) (by decide +kernel) rfl rfl rfl (by decide +kernel)
def codes1 : List Jvm.Cond := [Jvm.Cond.code x code maxLocals ret, Jvm.Cond.code ({ cls := "com/example/splitbook/splitbook/book/ReportKeyEqualsPinLaw", name := "str", desc := "(I)Ljava/lang/String;" } : Jvm.MethodName) method_3_code (4 : Nat) (Option.some (Jvm.ClassFile.FieldType.object "java/lang/String")), Jvm.Cond.code ({ cls := "java/lang/String", name := "<init>", desc := "([C)V" } : Jvm.MethodName) jdk_42_method_3_code (2 : Nat) (Option.none : Option Jvm.ClassFile.FieldType), Jvm.Cond.code ({ cls := "java/lang/String", name := "<init>", desc := "([CIILjava/lang/Void;)V" } : Jvm.MethodName) jdk_42_method_149_code (6 : Nat) (Option.none : Option Jvm.ClassFile.FieldType), Jvm.Cond.code ({ cls := "java/lang/Object", name := "<init>", desc := "()V" } : Jvm.MethodName) object_method_1_code (1 : Nat) (Option.none : Option Jvm.ClassFile.FieldType), Jvm.Cond.code ({ cls := "com/example/splitbook/splitbook/book/ReportKey", name := "<init>", desc := "(Ljava/lang/String;Ljava/lang/String;Ljava/lang/String;)V" } : Jvm.MethodName) prog_33_method_1_code (4 : Nat) (Option.none : Option Jvm.ClassFile.FieldType), Jvm.Cond.code ({ cls := "com/example/splitbook/splitbook/book/ReportKey", name := "equals", desc := "(Ljava/lang/Object;)Z" } : Jvm.MethodName) prog_33_method_5_code (3 : Nat) (Option.some Jvm.ClassFile.FieldType.boolean), Jvm.Cond.code ({ cls := "java/lang/StringUTF16", name := "compress", desc := "([CII)[B" } : Jvm.MethodName) jdk_52_method_16_code (6 : Nat) (Option.some (Jvm.ClassFile.FieldType.array Jvm.ClassFile.FieldType.byte)), Jvm.Cond.code ({ cls := "java/lang/StringUTF16", name := "compress", desc := "([CI[BII)I" } : Jvm.MethodName) jdk_52_method_21_code (7 : Nat) (Option.some Jvm.ClassFile.FieldType.int), Jvm.Cond.code ({ cls := "java/lang/StringUTF16", name := "coderFromArrayLen", desc := "([BI)B" } : Jvm.MethodName) jdk_52_method_15_code (2 : Nat) (Option.some Jvm.ClassFile.FieldType.byte), Jvm.Cond.code ({ cls := "com/example/splitbook/splitbook/book/ReportKeyEqualsPinLaw", name := "same", desc := "(Ljava/lang/String;Ljava/lang/String;)Z" } : Jvm.MethodName) method_4_code (2 : Nat) (Option.some Jvm.ClassFile.FieldType.boolean), Jvm.Cond.code ({ cls := "java/lang/String", name := "length", desc := "()I" } : Jvm.MethodName) jdk_42_method_54_code (1 : Nat) (Option.some Jvm.ClassFile.FieldType.int), Jvm.Cond.code ({ cls := "java/lang/String", name := "coder", desc := "()B" } : Jvm.MethodName) jdk_42_method_152_code (1 : Nat) (Option.some Jvm.ClassFile.FieldType.byte), Jvm.Cond.code ({ cls := "java/lang/String", name := "charAt", desc := "(I)C" } : Jvm.MethodName) jdk_42_method_56_code (2 : Nat) (Option.some Jvm.ClassFile.FieldType.char), Jvm.Cond.code ({ cls := "java/lang/String", name := "isLatin1", desc := "()Z" } : Jvm.MethodName) jdk_42_method_154_code (1 : Nat) (Option.some Jvm.ClassFile.FieldType.boolean), Jvm.Cond.code ({ cls := "java/lang/StringLatin1", name := "charAt", desc := "([BI)C" } : Jvm.MethodName) jdk_43_method_2_code (2 : Nat) (Option.some Jvm.ClassFile.FieldType.char), Jvm.Cond.code ({ cls := "java/lang/String", name := "checkIndex", desc := "(II)V" } : Jvm.MethodName) jdk_42_method_155_code (2 : Nat) (Option.none : Option Jvm.ClassFile.FieldType), Jvm.Cond.code ({ cls := "jdk/internal/util/Preconditions", name := "checkIndex", desc := "(IILjava/util/function/BiFunction;)I" } : Jvm.MethodName) jdk_41_method_11_code (3 : Nat) (Option.some Jvm.ClassFile.FieldType.int), Jvm.Cond.code ({ cls := "java/lang/String", name := "equals", desc := "(Ljava/lang/Object;)Z" } : Jvm.MethodName) jdk_42_method_66_code (3 : Nat) (Option.some Jvm.ClassFile.FieldType.boolean), Jvm.Cond.code ({ cls := "java/lang/StringLatin1", name := "equals", desc := "([B[B)Z" } : Jvm.MethodName) jdk_43_method_13_code (3 : Nat) (Option.some Jvm.ClassFile.FieldType.boolean)]
set_option maxRecDepth 65536 in
theorem codes_eq : words1.filter isCode = codes1 := rfl
theorem w_codes : ∀ c ∈ words1.filter isCode, c.before args0 about1 = true := by
  rw [codes_eq]
  intro c hc
  simp only [codes1, List.mem_cons, List.not_mem_nil, or_false] at hc
  rcases hc with rfl | rfl | rfl | rfl | rfl | rfl | rfl | rfl | rfl | rfl | rfl | rfl | rfl | rfl | rfl | rfl | rfl | rfl | rfl | rfl
  · exact w_c0
  · exact w_c1
  · exact w_c2
  · exact w_c3
  · exact w_c4
  · exact w_c5
  · exact w_c6
  · exact w_c7
  · exact w_c8
  · exact w_c9
  · exact w_c10
  · exact w_c11
  · exact w_c12
  · exact w_c13
  · exact w_c14
  · exact w_c15
  · exact w_c16
  · exact w_c17
  · exact w_c18
  · exact w_c19
set_option maxRecDepth 65536 in
theorem w_t1 : (words1.take 24).all (fun c => isCode c || c.before args0 about1) = true := by decide +kernel
set_option maxRecDepth 65536 in
theorem w_t2 : ((words1.drop 24).take 24).all (fun c => isCode c || c.before args0 about1) = true := by decide +kernel
set_option maxRecDepth 65536 in
theorem w_t3 : (((words1.drop 24).drop 24).take 24).all (fun c => isCode c || c.before args0 about1) = true := by decide +kernel
set_option maxRecDepth 65536 in
theorem w_t4 : ((((words1.drop 24).drop 24).drop 24).take 24).all (fun c => isCode c || c.before args0 about1) = true := by decide +kernel
set_option maxRecDepth 65536 in
theorem w_t5 : ((((words1.drop 24).drop 24).drop 24).drop 24).all (fun c => isCode c || c.before args0 about1) = true := by decide +kernel
theorem w_tables : (allAtoms (Jvm.Cond.code x code maxLocals ret :: tables_1)).before args0 about1 = true := by
  rw [allAtoms_all]
  show words1.all (fun c => c.before args0 about1) = true
  refine all_split ?_ w_codes
  rw [← List.take_append_drop 24 words1, List.all_append, w_t1, ← List.take_append_drop 24 (words1.drop 24), List.all_append, w_t2, ← List.take_append_drop 24 ((words1.drop 24).drop 24), List.all_append, w_t3, ← List.take_append_drop 24 (((words1.drop 24).drop 24).drop 24), List.all_append, w_t4, w_t5]
  rfl
set_option maxRecDepth 65536 in
theorem w_rest : rest_1_c.before args0 about1 = true := by decide +kernel
set_option maxRecDepth 65536 in
theorem w_case : (Jvm.Cond.and given_1 narrow_1).before args0 about1 = true := by decide +kernel
set_option maxRecDepth 65536 in
theorem w_consts : constsHeld consts_1 about1 := Jvm.Lit.constsHeldB_iff.mp (by decide +kernel)
theorem w_applies : (headSpec (Jvm.Cond.code x code maxLocals ret :: tables_1) room_1).applies x e0.platform about1 = true :=
  (Spec.applies_iff w_frames).mpr ⟨w_running, w_runnable, w_alone, w_named, w_hears, w_ripe, w_room, w_tables⟩
theorem atStart : AtStart classFile x code maxLocals ret World_1 tables_1 room_1 Calls_1 rest_1 Pre_1 launch0 p0 e0 about1 theMethod args0 below0 :=
  ⟨lists_1, trivial, launch0.admits_env _ _ _, launch0.least_env, fairChoices_fair.cas, fairChoices_fair.clock, w_frames, w_args, w_heap, w_applies, ⟨w_consts, trivial⟩, w_rest, w_case⟩
end start1
theorem witness_1 : WitnessClaimed_1 := ⟨start1.p0, start1.e0, start1.about1, start1.theMethod, start1.args0, start1.below0, start1.atStart⟩
end Jvm.Pilot.@@N@@
