import JvmDerived
import JvmDerived.Pilot.@@N@@Statement
import JvmDerived.Pilot.@@N@@Code
set_option linter.unusedVariables false
set_option linter.unusedSimpArgs false
/- laws to paste: Road.backV (cut by pick.py; bodies as the Statement names them) -/
namespace Jvm.Pilot.@@N@@
namespace StrChars
open Jvm Sem ClassFile Op Lib Jvm.Stand Jvm.Free.XT Jvm.Free.ALB Jvm.Free.JM Jvm.Free
open Jvm.Lib.Cold (StaticIs)
/-- a char array whose places are chars -/
def Ch (a : Addr) (A : Cell) (U : State) : Prop := Arr .char a A U ∧ Typed .char A
theorem Ch.mv {a : Addr} {A : Cell} {U U' : State} (h : Ch a A U) (hal : U.vm.Alike U'.vm) (hh : U'.heap = U.heap) : Ch a A U' := ⟨h.1.mv hal hh, h.2⟩
theorem Ch.keep {a : Addr} {A : Cell} {U U' : State} (h : Ch a A U) (hal : U.vm.Alike U'.vm) (hk : U'.heap[a]? = some A) : Ch a A U' := ⟨h.1.keep hal hk, h.2⟩
/-- what place i of a char[]'s cell holds -/
def cv (A : Cell) (i : Nat) : Int32 := match A.slots[i]? with | some (.int x) => x | _ => 0
theorem Ch.get {a : Addr} {A : Cell} {U : State} (h : Ch a A U) {i : Nat} (hi : i < A.slots.size) : A.slots[i]? = some (.int (cv A i)) := by
  have e := Array.getElem?_eq_getElem hi
  have f := h.2 i _ e
  unfold cv; rw [e]
  generalize A.slots[i] = v at f
  cases v <;> simp [fits] at f ⊢
/-- the byte that i2b leaves of a char -/
def lo8 (x : Int32) : Int32 := x.toInt8.toInt32
theorem fits_lo8 (y : Int32) : fits .byte (.int (lo8 y)) = true := by
  have h1 := y.toInt8.le_toInt
  have h2 := y.toInt8.toInt_lt
  simp only [lo8, fits, Bool.and_eq_true, decide_eq_true_eq, Int32.le_iff_toInt_le, Int8.toInt_toInt32, show (-128 : Int32).toInt = -128 from by decide, show (127 : Int32).toInt = 127 from by decide]
  omega
/-- A' is A but that each place j of lo .. hi - 1 holds f j -/
def Laid (A A' : Cell) (lo hi : Nat) (f : Nat → Value) : Prop := A'.cls = A.cls ∧ A'.vm = A.vm ∧ A'.slots.size = A.slots.size ∧ ∀ i, A'.slots[i]? = if lo ≤ i ∧ i < hi then some (f i) else A.slots[i]?
theorem Laid.zero (A : Cell) (lo : Nat) (f : Nat → Value) : Laid A A lo (lo + 0) f := ⟨rfl, rfl, rfl, fun i => by rw [if_neg (by omega)]⟩
theorem Laid.step {A Ak : Cell} {lo k : Nat} {f : Nat → Value} {v : Value} (h : Laid A Ak lo k f) (hlo : lo ≤ k) (hk : k < Ak.slots.size) (hv : v = f k) : Laid A (Ak.setSlot k v) lo (k + 1) f := by
  refine ⟨h.1, h.2.1, by simpa [Cell.setSlot] using h.2.2.1, fun i => ?_⟩
  by_cases e : k = i
  · subst e; rw [Cell.slots_setSlot_self v hk, if_pos (by omega), hv]
  · rw [Cell.slots_setSlot_ne v e, h.2.2.2 i]
    by_cases q : lo ≤ i ∧ i < k
    · rw [if_pos q, if_pos (by omega)]
    · rw [if_neg q, if_neg (by omega)]
def U16 : String := "java/lang/StringUTF16"
namespace Cmp5
def yN : MethodName := ⟨"java/lang/StringUTF16", "compress", "([CI[BII)I"⟩
abbrev yB : ByteArray := jdk_52_method_21_code
theorem d0 : decode yB 0 = .ok (.iconst 0, 1) := by decide +kernel
theorem d1 : decode yB 1 = .ok (.istore 5, 2) := by decide +kernel
theorem d3 : decode yB 3 = .ok (.iload 5, 2) := by decide +kernel
theorem d5 : decode yB 5 = .ok (.iload 4, 2) := by decide +kernel
theorem d7 : decode yB 7 = .ok (.if_icmp (.ge) 37, 3) := by decide +kernel
theorem d10 : decode yB 10 = .ok (.aload_n 0, 1) := by decide +kernel
theorem d11 : decode yB 11 = .ok (.iload_n 1, 1) := by decide +kernel
theorem d12 : decode yB 12 = .ok (.caload, 1) := by decide +kernel
theorem d13 : decode yB 13 = .ok (.istore 6, 2) := by decide +kernel
theorem d15 : decode yB 15 = .ok (.iload 6, 2) := by decide +kernel
theorem d17 : decode yB 17 = .ok (.sipush 255, 3) := by decide +kernel
theorem d20 : decode yB 20 = .ok (.if_icmp (.le) 6, 3) := by decide +kernel
theorem d26 : decode yB 26 = .ok (.aload_n 2, 1) := by decide +kernel
theorem d27 : decode yB 27 = .ok (.iload_n 3, 1) := by decide +kernel
theorem d28 : decode yB 28 = .ok (.iload 6, 2) := by decide +kernel
theorem d30 : decode yB 30 = .ok (.i2b, 1) := by decide +kernel
theorem d31 : decode yB 31 = .ok (.bastore, 1) := by decide +kernel
theorem d32 : decode yB 32 = .ok (.iinc 1 1, 3) := by decide +kernel
theorem d35 : decode yB 35 = .ok (.iinc 3 1, 3) := by decide +kernel
theorem d38 : decode yB 38 = .ok (.iinc 5 1, 3) := by decide +kernel
theorem d41 : decode yB 41 = .ok (.goto (-38), 3) := by decide +kernel
theorem d44 : decode yB 44 = .ok (.iload 4, 2) := by decide +kernel
theorem d46 : decode yB 46 = .ok (.ireturn, 1) := by decide +kernel
def site : List Cond := []
def tab : Cond := tabOf yN yB 7 (some .int) site
def P (b : Addr) (A : Cell) (d : Addr) (B : Cell) (o q len : Nat) (args : Array Value) (s : State) : Prop := args = #[.ref b, .int (Int32.ofNat o), .ref d, .int (Int32.ofNat q), .int (Int32.ofNat len)] ∧ Ch b A s ∧ Arr .byte d B s ∧ b ≠ d ∧ o + len ≤ A.slots.size ∧ q + len ≤ B.slots.size ∧ ∀ i, i < len → ¬ 255 < cv A (o + i)
def E (b : Addr) (A : Cell) (d : Addr) (B : Cell) (o q len : Nat) (r : Option Value) (s u : State) : Prop := r = some (.int (Int32.ofNat len)) ∧ ∃ B', Put d B' s u ∧ Laid B B' q (q + len) (fun j => Value.int (lo8 (cv A (o + (j - q)))))
/-- no char of the range above 255: len; the places written hold each char's low byte -/
theorem law (l : Launch) (b : Addr) (A : Cell) (d : Addr) (B : Cell) (o q len : Nat) : Law l yN 5 5 0 0 yB 7 (some .int) site (P b A d B o q len) (E b A d B o q len) (copyLocs d q len) 0 0 := by
  refine Law.of_walk (plainFor_of_name (by decide +kernel)) (by decide +kernel) (by decide +kernel) (by decide) (fun _ _ h => by rw [h.1]; rfl) (fun _ U U' hal hh h => ⟨h.1, h.2.1.mv hal hh, h.2.2.1.mv hal hh, h.2.2.2⟩) (fun r U U' V V' h1 hal h2 h => ⟨h.1, h.2.elim fun B' q => ⟨B', q.1.mv h1 h2, q.2⟩⟩) ?_
  intro p e s m args below meth c s₁ X0 hexec hbytes hml hret hlk hnm hown hh0 W hP
  obtain ⟨rfl, hA, hB, hne, l1, l2, hp⟩ := hP
  have c1 : Steps p.tables e below (s₁.setTop (entryFrame m #[.ref b, .int (Int32.ofNat o), .ref d, .int (Int32.ofNat q), .int (Int32.ofNat len)] 7)) (s₁.setTop (mkF m 0 #[.val (.ref b), .val (.int (Int32.ofNat o)), .val (.ref d), .val (.int (Int32.ofNat q)), .val (.int (Int32.ofNat len)), .unset, .unset] [])) := entry rfl
  have hA0 := hA.1.mv X0.warmed.alike hh0
  have hB0 := hB.mv X0.warmed.alike hh0
  have a31 := hA.1.2.2.2
  have c2 : Steps p.tables e below (s₁.setTop (entryFrame m #[.ref b, .int (Int32.ofNat o), .ref d, .int (Int32.ofNat q), .int (Int32.ofNat len)] 7)) (s₁.setTop (mkF m 3 #[.val (.ref b), .val (.int (Int32.ofNat o)), .val (.ref d), .val (.int (Int32.ofNat q)), .val (.int (Int32.ofNat len)), .val (.int 0), .unset] [])) := c1.trans (by
    refine iconstV X0.here hexec rfl 0 (hb hbytes d0) (by decide) ?_
    refine XS.istore X0.here hexec rfl (hb hbytes d1) rfl rfl ?_
    exact Steps.refl _)
  have loop : ∀ (r i : Nat), i + r = len → ∀ (z : Slot), (z = .unset ∨ ∃ w, z = .val w ∧ w.category = 1) → ∀ (Tl : State) (Bk : Cell), Stand p l e { frames := 0, locals := 0, cells := 0, slots := 0 } s m #[.ref b, .int (Int32.ofNat o), .ref d, .int (Int32.ofNat q), .int (Int32.ofNat len)] below meth c Tl ([] ++ copyLocs d q i) 0 0 → Put d Bk s₁ Tl → Laid B Bk q (q + i) (fun j => Value.int (lo8 (cv A (o + (j - q))))) →
      Steps p.tables e below (s₁.setTop (entryFrame m #[.ref b, .int (Int32.ofNat o), .ref d, .int (Int32.ofNat q), .int (Int32.ofNat len)] 7)) (Tl.setTop (mkF m 3 #[.val (.ref b), .val (.int (Int32.ofNat (o + i))), .val (.ref d), .val (.int (Int32.ofNat (q + i))), .val (.int (Int32.ofNat len)), .val (.int (Int32.ofNat i)), z] [])) → ∃ (T' : State) (B' : Cell) (z' : Slot), Stand p l e { frames := 0, locals := 0, cells := 0, slots := 0 } s m #[.ref b, .int (Int32.ofNat o), .ref d, .int (Int32.ofNat q), .int (Int32.ofNat len)] below meth c T' ([] ++ copyLocs d q len) 0 0 ∧ Put d B' s₁ T' ∧ Laid B B' q (q + len) (fun j => Value.int (lo8 (cv A (o + (j - q))))) ∧
      Steps p.tables e below (s₁.setTop (entryFrame m #[.ref b, .int (Int32.ofNat o), .ref d, .int (Int32.ofNat q), .int (Int32.ofNat len)] 7)) (T'.setTop (mkF m 3 #[.val (.ref b), .val (.int (Int32.ofNat (o + len))), .val (.ref d), .val (.int (Int32.ofNat (q + len))), .val (.int (Int32.ofNat len)), .val (.int (Int32.ofNat len)), z'] [])) := by
    intro r
    induction r with
    | zero =>
      intro i hi z hz Tl Bk Xl pl fl cl
      have hil : i = len := by omega
      rw [hil] at Xl fl cl
      exact ⟨Tl, Bk, z, Xl, pl, fl, cl⟩
    | succ r ih =>
      intro i hi z hz Tl Bk Xl pl fl cl
      have all := X0.warmed.alike.symm.trans Xl.warmed.alike
      have hAl := hA0.keep all (pl.other hne hA0.1)
      have hBk := hB0.like all pl.1 fl.1 fl.2.1 fl.2.2.1
      have hlt : q + i < Bk.slots.size := by rw [fl.2.2.1]; omega
      have c3 : Steps p.tables e below (s₁.setTop (entryFrame m #[.ref b, .int (Int32.ofNat o), .ref d, .int (Int32.ofNat q), .int (Int32.ofNat len)] 7)) (Tl.setTop (mkF m 12 #[.val (.ref b), .val (.int (Int32.ofNat (o + i))), .val (.ref d), .val (.int (Int32.ofNat (q + i))), .val (.int (Int32.ofNat len)), .val (.int (Int32.ofNat i)), z] [.int (Int32.ofNat (o + i)), .ref b])) := cl.trans (by
        refine XS.iload Xl.here hexec rfl (hb hbytes d3) rfl ?_
        refine XS.iload Xl.here hexec rfl (hb hbytes d5) rfl ?_
        refine XS.icmpNo Xl.here hexec rfl (hb hbytes d7) rfl (ii_ge_f (lt32 (by omega) (by omega))) ?_
        refine XS.aloadN Xl.here hexec rfl (hb hbytes d10) rfl rfl ?_
        refine XS.iloadN Xl.here hexec rfl (hb hbytes d11) rfl ?_
        exact Steps.refl _)
      have c4 : Steps p.tables e below (s₁.setTop (entryFrame m #[.ref b, .int (Int32.ofNat o), .ref d, .int (Int32.ofNat q), .int (Int32.ofNat len)] 7)) (Tl.setTop (mkF m 13 #[.val (.ref b), .val (.int (Int32.ofNat (o + i))), .val (.ref d), .val (.int (Int32.ofNat (q + i))), .val (.int (Int32.ofNat len)), .val (.int (Int32.ofNat i)), z] [.int (cv A (o + i))])) := c3.trans (by
        refine Xl.aget hexec hAl rfl (hA.get (i := o + i) (by omega)) rfl rfl (hb hbytes d12) ?_
        exact Steps.refl _)
      have c5 : Steps p.tables e below (s₁.setTop (entryFrame m #[.ref b, .int (Int32.ofNat o), .ref d, .int (Int32.ofNat q), .int (Int32.ofNat len)] 7)) (Tl.setTop (mkF m 15 #[.val (.ref b), .val (.int (Int32.ofNat (o + i))), .val (.ref d), .val (.int (Int32.ofNat (q + i))), .val (.int (Int32.ofNat len)), .val (.int (Int32.ofNat i)), .val (.int (cv A (o + i)))] [])) := c4.trans (by
        refine XS.istoreS Xl.here hexec rfl (hb hbytes d13) rfl rfl hz ?_
        exact Steps.refl _)
      have c6 : Steps p.tables e below (s₁.setTop (entryFrame m #[.ref b, .int (Int32.ofNat o), .ref d, .int (Int32.ofNat q), .int (Int32.ofNat len)] 7)) (Tl.setTop (mkF m 31 #[.val (.ref b), .val (.int (Int32.ofNat (o + i))), .val (.ref d), .val (.int (Int32.ofNat (q + i))), .val (.int (Int32.ofNat len)), .val (.int (Int32.ofNat i)), .val (.int (cv A (o + i)))] [.int (lo8 (cv A (o + i))), .int (Int32.ofNat (q + i)), .ref d])) := c5.trans (by
        refine XS.iload Xl.here hexec rfl (hb hbytes d15) rfl ?_
        refine sipushV Xl.here hexec rfl 255 (hb hbytes d17) (by decide) ?_
        refine XS.icmpYes Xl.here hexec rfl (pc0 := 20) rfl (hb hbytes d20) rfl (ii_le_t (hp i (by omega))) (by decide) rfl ?_
        refine XS.aloadN Xl.here hexec rfl (hb hbytes d26) rfl rfl ?_
        refine XS.iloadN Xl.here hexec rfl (hb hbytes d27) rfl ?_
        refine XS.iload Xl.here hexec rfl (hb hbytes d28) rfl ?_
        refine i2b Xl.here hexec rfl (hb hbytes d30) rfl ?_
        exact Steps.refl _)
      obtain ⟨T7, X7, p7, st7⟩ := Xl.aput hexec hBk rfl hlt rfl (fits_lo8 (cv A (o + i))) (g := (mkF m 31 #[.val (.ref b), .val (.int (Int32.ofNat (o + i))), .val (.ref d), .val (.int (Int32.ofNat (q + i))), .val (.int (Int32.ofNat len)), .val (.int (Int32.ofNat i)), .val (.int (cv A (o + i)))] [.int (lo8 (cv A (o + i))), .int (Int32.ofNat (q + i)), .ref d])) rfl (rest := []) rfl (hb hbytes d31)
      have c8 : Steps p.tables e below (s₁.setTop (entryFrame m #[.ref b, .int (Int32.ofNat o), .ref d, .int (Int32.ofNat q), .int (Int32.ofNat len)] 7)) (T7.setTop (mkF m 32 #[.val (.ref b), .val (.int (Int32.ofNat (o + i))), .val (.ref d), .val (.int (Int32.ofNat (q + i))), .val (.int (Int32.ofNat len)), .val (.int (Int32.ofNat i)), .val (.int (cv A (o + i)))] [])) := c6.trans (st7 _ (Steps.refl _))
      have c9 : Steps p.tables e below (s₁.setTop (entryFrame m #[.ref b, .int (Int32.ofNat o), .ref d, .int (Int32.ofNat q), .int (Int32.ofNat len)] 7)) (T7.setTop (mkF m 3 #[.val (.ref b), .val (.int (Int32.ofNat (o + i) + 1)), .val (.ref d), .val (.int (Int32.ofNat (q + i) + 1)), .val (.int (Int32.ofNat len)), .val (.int (Int32.ofNat i + 1)), .val (.int (cv A (o + i)))] [])) := c8.trans (by
        refine iincV X7.here hexec rfl 1 (hb hbytes d32) (by decide) rfl rfl ?_
        refine iincV X7.here hexec rfl 1 (hb hbytes d35) (by decide) rfl rfl ?_
        refine iincV X7.here hexec rfl 1 (hb hbytes d38) (by decide) rfl rfl ?_
        refine XS.goto X7.here hexec rfl (pc0 := 41) rfl (hb hbytes d41) (by decide) rfl ?_
        exact Steps.refl _)
      have c10 : Steps p.tables e below (s₁.setTop (entryFrame m #[.ref b, .int (Int32.ofNat o), .ref d, .int (Int32.ofNat q), .int (Int32.ofNat len)] 7)) (T7.setTop (mkF m 3 #[.val (.ref b), .val (.int (Int32.ofNat (o + (i + 1)))), .val (.ref d), .val (.int (Int32.ofNat (q + (i + 1)))), .val (.int (Int32.ofNat len)), .val (.int (Int32.ofNat (i + 1))), .val (.int (cv A (o + i)))] [])) := by
        have := c9
        rw [succ32, succ32, succ32] at this
        exact this
      exact ih (i + 1) (by omega) _ (Or.inr ⟨_, rfl, rfl⟩) T7 _ (by rw [copyLocs_step, ← List.append_assoc]; exact X7) (pl.trans p7) (fl.step (by omega) hlt (by simp)) c10
  obtain ⟨T9, B9, z9, X9, p9, f9, g9⟩ := loop len 0 (by omega) .unset (Or.inl rfl) s₁ B (by simpa [copyLocs] using X0) ⟨hB0.1, fun _ _ => rfl, rfl⟩ (Laid.zero _ _ _) c2
  have c11 : Steps p.tables e below (s₁.setTop (entryFrame m #[.ref b, .int (Int32.ofNat o), .ref d, .int (Int32.ofNat q), .int (Int32.ofNat len)] 7)) (T9.setTop (mkF m 46 #[.val (.ref b), .val (.int (Int32.ofNat (o + len))), .val (.ref d), .val (.int (Int32.ofNat (q + len))), .val (.int (Int32.ofNat len)), .val (.int (Int32.ofNat len)), z9] [.int (Int32.ofNat len)])) := g9.trans (by
    refine XS.iload X9.here hexec rfl (hb hbytes d3) rfl ?_
    refine XS.iload X9.here hexec rfl (hb hbytes d5) rfl ?_
    refine XS.icmpYes X9.here hexec rfl (pc0 := 7) rfl (hb hbytes d7) rfl (ii_ge_t (nlt32 (by omega) (Nat.le_refl _))) (by decide) rfl ?_
    refine XS.iload X9.here hexec rfl (hb hbytes d44) rfl ?_
    exact Steps.refl _)
  exact ⟨T9, some (.int (Int32.ofNat len)), _, _, _, X9, by simp, rfl, rfl, (fun h => by cases h), ⟨rfl, B9, p9.from hh0, f9⟩, fun fs hl => c11.trans (X9.ireturnOut hexec hret rfl (Or.inl rfl) (hb hbytes d46) hl)⟩
end Cmp5
namespace Cmp3
def yN : MethodName := ⟨"java/lang/StringUTF16", "compress", "([CII)[B"⟩
abbrev yB : ByteArray := jdk_52_method_16_code
theorem d0 : decode yB 0 = .ok (.iload_n 2, 1) := by decide +kernel
theorem d1 : decode yB 1 = .ok (.newarray .byte, 2) := by decide +kernel
theorem d3 : decode yB 3 = .ok (.astore_n 3, 1) := by decide +kernel
theorem d4 : decode yB 4 = .ok (.aload_n 0, 1) := by decide +kernel
theorem d5 : decode yB 5 = .ok (.iload_n 1, 1) := by decide +kernel
theorem d6 : decode yB 6 = .ok (.aload_n 3, 1) := by decide +kernel
theorem d7 : decode yB 7 = .ok (.iconst 0, 1) := by decide +kernel
theorem d8 : decode yB 8 = .ok (.iload_n 2, 1) := by decide +kernel
theorem d9 : decode yB 9 = .ok (.invokestatic 115, 3) := by decide +kernel
theorem d12 : decode yB 12 = .ok (.istore 4, 2) := by decide +kernel
theorem d14 : decode yB 14 = .ok (.iload 4, 2) := by decide +kernel
theorem d16 : decode yB 16 = .ok (.iload_n 2, 1) := by decide +kernel
theorem d17 : decode yB 17 = .ok (.if_icmp (.eq) 40, 3) := by decide +kernel
theorem d57 : decode yB 57 = .ok (.aload_n 3, 1) := by decide +kernel
theorem d58 : decode yB 58 = .ok (.areturn, 1) := by decide +kernel
def site : List Cond := [.arrayClass .byte, Cmp5.tab] ++ staticW U16 115 Cmp5.yN
def tab : Cond := tabOf yN yB 6 (some (.array .byte)) site
def P (b : Addr) (A : Cell) (o len : Nat) (args : Array Value) (s : State) : Prop := args = #[.ref b, .int (Int32.ofNat o), .int (Int32.ofNat len)] ∧ Ch b A s ∧ o + len ≤ A.slots.size ∧ len ≤ 536870912 ∧ ∀ i, i < len → ¬ 255 < cv A (o + i)
def E (b : Addr) (A : Cell) (o len : Nat) (r : Option Value) (s u : State) : Prop := NewArr .byte "[B" len (fun j => .int (lo8 (cv A (o + j)))) r s u ∧ u.heap.size = s.heap.size + 1
/-- no char of the range above 255: a new byte[] of their low bytes -/
theorem law (l : Launch) (b : Addr) (A : Cell) (o len : Nat) : Law l yN 3 3 1 18 yB 6 (some (.array .byte)) site (P b A o len) (E b A o len) [] 1 len := by
  refine Law.of_walk (plainFor_of_name (by decide +kernel)) (by decide +kernel) (by decide +kernel) (by decide) (fun _ _ h => by rw [h.1]; rfl) (fun _ U U' hal hh h => ⟨h.1, h.2.1.mv hal hh, h.2.2⟩) (fun r U U' V V' h1 hal h2 h => ⟨NewArr.mv r U U' V V' h1 hal h2 h.1, by rw [h1, h2]; exact h.2⟩) ?_
  intro p e s m args below meth c s₁ X0 hexec hbytes hml hret hlk hnm hown hh0 W hP
  obtain ⟨rfl, hA, l1, l2, hp⟩ := hP
  have a31 := hA.1.2.2.2
  have c1 : Steps p.tables e below (s₁.setTop (entryFrame m #[.ref b, .int (Int32.ofNat o), .int (Int32.ofNat len)] 6)) (s₁.setTop (mkF m 0 #[.val (.ref b), .val (.int (Int32.ofNat o)), .val (.int (Int32.ofNat len)), .unset, .unset, .unset] [])) := entry rfl
  have c2 : Steps p.tables e below (s₁.setTop (entryFrame m #[.ref b, .int (Int32.ofNat o), .int (Int32.ofNat len)] 6)) (s₁.setTop (mkF m 1 #[.val (.ref b), .val (.int (Int32.ofNat o)), .val (.int (Int32.ofNat len)), .unset, .unset, .unset] [.int (Int32.ofNat len)])) := c1.trans (by
    refine XS.iloadN X0.here hexec rfl (hb hbytes d0) rfl ?_
    exact Steps.refl _)
  obtain ⟨T3, B3, X3, ba3, bs3, bv3, bh3, bf3, st3⟩ := X0.anew hexec (atype := .byte) (wk W (.arrayClass .byte)) rfl (by show len * 1 ≤ _; omega) (by omega) (g := (mkF m 1 #[.val (.ref b), .val (.int (Int32.ofNat o)), .val (.int (Int32.ofNat len)), .unset, .unset, .unset] [.int (Int32.ofNat len)])) rfl (hb hbytes d1) (rest := []) rfl (Nat.le_refl _) (by show 0 + len ≤ len; omega)
  rw [hh0] at ba3 st3
  have kp3 : XT.Kept s T3 := (XT.Kept.of_eq hh0).push bh3
  have hA3 := hA.keep X3.warmed.alike (kp3 _ _ hA.1.1)
  have hne : b ≠ s.heap.size := hA.1.ne
  have c4 : Steps p.tables e below (s₁.setTop (entryFrame m #[.ref b, .int (Int32.ofNat o), .int (Int32.ofNat len)] 6)) (T3.setTop (mkF m 3 #[.val (.ref b), .val (.int (Int32.ofNat o)), .val (.int (Int32.ofNat len)), .unset, .unset, .unset] [.ref s.heap.size])) := c2.trans (st3 _ (Steps.refl _))
  have c5 : Steps p.tables e below (s₁.setTop (entryFrame m #[.ref b, .int (Int32.ofNat o), .int (Int32.ofNat len)] 6)) (T3.setTop (mkF m 9 #[.val (.ref b), .val (.int (Int32.ofNat o)), .val (.int (Int32.ofNat len)), .val (.ref s.heap.size), .unset, .unset] [.int (Int32.ofNat len), .int 0, .ref s.heap.size, .int (Int32.ofNat o), .ref b])) := c4.trans (by
    refine XS.astoreN X3.here hexec rfl (hb hbytes d3) rfl rfl rfl ?_
    refine XS.aloadN X3.here hexec rfl (hb hbytes d4) rfl rfl ?_
    refine XS.iloadN X3.here hexec rfl (hb hbytes d5) rfl ?_
    refine XS.aloadN X3.here hexec rfl (hb hbytes d6) rfl rfl ?_
    refine iconstV X3.here hexec rfl 0 (hb hbytes d7) (by decide) ?_
    refine XS.iloadN X3.here hexec rfl (hb hbytes d8) rfl ?_
    exact Steps.refl _)
  obtain ⟨v6, T6, X6, E6, g6⟩ := X3.callS hexec (Cmp5.law l b A s.heap.size B3 o 0 len) hown (wks W (staticW U16 115 Cmp5.yN)) (wk W Cmp5.tab) (W := 0) (Nat.le_of_ble_eq_true rfl) (Nat.le_of_ble_eq_true rfl) (Nat.le_refl _) (by show 0 + len + 0 ≤ len; omega) (g := (mkF m 9 #[.val (.ref b), .val (.int (Int32.ofNat o)), .val (.int (Int32.ofNat len)), .val (.ref s.heap.size), .unset, .unset] [.int (Int32.ofNat len), .int (Int32.ofNat 0), .ref s.heap.size, .int (Int32.ofNat o), .ref b])) rfl (by rw [hml]; rfl) c5 (argsL := [.ref b, .int (Int32.ofNat o), .ref s.heap.size, .int (Int32.ofNat 0), .int (Int32.ofNat len)]) (rest := []) rfl rfl (by show 2 * 0 + 0 ≤ _; decide) (hb hbytes d9) (⟨rfl, hA3, ba3, hne, l1, by rw [bs3]; simp, hp⟩)
  obtain ⟨rfl, B6, p6, f6⟩ := E6
  have c7 : Steps p.tables e below (s₁.setTop (entryFrame m #[.ref b, .int (Int32.ofNat o), .int (Int32.ofNat len)] 6)) (T6.setTop (mkF m 12 #[.val (.ref b), .val (.int (Int32.ofNat o)), .val (.int (Int32.ofNat len)), .val (.ref s.heap.size), .unset, .unset] [.int (Int32.ofNat len)])) := g6
  have c8 : Steps p.tables e below (s₁.setTop (entryFrame m #[.ref b, .int (Int32.ofNat o), .int (Int32.ofNat len)] 6)) (T6.setTop (mkF m 58 #[.val (.ref b), .val (.int (Int32.ofNat o)), .val (.int (Int32.ofNat len)), .val (.ref s.heap.size), .val (.int (Int32.ofNat len)), .unset] [.ref s.heap.size])) := c7.trans (by
    refine XS.istore X6.here hexec rfl (hb hbytes d12) rfl rfl ?_
    refine XS.iload X6.here hexec rfl (hb hbytes d14) rfl ?_
    refine XS.iloadN X6.here hexec rfl (hb hbytes d16) rfl ?_
    refine XS.icmpYes X6.here hexec rfl (pc0 := 17) rfl (hb hbytes d17) rfl (ii_eq_t rfl) (by decide) rfl ?_
    refine XS.aloadN X6.here hexec rfl (hb hbytes d57) rfl rfl ?_
    exact Steps.refl _)
  have X8 := X6.wide (L' := []) (cells' := 1) (slots' := len) (fun x hx hlt => by
    simp only [List.nil_append, copyLocs, List.mem_map, List.mem_range] at hx
    obtain ⟨i, -, rfl⟩ := hx
    exact absurd hlt (Nat.lt_irrefl _)) (Nat.le_refl _) (by omega)
  exact ⟨T6, some (.ref s.heap.size), _, _, _, X8, rfl, rfl, rfl, (fun h => by cases h), ⟨⟨rfl, B6, ba3.like (X3.warmed.alike.symm.trans X6.warmed.alike) p6.1 f6.1 f6.2.1 f6.2.2.1, f6.2.1.trans bv3, by rw [X6.warmed.alike.findClass, f6.1]; exact bf3, by rw [f6.2.2.1, bs3]; simp, fun j hj => by rw [f6.2.2.2 j, if_pos (by omega)]; rfl, kp3.put p6 (Nat.le_refl _)⟩, by rw [p6.2.2, bh3, hh0]; simp⟩, fun fs hl => c8.trans (X8.areturnOut hexec rfl hret rfl (hb hbytes d58) hl)⟩
end Cmp3
namespace CodL
def yN : MethodName := ⟨"java/lang/StringUTF16", "coderFromArrayLen", "([BI)B"⟩
abbrev yB : ByteArray := jdk_52_method_15_code
theorem d0 : decode yB 0 = .ok (.iload_n 1, 1) := by decide +kernel
theorem d1 : decode yB 1 = .ok (.aload_n 0, 1) := by decide +kernel
theorem d2 : decode yB 2 = .ok (.arraylength, 1) := by decide +kernel
theorem d3 : decode yB 3 = .ok (.isub, 1) := by decide +kernel
theorem d4 : decode yB 4 = .ok (.bipush 31, 2) := by decide +kernel
theorem d6 : decode yB 6 = .ok (.iushr, 1) := by decide +kernel
theorem d7 : decode yB 7 = .ok (.i2b, 1) := by decide +kernel
theorem d8 : decode yB 8 = .ok (.ireturn, 1) := by decide +kernel
def site : List Cond := []
def tab : Cond := tabOf yN yB 2 (some .byte) site
def P (d : Addr) (B : Cell) (args : Array Value) (s : State) : Prop := args = #[.ref d, .int (Int32.ofNat B.slots.size)] ∧ Arr .byte d B s
def E (r : Option Value) (s u : State) : Prop := XT.PureE (some (.int 0)) r s u
/-- an array as long as the number of chars: LATIN1 -/
theorem law (l : Launch) (d : Addr) (B : Cell) : Law l yN 2 2 0 0 yB 2 (some .byte) site (P d B) E [] 0 0 := by
  refine Law.of_walk (plainFor_of_name (by decide +kernel)) (by decide +kernel) (by decide +kernel) (by decide) (fun _ _ h => by rw [h.1]; rfl) (fun _ U U' hal hh h => ⟨h.1, h.2.mv hal hh⟩) (fun r U U' V V' h1 hal h2 h => XT.PureE.mv r U U' V V' h1 hal h2 h) ?_
  intro p e s m args below meth c s₁ X0 hexec hbytes hml hret hlk hnm hown hh0 W hP
  obtain ⟨rfl, hB⟩ := hP
  have hB0 := hB.mv X0.warmed.alike hh0
  have c1 : Steps p.tables e below (s₁.setTop (entryFrame m #[.ref d, .int (Int32.ofNat B.slots.size)] 2)) (s₁.setTop (mkF m 0 #[.val (.ref d), .val (.int (Int32.ofNat B.slots.size))] [])) := entry rfl
  have c2 : Steps p.tables e below (s₁.setTop (entryFrame m #[.ref d, .int (Int32.ofNat B.slots.size)] 2)) (s₁.setTop (mkF m 2 #[.val (.ref d), .val (.int (Int32.ofNat B.slots.size))] [.ref d, .int (Int32.ofNat B.slots.size)])) := c1.trans (by
    refine XS.iloadN X0.here hexec rfl (hb hbytes d0) rfl ?_
    refine XS.aloadN X0.here hexec rfl (hb hbytes d1) rfl rfl ?_
    exact Steps.refl _)
  have c3 : Steps p.tables e below (s₁.setTop (entryFrame m #[.ref d, .int (Int32.ofNat B.slots.size)] 2)) (s₁.setTop (mkF m 8 #[.val (.ref d), .val (.int (Int32.ofNat B.slots.size))] [.int (lo8 (ushr (Int32.ofNat B.slots.size - Int32.ofNat B.slots.size) 31))])) := c2.trans (by
    refine X0.alen hexec hB0 rfl rfl (hb hbytes d2) ?_
    refine XS.isub X0.here hexec rfl (hb hbytes d3) rfl ?_
    refine bipushV X0.here hexec rfl 31 (hb hbytes d4) (by decide) ?_
    refine iushr X0.here hexec rfl (hb hbytes d6) rfl ?_
    refine i2b X0.here hexec rfl (hb hbytes d7) rfl ?_
    exact Steps.refl _)
  have e0 : lo8 (ushr (Int32.ofNat B.slots.size - Int32.ofNat B.slots.size) 31) = 0 := by rw [Int32.sub_self]; decide
  rw [e0] at c3
  exact ⟨s₁, some (.int 0), _, _, _, X0, rfl, rfl, rfl, (fun h => by cases h), ⟨rfl, hh0⟩, fun fs hl => c3.trans (X0.ireturnOut hexec hret rfl (Or.inr (Or.inr (Or.inl rfl))) (hb hbytes d8) hl)⟩
end CodL
/-- the String at a is Latin-1 over a new byte[] (the heap's one new cell): the low bytes of the len chars of A from o on; every cell but a is kept -/
def Got (a : Addr) (D : Cell) (fV fC : Field) (A : Cell) (o len : Nat) (r : Option Value) (s u : State) : Prop := r = none ∧ ∃ D' V : Cell, Blank "java/lang/String" a D' u ∧ Same D D' [fV.slot, fC.slot] ∧ D'.slots[fV.slot]? = some (.ref s.heap.size) ∧ D'.slots[fC.slot]? = some (.int 0) ∧ Arr .byte s.heap.size V u ∧ V.vm = .none ∧ u.vm.findClass "[B" = some V.cls ∧ V.slots.size = len ∧ (∀ j, j < len → V.slots[j]? = some (.int (lo8 (cv A (o + j))))) ∧ (∀ (y : Addr) (c : Cell), y ≠ a → s.heap[y]? = some c → u.heap[y]? = some c) ∧ u.heap.size = s.heap.size + 1
theorem Got.mv {a : Addr} {D A : Cell} {fV fC : Field} {o len : Nat} : ∀ r (U U' V V' : State), U'.heap = U.heap → V.vm.Alike V'.vm → V'.heap = V.heap → Got a D fV fC A o len r U V → Got a D fV fC A o len r U' V' :=
  fun r U U' V V' h1 hal h2 ⟨e0, D', X, a1, a2, a3, a4, a5, a6, a7, a8, a9, a10, a11⟩ => ⟨e0, D', X, a1.mv hal h2, a2, by rw [h1]; exact a3, a4, by rw [h1]; exact a5.mv hal h2, a6, by rw [hal.findClass]; exact a7, a8, a9, by rw [h1, h2]; exact a10, by rw [h1, h2]; exact a11⟩
namespace New4
def yN : MethodName := ⟨"java/lang/String", "<init>", "([CIILjava/lang/Void;)V"⟩
abbrev yB : ByteArray := jdk_42_method_149_code
theorem d0 : decode yB 0 = .ok (.aload_n 0, 1) := by decide +kernel
theorem d1 : decode yB 1 = .ok (.invokespecial 1, 3) := by decide +kernel
theorem d4 : decode yB 4 = .ok (.iload_n 3, 1) := by decide +kernel
theorem d5 : decode yB 5 = .ok (.ifCond (.ne) 22, 3) := by decide +kernel
theorem d27 : decode yB 27 = .ok (.getstatic 38, 3) := by decide +kernel
theorem d30 : decode yB 30 = .ok (.ifCond (.eq) 28, 3) := by decide +kernel
theorem d33 : decode yB 33 = .ok (.aload_n 1, 1) := by decide +kernel
theorem d34 : decode yB 34 = .ok (.iload_n 2, 1) := by decide +kernel
theorem d35 : decode yB 35 = .ok (.iload_n 3, 1) := by decide +kernel
theorem d36 : decode yB 36 = .ok (.invokestatic 177, 3) := by decide +kernel
theorem d39 : decode yB 39 = .ok (.astore 5, 2) := by decide +kernel
theorem d41 : decode yB 41 = .ok (.aload_n 0, 1) := by decide +kernel
theorem d42 : decode yB 42 = .ok (.aload 5, 2) := by decide +kernel
theorem d44 : decode yB 44 = .ok (.iload_n 3, 1) := by decide +kernel
theorem d45 : decode yB 45 = .ok (.invokestatic 47, 3) := by decide +kernel
theorem d48 : decode yB 48 = .ok (.putfield 15, 3) := by decide +kernel
theorem d51 : decode yB 51 = .ok (.aload_n 0, 1) := by decide +kernel
theorem d52 : decode yB 52 = .ok (.aload 5, 2) := by decide +kernel
theorem d54 : decode yB 54 = .ok (.putfield 9, 3) := by decide +kernel
theorem d57 : decode yB 57 = .ok (.return_, 1) := by decide +kernel
def site : List Cond := [.fieldLink "java/lang/String" 38 "java/lang/String" "COMPACT_STRINGS" "Z", Cmp3.tab, CodL.tab, .laysFinal "java/lang/String" "java/lang/String" "value" "[B", .fieldLink "java/lang/String" 9 "java/lang/String" "value" "[B", .laysFinal "java/lang/String" "java/lang/String" "coder" "B", .fieldLink "java/lang/String" 15 "java/lang/String" "coder" "B"] ++ objW "java/lang/String" 1 ++ staticW "java/lang/String" 177 Cmp3.yN ++ staticW "java/lang/String" 47 CodL.yN
def tab : Cond := tabOf yN yB 6 none site
def P (a : Addr) (D : Cell) (fV fC : Field) (b : Addr) (A : Cell) (z : Int32) (o len : Nat) (args : Array Value) (s : State) : Prop := args = #[.ref a, .ref b, .int (Int32.ofNat o), .int (Int32.ofNat len), .null] ∧ Blank "java/lang/String" a D s ∧ Found "java/lang/String" "value" "[B" fV s ∧ Found "java/lang/String" "coder" "B" fC s ∧ Ch b A s ∧ StaticIs s "java/lang/String" "COMPACT_STRINGS" "Z" (.int z) ∧ ¬ z = 0 ∧ 0 < len ∧ o + len ≤ A.slots.size ∧ len ≤ 536870912 ∧ ∀ i, i < len → ¬ 255 < cv A (o + i)
def E (a : Addr) (D : Cell) (fV fC : Field) (A : Cell) (o len : Nat) (r : Option Value) (s u : State) : Prop := Got a D fV fC A o len r s u
/-- len > 0, no char of the range above 255: a Latin-1 String of their low bytes -/
theorem law (l : Launch) (a : Addr) (D : Cell) (fV fC : Field) (b : Addr) (A : Cell) (z : Int32) (o len : Nat) : Law l yN 5 4 2 35 yB 6 none site (P a D fV fC b A z o len) (E a D fV fC A o len) [⟨a, fC.slot⟩, ⟨a, fV.slot⟩] 1 len := by
  refine Law.of_walk (plainFor_of_name (by decide +kernel)) (by decide +kernel) (by decide +kernel) (by decide) (fun _ _ h => by rw [h.1]; rfl) (fun _ U U' hal hh h => ⟨h.1, h.2.1.mv hal hh, h.2.2.1.al hal, h.2.2.2.1.al hal, h.2.2.2.2.1.mv hal hh, h.2.2.2.2.2.1.there hal hh, h.2.2.2.2.2.2⟩) (fun r U U' V V' h1 hal h2 h => Got.mv r U U' V V' h1 hal h2 h) ?_
  intro p e s m args below meth c s₁ X0 hexec hbytes hml hret hlk hnm hown hh0 W hP
  obtain ⟨rfl, hB, f1, f2, hA, s1, hz, l0, l1, l2, hp⟩ := hP
  have a31 := hA.1.2.2.2
  have c1 : Steps p.tables e below (s₁.setTop (entryFrame m #[.ref a, .ref b, .int (Int32.ofNat o), .int (Int32.ofNat len), .null] 6)) (s₁.setTop (mkF m 0 #[.val (.ref a), .val (.ref b), .val (.int (Int32.ofNat o)), .val (.int (Int32.ofNat len)), .val .null, .unset] [])) := entry rfl
  have c2 : Steps p.tables e below (s₁.setTop (entryFrame m #[.ref a, .ref b, .int (Int32.ofNat o), .int (Int32.ofNat len), .null] 6)) (s₁.setTop (mkF m 1 #[.val (.ref a), .val (.ref b), .val (.int (Int32.ofNat o)), .val (.int (Int32.ofNat len)), .val .null, .unset] [.ref a])) := c1.trans (by
    refine XS.aloadN X0.here hexec rfl (hb hbytes d0) rfl rfl ?_
    exact Steps.refl _)
  obtain ⟨T3, X3, q3, st3⟩ := X0.oinit hexec hown (wks W (objW "java/lang/String" 1)) (g := (mkF m 1 #[.val (.ref a), .val (.ref b), .val (.int (Int32.ofNat o)), .val (.int (Int32.ofNat len)), .val .null, .unset] [.ref a])) rfl (by rw [hml]; rfl) (rest := []) rfl (hb hbytes d1) (W := 0) (by show 2 * 0 + 0 ≤ _; decide) (Nat.le_of_ble_eq_true rfl) (Nat.le_of_ble_eq_true rfl)
  have hh3 := q3.trans hh0
  have c4 : Steps p.tables e below (s₁.setTop (entryFrame m #[.ref a, .ref b, .int (Int32.ofNat o), .int (Int32.ofNat len), .null] 6)) (T3.setTop (mkF m 27 #[.val (.ref a), .val (.ref b), .val (.int (Int32.ofNat o)), .val (.int (Int32.ofNat len)), .val .null, .unset] [])) := (c2.trans (st3 _ (Steps.refl _))).trans (by
    refine XS.iloadN X3.here hexec rfl (hb hbytes d4) rfl ?_
    refine XS.ifYes X3.here hexec rfl (pc0 := 5) rfl (hb hbytes d5) rfl (i0_ne_t (nz32 (by omega) l0)) (by decide) rfl ?_
    exact Steps.refl _)
  obtain ⟨T5, X5, q5, st5⟩ := X3.sget hexec hown (wk W (.fieldLink "java/lang/String" 38 "java/lang/String" "COMPACT_STRINGS" "Z")) s1 (fun _ _ h => by rw [hh3]; exact h) (g := (mkF m 27 #[.val (.ref a), .val (.ref b), .val (.int (Int32.ofNat o)), .val (.int (Int32.ofNat len)), .val .null, .unset] [])) rfl (hb hbytes d27)
  have hh5 := q5.trans hh3
  have c6 : Steps p.tables e below (s₁.setTop (entryFrame m #[.ref a, .ref b, .int (Int32.ofNat o), .int (Int32.ofNat len), .null] 6)) (T5.setTop (mkF m 30 #[.val (.ref a), .val (.ref b), .val (.int (Int32.ofNat o)), .val (.int (Int32.ofNat len)), .val .null, .unset] [.int z])) := c4.trans (st5 _ (Steps.refl _))
  have c7 : Steps p.tables e below (s₁.setTop (entryFrame m #[.ref a, .ref b, .int (Int32.ofNat o), .int (Int32.ofNat len), .null] 6)) (T5.setTop (mkF m 36 #[.val (.ref a), .val (.ref b), .val (.int (Int32.ofNat o)), .val (.int (Int32.ofNat len)), .val .null, .unset] [.int (Int32.ofNat len), .int (Int32.ofNat o), .ref b])) := c6.trans (by
    refine XS.ifNo X5.here hexec rfl (hb hbytes d30) rfl (i0_eq_f hz) ?_
    refine XS.aloadN X5.here hexec rfl (hb hbytes d33) rfl rfl ?_
    refine XS.iloadN X5.here hexec rfl (hb hbytes d34) rfl ?_
    refine XS.iloadN X5.here hexec rfl (hb hbytes d35) rfl ?_
    exact Steps.refl _)
  obtain ⟨v8, T8, X8, E8, g8⟩ := X5.callS hexec (Cmp3.law l b A o len) hown (wks W (staticW "java/lang/String" 177 Cmp3.yN)) (wk W Cmp3.tab) (W := 0) (Nat.le_of_ble_eq_true rfl) (Nat.le_of_ble_eq_true rfl) (Nat.le_refl _) (by show 0 + len ≤ len; omega) (g := (mkF m 36 #[.val (.ref a), .val (.ref b), .val (.int (Int32.ofNat o)), .val (.int (Int32.ofNat len)), .val .null, .unset] [.int (Int32.ofNat len), .int (Int32.ofNat o), .ref b])) rfl (by rw [hml]; rfl) c7 (argsL := [.ref b, .int (Int32.ofNat o), .int (Int32.ofNat len)]) (rest := []) rfl rfl (by show 2 * 0 + 0 ≤ _; decide) (hb hbytes d36) (⟨rfl, hA.mv X5.warmed.alike hh5, l1, l2, hp⟩)
  obtain ⟨e8, z8⟩ := E8
  obtain ⟨rfl, N, n1, n2, n3, n4, n5, n6⟩ := NewArr.mv _ T5 s _ _ hh5.symm (Vm.Alike.refl _) rfl e8
  rw [hh5] at z8
  have hB1 := hB.keep X8.warmed.alike (n6 _ _ hB.1)
  have hne : s.heap.size ≠ a := (Nat.ne_of_lt (Array.getElem?_eq_some_iff.mp hB.1).1).symm
  have c9 : Steps p.tables e below (s₁.setTop (entryFrame m #[.ref a, .ref b, .int (Int32.ofNat o), .int (Int32.ofNat len), .null] 6)) (T8.setTop (mkF m 39 #[.val (.ref a), .val (.ref b), .val (.int (Int32.ofNat o)), .val (.int (Int32.ofNat len)), .val .null, .unset] [.ref s.heap.size])) := g8
  have c10 : Steps p.tables e below (s₁.setTop (entryFrame m #[.ref a, .ref b, .int (Int32.ofNat o), .int (Int32.ofNat len), .null] 6)) (T8.setTop (mkF m 45 #[.val (.ref a), .val (.ref b), .val (.int (Int32.ofNat o)), .val (.int (Int32.ofNat len)), .val .null, .val (.ref s.heap.size)] [.int (Int32.ofNat N.slots.size), .ref s.heap.size, .ref a])) := by
    have hc : Steps p.tables e below (s₁.setTop (entryFrame m #[.ref a, .ref b, .int (Int32.ofNat o), .int (Int32.ofNat len), .null] 6)) (T8.setTop (mkF m 45 #[.val (.ref a), .val (.ref b), .val (.int (Int32.ofNat o)), .val (.int (Int32.ofNat len)), .val .null, .val (.ref s.heap.size)] [.int (Int32.ofNat len), .ref s.heap.size, .ref a])) := c9.trans (by
      refine XS.astore X8.here hexec rfl (hb hbytes d39) rfl rfl rfl ?_
      refine XS.aloadN X8.here hexec rfl (hb hbytes d41) rfl rfl ?_
      refine XS.aload X8.here hexec rfl (hb hbytes d42) rfl rfl ?_
      refine XS.iloadN X8.here hexec rfl (hb hbytes d44) rfl ?_
      exact Steps.refl _)
    rw [n4]; exact hc
  obtain ⟨v11, T11, X11, E11, g11⟩ := X8.callS hexec (CodL.law l s.heap.size N) hown (wks W (staticW "java/lang/String" 47 CodL.yN)) (wk W CodL.tab) (W := 1) (Nat.le_of_ble_eq_true rfl) (Nat.le_of_ble_eq_true rfl) (Nat.le_refl _) (by show 0 + len + 0 ≤ len; omega) (g := (mkF m 45 #[.val (.ref a), .val (.ref b), .val (.int (Int32.ofNat o)), .val (.int (Int32.ofNat len)), .val .null, .val (.ref s.heap.size)] [.int (Int32.ofNat N.slots.size), .ref s.heap.size, .ref a])) rfl (by rw [hml]; rfl) c10 (argsL := [.ref s.heap.size, .int (Int32.ofNat N.slots.size)]) (rest := [.ref a]) rfl rfl (by show 2 * 0 + (1 + 0) ≤ _; decide) (hb hbytes d45) (⟨rfl, n1⟩)
  obtain ⟨rfl, q11⟩ := E11
  have hB11 := hB1.mv (X8.warmed.alike.symm.trans X11.warmed.alike) q11
  have c12 : Steps p.tables e below (s₁.setTop (entryFrame m #[.ref a, .ref b, .int (Int32.ofNat o), .int (Int32.ofNat len), .null] 6)) (T11.setTop (mkF m 48 #[.val (.ref a), .val (.ref b), .val (.int (Int32.ofNat o)), .val (.int (Int32.ofNat len)), .val .null, .val (.ref s.heap.size)] [.int 0, .ref a])) := g11
  obtain ⟨T13, X13, p13, bl13, sl13, st13⟩ := X11.finit hexec hown (wk W (.fieldLink "java/lang/String" 15 "java/lang/String" "coder" "B")) (Or.inr ⟨_, (wk W (.laysFinal "java/lang/String" "java/lang/String" "coder" "B"))⟩) (Or.inl ⟨rfl, hnm⟩) f2 (Or.inl rfl) hB11 (t := .byte) (by decide +kernel) rfl (g := (mkF m 48 #[.val (.ref a), .val (.ref b), .val (.int (Int32.ofNat o)), .val (.int (Int32.ofNat len)), .val .null, .val (.ref s.heap.size)] [.int 0, .ref a])) rfl (rest := []) rfl (hb hbytes d48)
  have c14 : Steps p.tables e below (s₁.setTop (entryFrame m #[.ref a, .ref b, .int (Int32.ofNat o), .int (Int32.ofNat len), .null] 6)) (T13.setTop (mkF m 54 #[.val (.ref a), .val (.ref b), .val (.int (Int32.ofNat o)), .val (.int (Int32.ofNat len)), .val .null, .val (.ref s.heap.size)] [.ref s.heap.size, .ref a])) := (c12.trans (st13 _ (Steps.refl _))).trans (by
    refine XS.aloadN X13.here hexec rfl (hb hbytes d51) rfl rfl ?_
    refine XS.aload X13.here hexec rfl (hb hbytes d52) rfl rfl ?_
    exact Steps.refl _)
  obtain ⟨T15, X15, p15, bl15, sl15, st15⟩ := X13.finit hexec hown (wk W (.fieldLink "java/lang/String" 9 "java/lang/String" "value" "[B")) (Or.inr ⟨_, (wk W (.laysFinal "java/lang/String" "java/lang/String" "value" "[B"))⟩) (Or.inl ⟨rfl, hnm⟩) f1 (Or.inl rfl) bl13 (t := (.array .byte)) (by decide +kernel) rfl (g := (mkF m 54 #[.val (.ref a), .val (.ref b), .val (.int (Int32.ofNat o)), .val (.int (Int32.ofNat len)), .val .null, .val (.ref s.heap.size)] [.ref s.heap.size, .ref a])) rfl (rest := []) rfl (hb hbytes d54)
  have c16 : Steps p.tables e below (s₁.setTop (entryFrame m #[.ref a, .ref b, .int (Int32.ofNat o), .int (Int32.ofNat len), .null] 6)) (T15.setTop (mkF m 57 #[.val (.ref a), .val (.ref b), .val (.int (Int32.ofNat o)), .val (.int (Int32.ofNat len)), .val .null, .val (.ref s.heap.size)] [])) := c14.trans (st15 _ (Steps.refl _))
  have ap := apart (Or.inr ⟨_, (wk W (.laysFinal "java/lang/String" "java/lang/String" "value" "[B"))⟩) (Or.inr ⟨_, (wk W (.laysFinal "java/lang/String" "java/lang/String" "coder" "B"))⟩) f1 f2 (t₁ := .array .byte) (t₂ := .byte) (by decide +kernel) (by decide +kernel) (by decide)
  have al := X8.warmed.alike.symm.trans X15.warmed.alike
  have n7 : T11.heap[s.heap.size]? = some N := by rw [q11]; exact n1.1
  exact ⟨T15, none, _, _, _, X15, by simp, rfl, by omega, (fun _ => rfl), ⟨rfl, _, N, bl15, ((Same.refl D _).set _ (by simp)).set _ (by simp), sl15, (Cell.slots_setSlot_ne _ ap).trans sl13, n1.keep al (p15.other hne (p13.other hne n7)), n2, by rw [al.findClass]; exact n3, n4, n5, fun y c h1 h2 => p15.other h1 (p13.other h1 (by rw [q11]; exact n6 y c h2)), by rw [p15.2.2, p13.2.2, q11]; exact z8⟩, fun fs hl => c16.trans (X15.returnOut hexec hret (hb hbytes d57) hl)⟩
end New4
namespace New1
def yN : MethodName := ⟨"java/lang/String", "<init>", "([C)V"⟩
abbrev yB : ByteArray := jdk_42_method_3_code
theorem d0 : decode yB 0 = .ok (.aload_n 0, 1) := by decide +kernel
theorem d1 : decode yB 1 = .ok (.aload_n 1, 1) := by decide +kernel
theorem d2 : decode yB 2 = .ok (.iconst 0, 1) := by decide +kernel
theorem d3 : decode yB 3 = .ok (.aload_n 1, 1) := by decide +kernel
theorem d4 : decode yB 4 = .ok (.arraylength, 1) := by decide +kernel
theorem d5 : decode yB 5 = .ok (.aconst_null, 1) := by decide +kernel
theorem d6 : decode yB 6 = .ok (.invokespecial 27, 3) := by decide +kernel
theorem d9 : decode yB 9 = .ok (.return_, 1) := by decide +kernel
def site : List Cond := [New4.tab] ++ initW "java/lang/String" 27 New4.yN
def tab : Cond := tabOf yN yB 2 none site
def P (a : Addr) (D : Cell) (fV fC : Field) (b : Addr) (A : Cell) (z : Int32) (args : Array Value) (s : State) : Prop := args = #[.ref a, .ref b] ∧ Blank "java/lang/String" a D s ∧ Found "java/lang/String" "value" "[B" fV s ∧ Found "java/lang/String" "coder" "B" fC s ∧ Ch b A s ∧ StaticIs s "java/lang/String" "COMPACT_STRINGS" "Z" (.int z) ∧ ¬ z = 0 ∧ 0 < A.slots.size ∧ A.slots.size ≤ 536870912 ∧ ∀ i, i < A.slots.size → ¬ 255 < cv A i
def E (a : Addr) (D : Cell) (fV fC : Field) (A : Cell) (r : Option Value) (s u : State) : Prop := Got a D fV fC A 0 A.slots.size r s u
/-- new String(chars), not empty, no char above 255: a Latin-1 String of their low bytes -/
theorem law (l : Launch) (a : Addr) (D : Cell) (fV fC : Field) (b : Addr) (A : Cell) (z : Int32) : Law l yN 2 1 3 52 yB 2 none site (P a D fV fC b A z) (E a D fV fC A) [⟨a, fC.slot⟩, ⟨a, fV.slot⟩] 1 A.slots.size := by
  refine Law.of_walk (plainFor_of_name (by decide +kernel)) (by decide +kernel) (by decide +kernel) (by decide) (fun _ _ h => by rw [h.1]; rfl) (fun _ U U' hal hh h => ⟨h.1, h.2.1.mv hal hh, h.2.2.1.al hal, h.2.2.2.1.al hal, h.2.2.2.2.1.mv hal hh, h.2.2.2.2.2.1.there hal hh, h.2.2.2.2.2.2⟩) (fun r U U' V V' h1 hal h2 h => Got.mv r U U' V V' h1 hal h2 h) ?_
  intro p e s m args below meth c s₁ X0 hexec hbytes hml hret hlk hnm hown hh0 W hP
  obtain ⟨rfl, hB, f1, f2, hA, s1, hz, l0, l2, hp⟩ := hP
  have c1 : Steps p.tables e below (s₁.setTop (entryFrame m #[.ref a, .ref b] 2)) (s₁.setTop (mkF m 0 #[.val (.ref a), .val (.ref b)] [])) := entry rfl
  have c2 : Steps p.tables e below (s₁.setTop (entryFrame m #[.ref a, .ref b] 2)) (s₁.setTop (mkF m 6 #[.val (.ref a), .val (.ref b)] [.null, .int (Int32.ofNat A.slots.size), .int 0, .ref b, .ref a])) := c1.trans (by
    refine XS.aloadN X0.here hexec rfl (hb hbytes d0) rfl rfl ?_
    refine XS.aloadN X0.here hexec rfl (hb hbytes d1) rfl rfl ?_
    refine iconstV X0.here hexec rfl 0 (hb hbytes d2) (by decide) ?_
    refine XS.aloadN X0.here hexec rfl (hb hbytes d3) rfl rfl ?_
    refine X0.alen hexec (hA.1.mv X0.warmed.alike hh0) rfl rfl (hb hbytes d4) ?_
    refine XS.aconstNull X0.here hexec rfl (hb hbytes d5) ?_
    exact Steps.refl _)
  obtain ⟨v3, T3, X3, E3, g3⟩ := X0.callN hexec (New4.law l a D fV fC b A z 0 A.slots.size) rfl hown (wks W (initW "java/lang/String" 27 New4.yN)) (W New4.tab (by simp only [site, List.mem_cons, List.mem_append, true_or, or_true])) (W := 0) (Nat.le_of_ble_eq_true rfl) (Nat.le_of_ble_eq_true rfl) (Nat.le_refl _) (by show 0 + A.slots.size ≤ A.slots.size; omega) (g := (mkF m 6 #[.val (.ref a), .val (.ref b)] [.null, .int (Int32.ofNat A.slots.size), .int (Int32.ofNat 0), .ref b, .ref a])) rfl (by rw [hml]; rfl) c2 (argsL := [.ref b, .int (Int32.ofNat 0), .int (Int32.ofNat A.slots.size), .null]) (rest := []) rfl rfl (by show 2 * 0 + 0 ≤ _; decide) (hb hbytes d6) (⟨rfl, hB.mv X0.warmed.alike hh0, f1.al X0.warmed.alike, f2.al X0.warmed.alike, hA.mv X0.warmed.alike hh0, s1.there X0.warmed.alike hh0, hz, l0, by omega, l2, fun i hi => by rw [Nat.zero_add]; exact hp i hi⟩)
  have e0 := Got.mv _ s₁ s _ _ hh0.symm (Vm.Alike.refl _) rfl E3
  obtain rfl := e0.1
  have c4 : Steps p.tables e below (s₁.setTop (entryFrame m #[.ref a, .ref b] 2)) (T3.setTop (mkF m 9 #[.val (.ref a), .val (.ref b)] [])) := g3
  exact ⟨T3, none, _, _, _, X3, by simp, rfl, by omega, (fun _ => rfl), e0, fun fs hl => c4.trans (X3.returnOut hexec hret (hb hbytes d9) hl)⟩
theorem pays {l : Launch} {R : Room} {p : Program} {e : Env} {below : List Frame} {s : State} {sargs : Array Value} {len W : Nat} (a : Addr) (D : Cell) (fV fC : Field) (b : Addr) (A : Cell) (z : Int32) (htab : tab.before sargs s = true) (hfr : 4 ≤ R.frames) (hlo : W + 65 ≤ R.locals) :
    Back l R p e below s sargs yN len W (fun A₁ a₁ => A₁.cells + 1 ≤ R.cells ∧ A₁.slots + A.slots.size ≤ R.slots ∧ P a D fV fC b A z a₁ A₁.U) (fun A₁ _ v₁ B₁ => E a D fV fC A v₁ A₁.U B₁.U ∧ B₁.locs = A₁.locs ++ [⟨a, fC.slot⟩, ⟨a, fV.slot⟩] ∧ B₁.cells = A₁.cells + 1 ∧ B₁.slots = A₁.slots + A.slots.size) :=
  (law l a D fV fC b A z).pays htab hfr (by omega)
end New1
end StrChars
namespace StrChars.Road
open Jvm Sem ClassFile Op Lib Jvm.Stand Jvm.Free Jvm.Free.XT
open Jvm.Lib.Cold (StaticIs)
abbrev ST : String := "java/lang/String"
/-- every table word that New1's law asks, flat -/
abbrev words : List Jvm.Cond := [.code New1.yN New1.yB 2 none, .initialized ST, .methodLink ST 27 New4.yN, .instanceMethod New4.yN,
  .code New4.yN New4.yB 6 none, .fieldLink ST 38 ST "COMPACT_STRINGS" "Z", .laysFinal ST ST "value" "[B", .fieldLink ST 9 ST "value" "[B", .laysFinal ST ST "coder" "B", .fieldLink ST 15 ST "coder" "B",
  .methodLink ST 1 Lib.objectInit, .instanceMethod Lib.objectInit, .code Lib.objectInit ⟨#[0xb1]⟩ 1 none, .methodLink ST 177 Cmp3.yN, .static Cmp3.yN, .methodLink ST 47 CodL.yN, .static CodL.yN,
  .code Cmp3.yN Cmp3.yB 6 (some (.array .byte)), .initialized U16, .arrayClass .byte, .methodLink U16 115 Cmp5.yN, .static Cmp5.yN, .code Cmp5.yN Cmp5.yB 7 (some .int), .code CodL.yN CodL.yB 2 (some .byte)]
theorem tab_of {a : Array Value} {s : State} (h : ∀ w ∈ words, w.before a s = true) : New1.tab.before a s = true := by
  have h5 : Cmp5.tab.before a s = true := unparts (wk h (.code Cmp5.yN Cmp5.yB 7 (some .int))) (wks h (.initialized Cmp5.yN.cls :: Cmp5.site))
  have hc : CodL.tab.before a s = true := unparts (wk h (.code CodL.yN CodL.yB 2 (some .byte))) (wks h (.initialized CodL.yN.cls :: CodL.site))
  have q5 : ∀ w ∈ Cmp5.tab :: words, w.before a s = true := fun w hw => (List.mem_cons.mp hw).elim (fun e => e ▸ h5) (h w)
  have h3 : Cmp3.tab.before a s = true := unparts (wk q5 (.code Cmp3.yN Cmp3.yB 6 (some (.array .byte)))) (wks q5 (.initialized Cmp3.yN.cls :: Cmp3.site))
  have q3 : ∀ w ∈ Cmp3.tab :: CodL.tab :: words, w.before a s = true := fun w hw => (List.mem_cons.mp hw).elim (fun e => e ▸ h3) fun hw => (List.mem_cons.mp hw).elim (fun e => e ▸ hc) (h w)
  have h4 : New4.tab.before a s = true := unparts (wk q3 (.code New4.yN New4.yB 6 none)) (wks q3 (.initialized New4.yN.cls :: New4.site))
  have q4 : ∀ w ∈ New4.tab :: words, w.before a s = true := fun w hw => (List.mem_cons.mp hw).elim (fun e => e ▸ h4) (h w)
  exact unparts (wk q4 (.code New1.yN New1.yB 2 none)) (wks q4 (.initialized New1.yN.cls :: New1.site))
/-- the words ride from the start Z to the walk's own state -/
theorem moved {Z s : State} {a0 args : Array Value} (hZ : Z.Warmed39 s.vm) (hw : ∀ d ∈ words, d.before a0 Z = true) : ∀ d ∈ words, d.before args s = true := fun d hd => by
  have q := hw d hd
  have t : ∀ d ∈ words, d = .arrayClass .byte ∨ (d.onTables && d.keepsFace) = true := by decide +kernel
  rcases t d hd with rfl | t
  · exact RoadKit.mvA hZ q
  · exact RoadKit.mv hZ q t
/-- WHAT COMES BACK, over the tables of the start Z: h the heap at the call, h' behind it -/
def Q (Z : State) (x : Addr) (A : Cell) (h : Heap) (v : Option Value) (h' : Heap) (L : List Loc) : Prop := v = none ∧ (∀ y ∈ L, y.base = x) ∧ RoadKit.Keep h h' [x] ∧ h'.size = h.size + 1 ∧ RoadKit.Exa Z h' x ST ∧ RoadKit.Fld Z h' x ST "value" "[B" (.ref h.size) ∧ RoadKit.Fld Z h' x ST "coder" "B" (.int 0) ∧
  (∃ V : Cell, RoadKit.Arr Z h' h.size V .byte ∧ V.vm = .none ∧ Z.vm.findClass "[B" = some V.cls ∧ V.slots.size = A.slots.size ∧ ∀ j, j < A.slots.size → V.slots[j]? = some (.int (lo8 (cv A j)))) ∧
  ∀ (O n d : String) (w : Value), RoadKit.Fld Z h x O n d w → RoadKit.slotOf Z O n d ≠ RoadKit.slotOf Z ST "value" "[B" → RoadKit.slotOf Z O n d ≠ RoadKit.slotOf Z ST "coder" "B" → RoadKit.Fld Z h' x O n d w
/-- **new String(chars) AT A CALL, IN THE ROAD'S FORM**: for specialBack behind newO: x the fresh String, b the char[] with the cell A -/
theorem back {p : Program} {l : Launch} {e : Env} {R : Room} {s : State} {args : Array Value} {below : List Frame} {len W : Nat} {Z : State} {a0 : Array Value} {h : Heap} (hZ : Z.Warmed39 s.vm) (hw : ∀ d ∈ words, d.before a0 Z = true) {kI : Nat} (wi : (Jvm.Cond.instantiable ST kI).before a0 Z = true)
    {x b : Addr} {A : Cell} {z : Int32} {v0 c0 : Value} (E : RoadKit.Exa Z h x ST) (V : RoadKit.Fld Z h x ST "value" "[B" v0) (C : RoadKit.Fld Z h x ST "coder" "B" c0) (K : RoadKit.Arr Z h b A .char) (hty : Typed .char A) (S : RoadKit.Sta Z h ST "COMPACT_STRINGS" "Z" (.int z)) (hz : ¬ z = 0)
    (l0 : 0 < A.slots.size) (l2 : A.slots.size ≤ 536870912) (hp : ∀ i, i < A.slots.size → ¬ 255 < cv A i) (hfr : 4 ≤ R.frames) (hlo : W + 65 ≤ R.locals) :
    Back l R p e below s args New1.yN len W (fun P a => a = #[.ref x, .ref b] ∧ P.U.heap = h ∧ P.cells + 1 ≤ R.cells ∧ P.slots + A.slots.size ≤ R.slots)
      (fun P _ v B => ∃ L, Q Z x A h v B.U.heap L ∧ B.locs = P.locs ++ L ∧ B.cells = P.cells + 1 ∧ B.slots = P.slots + A.slots.size) := by
  intro m meth c P g ig mk a X hg hsize hdg hW hn hp'
  obtain ⟨rfl, rfl, r1, r2⟩ := hp'
  have al : Z.vm.Alike P.U.vm := hZ.alike.trans X.warmed.alike
  obtain ⟨D, cfV, kV, iV, fV, hD, gV, stV, knV, obV, asV, slV⟩ := id V
  obtain ⟨D', cfC, kC, iC, fC, hD', gC, stC, -, -, asC, slC⟩ := id C
  cases hD.symm.trans hD'
  obtain ⟨D2, kD, e1, e2, e3, e4, e5⟩ := id E
  cases hD.symm.trans e1
  obtain ⟨c2, k2, i1, i2, i3, -⟩ := Cond.instantiable_spec wi
  cases e2.symm.trans i1
  cases e3.symm.trans i2
  obtain ⟨kU, u1, u2⟩ := al.2.2 _ _ e3
  have hB : Blank ST x D P.U := ⟨hD, ⟨knV, fun q hq => by rw [hq] at obV; cases obV⟩, by rw [al.findClass]; exact e2, kU, u1, by rw [u2]; exact i3, by rw [u2]; exact e5 i3⟩
  have F1 : Found ST "value" "[B" fV P.U := ⟨SBG.found_only al ⟨cfV, kV, iV, gV⟩, stV⟩
  have F2 : Found ST "coder" "B" fC P.U := ⟨SBG.found_only al ⟨cfC, kC, iC, gC⟩, stC⟩
  have hA : Ch b A P.U := ⟨⟨K.1, State.isArrayOf_alike al K.2.1, K.2.2, by omega⟩, hty⟩
  have hS : StaticIs P.U ST "COMPACT_STRINGS" "Z" (.int z) := by
    obtain ⟨cfS, iS, kS, fS, st, cS, t1, t2, t3, t4, t5, t6, t7⟩ := S
    exact StaticIs.there (s := { Z with heap := P.U.heap }) ⟨cfS, iS, kS, fS, st, cS, t1, t2, t3, t4, t5, (fun q => by rw [q] at t6; cases t6), t7⟩ al rfl
  obtain ⟨v, B, X', ⟨⟨hv, E', V', q1, q2, q3, q4, q5, q6, q7, q8, q9, q10, q11⟩, hl, hc, hs⟩, st⟩ := New1.pays x D fV fC b A z (tab_of (moved hZ hw)) hfr hlo m meth c P g ig mk _ X hg hsize hdg hW hn ⟨r1, r2, rfl, hB, F1, F2, hA, hS, hz, l0, l2, hp⟩
  have al' : Z.vm.Alike B.U.vm := hZ.alike.trans X'.warmed.alike
  have hsz : E'.slots.size = D.slots.size := by
    obtain ⟨-, -, -, kB, w1, w2, w3⟩ := q1
    obtain ⟨kB', y1, y2⟩ := al'.2.2 _ _ e3
    rw [q2.2.1] at w1
    cases w1.symm.trans y1
    rw [w3, e5 i3, y2]
  refine ⟨v, B, X', ⟨_, ⟨hv, ?_, ⟨by omega, fun y cy hy hn' => q10 y cy (by simpa using hn') hy, fun y cy hy => ?_⟩, q11, ⟨E', _, q1.1, by rw [q2.2.1]; exact e2, by rw [q2.2.1]; exact e3, by rw [q2.1]; exact obV, fun _ => by rw [hsz]; exact e5 i3⟩,
    ⟨E', cfV, kV, iV, fV, q1.1, gV, stV, by rw [q2.1]; exact knV, by rw [q2.1]; exact obV, by rw [q2.2.1]; exact asV, q3⟩, ⟨E', cfC, kC, iC, fC, q1.1, gC, stC, by rw [q2.1]; exact knV, by rw [q2.1]; exact obV, by rw [q2.2.1]; exact asC, q4⟩,
    ⟨V', ⟨q5.1, State.isArrayOf_alike al'.symm q5.2.1, q5.2.2.1⟩, q6, by rw [← al'.findClass]; exact q7, q8, fun j hj => by have := q9 j hj; rwa [Nat.zero_add] at this⟩, fun O n d w F n1 n2 => ?_⟩, hl, hc, hs⟩, st⟩
  · intro y hy
    simp only [List.mem_cons, List.not_mem_nil, or_false] at hy
    rcases hy with rfl | rfl <;> rfl
  · by_cases q : y = x
    · subst q
      cases hD.symm.trans hy
      exact ⟨E', q1.1, q2.2.1, q2.1, hsz⟩
    · exact ⟨cy, q10 y cy q hy, rfl, rfl, rfl⟩
  · obtain ⟨D3, cf, k, i, f, g1, g2, g3, g4, g5, g6, g7⟩ := F
    cases hD.symm.trans g1
    simp only [RoadKit.slotOf, g2, gV, gC, Option.map_some, Option.getD_some] at n1 n2
    exact ⟨E', cf, k, i, f, q1.1, g2, g3, by rw [q2.1]; exact g4, by rw [q2.1]; exact g5, by rw [q2.2.1]; exact g6, by rw [q2.2.2 f.slot (by simp [n1, n2])]; exact g7⟩
end StrChars.Road
namespace StrChars.Road
open Jvm Sem ClassFile Op Lib Jvm.Stand Jvm.Free Jvm.Free.XT
/-- WHAT COMES BACK, the byte[] as a list of values -/
def QA (Z : State) (x : Addr) (zn : Int32) (cs : List Int32) (h : Heap) (v : Option Value) (h' : Heap) (L : List Loc) : Prop := v = none ∧ (∀ y ∈ L, y.base = x) ∧ RoadKit.Keep h h' [x] ∧ h'.size = h.size + 1 ∧ RoadKit.Exa Z h' x ST ∧ RoadKit.Fld Z h' x ST "value" "[B" (.ref h.size) ∧ RoadKit.Fld Z h' x ST "coder" "B" (.int 0) ∧
  (∃ kb, Z.vm.findClass "[B" = some kb ∧ RoadKit.Arv Z h' h.size kb .byte zn (cs.map fun c => .int (lo8 c)) (.int 0)) ∧
  ∀ (O n d : String) (w : Value), RoadKit.Fld Z h x O n d w → RoadKit.slotOf Z O n d ≠ RoadKit.slotOf Z ST "value" "[B" → RoadKit.slotOf Z O n d ≠ RoadKit.slotOf Z ST "coder" "B" → RoadKit.Fld Z h' x O n d w
/-- **new String(chars) AT A CALL, THE ARRAYS AS LISTS**: the char[] at b holds cs, not empty, no char above 255 -/
theorem backArv {p : Program} {l : Launch} {e : Env} {R : Room} {s : State} {args : Array Value} {below : List Frame} {len W : Nat} {Z : State} {a0 : Array Value} {h : Heap} (hZ : Z.Warmed39 s.vm) (hw : ∀ d ∈ words, d.before a0 Z = true) {kI : Nat} (wi : (Jvm.Cond.instantiable ST kI).before a0 Z = true)
    {x b : Addr} {k : ClassId} {zn z : Int32} {cs : List Int32} {dv v0 c0 : Value} (E : RoadKit.Exa Z h x ST) (V : RoadKit.Fld Z h x ST "value" "[B" v0) (C : RoadKit.Fld Z h x ST "coder" "B" c0) (K : RoadKit.Arv Z h b k .char zn (cs.map Value.int) dv) (S : RoadKit.Sta Z h ST "COMPACT_STRINGS" "Z" (.int z)) (hz : ¬ z = 0)
    (hlen : zn.toNatClampNeg = cs.length) (h0 : 0 < cs.length) (hbig : cs.length ≤ 536870912) (hall : ∀ c ∈ cs, ¬ 255 < c) (hfr : 4 ≤ R.frames) (hlo : W + 65 ≤ R.locals) :
    Back l R p e below s args New1.yN len W (fun P a => a = #[.ref x, .ref b] ∧ P.U.heap = h ∧ P.cells + 1 ≤ R.cells ∧ P.slots + cs.length ≤ R.slots)
      (fun P _ v B => ∃ L, QA Z x zn cs h v B.U.heap L ∧ B.locs = P.locs ++ L ∧ B.cells = P.cells + 1 ∧ B.slots = P.slots + cs.length) := by
  obtain ⟨A, K1, K2, K3, K4, K5, K6⟩ := K
  have e : A.slots.size = cs.length := K3.trans hlen
  have hat : ∀ (i : Nat) (hi : i < cs.length), A.slots[i]? = some (.int cs[i]) := fun i hi => by rw [K5 i (by omega)]; simp [List.getD_eq_getElem?_getD, hi]
  have hcv : ∀ (i : Nat) (hi : i < cs.length), cv A i = cs[i] := fun i hi => by unfold cv; rw [hat i hi]
  have hty : Typed .char A := fun i v hv => by
    have hi : i < A.slots.size := (Array.getElem?_eq_some_iff.mp hv).1
    have q := K5 i hi
    rw [hv] at q
    rw [Option.some.inj q]
    exact K6 i hi
  refine Back.mono (back hZ hw wi E V C K1 hty S hz (by omega) (by omega) (fun i hi => by rw [hcv i (by omega)]; exact hall _ (List.getElem_mem _)) hfr hlo) (fun P a hp => ⟨hp.1, hp.2.1, hp.2.2.1, by rw [e]; exact hp.2.2.2⟩) (fun P a v B hp hq => ?_)
  obtain ⟨L, ⟨q1, q2, q3, q4, q5, q6, q7, ⟨V', v1, v2, v3, v4, v5⟩, q9⟩, hl, hc, hs⟩ := hq
  refine ⟨L, ⟨q1, q2, q3, q4, q5, q6, q7, ⟨V'.cls, v3, V', v1, rfl, by rw [v4, e, hlen], K4, fun i hi => ?_, fun i hi => ?_⟩, q9⟩, hl, hc, by rw [hs, e]⟩
  · have hi' : i < cs.length := by omega
    rw [v5 i (by omega), hcv i hi']; simp [List.getD_eq_getElem?_getD, hi']
  · have hi' : i < cs.length := by omega
    simp only [List.getD_eq_getElem?_getD, List.getElem?_map, List.getElem?_eq_getElem hi', Option.map_some, Option.getD_some]
    exact fits_lo8 _
end StrChars.Road
namespace StrChars.Road
open Jvm Sem ClassFile Op Lib Jvm.Stand Jvm.Free Jvm.Free.XT
/-- WHAT COMES BACK, in the writer's own shape -/
def QV (Z : State) (x : Addr) (N : Int32) (bs : List Int32) (h : Heap) (n0 : Nat) (v : Option Value) (h' : Heap) (L : List Loc) : Prop := v = none ∧ RoadKit.Fr n0 L ∧ RoadKit.Keep h h' [x] ∧ RoadKit.Exa Z h' x ST ∧ RoadKit.Fld Z h' x ST "coder" "B" (.int 0) ∧
  ∃ (t : Addr) (kb : ClassId), n0 ≤ t ∧ h.size ≤ t ∧ ¬ t = x ∧ RoadKit.Fld Z h' x ST "value" "[B" (.ref t) ∧ RoadKit.Arv Z h' t kb .byte N (bs.map Value.int) (.int 0)
/-- **new String(chars) AT A CALL, FOR THE WRITER**: a char[] of n known ints, each 0 to 255 -/
theorem backV {p : Program} {l : Launch} {e : Env} {R : Room} {s : State} {args : Array Value} {below : List Frame} {len W : Nat} {Z : State} {a0 : Array Value} {h : Heap} (hZ : Z.Warmed39 s.vm) (hw : ∀ d ∈ words, d.before a0 Z = true) {kI : Nat} (wi : (Jvm.Cond.instantiable ST kI).before a0 Z = true)
    {x b : Addr} {kC : ClassId} {cs bs : List Int32} {d v0 c0 : Value} {z N : Int32} {n n0 : Nat} (hx0 : n0 ≤ x) (hh0 : n0 ≤ h.size) (E : RoadKit.Exa Z h x ST) (V : RoadKit.Fld Z h x ST "value" "[B" v0) (C : RoadKit.Fld Z h x ST "coder" "B" c0) (K : RoadKit.Arv Z h b kC .char N (cs.map Value.int) d) (S : RoadKit.Sta Z h ST "COMPACT_STRINGS" "Z" (.int z)) (hz : ¬ z = 0)
    (hn : cs.length = n) (hN : N = Int32.ofNat n) (l0 : 0 < n) (l2 : n ≤ 4000) (hp : ∀ c ∈ cs, ¬ c < 0 ∧ ¬ (255 : Int32) < c) (hb : bs = cs.map (fun c => c.toInt8.toInt32)) (hfr : 4 ≤ R.frames) (hlo : W + 65 ≤ R.locals) :
    Back l R p e below s args (⟨"java/lang/String", "<init>", "([C)V"⟩ : MethodName) len W (fun P a => a = #[.ref x, .ref b] ∧ P.U.heap = h ∧ P.cells + 1 ≤ R.cells ∧ P.slots + n ≤ R.slots)
      (fun P _ v B => ∃ L, QV Z x N bs h n0 v B.U.heap L ∧ B.locs = P.locs ++ L ∧ B.cells = P.cells + 1 ∧ B.slots = P.slots + n) := by
  subst hn hN hb
  refine Back.mono (backArv hZ hw wi E V C K S hz (n32 (by omega)) l0 (by omega) (fun c hc => (hp c hc).2) hfr hlo) (fun P a hp => hp) (fun P a v B hp hq => ?_)
  obtain ⟨L, ⟨q1, q2, q3, q4, q5, q6, q7, ⟨kb, v1, v2⟩, q9⟩, hl, hc, hs⟩ := hq
  exact ⟨L, ⟨q1, fun y hy => by rw [q2 y hy]; exact hx0, q3, q5, q7, h.size, kb, hh0, Nat.le_refl _, Nat.ne_of_gt E.lt, q6, by rw [List.map_map]; exact v2⟩, hl, hc, hs⟩
end StrChars.Road
end Jvm.Pilot.@@N@@
namespace Jvm.RoadKit
open Sem ClassFile Op Lib Jvm.Stand Jvm.Free Jvm.LawKit
section Own
variable {p : Program} {l : Launch} {e : Env} {R : Room} {s : State} {m : MethodId} {args : Array Value} {below : List Frame} {meth : Method} {c : Code} {T : State} {locs : List Loc} {cells slots : Nat}
theorem retI (X : Stand p l e R s m args below meth c T locs cells slots) (hx : p.tables.exec = Jvm.exec) {pc : Nat} {Ls : Array Slot} {z : Int32} {rest : List Value} (hret : meth.sig.returnType = some .int) (hd : decode c.code pc = .ok (.ireturn, 1)) {fs : List Frame}
    (hl : ∀ (f : JFrame) (acts : List Action), f.method = m → f.locked = none → f.entered = [] → (doReturn e (T.setTop f) acts (some (.int z))).1 = T.setFrames fs) : Steps p.tables e below (T.setTop (mkF m pc Ls (.int z :: rest))) (T.setFrames fs) :=
  retOut X hx hret rfl (Or.inl ⟨rfl, Or.inl rfl, _, rfl⟩) hd hl
theorem retJ (X : Stand p l e R s m args below meth c T locs cells slots) (hx : p.tables.exec = Jvm.exec) {pc : Nat} {Ls : Array Slot} {z : Int64} {rest : List Value} (hret : meth.sig.returnType = some .long) (hd : decode c.code pc = .ok (.lreturn, 1)) {fs : List Frame}
    (hl : ∀ (f : JFrame) (acts : List Action), f.method = m → f.locked = none → f.entered = [] → (doReturn e (T.setTop f) acts (some (.long z))).1 = T.setFrames fs) : Steps p.tables e below (T.setTop (mkF m pc Ls (.long z :: rest))) (T.setFrames fs) :=
  retOut X hx hret rfl (Or.inr (Or.inl ⟨rfl, rfl, _, rfl⟩)) hd hl
theorem retD (X : Stand p l e R s m args below meth c T locs cells slots) (hx : p.tables.exec = Jvm.exec) {pc : Nat} {Ls : Array Slot} {z : UInt64} {rest : List Value} (hret : meth.sig.returnType = some .double) (hd : decode c.code pc = .ok (.dreturn, 1)) {fs : List Frame}
    (hl : ∀ (f : JFrame) (acts : List Action), f.method = m → f.locked = none → f.entered = [] → (doReturn e (T.setTop f) acts (some (.double z))).1 = T.setFrames fs) : Steps p.tables e below (T.setTop (mkF m pc Ls (.double z :: rest))) (T.setFrames fs) :=
  retOut X hx hret rfl (Or.inr (Or.inr (Or.inl ⟨rfl, rfl, _, rfl⟩))) hd hl
theorem retA (X : Stand p l e R s m args below meth c T locs cells slots) (hx : p.tables.exec = Jvm.exec) {pc : Nat} {Ls : Array Slot} {t : FieldType} {z : Value} {rest : List Value} (hret : meth.sig.returnType = some t) (hn : narrow t z = z) (ht : t.isReference = true) (hz : z.isRef = true) (hd : decode c.code pc = .ok (.areturn, 1)) {fs : List Frame}
    (hl : ∀ (f : JFrame) (acts : List Action), f.method = m → f.locked = none → f.entered = [] → (doReturn e (T.setTop f) acts (some z)).1 = T.setFrames fs) : Steps p.tables e below (T.setTop (mkF m pc Ls (z :: rest))) (T.setFrames fs) :=
  retOut X hx hret hn (Or.inr (Or.inr (Or.inr (Or.inr ⟨rfl, ht, hz⟩)))) hd hl
theorem retZ (X : Stand p l e R s m args below meth c T locs cells slots) (hx : p.tables.exec = Jvm.exec) {pc : Nat} {Ls : Array Slot} {z r : Int32} {t : FieldType} {rest : List Value} (hret : meth.sig.returnType = some t) (ht : t = .boolean ∨ t = .byte ∨ t = .char ∨ t = .short)
    (hd : decode c.code pc = .ok (.ireturn, 1)) (hn : nar t z = r) {fs : List Frame} (hl : ∀ (f : JFrame) (acts : List Action), f.method = m → f.locked = none → f.entered = [] → (doReturn e (T.setTop f) acts (some (.int r))).1 = T.setFrames fs) :
    Steps p.tables e below (T.setTop (mkF m pc Ls (.int z :: rest))) (T.setFrames fs) := retN X hx hret ht hd (by rw [hn]; exact hl)
theorem ownUp (X : Stand p l e R s m args below meth c T locs cells slots) {cells' slots' : Nat} (h1 : cells ≤ cells') (h2 : slots ≤ slots') : Stand p l e R s m args below meth c T locs cells' slots' :=
  ⟨X.admits, X.cas, X.clock, X.frames, X.room, X.hears, X.method, X.code, X.here, X.tail, X.warmed, X.limits, X.bytes, X.same.mono h1 h2⟩
theorem own_hide (X : Stand p l e R s m args below meth c T locs cells slots) {n0 : Nat} (N : Fr n0 locs) : ∃ L, Stand p l e R s m args below meth c T L cells slots ∧ Fr n0 L := ⟨_, X, N⟩
end Own
def Go (tb : Tables) (e : Env) (below : List Frame) (P : Outcome → State → Prop) (T : State) (f : JFrame) : Prop :=
  ∃ s₂ o, Steps tb e below (T.setTop f) s₂ ∧ s₂.status = .running ∧ Ended s₂ below o ∧ P o s₂
theorem Go.via {tb : Tables} {e : Env} {below : List Frame} {P : Outcome → State → Prop} {T T' : State} {f f' : JFrame} (st : ∀ t, Steps tb e below (T'.setTop f') t → Steps tb e below (T.setTop f) t) (k : Go tb e below P T' f') : Go tb e below P T f := by
  obtain ⟨s₂, o, h, r⟩ := k; exact ⟨s₂, o, st _ h, r⟩
theorem Go.hop {tb : Tables} {e : Env} {below : List Frame} {P : Outcome → State → Prop} {T T' : State} {f f' : JFrame} (st : Steps tb e below (T.setTop f) (T'.setTop f')) (k : Go tb e below P T' f') : Go tb e below P T f := by
  obtain ⟨s₂, o, h, r⟩ := k; exact ⟨s₂, o, st.trans h, r⟩
theorem own_nin0 {a : Addr} : a ∉ ([] : List Addr) := fun q => nomatch q
theorem own_ninC {a b : Addr} {l : List Addr} (h : a ≠ b) (h' : a ∉ l) : a ∉ b :: l := fun q => (List.mem_cons.mp q).elim h h'
theorem own_nb {x : Int32} (h : x = 0 ∨ x = 1) : nar .boolean x = x := by rcases h with rfl | rfl <;> rfl
theorem own_nnb {x : Int32} (h : x = 0 ∨ x = 1) : narrow .boolean (.int x) = .int x := by rcases h with rfl | rfl <;> rfl
theorem own_fb {x : Int32} (h : x = 0 ∨ x = 1) : fits .boolean (.int x) = true := by rcases h with rfl | rfl <;> rfl
theorem own_all0 {P : Addr → Prop} : ∀ x ∈ ([] : List Addr), P x := fun _ q => nomatch q
theorem own_allC {P : Addr → Prop} {a : Addr} {l : List Addr} (h : P a) (h' : ∀ x ∈ l, P x) : ∀ x ∈ a :: l, P x := fun x q => (List.mem_cons.mp q).elim (fun e => e ▸ h) (h' x)
theorem own_dc0 : FP.dconst0 = FP.l2d (0 : Int64) := by decide +kernel
theorem own_dc1 : FP.dconst1 = FP.l2d (1 : Int64) := by decide +kernel
theorem own_m0 {k : Int32} : ∀ p ∈ ([] : List (Int × Int)), p.1 ≠ k.toInt := fun _ q => nomatch q
theorem own_mC {k x : Int32} {a o : Int} {l : List (Int × Int)} (h : ¬ k = x) (hx : x.toInt = a) (t : ∀ p ∈ l, p.1 ≠ k.toInt) : ∀ p ∈ (a, o) :: l, p.1 ≠ k.toInt := fun p q => (List.mem_cons.mp q).elim (fun e r => h (Int32.toInt_inj.mp (by rw [hx, ← r, e]))) (t p)
theorem own_cat {v : Value} (h : v.isRef = true) : v.category = 1 := by rcases ref_cases h with rfl | ⟨a, rfl⟩ <;> rfl
theorem own_nat {n : Nat} (h : n < 2147483648) : n.toInt32.toInt = n := len_toInt h
theorem own_ltN {i n : Nat} (hi : i < 2147483648) (hn : n < 2147483648) : i.toInt32 < n.toInt32 ↔ i < n := by
  rw [Int32.lt_iff_toInt_lt, own_nat hi, own_nat hn]; omega
theorem own_succ (i : Nat) : i.toInt32 + 1 = (i + 1).toInt32 := (Int32.ofNat_add i 1).symm
theorem own_nneg {i : Nat} (hi : i < 2147483648) : ¬ i.toInt32 < 0 := by
  rw [Int32.lt_iff_toInt_lt, own_nat hi]; simp
theorem own_clamp {i : Nat} (hi : i < 2147483648) : i.toInt32.toNatClampNeg = i := by
  show i.toInt32.toInt.toNat = i
  rw [own_nat hi]; rfl
def HX (p : Program) (c : Code) (cd : ByteArray) : Prop := p.tables.exec = Jvm.exec ∧ c.code = cd
abbrev Rm (a b c d : Nat) : Room := { frames := a, cells := b, slots := c, locals := d }
abbrev MFr (l : Launch) (Z : State) (y : MethodName) (cd : ByteArray) (ml : Nat) (ret : Option FieldType) (ws : List Jvm.Cond) (R : Room) (as' : Array Value) (h0 : Heap) (Q : Option Value → Heap → List Loc → Prop) : Prop := MetFree l y (head1 (Jvm.Cond.code y cd ml ret :: ws) R) (fun a U => a = as' ∧ Z.Warmed39 U.vm ∧ U.heap = h0) (fun _ _ _ _ _ => True) (fun _ U o U' => ∃ v L, o = .returned v ∧ Q v U'.heap L ∧ FrameEnd U o U' L R.cells R.slots)
section OwnG
variable {p : Program} {l : Launch} {e : Env} {R : Room} {s : State} {m : MethodId} {args : Array Value} {below : List Frame} {meth : Method} {c : Code} {T : State} {locs : List Loc} {cells slots : Nat} {P : Outcome → State → Prop} {cd : ByteArray} {pc : Nat} {Ls : Array Slot} {S : List Value}
theorem g_iloadN (X : Stand p l e R s m args below meth c T locs cells slots) (H : HX p c cd) {k : Fin 4} {v : Int32} (hd : decode cd pc = .ok (.iload_n k, 1)) (hl : Ls[k.val]? = some (.val (.int v))) (go : Go p.tables e below P T (mkF m (pc + 1) Ls (.int v :: S))) : Go p.tables e below P T (mkF m pc Ls S) := Go.via (fun t q => XS.iloadN X.here H.1 rfl (hb H.2 hd) hl q) go
theorem g_iload (X : Stand p l e R s m args below meth c T locs cells slots) (H : HX p c cd) {k : Nat} {v : Int32} (hd : decode cd pc = .ok (.iload k, 2)) (hl : Ls[k]? = some (.val (.int v))) (go : Go p.tables e below P T (mkF m (pc + 2) Ls (.int v :: S))) : Go p.tables e below P T (mkF m pc Ls S) := Go.via (fun t q => XS.iload X.here H.1 rfl (hb H.2 hd) hl q) go
theorem g_lloadN (X : Stand p l e R s m args below meth c T locs cells slots) (H : HX p c cd) {k : Fin 4} {v : Int64} (hd : decode cd pc = .ok (.lload_n k, 1)) (hl : Ls[k.val]? = some (.val (.long v))) (go : Go p.tables e below P T (mkF m (pc + 1) Ls (.long v :: S))) : Go p.tables e below P T (mkF m pc Ls S) := Go.via (fun t q => XS.lloadN X.here H.1 rfl (hb H.2 hd) hl q) go
theorem g_lload (X : Stand p l e R s m args below meth c T locs cells slots) (H : HX p c cd) {k : Nat} {v : Int64} (hd : decode cd pc = .ok (.lload k, 2)) (hl : Ls[k]? = some (.val (.long v))) (go : Go p.tables e below P T (mkF m (pc + 2) Ls (.long v :: S))) : Go p.tables e below P T (mkF m pc Ls S) := Go.via (fun t q => XS.lload X.here H.1 rfl (hb H.2 hd) hl q) go
theorem g_aloadN (X : Stand p l e R s m args below meth c T locs cells slots) (H : HX p c cd) {k : Fin 4} {v : Value} (hd : decode cd pc = .ok (.aload_n k, 1)) (hl : Ls[k.val]? = some (.val v)) (hv : v.isRef = true) (go : Go p.tables e below P T (mkF m (pc + 1) Ls (v :: S))) : Go p.tables e below P T (mkF m pc Ls S) := Go.via (fun t q => XS.aloadN X.here H.1 rfl (hb H.2 hd) hl hv q) go
theorem g_aload (X : Stand p l e R s m args below meth c T locs cells slots) (H : HX p c cd) {k : Nat} {v : Value} (hd : decode cd pc = .ok (.aload k, 2)) (hl : Ls[k]? = some (.val v)) (hv : v.isRef = true) (go : Go p.tables e below P T (mkF m (pc + 2) Ls (v :: S))) : Go p.tables e below P T (mkF m pc Ls S) := Go.via (fun t q => XS.aload X.here H.1 rfl (hb H.2 hd) hl hv q) go
theorem g_iconst (X : Stand p l e R s m args below meth c T locs cells slots) (H : HX p c cd) {i : Int} (hd : decode cd pc = .ok (.iconst i, 1)) (v : Int32) (hv : Int32.ofInt i = v) (go : Go p.tables e below P T (mkF m (pc + 1) Ls (.int v :: S))) : Go p.tables e below P T (mkF m pc Ls S) := by subst hv; exact Go.via (fun t q => XS.iconst X.here H.1 rfl (hb H.2 hd) q) go
theorem g_bipush (X : Stand p l e R s m args below meth c T locs cells slots) (H : HX p c cd) {i : Int} (hd : decode cd pc = .ok (.bipush i, 2)) (v : Int32) (hv : (Int8.ofInt i).toInt32 = v) (go : Go p.tables e below P T (mkF m (pc + 2) Ls (.int v :: S))) : Go p.tables e below P T (mkF m pc Ls S) := by subst hv; exact Go.via (fun t q => XS.bipush X.here H.1 rfl (hb H.2 hd) q) go
theorem g_sipush (X : Stand p l e R s m args below meth c T locs cells slots) (H : HX p c cd) {i : Int} (hd : decode cd pc = .ok (.sipush i, 3)) (v : Int32) (hv : (Int16.ofInt i).toInt32 = v) (go : Go p.tables e below P T (mkF m (pc + 3) Ls (.int v :: S))) : Go p.tables e below P T (mkF m pc Ls S) := by subst hv; exact Go.via (fun t q => XS.sipush X.here H.1 rfl (hb H.2 hd) q) go
theorem g_lconst (X : Stand p l e R s m args below meth c T locs cells slots) (H : HX p c cd) {i : Fin 2} (hd : decode cd pc = .ok (.lconst i, 1)) (v : Int64) (hv : Int64.ofNat i = v) (go : Go p.tables e below P T (mkF m (pc + 1) Ls (.long v :: S))) : Go p.tables e below P T (mkF m pc Ls S) := by subst hv; exact Go.via (fun t q => XS.lconst X.here H.1 rfl (hb H.2 hd) q) go
theorem g_iadd (X : Stand p l e R s m args below meth c T locs cells slots) (H : HX p c cd) {x y : Int32} (hd : decode cd pc = .ok (.iadd, 1)) (go : Go p.tables e below P T (mkF m (pc + 1) Ls (.int (x + y) :: S))) : Go p.tables e below P T (mkF m pc Ls (.int y :: .int x :: S)) := Go.via (fun t q => XS.iadd X.here H.1 rfl (hb H.2 hd) rfl q) go
theorem g_isub (X : Stand p l e R s m args below meth c T locs cells slots) (H : HX p c cd) {x y : Int32} (hd : decode cd pc = .ok (.isub, 1)) (go : Go p.tables e below P T (mkF m (pc + 1) Ls (.int (x - y) :: S))) : Go p.tables e below P T (mkF m pc Ls (.int y :: .int x :: S)) := Go.via (fun t q => XS.isub X.here H.1 rfl (hb H.2 hd) rfl q) go
theorem g_imul (X : Stand p l e R s m args below meth c T locs cells slots) (H : HX p c cd) {x y : Int32} (hd : decode cd pc = .ok (.imul, 1)) (go : Go p.tables e below P T (mkF m (pc + 1) Ls (.int (x * y) :: S))) : Go p.tables e below P T (mkF m pc Ls (.int y :: .int x :: S)) := Go.via (fun t q => XS.imul X.here H.1 rfl (hb H.2 hd) rfl q) go
theorem g_iand (X : Stand p l e R s m args below meth c T locs cells slots) (H : HX p c cd) {x y : Int32} (hd : decode cd pc = .ok (.iand, 1)) (go : Go p.tables e below P T (mkF m (pc + 1) Ls (.int (x &&& y) :: S))) : Go p.tables e below P T (mkF m pc Ls (.int y :: .int x :: S)) := Go.via (fun t q => XS.iand X.here H.1 rfl (hb H.2 hd) rfl q) go
theorem g_ior (X : Stand p l e R s m args below meth c T locs cells slots) (H : HX p c cd) {x y : Int32} (hd : decode cd pc = .ok (.ior, 1)) (go : Go p.tables e below P T (mkF m (pc + 1) Ls (.int (x ||| y) :: S))) : Go p.tables e below P T (mkF m pc Ls (.int y :: .int x :: S)) := Go.via (fun t q => XS.ior X.here H.1 rfl (hb H.2 hd) rfl q) go
theorem g_ladd (X : Stand p l e R s m args below meth c T locs cells slots) (H : HX p c cd) {x y : Int64} (hd : decode cd pc = .ok (.ladd, 1)) (go : Go p.tables e below P T (mkF m (pc + 1) Ls (.long (x + y) :: S))) : Go p.tables e below P T (mkF m pc Ls (.long y :: .long x :: S)) := Go.via (fun t q => XS.ladd X.here H.1 rfl (hb H.2 hd) rfl q) go
theorem g_lmul (X : Stand p l e R s m args below meth c T locs cells slots) (H : HX p c cd) {x y : Int64} (hd : decode cd pc = .ok (.lmul, 1)) (go : Go p.tables e below P T (mkF m (pc + 1) Ls (.long (x * y) :: S))) : Go p.tables e below P T (mkF m pc Ls (.long y :: .long x :: S)) := Go.via (fun t q => XS.lmul X.here H.1 rfl (hb H.2 hd) rfl q) go
theorem g_lcmp (X : Stand p l e R s m args below meth c T locs cells slots) (H : HX p c cd) {x y : Int64} (hd : decode cd pc = .ok (.lcmp, 1)) (go : Go p.tables e below P T (mkF m (pc + 1) Ls (.int (lcmpW x y) :: S))) : Go p.tables e below P T (mkF m pc Ls (.long y :: .long x :: S)) := Go.via (fun t q => XS.lcmp X.here H.1 rfl (hb H.2 hd) rfl q) go
theorem g_i2l (X : Stand p l e R s m args below meth c T locs cells slots) (H : HX p c cd) {x : Int32} (hd : decode cd pc = .ok (.i2l, 1)) (go : Go p.tables e below P T (mkF m (pc + 1) Ls (.long x.toInt64 :: S))) : Go p.tables e below P T (mkF m pc Ls (.int x :: S)) := Go.via (fun t q => XS.i2l X.here H.1 rfl (hb H.2 hd) rfl q) go
theorem g_dup (X : Stand p l e R s m args below meth c T locs cells slots) (H : HX p c cd) {x : Value} (hd : decode cd pc = .ok (.dup, 1)) (hc : x.category = 1) (go : Go p.tables e below P T (mkF m (pc + 1) Ls (x :: x :: S))) : Go p.tables e below P T (mkF m pc Ls (x :: S)) := Go.via (fun t q => XS.dup X.here H.1 rfl (hb H.2 hd) rfl hc q) go
theorem g_goto (X : Stand p l e R s m args below meth c T locs cells slots) (H : HX p c cd) {o : Int} (hd : decode cd pc = .ok (.goto o, 3)) (n : Nat) (ho : 0 ≤ (pc : Int) + o ∧ ((pc : Int) + o).toNat = n) (go : Go p.tables e below P T (mkF m n Ls S)) : Go p.tables e below P T (mkF m pc Ls S) := Go.via (fun t q => XS.goto X.here H.1 rfl rfl (hb H.2 hd) ho.1 ho.2 q) go
theorem g_ifYes (X : Stand p l e R s m args below meth c T locs cells slots) (H : HX p c cd) {cn : ClassFile.Cond} {x : Int32} {o : Int} (hd : decode cd pc = .ok (.ifCond cn o, 3)) (n : Nat) (hc : ifCond.holds cn x = true) (ho : 0 ≤ (pc : Int) + o ∧ ((pc : Int) + o).toNat = n) (go : Go p.tables e below P T (mkF m n Ls S)) : Go p.tables e below P T (mkF m pc Ls (.int x :: S)) := Go.via (fun t q => XS.ifYes X.here H.1 rfl rfl (hb H.2 hd) rfl hc ho.1 ho.2 q) go
theorem g_ifNo (X : Stand p l e R s m args below meth c T locs cells slots) (H : HX p c cd) {cn : ClassFile.Cond} {x : Int32} {o : Int} (hd : decode cd pc = .ok (.ifCond cn o, 3)) (hc : ifCond.holds cn x = false) (go : Go p.tables e below P T (mkF m (pc + 3) Ls S)) : Go p.tables e below P T (mkF m pc Ls (.int x :: S)) := Go.via (fun t q => XS.ifNo X.here H.1 rfl (hb H.2 hd) rfl hc q) go
theorem g_icmpYes (X : Stand p l e R s m args below meth c T locs cells slots) (H : HX p c cd) {cn : ClassFile.Cond} {x y : Int32} {o : Int} (hd : decode cd pc = .ok (.if_icmp cn o, 3)) (n : Nat) (hc : if_icmp.holds cn x y = true) (ho : 0 ≤ (pc : Int) + o ∧ ((pc : Int) + o).toNat = n) (go : Go p.tables e below P T (mkF m n Ls S)) : Go p.tables e below P T (mkF m pc Ls (.int y :: .int x :: S)) := Go.via (fun t q => XS.icmpYes X.here H.1 rfl rfl (hb H.2 hd) rfl hc ho.1 ho.2 q) go
theorem g_icmpNo (X : Stand p l e R s m args below meth c T locs cells slots) (H : HX p c cd) {cn : ClassFile.Cond} {x y : Int32} {o : Int} (hd : decode cd pc = .ok (.if_icmp cn o, 3)) (hc : if_icmp.holds cn x y = false) (go : Go p.tables e below P T (mkF m (pc + 3) Ls S)) : Go p.tables e below P T (mkF m pc Ls (.int y :: .int x :: S)) := Go.via (fun t q => XS.icmpNo X.here H.1 rfl (hb H.2 hd) rfl hc q) go
theorem g_istoreN (X : Stand p l e R s m args below meth c T locs cells slots) (H : HX p c cd) {k : Fin 4} {x : Int32} (hd : decode cd pc = .ok (.istore_n k, 1)) (L2 : Array Slot) (hl : storeLocals Ls k.val (.int x) = some L2) (go : Go p.tables e below P T (mkF m (pc + 1) L2 S)) : Go p.tables e below P T (mkF m pc Ls (.int x :: S)) := Go.via (fun t q => XS.istoreN X.here H.1 rfl (hb H.2 hd) rfl hl q) go
theorem g_istore (X : Stand p l e R s m args below meth c T locs cells slots) (H : HX p c cd) {k : Nat} {x : Int32} (hd : decode cd pc = .ok (.istore k, 2)) (L2 : Array Slot) (hl : storeLocals Ls k (.int x) = some L2) (go : Go p.tables e below P T (mkF m (pc + 2) L2 S)) : Go p.tables e below P T (mkF m pc Ls (.int x :: S)) := Go.via (fun t q => XS.istore X.here H.1 rfl (hb H.2 hd) rfl hl q) go
theorem g_lstoreN (X : Stand p l e R s m args below meth c T locs cells slots) (H : HX p c cd) {k : Fin 4} {x : Int64} (hd : decode cd pc = .ok (.lstore_n k, 1)) (L2 : Array Slot) (hl : storeLocals Ls k.val (.long x) = some L2) (go : Go p.tables e below P T (mkF m (pc + 1) L2 S)) : Go p.tables e below P T (mkF m pc Ls (.long x :: S)) := Go.via (fun t q => XS.lstoreN X.here H.1 rfl (hb H.2 hd) rfl hl q) go
theorem g_lstore (X : Stand p l e R s m args below meth c T locs cells slots) (H : HX p c cd) {k : Nat} {x : Int64} (hd : decode cd pc = .ok (.lstore k, 2)) (L2 : Array Slot) (hl : storeLocals Ls k (.long x) = some L2) (go : Go p.tables e below P T (mkF m (pc + 2) L2 S)) : Go p.tables e below P T (mkF m pc Ls (.long x :: S)) := Go.via (fun t q => XS.lstore X.here H.1 rfl (hb H.2 hd) rfl hl q) go
theorem g_astoreN (X : Stand p l e R s m args below meth c T locs cells slots) (H : HX p c cd) {k : Fin 4} {x : Value} (hd : decode cd pc = .ok (.astore_n k, 1)) (hv : x.isRef = true) (L2 : Array Slot) (hl : storeLocals Ls k.val x = some L2) (go : Go p.tables e below P T (mkF m (pc + 1) L2 S)) : Go p.tables e below P T (mkF m pc Ls (x :: S)) := Go.via (fun t q => XS.astoreN X.here H.1 rfl (hb H.2 hd) rfl hv hl q) go
theorem g_astore (X : Stand p l e R s m args below meth c T locs cells slots) (H : HX p c cd) {k : Nat} {x : Value} (hd : decode cd pc = .ok (.astore k, 2)) (hv : x.isRef = true) (L2 : Array Slot) (hl : storeLocals Ls k x = some L2) (go : Go p.tables e below P T (mkF m (pc + 2) L2 S)) : Go p.tables e below P T (mkF m pc Ls (x :: S)) := Go.via (fun t q => XS.astore X.here H.1 rfl (hb H.2 hd) rfl hv hl q) go
theorem g_iinc (X : Stand p l e R s m args below meth c T locs cells slots) (H : HX p c cd) {k : Nat} {i : Int} {x : Int32} (hd : decode cd pc = .ok (.iinc k i, 3)) (hx : Ls[k]? = some (.val (.int x))) (L2 : Array Slot) (hl : storeLocals Ls k (.int (x + Int32.ofInt i)) = some L2) (go : Go p.tables e below P T (mkF m (pc + 3) L2 S)) : Go p.tables e below P T (mkF m pc Ls S) := Go.via (fun t q => XS.iinc X.here H.1 rfl (hb H.2 hd) hx hl q) go
theorem g_len (X : Stand p l e R s m args below meth c T locs cells slots) (H : HX p c cd) {Z : State} {h : Heap} {a : Addr} {k : ClassId} {ty : FieldType} {z : Int32} {vs : List Value} {dv : Value} (hZ : Z.Warmed39 s.vm) (eT : T.heap = h) (F : Arv Z h a k ty z vs dv) (hd : decode cd pc = .ok (.arraylength, 1)) (go : Go p.tables e below P T (mkF m (pc + 1) Ls (.int z :: S))) : Go p.tables e below P T (mkF m pc Ls (.ref a :: S)) := by
  obtain ⟨c1, A, -, S1, N1, -, -⟩ := F
  exact Go.via (fun t q => X.arraylength H.1 (by rw [eT]; exact A.1) (State.isArrayOf_alike hZ.alike A.2.1) (g := mkF m pc Ls (.ref a :: S)) rfl rfl (hb H.2 hd) t (by rw [len_of S1 N1]; exact q)) go
theorem g_baload (X : Stand p l e R s m args below meth c T locs cells slots) (H : HX p c cd) {Z : State} {h : Heap} {a : Addr} {k : ClassId} {z : Int32} {vs : List Value} {dv : Value} (hZ : Z.Warmed39 s.vm) (eT : T.heap = h) (F : Arv Z h a k .byte z vs dv) {j : Int32} (v : Value) (hd : decode cd pc = .ok (.baload, 1)) (bd : ¬ j < 0 ∧ j < z) (hat : vs.getD j.toNatClampNeg dv = v) (go : Go p.tables e below P T (mkF m (pc + 1) Ls (v :: S))) : Go p.tables e below P T (mkF m pc Ls (.int j :: .ref a :: S)) := by
  obtain ⟨c1, A, -, S1, -, H1, -⟩ := F
  have hin := inb_of S1 bd
  exact Go.via (fun t q => X.baloadBytes H.1 (j := j) (v := v) (by rw [eT]; exact A.1) (State.isArrayOf_alike hZ.alike A.2.1) A.2.2 hin (H1.at hin hat) (g := mkF m pc Ls (.int j :: .ref a :: S)) rfl rfl (hb H.2 hd) t q) go
theorem g_iaload (X : Stand p l e R s m args below meth c T locs cells slots) (H : HX p c cd) {Z : State} {h : Heap} {a : Addr} {k : ClassId} {z : Int32} {vs : List Value} {dv : Value} (hZ : Z.Warmed39 s.vm) (eT : T.heap = h) (F : Arv Z h a k .int z vs dv) {j : Int32} (v : Value) (hd : decode cd pc = .ok (.iaload, 1)) (bd : ¬ j < 0 ∧ j < z) (hat : vs.getD j.toNatClampNeg dv = v) (go : Go p.tables e below P T (mkF m (pc + 1) Ls (v :: S))) : Go p.tables e below P T (mkF m pc Ls (.int j :: .ref a :: S)) := by
  obtain ⟨c1, A, -, S1, -, H1, -⟩ := F
  have hin := inb_of S1 bd
  exact Go.via (fun t q => X.iaload H.1 (j := j) (v := v) (by rw [eT]; exact A.1) (State.isArrayOf_alike hZ.alike A.2.1) A.2.2 hin (H1.at hin hat) (g := mkF m pc Ls (.int j :: .ref a :: S)) rfl rfl (hb H.2 hd) t q) go
theorem g_ldcJ (X : Stand p l e R s m args below meth c T locs cells slots) (H : HX p c cd) {Z : State} {a0 : Array Value} {own : String} {ix : Nat} {v : Int64} (hZ : Z.Warmed39 s.vm) (ho : s.vm.findClass own = some m.cls) (w : (Cond.constantLong own ix v).before a0 Z = true) (hd : decode cd pc = .ok (.ldc2_w ix, 3)) (go : Go p.tables e below P T (mkF m (pc + 3) Ls (.long v :: S))) : Go p.tables e below P T (mkF m pc Ls S) := Go.via (fun t q => X.ldc2Long H.1 ho (mvT hZ w) (g := mkF m pc Ls S) rfl (hb H.2 hd) t q) go
theorem g_getF (X : Stand p l e R s m args below meth c T locs cells slots) (H : HX p c cd) {Z : State} {h : Heap} {a0 : Array Value} {own R0 O n d host : String} {ix : Nat} {v : Value} (hZ : Z.Warmed39 s.vm) (ho : s.vm.findClass own = some m.cls) (w : (Cond.fieldLink own ix R0 n d).before a0 Z = true ∨ (Cond.fieldLinkNest own ix R0 n d host).before a0 Z = true) (via : Via Z R0 O n d) (eT : T.heap = h) {a : Addr} (F : Fld Z h a O n d v) (hd : decode cd pc = .ok (.getfield ix, 3)) (go : ∀ T', Stand p l e R s m args below meth c T' locs cells slots → T'.heap = h → Go p.tables e below P T' (mkF m (pc + 3) Ls (v :: S))) : Go p.tables e below P T (mkF m pc Ls (.ref a :: S)) := by
  obtain ⟨T', X', e', st⟩ := getF X H.1 hZ ho w via eT F (g := mkF m pc Ls (.ref a :: S)) rfl rfl (hb H.2 hd)
  exact Go.via st (go T' X' e')
theorem g_getS (X : Stand p l e R s m args below meth c T locs cells slots) (H : HX p c cd) {Z : State} {h : Heap} {a0 : Array Value} {own R0 O n d host : String} {ix : Nat} {v : Value} (hZ : Z.Warmed39 s.vm) (ho : s.vm.findClass own = some m.cls) (w : (Cond.fieldLink own ix R0 n d).before a0 Z = true ∨ (Cond.fieldLinkNest own ix R0 n d host).before a0 Z = true) (via : Via Z R0 O n d) (eT : T.heap = h) (F : Sta Z h O n d v) (hd : decode cd pc = .ok (.getstatic ix, 3)) (go : ∀ T', Stand p l e R s m args below meth c T' locs cells slots → T'.heap = h → Go p.tables e below P T' (mkF m (pc + 3) Ls (v :: S))) : Go p.tables e below P T (mkF m pc Ls S) := by
  obtain ⟨T', X', e', st⟩ := getS2 X H.1 hZ ho w via eT F (g := mkF m pc Ls S) rfl (hb H.2 hd)
  exact Go.via st (go T' X' e')
theorem g_cS (X : Stand p l e R s m args below meth c T locs cells slots) (H : HX p c cd) {Z : State} {h : Heap} {a0 : Array Value} {own : String} {ix ml W : Nat} {y : MethodName} {by1 : ByteArray} {m1 : Nat} {rt : Option FieldType} {rm : Room} {as' : Array Value} {Q : Option Value → Heap → List Loc → Prop} {aL rest : List Value} {ps : List FieldType} {r : Option FieldType} (hZ : Z.Warmed39 s.vm) (hml : c.maxLocals = ml) (hsz : Ls.size = ml) (ho : s.vm.findClass own = some m.cls) (eT : T.heap = h) (hM : MFr l Z y by1 m1 rt [] rm as' h Q) (wl : (Cond.methodLink own ix y).before a0 Z = true) (ws : (Cond.static y).before a0 Z = true) (wi : (Cond.initialized y.cls).before a0 Z = true) (wc : (Cond.code y by1 m1 rt).before a0 Z = true) (hy : y.cls ≠ "java/lang/invoke/MethodHandle" ∧ y.cls ≠ "java/lang/invoke/VarHandle") (hpd : parseMethodDescriptor y.desc = some ⟨ps, r⟩) (hd : decode cd pc = .ok (.invokestatic ix, 3)) (has : aL.toArray = as') (hS : S = aL.reverse ++ rest) (hln : aL.length = ps.length) (hW : (rest.map fun v => v.category).sum = W) (hf : (rm.frames + 1 ≤ R.frames ∧ W + (m1 + 11) + rm.locals ≤ R.locals) ∧ cells + rm.cells ≤ R.cells ∧ slots + rm.slots ≤ R.slots) (go : ∀ v T' L, Stand p l e R s m args below meth c T' (locs ++ L) (cells + rm.cells) (slots + rm.slots) → Q v T'.heap L → Go p.tables e below P T' (mkF m (pc + 3) Ls (v.toList ++ rest))) : Go p.tables e below P T (mkF m pc Ls S) := by
  obtain ⟨v, _, ⟨T', L', k', n'⟩, -, X', ⟨L, hQ, l1, y1, z1⟩, st⟩ := Jvm.LawKit.callS X H.1 ho (mvT hZ wl) (mvT hZ ws) (mvT hZ wi) (mvT hZ wc) hy (W := W) (backOf hM hZ wc wi hf.1.1 hf.1.2) (g := mkF m pc Ls S) rfl (by rw [hml]; exact hsz) (argsL := aL) (rest := rest) (lenOf hpd hln) hS (by show 2 * 0 + _ ≤ _; omega) (hb H.2 hd) (fun _ _ => ⟨has, eT, hf.2.1, hf.2.2⟩)
  dsimp only [Pt.U, Pt.locs, Pt.cells, Pt.slots] at X' l1 y1 z1 st hQ
  subst l1 y1 z1
  exact Go.via st (go v T' L X' hQ)
theorem g_cI (X : Stand p l e R s m args below meth c T locs cells slots) (H : HX p c cd) {Z : State} {h : Heap} {a0 : Array Value} {own : String} {ix ml W : Nat} {y : MethodName} {by1 : ByteArray} {m1 : Nat} {rm : Room} {as' : Array Value} {Q : Option Value → Heap → List Loc → Prop} {aL rest : List Value} {ps : List FieldType} {r : Option FieldType} (hZ : Z.Warmed39 s.vm) (hml : c.maxLocals = ml) (hsz : Ls.size = ml) (ho : s.vm.findClass own = some m.cls) (eT : T.heap = h) {a : Addr} (hM : MFr l Z y by1 m1 none [] rm as' h Q) (wl : (Cond.methodLink own ix y).before a0 Z = true) (wk : (Cond.instanceMethod y).before a0 Z = true) (wi : (Cond.initialized y.cls).before a0 Z = true) (wc : (Cond.code y by1 m1 none).before a0 Z = true) (hy : y.cls ≠ "java/lang/invoke/MethodHandle" ∧ y.cls ≠ "java/lang/invoke/VarHandle") (hpd : parseMethodDescriptor y.desc = some ⟨ps, r⟩) (hd : decode cd pc = .ok (.invokespecial ix, 3)) (hy1 : y.name = "<init>") (has : (.ref a :: aL).toArray = as') (hS : S = aL.reverse ++ .ref a :: rest) (hln : aL.length = ps.length) (hW : (rest.map fun v => v.category).sum = W) (hf : (rm.frames + 1 ≤ R.frames ∧ W + (m1 + 11) + rm.locals ≤ R.locals) ∧ cells + rm.cells ≤ R.cells ∧ slots + rm.slots ≤ R.slots) (go : ∀ v T' L, Stand p l e R s m args below meth c T' (locs ++ L) (cells + rm.cells) (slots + rm.slots) → Q v T'.heap L → Go p.tables e below P T' (mkF m (pc + 3) Ls (v.toList ++ rest))) : Go p.tables e below P T (mkF m pc Ls S) := by
  obtain ⟨v, _, ⟨T', L', k', n'⟩, -, X', ⟨L, hQ, l1, y1, z1⟩, st⟩ := X.specialBack H.1 hy1 ho (mvT hZ wl) (mvT hZ wk) (mvT hZ wc) hy (W := W) (backOf hM hZ wc wi hf.1.1 hf.1.2) (g := mkF m pc Ls S) rfl (by rw [hml]; exact hsz) (Steps.refl _) (a := a) (argsL := aL) (rest := rest) (lenOf hpd hln) hS (by show 2 * 0 + _ ≤ _; omega) (hb H.2 hd) (fun _ _ => ⟨has, eT, hf.2.1, hf.2.2⟩)
  dsimp only [Pt.U, Pt.locs, Pt.cells, Pt.slots] at X' l1 y1 z1 st hQ
  subst l1 y1 z1
  exact Go.hop st (go v T' L X' hQ)
theorem g_cV (X : Stand p l e R s m args below meth c T locs cells slots) (H : HX p c cd) {Z : State} {h : Heap} {a0 : Array Value} {own : String} {ix ml W : Nat} {y : MethodName} {by1 : ByteArray} {m1 : Nat} {rt : Option FieldType} {rm : Room} {as' : Array Value} {Q : Option Value → Heap → List Loc → Prop} {aL rest : List Value} {ps : List FieldType} {r : Option FieldType} (hZ : Z.Warmed39 s.vm) (hml : c.maxLocals = ml) (hsz : Ls.size = ml) (ho : s.vm.findClass own = some m.cls) (eT : T.heap = h) {a : Addr} {C : String} {z : MethodName} (E : Exa Z h a C) (hM : MFr l Z z by1 m1 rt [] rm as' h Q) (wl : (Cond.methodLink own ix y).before a0 Z = true) (wd : (Cond.declares y).before a0 Z = true) (hnf : NotFace s y) (wse : (Cond.selects C y z).before a0 Z = true) (wk : (Cond.instanceMethod z).before a0 Z = true) (wi : (Cond.initialized z.cls).before a0 Z = true) (wc : (Cond.code z by1 m1 rt).before a0 Z = true) (hy : y.cls ≠ "java/lang/invoke/MethodHandle" ∧ y.cls ≠ "java/lang/invoke/VarHandle") (hpd : parseMethodDescriptor y.desc = some ⟨ps, r⟩) (hd : decode cd pc = .ok (.invokevirtual ix, 3)) (has : (.ref a :: aL).toArray = as') (hS : S = aL.reverse ++ .ref a :: rest) (hln : aL.length = ps.length) (hW : (rest.map fun v => v.category).sum = W) (hf : (rm.frames + 1 ≤ R.frames ∧ W + (m1 + 11) + rm.locals ≤ R.locals) ∧ cells + rm.cells ≤ R.cells ∧ slots + rm.slots ≤ R.slots) (go : ∀ v T' L, Stand p l e R s m args below meth c T' (locs ++ L) (cells + rm.cells) (slots + rm.slots) → Q v T'.heap L → Go p.tables e below P T' (mkF m (pc + 3) Ls (v.toList ++ rest))) : Go p.tables e below P T (mkF m pc Ls S) := by
  obtain ⟨cq, kq, qa, qb, qc⟩ := isOf hZ eT E
  obtain ⟨v, _, ⟨T', L', k', n'⟩, -, X', ⟨L, hQ, l1, y1, z1⟩, st⟩ := X.virtualBack H.1 ho (mvT hZ wl) (mvT hZ wd) hnf (mvT hZ wse) (mvT hZ wk) hy (W := W) (backOf hM hZ wc wi hf.1.1 hf.1.2) qa qc (g := mkF m pc Ls S) rfl (by rw [hml]; exact hsz) (Steps.refl _) (argsL := aL) (rest := rest) (lenOf hpd hln) hS (by show 2 * 0 + _ ≤ _; omega) (hb H.2 hd) (fun _ _ => ⟨has, eT, hf.2.1, hf.2.2⟩)
  dsimp only [Pt.U, Pt.locs, Pt.cells, Pt.slots] at X' l1 y1 z1 st hQ
  subst l1 y1 z1
  exact Go.hop st (go v T' L X' hQ)
theorem g_retI (X : Stand p l e R s m args below meth c T locs cells slots) (H : HX p c cd) {z r : Int32} {Q : Option Value → Heap → List Loc → Prop} (hk : meth.locks = false) (hP : ∀ o U', (∃ v L, o = .returned v ∧ Q v U'.heap L ∧ FrameEnd s o U' L R.cells R.slots) → P o U') (hc : cells ≤ R.cells ∧ slots ≤ R.slots) (hret : meth.sig.returnType = some .int) (hd : decode cd pc = .ok (.ireturn, 1)) (he : z = r) (hq : Q (some (.int r)) T.heap locs) : Go p.tables e below P T (mkF m pc Ls (.int z :: S)) := by
  subst he
  obtain ⟨fs, hr, hrun, hended, hW, hsame⟩ := X.leave (v := some (.int z)) (fun h => by rw [hret] at h; cases h) hk
  exact ⟨_, _, retI X H.1 hret (hb H.2 hd) hr, hrun, hended, hP _ _ ⟨_, _, rfl, hq, ⟨_, rfl⟩, hW, hsame.mono hc.1 hc.2⟩⟩
theorem g_retJ (X : Stand p l e R s m args below meth c T locs cells slots) (H : HX p c cd) {z r : Int64} {Q : Option Value → Heap → List Loc → Prop} (hk : meth.locks = false) (hP : ∀ o U', (∃ v L, o = .returned v ∧ Q v U'.heap L ∧ FrameEnd s o U' L R.cells R.slots) → P o U') (hc : cells ≤ R.cells ∧ slots ≤ R.slots) (hret : meth.sig.returnType = some .long) (hd : decode cd pc = .ok (.lreturn, 1)) (he : z = r) (hq : Q (some (.long r)) T.heap locs) : Go p.tables e below P T (mkF m pc Ls (.long z :: S)) := by
  subst he
  obtain ⟨fs, hr, hrun, hended, hW, hsame⟩ := X.leave (v := some (.long z)) (fun h => by rw [hret] at h; cases h) hk
  exact ⟨_, _, retJ X H.1 hret (hb H.2 hd) hr, hrun, hended, hP _ _ ⟨_, _, rfl, hq, ⟨_, rfl⟩, hW, hsame.mono hc.1 hc.2⟩⟩
theorem g_retZ (X : Stand p l e R s m args below meth c T locs cells slots) (H : HX p c cd) {z r : Int32} {t : FieldType} {Q : Option Value → Heap → List Loc → Prop} (hk : meth.locks = false) (hP : ∀ o U', (∃ v L, o = .returned v ∧ Q v U'.heap L ∧ FrameEnd s o U' L R.cells R.slots) → P o U') (hc : cells ≤ R.cells ∧ slots ≤ R.slots) (hret : meth.sig.returnType = some t) (ht : t = .boolean ∨ t = .byte ∨ t = .char ∨ t = .short) (hd : decode cd pc = .ok (.ireturn, 1)) (hn : nar t z = r) (hq : Q (some (.int r)) T.heap locs) : Go p.tables e below P T (mkF m pc Ls (.int z :: S)) := by
  obtain ⟨fs, hr, hrun, hended, hW, hsame⟩ := X.leave (v := some (.int r)) (fun h => by rw [hret] at h; cases h) hk
  exact ⟨_, _, retZ X H.1 hret ht (hb H.2 hd) hn hr, hrun, hended, hP _ _ ⟨_, _, rfl, hq, ⟨_, rfl⟩, hW, hsame.mono hc.1 hc.2⟩⟩
theorem g_retA (X : Stand p l e R s m args below meth c T locs cells slots) (H : HX p c cd) {z : Value} {t : FieldType} {Q : Option Value → Heap → List Loc → Prop} (hk : meth.locks = false) (hP : ∀ o U', (∃ v L, o = .returned v ∧ Q v U'.heap L ∧ FrameEnd s o U' L R.cells R.slots) → P o U') (hc : cells ≤ R.cells ∧ slots ≤ R.slots) (hret : meth.sig.returnType = some t) (ht : t.isReference = true) (hn : narrow t z = z) (hz : z.isRef = true) (hd : decode cd pc = .ok (.areturn, 1)) (hq : Q (some z) T.heap locs) : Go p.tables e below P T (mkF m pc Ls (z :: S)) := by
  obtain ⟨fs, hr, hrun, hended, hW, hsame⟩ := X.leave (v := some z) (fun h => by rw [hret] at h; cases h) hk
  exact ⟨_, _, retA X H.1 hret hn ht hz (hb H.2 hd) hr, hrun, hended, hP _ _ ⟨_, _, rfl, hq, ⟨_, rfl⟩, hW, hsame.mono hc.1 hc.2⟩⟩
theorem g_retV (X : Stand p l e R s m args below meth c T locs cells slots) (H : HX p c cd) {Q : Option Value → Heap → List Loc → Prop} (hk : meth.locks = false) (hP : ∀ o U', (∃ v L, o = .returned v ∧ Q v U'.heap L ∧ FrameEnd s o U' L R.cells R.slots) → P o U') (hc : cells ≤ R.cells ∧ slots ≤ R.slots) (hret : meth.sig.returnType = none) (hd : decode cd pc = .ok (.return_, 1)) (hq : Q none T.heap locs) : Go p.tables e below P T (mkF m pc Ls []) := by
  obtain ⟨fs, hr, hrun, hended, hW, hsame⟩ := X.leave (v := none) (fun _ => rfl) hk
  exact ⟨_, _, X.returnOut H.1 hret (hb H.2 hd) hr, hrun, hended, hP _ _ ⟨_, _, rfl, hq, ⟨_, rfl⟩, hW, hsame.mono hc.1 hc.2⟩⟩
end OwnG
theorem own_body {l : Launch} {Z : State} {y : MethodName} {cd : ByteArray} {ml : Nat} {ret : Option FieldType} {ws : List Jvm.Cond} {R : Room} {as' : Array Value} {h0 : Heap} {Q : Option Value → Heap → List Loc → Prop} {L0 : Array Slot} {own : String} (pl : plainFor y = true) (ho : y.cls = own) (ef : ∀ m, entryFrame m as' ml = mkF m 0 L0 [])
    (H : ∀ (p : Program) (e : Env) (s : State) (m : MethodId) (below : List Frame) (meth : Method) (c : Code) (s₁ : State), BodyLoose p l y (head1 (Jvm.Cond.code y cd ml ret :: ws) R) cd ml ret e s m as' below meth c s₁ → HX p c cd → c.maxLocals = ml → Z.Warmed39 s.vm → s.vm.findClass own = some m.cls → Stand p l e R s m as' below meth c s₁ [] 0 0 → s₁.heap = h0 → ∀ P : Outcome → State → Prop, (∀ o U', (∃ v L, o = .returned v ∧ Q v U'.heap L ∧ FrameEnd s o U' L R.cells R.slots) → P o U') → Go p.tables e below P s₁ (mkF m 0 L0 [])) : MFr l Z y cd ml ret ws R as' h0 Q := by
  refine MetFree.of_bodySF pl hisR ?_
  intro p e s m args below meth c s₁ Bd hml hP hK
  obtain ⟨rfl, hZ, hh⟩ := hP
  obtain ⟨s2, o, st, r⟩ := H p e s m below meth c s₁ Bd ⟨Bd.exec, Bd.bytes⟩ hml hZ (ho ▸ findClass_of_methodNamed Bd.named) (Stand.of_body Bd) (by rw [← hh, Bd.state]; rfl) _ (fun _ _ q => q)
  exact ⟨s2, o, castTop (ef m) st, r⟩
end Jvm.RoadKit
namespace Jvm.Pilot.@@N@@
open Jvm Jvm.ClassFile Sem Op Lib Jvm.Free Jvm.Stand Jvm.LawKit Jvm.RoadKit Bundle Jvm.Pilot.@@N@@.Jvm.D
set_option maxRecDepth 65536
set_option maxHeartbeats 40000000
abbrev HW (a0 : Array Value) (Z : State) : Prop := ∀ d ∈ tables_1, d.before a0 Z = true
theorem own_g {Z : State} {a0 : Array Value} {d : Jvm.Cond} (hw : ∀ d ∈ tables_1, d.before a0 Z = true) (i : Nat) (h : tables_1[i]? = some d) : d.before a0 Z = true := hw _ (List.mem_of_getElem? h)
theorem gv {tb : Tables} {e : Env} {below : List Frame} {P : Outcome → State → Prop} {T T' : State} {f f' : JFrame} (st : ∀ t, Steps tb e below (T'.setTop f') t → Steps tb e below (T.setTop f) t) (k : Go tb e below P T' f') : Go tb e below P T f := Go.via st k
abbrev vr (a : Addr) : Slot := .val (.ref a)
abbrev vi (x : Int32) : Slot := .val (.int x)
abbrev vj (x : Int64) : Slot := .val (.long x)
abbrev vu : Slot := .unset
abbrev v2 : Slot := .second
abbrev bll (qa qb qv ya yb yc : Int32) : List Value := [(.int 56), (.int 61), (.int 70), (.int 1), (.int 57), (.int 61), (.int 49), (.int 48), (.int 1), (.int 51), (.int 53), (.int 61), (.int 65), (.int 1), (.int qa), (.int qb), (.int 61), (.int qv), (.int 1), (.int 49), (.int 48), (.int 61), (.int ya), (.int yb), (.int yc), (.int 1)]
abbrev lvs : List Value := [(.int 2), (.int 6), (.int 12), (.int 17), (.int 22)]
abbrev lve : List Value := [(.int 3), (.int 8), (.int 13), (.int 18), (.int 25)]
abbrev TVn : String := "com/example/splitbook/splitbook/tagvalue/TagValueMessage"
abbrev STn : String := "java/lang/String"
abbrev ASn : String := "java/lang/AbstractStringBuilder"
abbrev SBn : String := "java/lang/StringBuilder"
abbrev CFn : String := "com/example/splitbook/splitbook/allocation/ConditionalField"
abbrev FDn : String := "com/example/splitbook/splitbook/allocation/Field"
abbrev VLn : String := "value"
abbrev CDn : String := "coder"
abbrev ISn : String := "ISO_8859_1"
abbrev DChn : String := "Ljava/nio/charset/Charset;"
abbrev SCn : String := "java/nio/charset/StandardCharsets"
abbrev STIn : String := "sun/nio/cs/ISO_8859_1"
abbrev ARn : String := "java/util/Arrays"
abbrev INn : String := "java/lang/Integer"
abbrev PRn : String := "jdk/internal/util/Preconditions"
abbrev DSIn : String := "Lsun/nio/cs/ISO_8859_1;"
abbrev DSUn : String := "Lsun/nio/cs/UTF_8;"
abbrev STUn : String := "sun/nio/cs/UTF_8"
abbrev CSn : String := "COMPACT_STRINGS"
abbrev SIn : String := "SIOOBE_FORMATTER"
abbrev BFn : String := "Ljava/util/function/BiFunction;"
abbrev INSn : String := "INSTANCE"
abbrev VSn : String := "valueStarts"
abbrev VEn : String := "valueEnds"
abbrev DBn : String := "[B"
abbrev D0 (n : Nat) (i : Instr) (k : Nat) : Prop := decode jdk_29_method_70_code n = .ok (i, k)
abbrev D1 (n : Nat) (i : Instr) (k : Nat) : Prop := decode prog_39_method_11_code n = .ok (i, k)
abbrev D2 (n : Nat) (i : Instr) (k : Nat) : Prop := decode prog_39_method_9_code n = .ok (i, k)
abbrev D3 (n : Nat) (i : Instr) (k : Nat) : Prop := decode prog_39_method_1_code n = .ok (i, k)
abbrev D4 (n : Nat) (i : Instr) (k : Nat) : Prop := decode prog_39_method_4_code n = .ok (i, k)
abbrev D5 (n : Nat) (i : Instr) (k : Nat) : Prop := decode jdk_29_method_69_code n = .ok (i, k)
abbrev D6 (n : Nat) (i : Instr) (k : Nat) : Prop := decode jdk_41_method_13_code n = .ok (i, k)
abbrev D7 (n : Nat) (i : Instr) (k : Nat) : Prop := decode jdk_31_method_19_code n = .ok (i, k)
abbrev D8 (n : Nat) (i : Instr) (k : Nat) : Prop := decode jdk_42_method_157_code n = .ok (i, k)
abbrev D9 (n : Nat) (i : Instr) (k : Nat) : Prop := decode jdk_31_method_10_code n = .ok (i, k)
abbrev D10 (n : Nat) (i : Instr) (k : Nat) : Prop := decode jdk_65_method_131_code n = .ok (i, k)
abbrev D11 (n : Nat) (i : Instr) (k : Nat) : Prop := decode jdk_65_method_133_code n = .ok (i, k)
abbrev D12 (n : Nat) (i : Instr) (k : Nat) : Prop := decode jdk_65_method_132_code n = .ok (i, k)
abbrev D13 (n : Nat) (i : Instr) (k : Nat) : Prop := decode jdk_42_method_11_code n = .ok (i, k)
abbrev D14 (n : Nat) (i : Instr) (k : Nat) : Prop := decode jdk_42_method_10_code n = .ok (i, k)
abbrev D15 (n : Nat) (i : Instr) (k : Nat) : Prop := decode prog_39_method_15_code n = .ok (i, k)
abbrev D16 (n : Nat) (i : Instr) (k : Nat) : Prop := decode prog_39_method_14_code n = .ok (i, k)
abbrev D17 (n : Nat) (i : Instr) (k : Nat) : Prop := decode prog_39_method_10_code n = .ok (i, k)
abbrev D18 (n : Nat) (i : Instr) (k : Nat) : Prop := decode prog_39_method_8_code n = .ok (i, k)
abbrev D19 (n : Nat) (i : Instr) (k : Nat) : Prop := decode prog_39_method_6_code n = .ok (i, k)
abbrev D20 (n : Nat) (i : Instr) (k : Nat) : Prop := decode jdk_42_method_152_code n = .ok (i, k)
abbrev D21 (n : Nat) (i : Instr) (k : Nat) : Prop := decode jdk_42_method_54_code n = .ok (i, k)
abbrev D22 (n : Nat) (i : Instr) (k : Nat) : Prop := decode prog_39_method_5_code n = .ok (i, k)
abbrev D23 (n : Nat) (i : Instr) (k : Nat) : Prop := decode prog_39_method_3_code n = .ok (i, k)
abbrev D24 (n : Nat) (i : Instr) (k : Nat) : Prop := decode prog_39_method_2_code n = .ok (i, k)
abbrev D25 (n : Nat) (i : Instr) (k : Nat) : Prop := decode jdk_68_method_2_code n = .ok (i, k)
abbrev D26 (n : Nat) (i : Instr) (k : Nat) : Prop := decode jdk_67_method_1_code n = .ok (i, k)
abbrev D27 (n : Nat) (i : Instr) (k : Nat) : Prop := decode jdk_68_method_9_code n = .ok (i, k)
abbrev D28 (n : Nat) (i : Instr) (k : Nat) : Prop := decode jdk_68_method_71_code n = .ok (i, k)
abbrev D29 (n : Nat) (i : Instr) (k : Nat) : Prop := decode jdk_42_method_147_code n = .ok (i, k)
abbrev D30 (n : Nat) (i : Instr) (k : Nat) : Prop := decode jdk_68_method_73_code n = .ok (i, k)
abbrev D31 (n : Nat) (i : Instr) (k : Nat) : Prop := decode jdk_68_method_22_code n = .ok (i, k)
abbrev D32 (n : Nat) (i : Instr) (k : Nat) : Prop := decode jdk_67_method_7_code n = .ok (i, k)
abbrev D33 (n : Nat) (i : Instr) (k : Nat) : Prop := decode jdk_33_method_13_code n = .ok (i, k)
abbrev D34 (n : Nat) (i : Instr) (k : Nat) : Prop := decode jdk_68_method_68_code n = .ok (i, k)
abbrev D35 (n : Nat) (i : Instr) (k : Nat) : Prop := decode jdk_33_method_12_code n = .ok (i, k)
abbrev D36 (n : Nat) (i : Instr) (k : Nat) : Prop := decode jdk_68_method_32_code n = .ok (i, k)
abbrev D37 (n : Nat) (i : Instr) (k : Nat) : Prop := decode jdk_67_method_15_code n = .ok (i, k)
abbrev D38 (n : Nat) (i : Instr) (k : Nat) : Prop := decode jdk_68_method_64_code n = .ok (i, k)
abbrev D39 (n : Nat) (i : Instr) (k : Nat) : Prop := decode jdk_68_method_6_code n = .ok (i, k)
abbrev D40 (n : Nat) (i : Instr) (k : Nat) : Prop := decode jdk_67_method_93_code n = .ok (i, k)
abbrev D41 (n : Nat) (i : Instr) (k : Nat) : Prop := decode jdk_42_method_150_code n = .ok (i, k)
abbrev D42 (n : Nat) (i : Instr) (k : Nat) : Prop := decode jdk_42_method_53_code n = .ok (i, k)
abbrev D43 (n : Nat) (i : Instr) (k : Nat) : Prop := decode jdk_67_method_42_code n = .ok (i, k)
abbrev D44 (n : Nat) (i : Instr) (k : Nat) : Prop := decode prog_14_method_1_code n = .ok (i, k)
abbrev D45 (n : Nat) (i : Instr) (k : Nat) : Prop := decode jdk_96_method_17_code n = .ok (i, k)
abbrev D46 (n : Nat) (i : Instr) (k : Nat) : Prop := decode prog_11_method_1_code n = .ok (i, k)
abbrev D47 (n : Nat) (i : Instr) (k : Nat) : Prop := decode prog_11_method_2_code n = .ok (i, k)
abbrev D48 (n : Nat) (i : Instr) (k : Nat) : Prop := decode prog_11_method_5_code n = .ok (i, k)
abbrev D49 (n : Nat) (i : Instr) (k : Nat) : Prop := decode jdk_132_method_3_code n = .ok (i, k)
abbrev D50 (n : Nat) (i : Instr) (k : Nat) : Prop := decode prog_39_method_16_code n = .ok (i, k)
abbrev D51 (n : Nat) (i : Instr) (k : Nat) : Prop := decode prog_14_method_3_code n = .ok (i, k)
abbrev D52 (n : Nat) (i : Instr) (k : Nat) : Prop := decode prog_14_method_4_code n = .ok (i, k)
abbrev D53 (n : Nat) (i : Instr) (k : Nat) : Prop := decode jdk_42_method_133_code n = .ok (i, k)
abbrev D54 (n : Nat) (i : Instr) (k : Nat) : Prop := decode jdk_67_method_6_code n = .ok (i, k)
abbrev D55 (n : Nat) (i : Instr) (k : Nat) : Prop := decode prog_11_method_6_code n = .ok (i, k)
abbrev D56 (n : Nat) (i : Instr) (k : Nat) : Prop := decode jdk_43_method_3_code n = .ok (i, k)
abbrev D57 (n : Nat) (i : Instr) (k : Nat) : Prop := decode jdk_43_method_46_code n = .ok (i, k)
abbrev D58 (n : Nat) (i : Instr) (k : Nat) : Prop := decode jdk_42_method_151_code n = .ok (i, k)
abbrev D59 (n : Nat) (i : Instr) (k : Nat) : Prop := decode jdk_42_method_139_code n = .ok (i, k)
abbrev D60 (n : Nat) (i : Instr) (k : Nat) : Prop := decode method_3_code n = .ok (i, k)
abbrev D61 (n : Nat) (i : Instr) (k : Nat) : Prop := decode jdk_43_method_13_code n = .ok (i, k)
abbrev D62 (n : Nat) (i : Instr) (k : Nat) : Prop := decode jdk_42_method_66_code n = .ok (i, k)
theorem own_stI {p : Program} {l : Launch} {e : Env} {R : Room} {s : State} {m : MethodId} {args : Array Value} {below : List Frame} {meth : Method} {c : Code} {T : State} {locs : List Loc} {cells slots : Nat} {Z : State} {h h0 : Heap} {ws : List Addr} {n0 : Nat} {a : Addr} {k : ClassId} {z : Int32} {vs : List Value} {dv : Value}
    (X : Stand p l e R s m args below meth c T locs cells slots) (hx : p.tables.exec = Jvm.exec) (hZ : Z.Warmed39 s.vm) (eT : T.heap = h) (F : Arv Z h a k .int z vs dv) (N : Fr n0 locs) (Zp : n0 ≤ h.size) (K : Keep h0 h ws) (ga : n0 ≤ a) (wq : a ∈ ws ∨ h0.size ≤ a)
    {j : Int32} {x : Int32} (bd : ¬ j < 0 ∧ j < z) {ji : Nat} (jp : j.toNatClampNeg = ji) (il : ji < vs.length) {g : JFrame} (hg : g.method = m) {rest : List Value} (hs : g.stack = .int x :: .int j :: .ref a :: rest) (hd : decode c.code g.pc = .ok (.iastore, 1)) :
    ∃ T' h' L', Stand p l e R s m args below meth c T' L' cells slots ∧ T'.heap = h' ∧ Fr n0 L' ∧ n0 ≤ h'.size ∧ Keep h0 h' ws ∧ Wr h h' a j.toNatClampNeg (.int x) ∧ Arv Z h' a k .int z (vs.set ji (.int x)) dv ∧ ∀ target, Steps p.tables e below (T'.setTop { g with pc := g.pc + 1, stack := rest }) target → Steps p.tables e below (T.setTop g) target := by
  obtain ⟨c1, A, q, S, Nn, H, G⟩ := F
  obtain ⟨T', h', X', e', W, st⟩ := stI X hx hZ eT A (inb_of S bd) hg hs hd
  exact ⟨T', h', _, X', e', Fr.snoc X' N ga, Nat.le_trans Zp (Nat.le_of_eq W.size.symm), K.wr W wq, W, Arv.set A q S Nn H G rfl W ji jp il, st⟩
def own_mj (x y : Int64) : Int64 := if (0 : Int32) < lcmpW x y then y else x
def own_d (n : Int64) (c : Int32) : Int64 := own_mj ((n * (10 : Int64)) + (c - (48 : Int32)).toInt64) (2147483648 : Int64)
def own_dg (c : Int32) : Prop := ¬ c < (48 : Int32) ∧ ¬ (57 : Int32) < c
abbrev tgs (qa qb : Int32) : List Value := [(.int 8), (.int 9), (.int 35), (.int ((own_d (own_d (0 : Int64) qa) qb).toInt32)), (.int 10)]
theorem own_dg1 {c : Int32} (h : own_dg c) : ¬ c = (1 : Int32) := fun q => h.1 (by rw [q]; decide)
theorem own_selp {Z : State} {a0 : Array Value} {y : MethodName} {n : Nat} (w1 : (Cond.privateMethod y).before a0 Z = true) (w2 : (Cond.instanceMethod y).before a0 Z = true) (w3 : (Cond.instantiable y.cls n).before a0 Z = true) (hy : y.cls ≠ "java/lang/invoke/MethodHandle" ∧ y.cls ≠ "java/lang/invoke/VarHandle") : (Cond.selects y.cls y y).before a0 Z = true := by
  obtain ⟨m, meth, hn, hm, -, -⟩ := Cond.instanceMethod_spec w2
  obtain ⟨c, k, hc, hk, -, hni, -⟩ := Cond.instantiable_spec w3
  have hf := State.methodFound?_of_named hn hy
  have hp := Cond.privateMethod_at w1 m meth hn hm
  cases hc.symm.trans (findClass_of_methodNamed hn)
  have hi : k.isInterface = false := by cases q : k.isInterface <;> simp_all
  simp [Cond.before, Cond.holds, Cond.value, hc, hf, hn, selectMethod_private hm hp, hk, hi]
theorem d9_0 : D0 0 (.lload_n 0) 1 := by decide +kernel
theorem d9_1 : D0 1 (.lload_n 2) 1 := by decide +kernel
theorem d9_2 : D0 2 (.lcmp) 1 := by decide +kernel
theorem d9_3 : D0 3 (.ifCond .gt 7) 3 := by decide +kernel
theorem d9_6 : D0 6 (.lload_n 0) 1 := by decide +kernel
theorem d9_7 : D0 7 (.goto 4) 3 := by decide +kernel
theorem d9_10 : D0 10 (.lload_n 2) 1 := by decide +kernel
theorem d9_11 : D0 11 (.lreturn) 1 := by decide +kernel
theorem ef_9 (m : MethodId) (x0 : Int64) (x1 : Int64) : entryFrame m #[(.long x0), (.long x1)] 4 = mkF m 0 #[.val (.long x0), .second, .val (.long x1), .second] [] := by first | (simp [entryFrame, mkF, argsToLocals, Value.category]; done) | rfl
def Q9 (Z : State) (qx : Int64) (qy : Int64) (h0 : Heap) (n0 : Nat) (v : Option Value) (h : Heap) (L : List Loc) : Prop := v = some (.long (own_mj qx qy)) ∧ Fr n0 L ∧ h = h0
theorem rm9 (l : Launch) (Z : State) (a0 : Array Value) (hw : HW a0 Z) (ws : List Jvm.Cond) (qx : Int64) (qy : Int64) (h0 : Heap) (n0 : Nat) (Z0 : n0 ≤ h0.size) :
    MFr l Z (⟨"java/lang/Math", "min", "(JJ)J"⟩ : MethodName) jdk_29_method_70_code 4 (some .long) ws (Rm 0 0 0 0) #[(.long qx), (.long qy)] h0 (Q9 Z qx qy h0 n0) := by
  refine own_body (own := "java/lang/Math") (Jvm.Free.JP.mathPlain rfl (by decide +kernel)) rfl (fun m => ef_9 m qx qy) ?_
  intro p e s m below meth c s₁ Bd H hml hZ hown X0 e0 P hP
  have N0 := Fr.nil n0
  refine g_lloadN X0 H d9_0 rfl ?_
  refine g_lloadN X0 H d9_1 rfl ?_
  refine g_lcmp X0 H d9_2 ?_
  show Go p.tables e below P s₁ (mkF m 3 #[vj qx, v2, vj qy, v2] [(.int (lcmpW qx qy))])
  have J2 : ∀ (T2 : State) (locs2 : List Loc) (v2_0 : Int64), Stand p l e (Rm 0 0 0 0) s m #[(.long qx), (.long qy)] below meth c T2 locs2 0 0 → T2.heap = h0 → Fr n0 locs2 → v2_0 = (if (0 : Int32) < (lcmpW qx qy) then qy else qx) → Go p.tables e below P T2 (mkF m 11 #[.val (.long qx), .second, .val (.long qy), .second] [(.long v2_0)]) := by
    intro T2 locs2 v2_0 X2 e2 N2 hv2_0
    refine g_retJ X2 H Bd.notSynchronized hP (by decide) Bd.returns d9_11 (r := (own_mj qx qy)) (show v2_0 = own_mj qx qy from hv2_0) ?_
    rw [e2]
    exact ⟨rfl, N2, rfl⟩
  by_cases hc1 : (0 : Int32) < (lcmpW qx qy)
  · refine g_ifYes X0 H d9_3 10 ((if0 _ _).trans (tlt hc1).2.2.1) (by decide) ?_
    refine g_lloadN X0 H d9_10 rfl ?_
    exact J2 s₁ _ qy X0 e0 N0 (if_pos hc1).symm
  · refine g_ifNo X0 H d9_3 ((if0 _ _).trans (flt hc1).2.2.1) ?_
    refine g_lloadN X0 H d9_6 rfl ?_
    refine g_goto X0 H d9_7 11 (by decide) ?_
    exact J2 s₁ _ qx X0 e0 N0 (if_neg hc1).symm
theorem own_pn0 : plainName TVn = true := by first | (simp [plainName, overriddenIn]; done) | decide +kernel
theorem d7_0 : D1 0 (.iload_n 0) 1 := by decide +kernel
theorem d7_1 : D1 1 (.bipush 48) 2 := by decide +kernel
theorem d7_3 : D1 3 (.if_icmp .lt 13) 3 := by decide +kernel
theorem d7_6 : D1 6 (.iload_n 0) 1 := by decide +kernel
theorem d7_7 : D1 7 (.bipush 57) 2 := by decide +kernel
theorem d7_9 : D1 9 (.if_icmp .gt 7) 3 := by decide +kernel
theorem d7_12 : D1 12 (.iconst 1) 1 := by decide +kernel
theorem d7_13 : D1 13 (.goto 4) 3 := by decide +kernel
theorem d7_17 : D1 17 (.ireturn) 1 := by decide +kernel
theorem ef_7 (m : MethodId) (x0 : Int32) : entryFrame m #[(.int x0)] 1 = mkF m 0 #[.val (.int x0)] [] := by first | (simp [entryFrame, mkF, argsToLocals, Value.category]; done) | rfl
def Q7 (Z : State) (ch : Int32) (h0 : Heap) (n0 : Nat) (v : Option Value) (h : Heap) (L : List Loc) : Prop := v = some (.int 1) ∧ Fr n0 L ∧ h = h0
theorem rm7 (l : Launch) (Z : State) (a0 : Array Value) (hw : HW a0 Z) (ws : List Jvm.Cond) (ch : Int32) (h0 : Heap) (n0 : Nat) (Z0 : n0 ≤ h0.size) (hd : own_dg ch) :
    MFr l Z (⟨TVn, "isDigit", "(B)Z"⟩ : MethodName) prog_39_method_11_code 1 (some .boolean) ws (Rm 0 0 0 0) #[(.int ch)] h0 (Q7 Z ch h0 n0) := by
  refine own_body (own := TVn) (plainFor_of_name own_pn0) rfl (fun m => ef_7 m ch) ?_
  intro p e s m below meth c s₁ Bd H hml hZ hown X0 e0 P hP
  have N0 := Fr.nil n0
  refine g_iloadN X0 H d7_0 rfl ?_
  refine g_bipush X0 H d7_1 48 rfl ?_
  refine g_icmpNo X0 H d7_3 (flt hd.1).1 ?_
  refine g_iloadN X0 H d7_6 rfl ?_
  refine g_bipush X0 H d7_7 57 rfl ?_
  refine g_icmpNo X0 H d7_9 (flt hd.2).2.2.1 ?_
  refine g_iconst X0 H d7_12 1 rfl ?_
  refine g_goto X0 H d7_13 17 (by decide) ?_
  show Go p.tables e below P s₁ (mkF m 17 #[vi ch] [(.int 1)])
  refine g_retZ X0 H Bd.notSynchronized hP (by decide) Bd.returns (by simp) d7_17 (r := (1 : Int32)) rfl ?_
  rw [e0]
  exact ⟨rfl, N0, rfl⟩
theorem d7_16 : D1 16 (.iconst 0) 1 := by decide +kernel
theorem ef_7n (m : MethodId)  : entryFrame m #[(.int 61)] 1 = mkF m 0 #[.val (.int 61)] [] := by first | (simp [entryFrame, mkF, argsToLocals, Value.category]; done) | rfl
def Q7n (Z : State)  (h0 : Heap) (n0 : Nat) (v : Option Value) (h : Heap) (L : List Loc) : Prop := v = some (.int 0) ∧ Fr n0 L ∧ h = h0
theorem rm7n (l : Launch) (Z : State) (a0 : Array Value) (hw : HW a0 Z) (ws : List Jvm.Cond)  (h0 : Heap) (n0 : Nat) (Z0 : n0 ≤ h0.size) :
    MFr l Z (⟨TVn, "isDigit", "(B)Z"⟩ : MethodName) prog_39_method_11_code 1 (some .boolean) ws (Rm 0 0 0 0) #[(.int 61)] h0 (Q7n Z  h0 n0) := by
  refine own_body (own := TVn) (plainFor_of_name own_pn0) rfl (fun m => ef_7n m ) ?_
  intro p e s m below meth c s₁ Bd H hml hZ hown X0 e0 P hP
  have N0 := Fr.nil n0
  refine g_iloadN X0 H d7_0 rfl ?_
  refine g_bipush X0 H d7_1 48 rfl ?_
  refine g_icmpNo X0 H d7_3 (flt (by decide : ¬ ((61 : Int32) < (48 : Int32)))).1 ?_
  refine g_iloadN X0 H d7_6 rfl ?_
  refine g_bipush X0 H d7_7 57 rfl ?_
  refine g_icmpYes X0 H d7_9 16 (tlt (by decide : (57 : Int32) < (61 : Int32))).2.2.1 (by decide) ?_
  refine g_iconst X0 H d7_16 0 rfl ?_
  refine g_retZ X0 H Bd.notSynchronized hP (by decide) Bd.returns (by simp) d7_17 (r := (0 : Int32)) rfl ?_
  rw [e0]
  exact ⟨rfl, N0, rfl⟩
theorem own_pd0 : parseMethodDescriptor "(B)Z" = some ⟨[.byte], some .boolean⟩ := by decide +kernel
theorem own_pd1 : parseMethodDescriptor "(JJ)J" = some ⟨[.long, .long], some .long⟩ := by decide +kernel
theorem d8_0 : D2 0 (.iload_n 1) 1 := by decide +kernel
theorem d8_1 : D2 1 (.iload_n 2) 1 := by decide +kernel
theorem d8_2 : D2 2 (.if_icmp .ne 7) 3 := by decide +kernel
theorem d8_9 : D2 9 (.lconst 0) 1 := by decide +kernel
theorem d8_10 : D2 10 (.lstore_n 3) 1 := by decide +kernel
theorem d8_11 : D2 11 (.iload_n 1) 1 := by decide +kernel
theorem d8_12 : D2 12 (.istore 5) 2 := by decide +kernel
theorem d8_14 : D2 14 (.iload 5) 2 := by decide +kernel
theorem d8_16 : D2 16 (.iload_n 2) 1 := by decide +kernel
theorem d8_17 : D2 17 (.if_icmp .ge 44) 3 := by decide +kernel
theorem d8_20 : D2 20 (.aload_n 0) 1 := by decide +kernel
theorem d8_21 : D2 21 (.iload 5) 2 := by decide +kernel
theorem d8_23 : D2 23 (.baload) 1 := by decide +kernel
theorem d8_24 : D2 24 (.invokestatic 58) 3 := by decide +kernel
theorem d8_27 : D2 27 (.ifCond .ne 7) 3 := by decide +kernel
theorem d8_34 : D2 34 (.lload_n 3) 1 := by decide +kernel
theorem d8_35 : D2 35 (.ldc2_w 178) 3 := by decide +kernel
theorem d8_38 : D2 38 (.lmul) 1 := by decide +kernel
theorem d8_39 : D2 39 (.aload_n 0) 1 := by decide +kernel
theorem d8_40 : D2 40 (.iload 5) 2 := by decide +kernel
theorem d8_42 : D2 42 (.baload) 1 := by decide +kernel
theorem d8_43 : D2 43 (.bipush 48) 2 := by decide +kernel
theorem d8_45 : D2 45 (.isub) 1 := by decide +kernel
theorem d8_46 : D2 46 (.i2l) 1 := by decide +kernel
theorem d8_47 : D2 47 (.ladd) 1 := by decide +kernel
theorem d8_48 : D2 48 (.ldc2_w 84) 3 := by decide +kernel
theorem d8_51 : D2 51 (.invokestatic 180) 3 := by decide +kernel
theorem d8_54 : D2 54 (.lstore_n 3) 1 := by decide +kernel
theorem d8_55 : D2 55 (.iinc 5 1) 3 := by decide +kernel
theorem d8_58 : D2 58 (.goto (-44)) 3 := by decide +kernel
theorem d8_61 : D2 61 (.lload_n 3) 1 := by decide +kernel
theorem d8_62 : D2 62 (.lreturn) 1 := by decide +kernel
theorem ef_8v0 (m : MethodId) (x0 : Addr) : entryFrame m #[(.ref x0), (.int 0), (.int 1)] 6 = mkF m 0 #[.val (.ref x0), .val (.int 0), .val (.int 1), .unset, .unset, .unset] [] := by first | (simp [entryFrame, mkF, argsToLocals, Value.category]; done) | rfl
def Q8v0 (Z : State) (ob : Addr) (kk : ClassId) (qa : Int32) (qb : Int32) (qv : Int32) (ya : Int32) (yb : Int32) (yc : Int32) (h0 : Heap) (n0 : Nat) (v : Option Value) (h : Heap) (L : List Loc) : Prop := v = some (.long 8) ∧ Fr n0 L ∧ h = h0
theorem rm8v0 (l : Launch) (Z : State) (a0 : Array Value) (hw : HW a0 Z) (ws : List Jvm.Cond) (ob : Addr) (kk : ClassId) (qa : Int32) (qb : Int32) (qv : Int32) (ya : Int32) (yb : Int32) (yc : Int32) (h0 : Heap) (n0 : Nat) (Z0 : n0 ≤ h0.size) (P0 : Arv Z h0 ob kk .byte (26 : Int32) (bll qa qb qv ya yb yc) (.int 0)) :
    MFr l Z (⟨TVn, "decimal", "([BII)J"⟩ : MethodName) prog_39_method_9_code 6 (some .long) ws (Rm 1 0 0 15) #[(.ref ob), (.int 0), (.int 1)] h0 (Q8v0 Z ob kk qa qb qv ya yb yc h0 n0) := by
  refine own_body (own := TVn) (plainFor_of_name own_pn0) rfl (fun m => ef_8v0 m ob) ?_
  intro p e s m below meth c s₁ Bd H hml hZ hown X0 e0 P hP
  have N0 := Fr.nil n0
  refine g_iloadN X0 H d8_0 rfl ?_
  refine g_iloadN X0 H d8_1 rfl ?_
  refine g_icmpYes X0 H d8_2 9 (feq (by decide : ¬ ((0 : Int32) = (1 : Int32)))).2 (by decide) ?_
  refine g_lconst X0 H d8_9 0 rfl ?_
  show Go p.tables e below P s₁ (mkF m 10 #[vr ob, vi 0, vi 1, vu, vu, vu] [(.long 0)])
  refine g_lstoreN X0 H d8_10 #[vr ob, vi 0, vi 1, vj 0, v2, vu] rfl ?_
  refine g_iloadN X0 H d8_11 rfl ?_
  refine g_istore X0 H d8_12 #[vr ob, vi 0, vi 1, vj 0, v2, vi 0] rfl ?_
  refine g_iload X0 H d8_14 rfl ?_
  refine g_iloadN X0 H d8_16 rfl ?_
  refine g_icmpNo X0 H d8_17 (tlt (by decide : (0 : Int32) < (1 : Int32))).2.1 ?_
  refine g_aloadN X0 H d8_20 rfl rfl ?_
  refine g_iload X0 H d8_21 rfl ?_
  refine g_baload X0 H hZ e0 P0 (.int 56) d8_23 ⟨by decide, by decide⟩ rfl ?_
  refine g_cS X0 H hZ hml rfl hown e0 (rm7 l Z a0 hw [] (56 : Int32) h0 n0 Z0 (by unfold own_dg; decide)) (own_g hw 34 rfl) (own_g hw 35 rfl) (own_g hw 4 rfl) (own_g hw 36 rfl) (by decide) own_pd0 d8_24 rfl rfl rfl (W := 0) rfl (by decide) ?_
  intro _ T2 Lc2 X2 hQ2
  obtain ⟨rfl, Nq2, hh2⟩ := hQ2
  obtain ⟨lc2, Xh2, N2⟩ := own_hide X2 (Fr.app N0 Nq2)
  clear X2
  refine g_ifYes Xh2 H d8_27 34 ((if0 _ _).trans (feq (by decide : ¬ ((1 : Int32) = (0 : Int32)))).2) (by decide) ?_
  refine g_lloadN Xh2 H d8_34 rfl ?_
  refine g_ldcJ Xh2 H hZ hown (own_g hw 40 rfl) d8_35 ?_
  show Go p.tables e below P T2 (mkF m 38 #[vr ob, vi 0, vi 1, vj 0, v2, vi 0] [(.long 10), (.long 0)])
  refine g_lmul Xh2 H d8_38 ?_
  refine g_aloadN Xh2 H d8_39 rfl rfl ?_
  refine g_iload Xh2 H d8_40 rfl ?_
  refine g_baload Xh2 H hZ hh2 P0 (.int 56) d8_42 ⟨by decide, by decide⟩ rfl ?_
  refine g_bipush Xh2 H d8_43 48 rfl ?_
  refine g_isub Xh2 H d8_45 ?_
  refine g_i2l Xh2 H d8_46 ?_
  refine g_ladd Xh2 H d8_47 ?_
  refine g_ldcJ Xh2 H hZ hown (own_g hw 41 rfl) d8_48 ?_
  refine g_cS Xh2 H hZ hml rfl hown hh2 (rm9 l Z a0 hw [] (((0 : Int64) * (10 : Int64)) + (((56 : Int32) - (48 : Int32)).toInt64)) (2147483648 : Int64) h0 n0 Z0 ) (own_g hw 42 rfl) (own_g hw 43 rfl) (own_g hw 44 rfl) (own_g hw 45 rfl) (by decide) own_pd1 d8_51 rfl rfl rfl (W := 0) rfl (by decide) ?_
  intro _ T4 Lc4 X4 hQ4
  obtain ⟨rfl, Nq4, hh4⟩ := hQ4
  obtain ⟨lc4, Xh4, N4⟩ := own_hide X4 (Fr.app N2 Nq4)
  clear X4
  refine g_lstoreN Xh4 H d8_54 #[vr ob, vi 0, vi 1, vj (own_mj (((0 : Int64) * (10 : Int64)) + (((56 : Int32) - (48 : Int32)).toInt64)) (2147483648 : Int64)), v2, vi 0] rfl ?_
  refine g_iinc Xh4 H d8_55 rfl #[vr ob, vi 0, vi 1, vj (own_mj (((0 : Int64) * (10 : Int64)) + (((56 : Int32) - (48 : Int32)).toInt64)) (2147483648 : Int64)), v2, vi 1] rfl ?_
  refine g_goto Xh4 H d8_58 14 (by decide) ?_
  show Go p.tables e below P T4 (mkF m 14 #[vr ob, vi 0, vi 1, vj (own_mj (((0 : Int64) * (10 : Int64)) + (((56 : Int32) - (48 : Int32)).toInt64)) (2147483648 : Int64)), v2, vi 1] [])
  refine g_iload Xh4 H d8_14 rfl ?_
  refine g_iloadN Xh4 H d8_16 rfl ?_
  refine g_icmpYes Xh4 H d8_17 61 (flt (by decide : ¬ ((1 : Int32) < (1 : Int32)))).2.1 (by decide) ?_
  refine g_lloadN Xh4 H d8_61 rfl ?_
  refine g_retJ Xh4 H Bd.notSynchronized hP (by decide) Bd.returns d8_62 (r := (8 : Int64)) (show (own_mj (((0 : Int64) * (10 : Int64)) + (((56 : Int32) - (48 : Int32)).toInt64)) (2147483648 : Int64)) = (8 : Int64) from by decide) ?_
  rw [hh4]
  exact ⟨rfl, N4, rfl⟩
theorem ef_8v4 (m : MethodId) (x0 : Addr) : entryFrame m #[(.ref x0), (.int 4), (.int 5)] 6 = mkF m 0 #[.val (.ref x0), .val (.int 4), .val (.int 5), .unset, .unset, .unset] [] := by first | (simp [entryFrame, mkF, argsToLocals, Value.category]; done) | rfl
def Q8v4 (Z : State) (ob : Addr) (kk : ClassId) (qa : Int32) (qb : Int32) (qv : Int32) (ya : Int32) (yb : Int32) (yc : Int32) (h0 : Heap) (n0 : Nat) (v : Option Value) (h : Heap) (L : List Loc) : Prop := v = some (.long 9) ∧ Fr n0 L ∧ h = h0
theorem rm8v4 (l : Launch) (Z : State) (a0 : Array Value) (hw : HW a0 Z) (ws : List Jvm.Cond) (ob : Addr) (kk : ClassId) (qa : Int32) (qb : Int32) (qv : Int32) (ya : Int32) (yb : Int32) (yc : Int32) (h0 : Heap) (n0 : Nat) (Z0 : n0 ≤ h0.size) (P0 : Arv Z h0 ob kk .byte (26 : Int32) (bll qa qb qv ya yb yc) (.int 0)) :
    MFr l Z (⟨TVn, "decimal", "([BII)J"⟩ : MethodName) prog_39_method_9_code 6 (some .long) ws (Rm 1 0 0 15) #[(.ref ob), (.int 4), (.int 5)] h0 (Q8v4 Z ob kk qa qb qv ya yb yc h0 n0) := by
  refine own_body (own := TVn) (plainFor_of_name own_pn0) rfl (fun m => ef_8v4 m ob) ?_
  intro p e s m below meth c s₁ Bd H hml hZ hown X0 e0 P hP
  have N0 := Fr.nil n0
  refine g_iloadN X0 H d8_0 rfl ?_
  refine g_iloadN X0 H d8_1 rfl ?_
  refine g_icmpYes X0 H d8_2 9 (feq (by decide : ¬ ((4 : Int32) = (5 : Int32)))).2 (by decide) ?_
  refine g_lconst X0 H d8_9 0 rfl ?_
  refine g_lstoreN X0 H d8_10 #[vr ob, vi 4, vi 5, vj 0, v2, vu] rfl ?_
  refine g_iloadN X0 H d8_11 rfl ?_
  refine g_istore X0 H d8_12 #[vr ob, vi 4, vi 5, vj 0, v2, vi 4] rfl ?_
  refine g_iload X0 H d8_14 rfl ?_
  show Go p.tables e below P s₁ (mkF m 16 #[vr ob, vi 4, vi 5, vj 0, v2, vi 4] [(.int 4)])
  refine g_iloadN X0 H d8_16 rfl ?_
  refine g_icmpNo X0 H d8_17 (tlt (by decide : (4 : Int32) < (5 : Int32))).2.1 ?_
  refine g_aloadN X0 H d8_20 rfl rfl ?_
  refine g_iload X0 H d8_21 rfl ?_
  refine g_baload X0 H hZ e0 P0 (.int 57) d8_23 ⟨by decide, by decide⟩ rfl ?_
  refine g_cS X0 H hZ hml rfl hown e0 (rm7 l Z a0 hw [] (57 : Int32) h0 n0 Z0 (by unfold own_dg; decide)) (own_g hw 34 rfl) (own_g hw 35 rfl) (own_g hw 4 rfl) (own_g hw 36 rfl) (by decide) own_pd0 d8_24 rfl rfl rfl (W := 0) rfl (by decide) ?_
  intro _ T2 Lc2 X2 hQ2
  obtain ⟨rfl, Nq2, hh2⟩ := hQ2
  obtain ⟨lc2, Xh2, N2⟩ := own_hide X2 (Fr.app N0 Nq2)
  clear X2
  refine g_ifYes Xh2 H d8_27 34 ((if0 _ _).trans (feq (by decide : ¬ ((1 : Int32) = (0 : Int32)))).2) (by decide) ?_
  refine g_lloadN Xh2 H d8_34 rfl ?_
  refine g_ldcJ Xh2 H hZ hown (own_g hw 40 rfl) d8_35 ?_
  refine g_lmul Xh2 H d8_38 ?_
  refine g_aloadN Xh2 H d8_39 rfl rfl ?_
  refine g_iload Xh2 H d8_40 rfl ?_
  refine g_baload Xh2 H hZ hh2 P0 (.int 57) d8_42 ⟨by decide, by decide⟩ rfl ?_
  show Go p.tables e below P T2 (mkF m 43 #[vr ob, vi 4, vi 5, vj 0, v2, vi 4] [(.int 57), (.long ((0 : Int64) * (10 : Int64)))])
  refine g_bipush Xh2 H d8_43 48 rfl ?_
  refine g_isub Xh2 H d8_45 ?_
  refine g_i2l Xh2 H d8_46 ?_
  refine g_ladd Xh2 H d8_47 ?_
  refine g_ldcJ Xh2 H hZ hown (own_g hw 41 rfl) d8_48 ?_
  refine g_cS Xh2 H hZ hml rfl hown hh2 (rm9 l Z a0 hw [] (((0 : Int64) * (10 : Int64)) + (((57 : Int32) - (48 : Int32)).toInt64)) (2147483648 : Int64) h0 n0 Z0 ) (own_g hw 42 rfl) (own_g hw 43 rfl) (own_g hw 44 rfl) (own_g hw 45 rfl) (by decide) own_pd1 d8_51 rfl rfl rfl (W := 0) rfl (by decide) ?_
  intro _ T4 Lc4 X4 hQ4
  obtain ⟨rfl, Nq4, hh4⟩ := hQ4
  obtain ⟨lc4, Xh4, N4⟩ := own_hide X4 (Fr.app N2 Nq4)
  clear X4
  refine g_lstoreN Xh4 H d8_54 #[vr ob, vi 4, vi 5, vj (own_mj (((0 : Int64) * (10 : Int64)) + (((57 : Int32) - (48 : Int32)).toInt64)) (2147483648 : Int64)), v2, vi 4] rfl ?_
  refine g_iinc Xh4 H d8_55 rfl #[vr ob, vi 4, vi 5, vj (own_mj (((0 : Int64) * (10 : Int64)) + (((57 : Int32) - (48 : Int32)).toInt64)) (2147483648 : Int64)), v2, vi 5] rfl ?_
  refine g_goto Xh4 H d8_58 14 (by decide) ?_
  refine g_iload Xh4 H d8_14 rfl ?_
  refine g_iloadN Xh4 H d8_16 rfl ?_
  refine g_icmpYes Xh4 H d8_17 61 (flt (by decide : ¬ ((5 : Int32) < (5 : Int32)))).2.1 (by decide) ?_
  refine g_lloadN Xh4 H d8_61 rfl ?_
  show Go p.tables e below P T4 (mkF m 62 #[vr ob, vi 4, vi 5, vj (own_mj (((0 : Int64) * (10 : Int64)) + (((57 : Int32) - (48 : Int32)).toInt64)) (2147483648 : Int64)), v2, vi 5] [(.long (own_mj (((0 : Int64) * (10 : Int64)) + (((57 : Int32) - (48 : Int32)).toInt64)) (2147483648 : Int64)))])
  refine g_retJ Xh4 H Bd.notSynchronized hP (by decide) Bd.returns d8_62 (r := (9 : Int64)) (show (own_mj (((0 : Int64) * (10 : Int64)) + (((57 : Int32) - (48 : Int32)).toInt64)) (2147483648 : Int64)) = (9 : Int64) from by decide) ?_
  rw [hh4]
  exact ⟨rfl, N4, rfl⟩
theorem ef_8v9 (m : MethodId) (x0 : Addr) : entryFrame m #[(.ref x0), (.int 9), (.int 11)] 6 = mkF m 0 #[.val (.ref x0), .val (.int 9), .val (.int 11), .unset, .unset, .unset] [] := by first | (simp [entryFrame, mkF, argsToLocals, Value.category]; done) | rfl
def Q8v9 (Z : State) (ob : Addr) (kk : ClassId) (qa : Int32) (qb : Int32) (qv : Int32) (ya : Int32) (yb : Int32) (yc : Int32) (h0 : Heap) (n0 : Nat) (v : Option Value) (h : Heap) (L : List Loc) : Prop := v = some (.long 35) ∧ Fr n0 L ∧ h = h0
theorem rm8v9 (l : Launch) (Z : State) (a0 : Array Value) (hw : HW a0 Z) (ws : List Jvm.Cond) (ob : Addr) (kk : ClassId) (qa : Int32) (qb : Int32) (qv : Int32) (ya : Int32) (yb : Int32) (yc : Int32) (h0 : Heap) (n0 : Nat) (Z0 : n0 ≤ h0.size) (P0 : Arv Z h0 ob kk .byte (26 : Int32) (bll qa qb qv ya yb yc) (.int 0)) :
    MFr l Z (⟨TVn, "decimal", "([BII)J"⟩ : MethodName) prog_39_method_9_code 6 (some .long) ws (Rm 1 0 0 15) #[(.ref ob), (.int 9), (.int 11)] h0 (Q8v9 Z ob kk qa qb qv ya yb yc h0 n0) := by
  refine own_body (own := TVn) (plainFor_of_name own_pn0) rfl (fun m => ef_8v9 m ob) ?_
  intro p e s m below meth c s₁ Bd H hml hZ hown X0 e0 P hP
  have N0 := Fr.nil n0
  refine g_iloadN X0 H d8_0 rfl ?_
  refine g_iloadN X0 H d8_1 rfl ?_
  refine g_icmpYes X0 H d8_2 9 (feq (by decide : ¬ ((9 : Int32) = (11 : Int32)))).2 (by decide) ?_
  refine g_lconst X0 H d8_9 0 rfl ?_
  refine g_lstoreN X0 H d8_10 #[vr ob, vi 9, vi 11, vj 0, v2, vu] rfl ?_
  refine g_iloadN X0 H d8_11 rfl ?_
  refine g_istore X0 H d8_12 #[vr ob, vi 9, vi 11, vj 0, v2, vi 9] rfl ?_
  refine g_iload X0 H d8_14 rfl ?_
  refine g_iloadN X0 H d8_16 rfl ?_
  refine g_icmpNo X0 H d8_17 (tlt (by decide : (9 : Int32) < (11 : Int32))).2.1 ?_
  refine g_aloadN X0 H d8_20 rfl rfl ?_
  refine g_iload X0 H d8_21 rfl ?_
  show Go p.tables e below P s₁ (mkF m 23 #[vr ob, vi 9, vi 11, vj 0, v2, vi 9] [(.int 9), (.ref ob)])
  refine g_baload X0 H hZ e0 P0 (.int 51) d8_23 ⟨by decide, by decide⟩ rfl ?_
  refine g_cS X0 H hZ hml rfl hown e0 (rm7 l Z a0 hw [] (51 : Int32) h0 n0 Z0 (by unfold own_dg; decide)) (own_g hw 34 rfl) (own_g hw 35 rfl) (own_g hw 4 rfl) (own_g hw 36 rfl) (by decide) own_pd0 d8_24 rfl rfl rfl (W := 0) rfl (by decide) ?_
  intro _ T2 Lc2 X2 hQ2
  obtain ⟨rfl, Nq2, hh2⟩ := hQ2
  obtain ⟨lc2, Xh2, N2⟩ := own_hide X2 (Fr.app N0 Nq2)
  clear X2
  refine g_ifYes Xh2 H d8_27 34 ((if0 _ _).trans (feq (by decide : ¬ ((1 : Int32) = (0 : Int32)))).2) (by decide) ?_
  refine g_lloadN Xh2 H d8_34 rfl ?_
  refine g_ldcJ Xh2 H hZ hown (own_g hw 40 rfl) d8_35 ?_
  refine g_lmul Xh2 H d8_38 ?_
  refine g_aloadN Xh2 H d8_39 rfl rfl ?_
  refine g_iload Xh2 H d8_40 rfl ?_
  refine g_baload Xh2 H hZ hh2 P0 (.int 51) d8_42 ⟨by decide, by decide⟩ rfl ?_
  refine g_bipush Xh2 H d8_43 48 rfl ?_
  refine g_isub Xh2 H d8_45 ?_
  refine g_i2l Xh2 H d8_46 ?_
  refine g_ladd Xh2 H d8_47 ?_
  show Go p.tables e below P T2 (mkF m 48 #[vr ob, vi 9, vi 11, vj 0, v2, vi 9] [(.long (((0 : Int64) * (10 : Int64)) + (((51 : Int32) - (48 : Int32)).toInt64)))])
  refine g_ldcJ Xh2 H hZ hown (own_g hw 41 rfl) d8_48 ?_
  refine g_cS Xh2 H hZ hml rfl hown hh2 (rm9 l Z a0 hw [] (((0 : Int64) * (10 : Int64)) + (((51 : Int32) - (48 : Int32)).toInt64)) (2147483648 : Int64) h0 n0 Z0 ) (own_g hw 42 rfl) (own_g hw 43 rfl) (own_g hw 44 rfl) (own_g hw 45 rfl) (by decide) own_pd1 d8_51 rfl rfl rfl (W := 0) rfl (by decide) ?_
  intro _ T4 Lc4 X4 hQ4
  obtain ⟨rfl, Nq4, hh4⟩ := hQ4
  obtain ⟨lc4, Xh4, N4⟩ := own_hide X4 (Fr.app N2 Nq4)
  clear X4
  refine g_lstoreN Xh4 H d8_54 #[vr ob, vi 9, vi 11, vj (own_mj (((0 : Int64) * (10 : Int64)) + (((51 : Int32) - (48 : Int32)).toInt64)) (2147483648 : Int64)), v2, vi 9] rfl ?_
  refine g_iinc Xh4 H d8_55 rfl #[vr ob, vi 9, vi 11, vj (own_mj (((0 : Int64) * (10 : Int64)) + (((51 : Int32) - (48 : Int32)).toInt64)) (2147483648 : Int64)), v2, vi 10] rfl ?_
  refine g_goto Xh4 H d8_58 14 (by decide) ?_
  refine g_iload Xh4 H d8_14 rfl ?_
  refine g_iloadN Xh4 H d8_16 rfl ?_
  refine g_icmpNo Xh4 H d8_17 (tlt (by decide : (10 : Int32) < (11 : Int32))).2.1 ?_
  refine g_aloadN Xh4 H d8_20 rfl rfl ?_
  refine g_iload Xh4 H d8_21 rfl ?_
  refine g_baload Xh4 H hZ hh4 P0 (.int 53) d8_23 ⟨by decide, by decide⟩ rfl ?_
  refine g_cS Xh4 H hZ hml rfl hown hh4 (rm7 l Z a0 hw [] (53 : Int32) h0 n0 Z0 (by unfold own_dg; decide)) (own_g hw 34 rfl) (own_g hw 35 rfl) (own_g hw 4 rfl) (own_g hw 36 rfl) (by decide) own_pd0 d8_24 rfl rfl rfl (W := 0) rfl (by decide) ?_
  intro _ T6 Lc6 X6 hQ6
  obtain ⟨rfl, Nq6, hh6⟩ := hQ6
  obtain ⟨lc6, Xh6, N6⟩ := own_hide X6 (Fr.app N4 Nq6)
  clear X6
  refine g_ifYes Xh6 H d8_27 34 ((if0 _ _).trans (feq (by decide : ¬ ((1 : Int32) = (0 : Int32)))).2) (by decide) ?_
  show Go p.tables e below P T6 (mkF m 34 #[vr ob, vi 9, vi 11, vj (own_mj (((0 : Int64) * (10 : Int64)) + (((51 : Int32) - (48 : Int32)).toInt64)) (2147483648 : Int64)), v2, vi 10] [])
  refine g_lloadN Xh6 H d8_34 rfl ?_
  refine g_ldcJ Xh6 H hZ hown (own_g hw 40 rfl) d8_35 ?_
  refine g_lmul Xh6 H d8_38 ?_
  refine g_aloadN Xh6 H d8_39 rfl rfl ?_
  refine g_iload Xh6 H d8_40 rfl ?_
  refine g_baload Xh6 H hZ hh6 P0 (.int 53) d8_42 ⟨by decide, by decide⟩ rfl ?_
  refine g_bipush Xh6 H d8_43 48 rfl ?_
  refine g_isub Xh6 H d8_45 ?_
  refine g_i2l Xh6 H d8_46 ?_
  refine g_ladd Xh6 H d8_47 ?_
  refine g_ldcJ Xh6 H hZ hown (own_g hw 41 rfl) d8_48 ?_
  refine g_cS Xh6 H hZ hml rfl hown hh6 (rm9 l Z a0 hw [] (((own_mj (((0 : Int64) * (10 : Int64)) + (((51 : Int32) - (48 : Int32)).toInt64)) (2147483648 : Int64)) * (10 : Int64)) + (((53 : Int32) - (48 : Int32)).toInt64)) (2147483648 : Int64) h0 n0 Z0 ) (own_g hw 42 rfl) (own_g hw 43 rfl) (own_g hw 44 rfl) (own_g hw 45 rfl) (by decide) own_pd1 d8_51 rfl rfl rfl (W := 0) rfl (by decide) ?_
  intro _ T8 Lc8 X8 hQ8
  obtain ⟨rfl, Nq8, hh8⟩ := hQ8
  obtain ⟨lc8, Xh8, N8⟩ := own_hide X8 (Fr.app N6 Nq8)
  clear X8
  refine g_lstoreN Xh8 H d8_54 #[vr ob, vi 9, vi 11, vj (own_mj (((own_mj (((0 : Int64) * (10 : Int64)) + (((51 : Int32) - (48 : Int32)).toInt64)) (2147483648 : Int64)) * (10 : Int64)) + (((53 : Int32) - (48 : Int32)).toInt64)) (2147483648 : Int64)), v2, vi 10] rfl ?_
  show Go p.tables e below P T8 (mkF m 55 #[vr ob, vi 9, vi 11, vj (own_mj (((own_mj (((0 : Int64) * (10 : Int64)) + (((51 : Int32) - (48 : Int32)).toInt64)) (2147483648 : Int64)) * (10 : Int64)) + (((53 : Int32) - (48 : Int32)).toInt64)) (2147483648 : Int64)), v2, vi 10] [])
  refine g_iinc Xh8 H d8_55 rfl #[vr ob, vi 9, vi 11, vj (own_mj (((own_mj (((0 : Int64) * (10 : Int64)) + (((51 : Int32) - (48 : Int32)).toInt64)) (2147483648 : Int64)) * (10 : Int64)) + (((53 : Int32) - (48 : Int32)).toInt64)) (2147483648 : Int64)), v2, vi 11] rfl ?_
  refine g_goto Xh8 H d8_58 14 (by decide) ?_
  refine g_iload Xh8 H d8_14 rfl ?_
  refine g_iloadN Xh8 H d8_16 rfl ?_
  refine g_icmpYes Xh8 H d8_17 61 (flt (by decide : ¬ ((11 : Int32) < (11 : Int32)))).2.1 (by decide) ?_
  refine g_lloadN Xh8 H d8_61 rfl ?_
  refine g_retJ Xh8 H Bd.notSynchronized hP (by decide) Bd.returns d8_62 (r := (35 : Int64)) (show (own_mj (((own_mj (((0 : Int64) * (10 : Int64)) + (((51 : Int32) - (48 : Int32)).toInt64)) (2147483648 : Int64)) * (10 : Int64)) + (((53 : Int32) - (48 : Int32)).toInt64)) (2147483648 : Int64)) = (35 : Int64) from by decide) ?_
  rw [hh8]
  exact ⟨rfl, N8, rfl⟩
theorem ef_8v14 (m : MethodId) (x0 : Addr) : entryFrame m #[(.ref x0), (.int 14), (.int 16)] 6 = mkF m 0 #[.val (.ref x0), .val (.int 14), .val (.int 16), .unset, .unset, .unset] [] := by first | (simp [entryFrame, mkF, argsToLocals, Value.category]; done) | rfl
def Q8v14 (Z : State) (ob : Addr) (kk : ClassId) (qa : Int32) (qb : Int32) (qv : Int32) (ya : Int32) (yb : Int32) (yc : Int32) (h0 : Heap) (n0 : Nat) (v : Option Value) (h : Heap) (L : List Loc) : Prop := v = some (.long (own_d (own_d (0 : Int64) qa) qb)) ∧ Fr n0 L ∧ h = h0
theorem rm8v14 (l : Launch) (Z : State) (a0 : Array Value) (hw : HW a0 Z) (ws : List Jvm.Cond) (ob : Addr) (kk : ClassId) (qa : Int32) (qb : Int32) (qv : Int32) (ya : Int32) (yb : Int32) (yc : Int32) (h0 : Heap) (n0 : Nat) (Z0 : n0 ≤ h0.size) (P0 : Arv Z h0 ob kk .byte (26 : Int32) (bll qa qb qv ya yb yc) (.int 0)) (d_qa : own_dg qa) (d_qb : own_dg qb) :
    MFr l Z (⟨TVn, "decimal", "([BII)J"⟩ : MethodName) prog_39_method_9_code 6 (some .long) ws (Rm 1 0 0 15) #[(.ref ob), (.int 14), (.int 16)] h0 (Q8v14 Z ob kk qa qb qv ya yb yc h0 n0) := by
  refine own_body (own := TVn) (plainFor_of_name own_pn0) rfl (fun m => ef_8v14 m ob) ?_
  intro p e s m below meth c s₁ Bd H hml hZ hown X0 e0 P hP
  have N0 := Fr.nil n0
  refine g_iloadN X0 H d8_0 rfl ?_
  refine g_iloadN X0 H d8_1 rfl ?_
  refine g_icmpYes X0 H d8_2 9 (feq (by decide : ¬ ((14 : Int32) = (16 : Int32)))).2 (by decide) ?_
  refine g_lconst X0 H d8_9 0 rfl ?_
  refine g_lstoreN X0 H d8_10 #[vr ob, vi 14, vi 16, vj 0, v2, vu] rfl ?_
  refine g_iloadN X0 H d8_11 rfl ?_
  show Go p.tables e below P s₁ (mkF m 12 #[vr ob, vi 14, vi 16, vj 0, v2, vu] [(.int 14)])
  refine g_istore X0 H d8_12 #[vr ob, vi 14, vi 16, vj 0, v2, vi 14] rfl ?_
  refine g_iload X0 H d8_14 rfl ?_
  refine g_iloadN X0 H d8_16 rfl ?_
  refine g_icmpNo X0 H d8_17 (tlt (by decide : (14 : Int32) < (16 : Int32))).2.1 ?_
  refine g_aloadN X0 H d8_20 rfl rfl ?_
  refine g_iload X0 H d8_21 rfl ?_
  refine g_baload X0 H hZ e0 P0 (.int qa) d8_23 ⟨by decide, by decide⟩ rfl ?_
  refine g_cS X0 H hZ hml rfl hown e0 (rm7 l Z a0 hw [] qa h0 n0 Z0 d_qa) (own_g hw 34 rfl) (own_g hw 35 rfl) (own_g hw 4 rfl) (own_g hw 36 rfl) (by decide) own_pd0 d8_24 rfl rfl rfl (W := 0) rfl (by decide) ?_
  intro _ T2 Lc2 X2 hQ2
  obtain ⟨rfl, Nq2, hh2⟩ := hQ2
  obtain ⟨lc2, Xh2, N2⟩ := own_hide X2 (Fr.app N0 Nq2)
  clear X2
  refine g_ifYes Xh2 H d8_27 34 ((if0 _ _).trans (feq (by decide : ¬ ((1 : Int32) = (0 : Int32)))).2) (by decide) ?_
  refine g_lloadN Xh2 H d8_34 rfl ?_
  refine g_ldcJ Xh2 H hZ hown (own_g hw 40 rfl) d8_35 ?_
  refine g_lmul Xh2 H d8_38 ?_
  refine g_aloadN Xh2 H d8_39 rfl rfl ?_
  show Go p.tables e below P T2 (mkF m 40 #[vr ob, vi 14, vi 16, vj 0, v2, vi 14] [(.ref ob), (.long ((0 : Int64) * (10 : Int64)))])
  refine g_iload Xh2 H d8_40 rfl ?_
  refine g_baload Xh2 H hZ hh2 P0 (.int qa) d8_42 ⟨by decide, by decide⟩ rfl ?_
  refine g_bipush Xh2 H d8_43 48 rfl ?_
  refine g_isub Xh2 H d8_45 ?_
  refine g_i2l Xh2 H d8_46 ?_
  refine g_ladd Xh2 H d8_47 ?_
  refine g_ldcJ Xh2 H hZ hown (own_g hw 41 rfl) d8_48 ?_
  refine g_cS Xh2 H hZ hml rfl hown hh2 (rm9 l Z a0 hw [] (((0 : Int64) * (10 : Int64)) + ((qa - (48 : Int32)).toInt64)) (2147483648 : Int64) h0 n0 Z0 ) (own_g hw 42 rfl) (own_g hw 43 rfl) (own_g hw 44 rfl) (own_g hw 45 rfl) (by decide) own_pd1 d8_51 rfl rfl rfl (W := 0) rfl (by decide) ?_
  intro _ T4 Lc4 X4 hQ4
  obtain ⟨rfl, Nq4, hh4⟩ := hQ4
  obtain ⟨lc4, Xh4, N4⟩ := own_hide X4 (Fr.app N2 Nq4)
  clear X4
  refine g_lstoreN Xh4 H d8_54 #[vr ob, vi 14, vi 16, vj (own_mj (((0 : Int64) * (10 : Int64)) + ((qa - (48 : Int32)).toInt64)) (2147483648 : Int64)), v2, vi 14] rfl ?_
  refine g_iinc Xh4 H d8_55 rfl #[vr ob, vi 14, vi 16, vj (own_mj (((0 : Int64) * (10 : Int64)) + ((qa - (48 : Int32)).toInt64)) (2147483648 : Int64)), v2, vi 15] rfl ?_
  refine g_goto Xh4 H d8_58 14 (by decide) ?_
  refine g_iload Xh4 H d8_14 rfl ?_
  refine g_iloadN Xh4 H d8_16 rfl ?_
  show Go p.tables e below P T4 (mkF m 17 #[vr ob, vi 14, vi 16, vj (own_mj (((0 : Int64) * (10 : Int64)) + ((qa - (48 : Int32)).toInt64)) (2147483648 : Int64)), v2, vi 15] [(.int 16), (.int 15)])
  refine g_icmpNo Xh4 H d8_17 (tlt (by decide : (15 : Int32) < (16 : Int32))).2.1 ?_
  refine g_aloadN Xh4 H d8_20 rfl rfl ?_
  refine g_iload Xh4 H d8_21 rfl ?_
  refine g_baload Xh4 H hZ hh4 P0 (.int qb) d8_23 ⟨by decide, by decide⟩ rfl ?_
  refine g_cS Xh4 H hZ hml rfl hown hh4 (rm7 l Z a0 hw [] qb h0 n0 Z0 d_qb) (own_g hw 34 rfl) (own_g hw 35 rfl) (own_g hw 4 rfl) (own_g hw 36 rfl) (by decide) own_pd0 d8_24 rfl rfl rfl (W := 0) rfl (by decide) ?_
  intro _ T6 Lc6 X6 hQ6
  obtain ⟨rfl, Nq6, hh6⟩ := hQ6
  obtain ⟨lc6, Xh6, N6⟩ := own_hide X6 (Fr.app N4 Nq6)
  clear X6
  refine g_ifYes Xh6 H d8_27 34 ((if0 _ _).trans (feq (by decide : ¬ ((1 : Int32) = (0 : Int32)))).2) (by decide) ?_
  refine g_lloadN Xh6 H d8_34 rfl ?_
  refine g_ldcJ Xh6 H hZ hown (own_g hw 40 rfl) d8_35 ?_
  refine g_lmul Xh6 H d8_38 ?_
  refine g_aloadN Xh6 H d8_39 rfl rfl ?_
  refine g_iload Xh6 H d8_40 rfl ?_
  refine g_baload Xh6 H hZ hh6 P0 (.int qb) d8_42 ⟨by decide, by decide⟩ rfl ?_
  refine g_bipush Xh6 H d8_43 48 rfl ?_
  show Go p.tables e below P T6 (mkF m 45 #[vr ob, vi 14, vi 16, vj (own_mj (((0 : Int64) * (10 : Int64)) + ((qa - (48 : Int32)).toInt64)) (2147483648 : Int64)), v2, vi 15] [(.int 48), (.int qb), (.long ((own_mj (((0 : Int64) * (10 : Int64)) + ((qa - (48 : Int32)).toInt64)) (2147483648 : Int64)) * (10 : Int64)))])
  refine g_isub Xh6 H d8_45 ?_
  refine g_i2l Xh6 H d8_46 ?_
  refine g_ladd Xh6 H d8_47 ?_
  refine g_ldcJ Xh6 H hZ hown (own_g hw 41 rfl) d8_48 ?_
  refine g_cS Xh6 H hZ hml rfl hown hh6 (rm9 l Z a0 hw [] (((own_mj (((0 : Int64) * (10 : Int64)) + ((qa - (48 : Int32)).toInt64)) (2147483648 : Int64)) * (10 : Int64)) + ((qb - (48 : Int32)).toInt64)) (2147483648 : Int64) h0 n0 Z0 ) (own_g hw 42 rfl) (own_g hw 43 rfl) (own_g hw 44 rfl) (own_g hw 45 rfl) (by decide) own_pd1 d8_51 rfl rfl rfl (W := 0) rfl (by decide) ?_
  intro _ T8 Lc8 X8 hQ8
  obtain ⟨rfl, Nq8, hh8⟩ := hQ8
  obtain ⟨lc8, Xh8, N8⟩ := own_hide X8 (Fr.app N6 Nq8)
  clear X8
  refine g_lstoreN Xh8 H d8_54 #[vr ob, vi 14, vi 16, vj (own_mj (((own_mj (((0 : Int64) * (10 : Int64)) + ((qa - (48 : Int32)).toInt64)) (2147483648 : Int64)) * (10 : Int64)) + ((qb - (48 : Int32)).toInt64)) (2147483648 : Int64)), v2, vi 15] rfl ?_
  refine g_iinc Xh8 H d8_55 rfl #[vr ob, vi 14, vi 16, vj (own_mj (((own_mj (((0 : Int64) * (10 : Int64)) + ((qa - (48 : Int32)).toInt64)) (2147483648 : Int64)) * (10 : Int64)) + ((qb - (48 : Int32)).toInt64)) (2147483648 : Int64)), v2, vi 16] rfl ?_
  refine g_goto Xh8 H d8_58 14 (by decide) ?_
  refine g_iload Xh8 H d8_14 rfl ?_
  refine g_iloadN Xh8 H d8_16 rfl ?_
  refine g_icmpYes Xh8 H d8_17 61 (flt (by decide : ¬ ((16 : Int32) < (16 : Int32)))).2.1 (by decide) ?_
  refine g_lloadN Xh8 H d8_61 rfl ?_
  refine g_retJ Xh8 H Bd.notSynchronized hP (by decide) Bd.returns d8_62 (r := (own_d (own_d (0 : Int64) qa) qb)) (show (own_mj (((own_mj (((0 : Int64) * (10 : Int64)) + ((qa - (48 : Int32)).toInt64)) (2147483648 : Int64)) * (10 : Int64)) + ((qb - (48 : Int32)).toInt64)) (2147483648 : Int64)) = (own_d (own_d (0 : Int64) qa) qb) from rfl) ?_
  rw [hh8]
  exact ⟨rfl, N8, rfl⟩
theorem ef_8v19 (m : MethodId) (x0 : Addr) : entryFrame m #[(.ref x0), (.int 19), (.int 21)] 6 = mkF m 0 #[.val (.ref x0), .val (.int 19), .val (.int 21), .unset, .unset, .unset] [] := by first | (simp [entryFrame, mkF, argsToLocals, Value.category]; done) | rfl
def Q8v19 (Z : State) (ob : Addr) (kk : ClassId) (qa : Int32) (qb : Int32) (qv : Int32) (ya : Int32) (yb : Int32) (yc : Int32) (h0 : Heap) (n0 : Nat) (v : Option Value) (h : Heap) (L : List Loc) : Prop := v = some (.long 10) ∧ Fr n0 L ∧ h = h0
theorem rm8v19 (l : Launch) (Z : State) (a0 : Array Value) (hw : HW a0 Z) (ws : List Jvm.Cond) (ob : Addr) (kk : ClassId) (qa : Int32) (qb : Int32) (qv : Int32) (ya : Int32) (yb : Int32) (yc : Int32) (h0 : Heap) (n0 : Nat) (Z0 : n0 ≤ h0.size) (P0 : Arv Z h0 ob kk .byte (26 : Int32) (bll qa qb qv ya yb yc) (.int 0)) :
    MFr l Z (⟨TVn, "decimal", "([BII)J"⟩ : MethodName) prog_39_method_9_code 6 (some .long) ws (Rm 1 0 0 15) #[(.ref ob), (.int 19), (.int 21)] h0 (Q8v19 Z ob kk qa qb qv ya yb yc h0 n0) := by
  refine own_body (own := TVn) (plainFor_of_name own_pn0) rfl (fun m => ef_8v19 m ob) ?_
  intro p e s m below meth c s₁ Bd H hml hZ hown X0 e0 P hP
  have N0 := Fr.nil n0
  show Go p.tables e below P s₁ (mkF m 0 #[vr ob, vi 19, vi 21, vu, vu, vu] [])
  refine g_iloadN X0 H d8_0 rfl ?_
  refine g_iloadN X0 H d8_1 rfl ?_
  refine g_icmpYes X0 H d8_2 9 (feq (by decide : ¬ ((19 : Int32) = (21 : Int32)))).2 (by decide) ?_
  refine g_lconst X0 H d8_9 0 rfl ?_
  refine g_lstoreN X0 H d8_10 #[vr ob, vi 19, vi 21, vj 0, v2, vu] rfl ?_
  refine g_iloadN X0 H d8_11 rfl ?_
  refine g_istore X0 H d8_12 #[vr ob, vi 19, vi 21, vj 0, v2, vi 19] rfl ?_
  refine g_iload X0 H d8_14 rfl ?_
  refine g_iloadN X0 H d8_16 rfl ?_
  refine g_icmpNo X0 H d8_17 (tlt (by decide : (19 : Int32) < (21 : Int32))).2.1 ?_
  refine g_aloadN X0 H d8_20 rfl rfl ?_
  refine g_iload X0 H d8_21 rfl ?_
  refine g_baload X0 H hZ e0 P0 (.int 49) d8_23 ⟨by decide, by decide⟩ rfl ?_
  show Go p.tables e below P s₁ (mkF m 24 #[vr ob, vi 19, vi 21, vj 0, v2, vi 19] [(.int 49)])
  refine g_cS X0 H hZ hml rfl hown e0 (rm7 l Z a0 hw [] (49 : Int32) h0 n0 Z0 (by unfold own_dg; decide)) (own_g hw 34 rfl) (own_g hw 35 rfl) (own_g hw 4 rfl) (own_g hw 36 rfl) (by decide) own_pd0 d8_24 rfl rfl rfl (W := 0) rfl (by decide) ?_
  intro _ T2 Lc2 X2 hQ2
  obtain ⟨rfl, Nq2, hh2⟩ := hQ2
  obtain ⟨lc2, Xh2, N2⟩ := own_hide X2 (Fr.app N0 Nq2)
  clear X2
  refine g_ifYes Xh2 H d8_27 34 ((if0 _ _).trans (feq (by decide : ¬ ((1 : Int32) = (0 : Int32)))).2) (by decide) ?_
  refine g_lloadN Xh2 H d8_34 rfl ?_
  refine g_ldcJ Xh2 H hZ hown (own_g hw 40 rfl) d8_35 ?_
  refine g_lmul Xh2 H d8_38 ?_
  refine g_aloadN Xh2 H d8_39 rfl rfl ?_
  refine g_iload Xh2 H d8_40 rfl ?_
  refine g_baload Xh2 H hZ hh2 P0 (.int 49) d8_42 ⟨by decide, by decide⟩ rfl ?_
  refine g_bipush Xh2 H d8_43 48 rfl ?_
  refine g_isub Xh2 H d8_45 ?_
  refine g_i2l Xh2 H d8_46 ?_
  refine g_ladd Xh2 H d8_47 ?_
  refine g_ldcJ Xh2 H hZ hown (own_g hw 41 rfl) d8_48 ?_
  show Go p.tables e below P T2 (mkF m 51 #[vr ob, vi 19, vi 21, vj 0, v2, vi 19] [(.long 2147483648), (.long (((0 : Int64) * (10 : Int64)) + (((49 : Int32) - (48 : Int32)).toInt64)))])
  refine g_cS Xh2 H hZ hml rfl hown hh2 (rm9 l Z a0 hw [] (((0 : Int64) * (10 : Int64)) + (((49 : Int32) - (48 : Int32)).toInt64)) (2147483648 : Int64) h0 n0 Z0 ) (own_g hw 42 rfl) (own_g hw 43 rfl) (own_g hw 44 rfl) (own_g hw 45 rfl) (by decide) own_pd1 d8_51 rfl rfl rfl (W := 0) rfl (by decide) ?_
  intro _ T4 Lc4 X4 hQ4
  obtain ⟨rfl, Nq4, hh4⟩ := hQ4
  obtain ⟨lc4, Xh4, N4⟩ := own_hide X4 (Fr.app N2 Nq4)
  clear X4
  refine g_lstoreN Xh4 H d8_54 #[vr ob, vi 19, vi 21, vj (own_mj (((0 : Int64) * (10 : Int64)) + (((49 : Int32) - (48 : Int32)).toInt64)) (2147483648 : Int64)), v2, vi 19] rfl ?_
  refine g_iinc Xh4 H d8_55 rfl #[vr ob, vi 19, vi 21, vj (own_mj (((0 : Int64) * (10 : Int64)) + (((49 : Int32) - (48 : Int32)).toInt64)) (2147483648 : Int64)), v2, vi 20] rfl ?_
  refine g_goto Xh4 H d8_58 14 (by decide) ?_
  refine g_iload Xh4 H d8_14 rfl ?_
  refine g_iloadN Xh4 H d8_16 rfl ?_
  refine g_icmpNo Xh4 H d8_17 (tlt (by decide : (20 : Int32) < (21 : Int32))).2.1 ?_
  refine g_aloadN Xh4 H d8_20 rfl rfl ?_
  refine g_iload Xh4 H d8_21 rfl ?_
  refine g_baload Xh4 H hZ hh4 P0 (.int 48) d8_23 ⟨by decide, by decide⟩ rfl ?_
  refine g_cS Xh4 H hZ hml rfl hown hh4 (rm7 l Z a0 hw [] (48 : Int32) h0 n0 Z0 (by unfold own_dg; decide)) (own_g hw 34 rfl) (own_g hw 35 rfl) (own_g hw 4 rfl) (own_g hw 36 rfl) (by decide) own_pd0 d8_24 rfl rfl rfl (W := 0) rfl (by decide) ?_
  intro _ T6 Lc6 X6 hQ6
  obtain ⟨rfl, Nq6, hh6⟩ := hQ6
  obtain ⟨lc6, Xh6, N6⟩ := own_hide X6 (Fr.app N4 Nq6)
  clear X6
  refine g_ifYes Xh6 H d8_27 34 ((if0 _ _).trans (feq (by decide : ¬ ((1 : Int32) = (0 : Int32)))).2) (by decide) ?_
  refine g_lloadN Xh6 H d8_34 rfl ?_
  show Go p.tables e below P T6 (mkF m 35 #[vr ob, vi 19, vi 21, vj (own_mj (((0 : Int64) * (10 : Int64)) + (((49 : Int32) - (48 : Int32)).toInt64)) (2147483648 : Int64)), v2, vi 20] [(.long (own_mj (((0 : Int64) * (10 : Int64)) + (((49 : Int32) - (48 : Int32)).toInt64)) (2147483648 : Int64)))])
  refine g_ldcJ Xh6 H hZ hown (own_g hw 40 rfl) d8_35 ?_
  refine g_lmul Xh6 H d8_38 ?_
  refine g_aloadN Xh6 H d8_39 rfl rfl ?_
  refine g_iload Xh6 H d8_40 rfl ?_
  refine g_baload Xh6 H hZ hh6 P0 (.int 48) d8_42 ⟨by decide, by decide⟩ rfl ?_
  refine g_bipush Xh6 H d8_43 48 rfl ?_
  refine g_isub Xh6 H d8_45 ?_
  refine g_i2l Xh6 H d8_46 ?_
  refine g_ladd Xh6 H d8_47 ?_
  refine g_ldcJ Xh6 H hZ hown (own_g hw 41 rfl) d8_48 ?_
  refine g_cS Xh6 H hZ hml rfl hown hh6 (rm9 l Z a0 hw [] (((own_mj (((0 : Int64) * (10 : Int64)) + (((49 : Int32) - (48 : Int32)).toInt64)) (2147483648 : Int64)) * (10 : Int64)) + (((48 : Int32) - (48 : Int32)).toInt64)) (2147483648 : Int64) h0 n0 Z0 ) (own_g hw 42 rfl) (own_g hw 43 rfl) (own_g hw 44 rfl) (own_g hw 45 rfl) (by decide) own_pd1 d8_51 rfl rfl rfl (W := 0) rfl (by decide) ?_
  intro _ T8 Lc8 X8 hQ8
  obtain ⟨rfl, Nq8, hh8⟩ := hQ8
  obtain ⟨lc8, Xh8, N8⟩ := own_hide X8 (Fr.app N6 Nq8)
  clear X8
  refine g_lstoreN Xh8 H d8_54 #[vr ob, vi 19, vi 21, vj (own_mj (((own_mj (((0 : Int64) * (10 : Int64)) + (((49 : Int32) - (48 : Int32)).toInt64)) (2147483648 : Int64)) * (10 : Int64)) + (((48 : Int32) - (48 : Int32)).toInt64)) (2147483648 : Int64)), v2, vi 20] rfl ?_
  refine g_iinc Xh8 H d8_55 rfl #[vr ob, vi 19, vi 21, vj (own_mj (((own_mj (((0 : Int64) * (10 : Int64)) + (((49 : Int32) - (48 : Int32)).toInt64)) (2147483648 : Int64)) * (10 : Int64)) + (((48 : Int32) - (48 : Int32)).toInt64)) (2147483648 : Int64)), v2, vi 21] rfl ?_
  show Go p.tables e below P T8 (mkF m 58 #[vr ob, vi 19, vi 21, vj (own_mj (((own_mj (((0 : Int64) * (10 : Int64)) + (((49 : Int32) - (48 : Int32)).toInt64)) (2147483648 : Int64)) * (10 : Int64)) + (((48 : Int32) - (48 : Int32)).toInt64)) (2147483648 : Int64)), v2, vi 21] [])
  refine g_goto Xh8 H d8_58 14 (by decide) ?_
  refine g_iload Xh8 H d8_14 rfl ?_
  refine g_iloadN Xh8 H d8_16 rfl ?_
  refine g_icmpYes Xh8 H d8_17 61 (flt (by decide : ¬ ((21 : Int32) < (21 : Int32)))).2.1 (by decide) ?_
  refine g_lloadN Xh8 H d8_61 rfl ?_
  refine g_retJ Xh8 H Bd.notSynchronized hP (by decide) Bd.returns d8_62 (r := (10 : Int64)) (show (own_mj (((own_mj (((0 : Int64) * (10 : Int64)) + (((49 : Int32) - (48 : Int32)).toInt64)) (2147483648 : Int64)) * (10 : Int64)) + (((48 : Int32) - (48 : Int32)).toInt64)) (2147483648 : Int64)) = (10 : Int64) from by decide) ?_
  rw [hh8]
  exact ⟨rfl, N8, rfl⟩
theorem ef_8v6 (m : MethodId) (x0 : Addr) : entryFrame m #[(.ref x0), (.int 6), (.int 8)] 6 = mkF m 0 #[.val (.ref x0), .val (.int 6), .val (.int 8), .unset, .unset, .unset] [] := by first | (simp [entryFrame, mkF, argsToLocals, Value.category]; done) | rfl
def Q8v6 (Z : State) (ob : Addr) (kk : ClassId) (qa : Int32) (qb : Int32) (qv : Int32) (ya : Int32) (yb : Int32) (yc : Int32) (h0 : Heap) (n0 : Nat) (v : Option Value) (h : Heap) (L : List Loc) : Prop := v = some (.long 10) ∧ Fr n0 L ∧ h = h0
theorem rm8v6 (l : Launch) (Z : State) (a0 : Array Value) (hw : HW a0 Z) (ws : List Jvm.Cond) (ob : Addr) (kk : ClassId) (qa : Int32) (qb : Int32) (qv : Int32) (ya : Int32) (yb : Int32) (yc : Int32) (h0 : Heap) (n0 : Nat) (Z0 : n0 ≤ h0.size) (P0 : Arv Z h0 ob kk .byte (26 : Int32) (bll qa qb qv ya yb yc) (.int 0)) :
    MFr l Z (⟨TVn, "decimal", "([BII)J"⟩ : MethodName) prog_39_method_9_code 6 (some .long) ws (Rm 1 0 0 15) #[(.ref ob), (.int 6), (.int 8)] h0 (Q8v6 Z ob kk qa qb qv ya yb yc h0 n0) := by
  refine own_body (own := TVn) (plainFor_of_name own_pn0) rfl (fun m => ef_8v6 m ob) ?_
  intro p e s m below meth c s₁ Bd H hml hZ hown X0 e0 P hP
  have N0 := Fr.nil n0
  refine g_iloadN X0 H d8_0 rfl ?_
  refine g_iloadN X0 H d8_1 rfl ?_
  refine g_icmpYes X0 H d8_2 9 (feq (by decide : ¬ ((6 : Int32) = (8 : Int32)))).2 (by decide) ?_
  refine g_lconst X0 H d8_9 0 rfl ?_
  refine g_lstoreN X0 H d8_10 #[vr ob, vi 6, vi 8, vj 0, v2, vu] rfl ?_
  refine g_iloadN X0 H d8_11 rfl ?_
  refine g_istore X0 H d8_12 #[vr ob, vi 6, vi 8, vj 0, v2, vi 6] rfl ?_
  show Go p.tables e below P s₁ (mkF m 14 #[vr ob, vi 6, vi 8, vj 0, v2, vi 6] [])
  refine g_iload X0 H d8_14 rfl ?_
  refine g_iloadN X0 H d8_16 rfl ?_
  refine g_icmpNo X0 H d8_17 (tlt (by decide : (6 : Int32) < (8 : Int32))).2.1 ?_
  refine g_aloadN X0 H d8_20 rfl rfl ?_
  refine g_iload X0 H d8_21 rfl ?_
  refine g_baload X0 H hZ e0 P0 (.int 49) d8_23 ⟨by decide, by decide⟩ rfl ?_
  refine g_cS X0 H hZ hml rfl hown e0 (rm7 l Z a0 hw [] (49 : Int32) h0 n0 Z0 (by unfold own_dg; decide)) (own_g hw 34 rfl) (own_g hw 35 rfl) (own_g hw 4 rfl) (own_g hw 36 rfl) (by decide) own_pd0 d8_24 rfl rfl rfl (W := 0) rfl (by decide) ?_
  intro _ T2 Lc2 X2 hQ2
  obtain ⟨rfl, Nq2, hh2⟩ := hQ2
  obtain ⟨lc2, Xh2, N2⟩ := own_hide X2 (Fr.app N0 Nq2)
  clear X2
  refine g_ifYes Xh2 H d8_27 34 ((if0 _ _).trans (feq (by decide : ¬ ((1 : Int32) = (0 : Int32)))).2) (by decide) ?_
  refine g_lloadN Xh2 H d8_34 rfl ?_
  refine g_ldcJ Xh2 H hZ hown (own_g hw 40 rfl) d8_35 ?_
  refine g_lmul Xh2 H d8_38 ?_
  refine g_aloadN Xh2 H d8_39 rfl rfl ?_
  refine g_iload Xh2 H d8_40 rfl ?_
  show Go p.tables e below P T2 (mkF m 42 #[vr ob, vi 6, vi 8, vj 0, v2, vi 6] [(.int 6), (.ref ob), (.long ((0 : Int64) * (10 : Int64)))])
  refine g_baload Xh2 H hZ hh2 P0 (.int 49) d8_42 ⟨by decide, by decide⟩ rfl ?_
  refine g_bipush Xh2 H d8_43 48 rfl ?_
  refine g_isub Xh2 H d8_45 ?_
  refine g_i2l Xh2 H d8_46 ?_
  refine g_ladd Xh2 H d8_47 ?_
  refine g_ldcJ Xh2 H hZ hown (own_g hw 41 rfl) d8_48 ?_
  refine g_cS Xh2 H hZ hml rfl hown hh2 (rm9 l Z a0 hw [] (((0 : Int64) * (10 : Int64)) + (((49 : Int32) - (48 : Int32)).toInt64)) (2147483648 : Int64) h0 n0 Z0 ) (own_g hw 42 rfl) (own_g hw 43 rfl) (own_g hw 44 rfl) (own_g hw 45 rfl) (by decide) own_pd1 d8_51 rfl rfl rfl (W := 0) rfl (by decide) ?_
  intro _ T4 Lc4 X4 hQ4
  obtain ⟨rfl, Nq4, hh4⟩ := hQ4
  obtain ⟨lc4, Xh4, N4⟩ := own_hide X4 (Fr.app N2 Nq4)
  clear X4
  refine g_lstoreN Xh4 H d8_54 #[vr ob, vi 6, vi 8, vj (own_mj (((0 : Int64) * (10 : Int64)) + (((49 : Int32) - (48 : Int32)).toInt64)) (2147483648 : Int64)), v2, vi 6] rfl ?_
  refine g_iinc Xh4 H d8_55 rfl #[vr ob, vi 6, vi 8, vj (own_mj (((0 : Int64) * (10 : Int64)) + (((49 : Int32) - (48 : Int32)).toInt64)) (2147483648 : Int64)), v2, vi 7] rfl ?_
  refine g_goto Xh4 H d8_58 14 (by decide) ?_
  refine g_iload Xh4 H d8_14 rfl ?_
  refine g_iloadN Xh4 H d8_16 rfl ?_
  refine g_icmpNo Xh4 H d8_17 (tlt (by decide : (7 : Int32) < (8 : Int32))).2.1 ?_
  show Go p.tables e below P T4 (mkF m 20 #[vr ob, vi 6, vi 8, vj (own_mj (((0 : Int64) * (10 : Int64)) + (((49 : Int32) - (48 : Int32)).toInt64)) (2147483648 : Int64)), v2, vi 7] [])
  refine g_aloadN Xh4 H d8_20 rfl rfl ?_
  refine g_iload Xh4 H d8_21 rfl ?_
  refine g_baload Xh4 H hZ hh4 P0 (.int 48) d8_23 ⟨by decide, by decide⟩ rfl ?_
  refine g_cS Xh4 H hZ hml rfl hown hh4 (rm7 l Z a0 hw [] (48 : Int32) h0 n0 Z0 (by unfold own_dg; decide)) (own_g hw 34 rfl) (own_g hw 35 rfl) (own_g hw 4 rfl) (own_g hw 36 rfl) (by decide) own_pd0 d8_24 rfl rfl rfl (W := 0) rfl (by decide) ?_
  intro _ T6 Lc6 X6 hQ6
  obtain ⟨rfl, Nq6, hh6⟩ := hQ6
  obtain ⟨lc6, Xh6, N6⟩ := own_hide X6 (Fr.app N4 Nq6)
  clear X6
  refine g_ifYes Xh6 H d8_27 34 ((if0 _ _).trans (feq (by decide : ¬ ((1 : Int32) = (0 : Int32)))).2) (by decide) ?_
  refine g_lloadN Xh6 H d8_34 rfl ?_
  refine g_ldcJ Xh6 H hZ hown (own_g hw 40 rfl) d8_35 ?_
  refine g_lmul Xh6 H d8_38 ?_
  refine g_aloadN Xh6 H d8_39 rfl rfl ?_
  refine g_iload Xh6 H d8_40 rfl ?_
  refine g_baload Xh6 H hZ hh6 P0 (.int 48) d8_42 ⟨by decide, by decide⟩ rfl ?_
  refine g_bipush Xh6 H d8_43 48 rfl ?_
  refine g_isub Xh6 H d8_45 ?_
  show Go p.tables e below P T6 (mkF m 46 #[vr ob, vi 6, vi 8, vj (own_mj (((0 : Int64) * (10 : Int64)) + (((49 : Int32) - (48 : Int32)).toInt64)) (2147483648 : Int64)), v2, vi 7] [(.int ((48 : Int32) - (48 : Int32))), (.long ((own_mj (((0 : Int64) * (10 : Int64)) + (((49 : Int32) - (48 : Int32)).toInt64)) (2147483648 : Int64)) * (10 : Int64)))])
  refine g_i2l Xh6 H d8_46 ?_
  refine g_ladd Xh6 H d8_47 ?_
  refine g_ldcJ Xh6 H hZ hown (own_g hw 41 rfl) d8_48 ?_
  refine g_cS Xh6 H hZ hml rfl hown hh6 (rm9 l Z a0 hw [] (((own_mj (((0 : Int64) * (10 : Int64)) + (((49 : Int32) - (48 : Int32)).toInt64)) (2147483648 : Int64)) * (10 : Int64)) + (((48 : Int32) - (48 : Int32)).toInt64)) (2147483648 : Int64) h0 n0 Z0 ) (own_g hw 42 rfl) (own_g hw 43 rfl) (own_g hw 44 rfl) (own_g hw 45 rfl) (by decide) own_pd1 d8_51 rfl rfl rfl (W := 0) rfl (by decide) ?_
  intro _ T8 Lc8 X8 hQ8
  obtain ⟨rfl, Nq8, hh8⟩ := hQ8
  obtain ⟨lc8, Xh8, N8⟩ := own_hide X8 (Fr.app N6 Nq8)
  clear X8
  refine g_lstoreN Xh8 H d8_54 #[vr ob, vi 6, vi 8, vj (own_mj (((own_mj (((0 : Int64) * (10 : Int64)) + (((49 : Int32) - (48 : Int32)).toInt64)) (2147483648 : Int64)) * (10 : Int64)) + (((48 : Int32) - (48 : Int32)).toInt64)) (2147483648 : Int64)), v2, vi 7] rfl ?_
  refine g_iinc Xh8 H d8_55 rfl #[vr ob, vi 6, vi 8, vj (own_mj (((own_mj (((0 : Int64) * (10 : Int64)) + (((49 : Int32) - (48 : Int32)).toInt64)) (2147483648 : Int64)) * (10 : Int64)) + (((48 : Int32) - (48 : Int32)).toInt64)) (2147483648 : Int64)), v2, vi 8] rfl ?_
  refine g_goto Xh8 H d8_58 14 (by decide) ?_
  refine g_iload Xh8 H d8_14 rfl ?_
  refine g_iloadN Xh8 H d8_16 rfl ?_
  refine g_icmpYes Xh8 H d8_17 61 (flt (by decide : ¬ ((8 : Int32) < (8 : Int32)))).2.1 (by decide) ?_
  refine g_lloadN Xh8 H d8_61 rfl ?_
  refine g_retJ Xh8 H Bd.notSynchronized hP (by decide) Bd.returns d8_62 (r := (10 : Int64)) (show (own_mj (((own_mj (((0 : Int64) * (10 : Int64)) + (((49 : Int32) - (48 : Int32)).toInt64)) (2147483648 : Int64)) * (10 : Int64)) + (((48 : Int32) - (48 : Int32)).toInt64)) (2147483648 : Int64)) = (10 : Int64) from by decide) ?_
  rw [hh8]
  exact ⟨rfl, N8, rfl⟩
theorem ef_8v22 (m : MethodId) (x0 : Addr) : entryFrame m #[(.ref x0), (.int 22), (.int 25)] 6 = mkF m 0 #[.val (.ref x0), .val (.int 22), .val (.int 25), .unset, .unset, .unset] [] := by first | (simp [entryFrame, mkF, argsToLocals, Value.category]; done) | rfl
def Q8v22 (Z : State) (ob : Addr) (kk : ClassId) (qa : Int32) (qb : Int32) (qv : Int32) (ya : Int32) (yb : Int32) (yc : Int32) (h0 : Heap) (n0 : Nat) (v : Option Value) (h : Heap) (L : List Loc) : Prop := v = some (.long (own_d (own_d (own_d (0 : Int64) ya) yb) yc)) ∧ Fr n0 L ∧ h = h0
theorem rm8v22 (l : Launch) (Z : State) (a0 : Array Value) (hw : HW a0 Z) (ws : List Jvm.Cond) (ob : Addr) (kk : ClassId) (qa : Int32) (qb : Int32) (qv : Int32) (ya : Int32) (yb : Int32) (yc : Int32) (h0 : Heap) (n0 : Nat) (Z0 : n0 ≤ h0.size) (P0 : Arv Z h0 ob kk .byte (26 : Int32) (bll qa qb qv ya yb yc) (.int 0)) (d_ya : own_dg ya) (d_yb : own_dg yb) (d_yc : own_dg yc) :
    MFr l Z (⟨TVn, "decimal", "([BII)J"⟩ : MethodName) prog_39_method_9_code 6 (some .long) ws (Rm 1 0 0 15) #[(.ref ob), (.int 22), (.int 25)] h0 (Q8v22 Z ob kk qa qb qv ya yb yc h0 n0) := by
  refine own_body (own := TVn) (plainFor_of_name own_pn0) rfl (fun m => ef_8v22 m ob) ?_
  intro p e s m below meth c s₁ Bd H hml hZ hown X0 e0 P hP
  have N0 := Fr.nil n0
  refine g_iloadN X0 H d8_0 rfl ?_
  show Go p.tables e below P s₁ (mkF m 1 #[vr ob, vi 22, vi 25, vu, vu, vu] [(.int 22)])
  refine g_iloadN X0 H d8_1 rfl ?_
  refine g_icmpYes X0 H d8_2 9 (feq (by decide : ¬ ((22 : Int32) = (25 : Int32)))).2 (by decide) ?_
  refine g_lconst X0 H d8_9 0 rfl ?_
  refine g_lstoreN X0 H d8_10 #[vr ob, vi 22, vi 25, vj 0, v2, vu] rfl ?_
  refine g_iloadN X0 H d8_11 rfl ?_
  refine g_istore X0 H d8_12 #[vr ob, vi 22, vi 25, vj 0, v2, vi 22] rfl ?_
  refine g_iload X0 H d8_14 rfl ?_
  refine g_iloadN X0 H d8_16 rfl ?_
  refine g_icmpNo X0 H d8_17 (tlt (by decide : (22 : Int32) < (25 : Int32))).2.1 ?_
  refine g_aloadN X0 H d8_20 rfl rfl ?_
  refine g_iload X0 H d8_21 rfl ?_
  refine g_baload X0 H hZ e0 P0 (.int ya) d8_23 ⟨by decide, by decide⟩ rfl ?_
  refine g_cS X0 H hZ hml rfl hown e0 (rm7 l Z a0 hw [] ya h0 n0 Z0 d_ya) (own_g hw 34 rfl) (own_g hw 35 rfl) (own_g hw 4 rfl) (own_g hw 36 rfl) (by decide) own_pd0 d8_24 rfl rfl rfl (W := 0) rfl (by decide) ?_
  intro _ T2 Lc2 X2 hQ2
  obtain ⟨rfl, Nq2, hh2⟩ := hQ2
  obtain ⟨lc2, Xh2, N2⟩ := own_hide X2 (Fr.app N0 Nq2)
  clear X2
  show Go p.tables e below P T2 (mkF m 27 #[vr ob, vi 22, vi 25, vj 0, v2, vi 22] [(.int 1)])
  refine g_ifYes Xh2 H d8_27 34 ((if0 _ _).trans (feq (by decide : ¬ ((1 : Int32) = (0 : Int32)))).2) (by decide) ?_
  refine g_lloadN Xh2 H d8_34 rfl ?_
  refine g_ldcJ Xh2 H hZ hown (own_g hw 40 rfl) d8_35 ?_
  refine g_lmul Xh2 H d8_38 ?_
  refine g_aloadN Xh2 H d8_39 rfl rfl ?_
  refine g_iload Xh2 H d8_40 rfl ?_
  refine g_baload Xh2 H hZ hh2 P0 (.int ya) d8_42 ⟨by decide, by decide⟩ rfl ?_
  refine g_bipush Xh2 H d8_43 48 rfl ?_
  refine g_isub Xh2 H d8_45 ?_
  refine g_i2l Xh2 H d8_46 ?_
  refine g_ladd Xh2 H d8_47 ?_
  refine g_ldcJ Xh2 H hZ hown (own_g hw 41 rfl) d8_48 ?_
  refine g_cS Xh2 H hZ hml rfl hown hh2 (rm9 l Z a0 hw [] (((0 : Int64) * (10 : Int64)) + ((ya - (48 : Int32)).toInt64)) (2147483648 : Int64) h0 n0 Z0 ) (own_g hw 42 rfl) (own_g hw 43 rfl) (own_g hw 44 rfl) (own_g hw 45 rfl) (by decide) own_pd1 d8_51 rfl rfl rfl (W := 0) rfl (by decide) ?_
  intro _ T4 Lc4 X4 hQ4
  obtain ⟨rfl, Nq4, hh4⟩ := hQ4
  obtain ⟨lc4, Xh4, N4⟩ := own_hide X4 (Fr.app N2 Nq4)
  clear X4
  show Go p.tables e below P T4 (mkF m 54 #[vr ob, vi 22, vi 25, vj 0, v2, vi 22] [(.long (own_mj (((0 : Int64) * (10 : Int64)) + ((ya - (48 : Int32)).toInt64)) (2147483648 : Int64)))])
  refine g_lstoreN Xh4 H d8_54 #[vr ob, vi 22, vi 25, vj (own_mj (((0 : Int64) * (10 : Int64)) + ((ya - (48 : Int32)).toInt64)) (2147483648 : Int64)), v2, vi 22] rfl ?_
  refine g_iinc Xh4 H d8_55 rfl #[vr ob, vi 22, vi 25, vj (own_mj (((0 : Int64) * (10 : Int64)) + ((ya - (48 : Int32)).toInt64)) (2147483648 : Int64)), v2, vi 23] rfl ?_
  refine g_goto Xh4 H d8_58 14 (by decide) ?_
  refine g_iload Xh4 H d8_14 rfl ?_
  refine g_iloadN Xh4 H d8_16 rfl ?_
  refine g_icmpNo Xh4 H d8_17 (tlt (by decide : (23 : Int32) < (25 : Int32))).2.1 ?_
  refine g_aloadN Xh4 H d8_20 rfl rfl ?_
  refine g_iload Xh4 H d8_21 rfl ?_
  refine g_baload Xh4 H hZ hh4 P0 (.int yb) d8_23 ⟨by decide, by decide⟩ rfl ?_
  refine g_cS Xh4 H hZ hml rfl hown hh4 (rm7 l Z a0 hw [] yb h0 n0 Z0 d_yb) (own_g hw 34 rfl) (own_g hw 35 rfl) (own_g hw 4 rfl) (own_g hw 36 rfl) (by decide) own_pd0 d8_24 rfl rfl rfl (W := 0) rfl (by decide) ?_
  intro _ T6 Lc6 X6 hQ6
  obtain ⟨rfl, Nq6, hh6⟩ := hQ6
  obtain ⟨lc6, Xh6, N6⟩ := own_hide X6 (Fr.app N4 Nq6)
  clear X6
  refine g_ifYes Xh6 H d8_27 34 ((if0 _ _).trans (feq (by decide : ¬ ((1 : Int32) = (0 : Int32)))).2) (by decide) ?_
  refine g_lloadN Xh6 H d8_34 rfl ?_
  refine g_ldcJ Xh6 H hZ hown (own_g hw 40 rfl) d8_35 ?_
  show Go p.tables e below P T6 (mkF m 38 #[vr ob, vi 22, vi 25, vj (own_mj (((0 : Int64) * (10 : Int64)) + ((ya - (48 : Int32)).toInt64)) (2147483648 : Int64)), v2, vi 23] [(.long 10), (.long (own_mj (((0 : Int64) * (10 : Int64)) + ((ya - (48 : Int32)).toInt64)) (2147483648 : Int64)))])
  refine g_lmul Xh6 H d8_38 ?_
  refine g_aloadN Xh6 H d8_39 rfl rfl ?_
  refine g_iload Xh6 H d8_40 rfl ?_
  refine g_baload Xh6 H hZ hh6 P0 (.int yb) d8_42 ⟨by decide, by decide⟩ rfl ?_
  refine g_bipush Xh6 H d8_43 48 rfl ?_
  refine g_isub Xh6 H d8_45 ?_
  refine g_i2l Xh6 H d8_46 ?_
  refine g_ladd Xh6 H d8_47 ?_
  refine g_ldcJ Xh6 H hZ hown (own_g hw 41 rfl) d8_48 ?_
  refine g_cS Xh6 H hZ hml rfl hown hh6 (rm9 l Z a0 hw [] (((own_mj (((0 : Int64) * (10 : Int64)) + ((ya - (48 : Int32)).toInt64)) (2147483648 : Int64)) * (10 : Int64)) + ((yb - (48 : Int32)).toInt64)) (2147483648 : Int64) h0 n0 Z0 ) (own_g hw 42 rfl) (own_g hw 43 rfl) (own_g hw 44 rfl) (own_g hw 45 rfl) (by decide) own_pd1 d8_51 rfl rfl rfl (W := 0) rfl (by decide) ?_
  intro _ T8 Lc8 X8 hQ8
  obtain ⟨rfl, Nq8, hh8⟩ := hQ8
  obtain ⟨lc8, Xh8, N8⟩ := own_hide X8 (Fr.app N6 Nq8)
  clear X8
  refine g_lstoreN Xh8 H d8_54 #[vr ob, vi 22, vi 25, vj (own_mj (((own_mj (((0 : Int64) * (10 : Int64)) + ((ya - (48 : Int32)).toInt64)) (2147483648 : Int64)) * (10 : Int64)) + ((yb - (48 : Int32)).toInt64)) (2147483648 : Int64)), v2, vi 23] rfl ?_
  refine g_iinc Xh8 H d8_55 rfl #[vr ob, vi 22, vi 25, vj (own_mj (((own_mj (((0 : Int64) * (10 : Int64)) + ((ya - (48 : Int32)).toInt64)) (2147483648 : Int64)) * (10 : Int64)) + ((yb - (48 : Int32)).toInt64)) (2147483648 : Int64)), v2, vi 24] rfl ?_
  refine g_goto Xh8 H d8_58 14 (by decide) ?_
  show Go p.tables e below P T8 (mkF m 14 #[vr ob, vi 22, vi 25, vj (own_mj (((own_mj (((0 : Int64) * (10 : Int64)) + ((ya - (48 : Int32)).toInt64)) (2147483648 : Int64)) * (10 : Int64)) + ((yb - (48 : Int32)).toInt64)) (2147483648 : Int64)), v2, vi 24] [])
  refine g_iload Xh8 H d8_14 rfl ?_
  refine g_iloadN Xh8 H d8_16 rfl ?_
  refine g_icmpNo Xh8 H d8_17 (tlt (by decide : (24 : Int32) < (25 : Int32))).2.1 ?_
  refine g_aloadN Xh8 H d8_20 rfl rfl ?_
  refine g_iload Xh8 H d8_21 rfl ?_
  refine g_baload Xh8 H hZ hh8 P0 (.int yc) d8_23 ⟨by decide, by decide⟩ rfl ?_
  refine g_cS Xh8 H hZ hml rfl hown hh8 (rm7 l Z a0 hw [] yc h0 n0 Z0 d_yc) (own_g hw 34 rfl) (own_g hw 35 rfl) (own_g hw 4 rfl) (own_g hw 36 rfl) (by decide) own_pd0 d8_24 rfl rfl rfl (W := 0) rfl (by decide) ?_
  intro _ T10 Lc10 X10 hQ10
  obtain ⟨rfl, Nq10, hh10⟩ := hQ10
  obtain ⟨lc10, Xh10, N10⟩ := own_hide X10 (Fr.app N8 Nq10)
  clear X10
  refine g_ifYes Xh10 H d8_27 34 ((if0 _ _).trans (feq (by decide : ¬ ((1 : Int32) = (0 : Int32)))).2) (by decide) ?_
  refine g_lloadN Xh10 H d8_34 rfl ?_
  refine g_ldcJ Xh10 H hZ hown (own_g hw 40 rfl) d8_35 ?_
  refine g_lmul Xh10 H d8_38 ?_
  refine g_aloadN Xh10 H d8_39 rfl rfl ?_
  refine g_iload Xh10 H d8_40 rfl ?_
  show Go p.tables e below P T10 (mkF m 42 #[vr ob, vi 22, vi 25, vj (own_mj (((own_mj (((0 : Int64) * (10 : Int64)) + ((ya - (48 : Int32)).toInt64)) (2147483648 : Int64)) * (10 : Int64)) + ((yb - (48 : Int32)).toInt64)) (2147483648 : Int64)), v2, vi 24] [(.int 24), (.ref ob), (.long ((own_mj (((own_mj (((0 : Int64) * (10 : Int64)) + ((ya - (48 : Int32)).toInt64)) (2147483648 : Int64)) * (10 : Int64)) + ((yb - (48 : Int32)).toInt64)) (2147483648 : Int64)) * (10 : Int64)))])
  refine g_baload Xh10 H hZ hh10 P0 (.int yc) d8_42 ⟨by decide, by decide⟩ rfl ?_
  refine g_bipush Xh10 H d8_43 48 rfl ?_
  refine g_isub Xh10 H d8_45 ?_
  refine g_i2l Xh10 H d8_46 ?_
  refine g_ladd Xh10 H d8_47 ?_
  refine g_ldcJ Xh10 H hZ hown (own_g hw 41 rfl) d8_48 ?_
  refine g_cS Xh10 H hZ hml rfl hown hh10 (rm9 l Z a0 hw [] (((own_mj (((own_mj (((0 : Int64) * (10 : Int64)) + ((ya - (48 : Int32)).toInt64)) (2147483648 : Int64)) * (10 : Int64)) + ((yb - (48 : Int32)).toInt64)) (2147483648 : Int64)) * (10 : Int64)) + ((yc - (48 : Int32)).toInt64)) (2147483648 : Int64) h0 n0 Z0 ) (own_g hw 42 rfl) (own_g hw 43 rfl) (own_g hw 44 rfl) (own_g hw 45 rfl) (by decide) own_pd1 d8_51 rfl rfl rfl (W := 0) rfl (by decide) ?_
  intro _ T12 Lc12 X12 hQ12
  obtain ⟨rfl, Nq12, hh12⟩ := hQ12
  obtain ⟨lc12, Xh12, N12⟩ := own_hide X12 (Fr.app N10 Nq12)
  clear X12
  refine g_lstoreN Xh12 H d8_54 #[vr ob, vi 22, vi 25, vj (own_mj (((own_mj (((own_mj (((0 : Int64) * (10 : Int64)) + ((ya - (48 : Int32)).toInt64)) (2147483648 : Int64)) * (10 : Int64)) + ((yb - (48 : Int32)).toInt64)) (2147483648 : Int64)) * (10 : Int64)) + ((yc - (48 : Int32)).toInt64)) (2147483648 : Int64)), v2, vi 24] rfl ?_
  refine g_iinc Xh12 H d8_55 rfl #[vr ob, vi 22, vi 25, vj (own_mj (((own_mj (((own_mj (((0 : Int64) * (10 : Int64)) + ((ya - (48 : Int32)).toInt64)) (2147483648 : Int64)) * (10 : Int64)) + ((yb - (48 : Int32)).toInt64)) (2147483648 : Int64)) * (10 : Int64)) + ((yc - (48 : Int32)).toInt64)) (2147483648 : Int64)), v2, vi 25] rfl ?_
  refine g_goto Xh12 H d8_58 14 (by decide) ?_
  refine g_iload Xh12 H d8_14 rfl ?_
  refine g_iloadN Xh12 H d8_16 rfl ?_
  refine g_icmpYes Xh12 H d8_17 61 (flt (by decide : ¬ ((25 : Int32) < (25 : Int32)))).2.1 (by decide) ?_
  show Go p.tables e below P T12 (mkF m 61 #[vr ob, vi 22, vi 25, vj (own_mj (((own_mj (((own_mj (((0 : Int64) * (10 : Int64)) + ((ya - (48 : Int32)).toInt64)) (2147483648 : Int64)) * (10 : Int64)) + ((yb - (48 : Int32)).toInt64)) (2147483648 : Int64)) * (10 : Int64)) + ((yc - (48 : Int32)).toInt64)) (2147483648 : Int64)), v2, vi 25] [])
  refine g_lloadN Xh12 H d8_61 rfl ?_
  refine g_retJ Xh12 H Bd.notSynchronized hP (by decide) Bd.returns d8_62 (r := (own_d (own_d (own_d (0 : Int64) ya) yb) yc)) (show (own_mj (((own_mj (((own_mj (((0 : Int64) * (10 : Int64)) + ((ya - (48 : Int32)).toInt64)) (2147483648 : Int64)) * (10 : Int64)) + ((yb - (48 : Int32)).toInt64)) (2147483648 : Int64)) * (10 : Int64)) + ((yc - (48 : Int32)).toInt64)) (2147483648 : Int64)) = (own_d (own_d (own_d (0 : Int64) ya) yb) yc) from rfl) ?_
  rw [hh12]
  exact ⟨rfl, N12, rfl⟩
theorem own_sn0 {Z : State} {a0 : Array Value} (hw : ∀ d ∈ tables_1, d.before a0 Z = true) : Jvm.RoadKit.slotOf Z TVn "tags" "[I" ≠ Jvm.RoadKit.slotOf Z TVn "bytes" DBn := slot_ne (Or.inr (own_g hw 57 rfl)) (Or.inr (own_g hw 55 rfl)) (by decide) (t := (.array .int)) (t' := (.array .byte)) (by decide) (by decide)
theorem own_sn1 {Z : State} {a0 : Array Value} (hw : ∀ d ∈ tables_1, d.before a0 Z = true) : Jvm.RoadKit.slotOf Z TVn VSn "[I" ≠ Jvm.RoadKit.slotOf Z TVn "bytes" DBn := slot_ne (Or.inr (own_g hw 59 rfl)) (Or.inr (own_g hw 55 rfl)) (by decide) (t := (.array .int)) (t' := (.array .byte)) (by decide) (by decide)
theorem own_sn2 {Z : State} {a0 : Array Value} (hw : ∀ d ∈ tables_1, d.before a0 Z = true) : Jvm.RoadKit.slotOf Z TVn VSn "[I" ≠ Jvm.RoadKit.slotOf Z TVn "tags" "[I" := slot_ne (Or.inr (own_g hw 59 rfl)) (Or.inr (own_g hw 57 rfl)) (by decide) (t := (.array .int)) (t' := (.array .int)) (by decide) (by decide)
theorem own_sn3 {Z : State} {a0 : Array Value} (hw : ∀ d ∈ tables_1, d.before a0 Z = true) : Jvm.RoadKit.slotOf Z TVn VEn "[I" ≠ Jvm.RoadKit.slotOf Z TVn "bytes" DBn := slot_ne (Or.inr (own_g hw 61 rfl)) (Or.inr (own_g hw 55 rfl)) (by decide) (t := (.array .int)) (t' := (.array .byte)) (by decide) (by decide)
theorem own_sn4 {Z : State} {a0 : Array Value} (hw : ∀ d ∈ tables_1, d.before a0 Z = true) : Jvm.RoadKit.slotOf Z TVn VEn "[I" ≠ Jvm.RoadKit.slotOf Z TVn "tags" "[I" := slot_ne (Or.inr (own_g hw 61 rfl)) (Or.inr (own_g hw 57 rfl)) (by decide) (t := (.array .int)) (t' := (.array .int)) (by decide) (by decide)
theorem own_sn5 {Z : State} {a0 : Array Value} (hw : ∀ d ∈ tables_1, d.before a0 Z = true) : Jvm.RoadKit.slotOf Z TVn VEn "[I" ≠ Jvm.RoadKit.slotOf Z TVn VSn "[I" := slot_ne (Or.inr (own_g hw 61 rfl)) (Or.inr (own_g hw 59 rfl)) (by decide) (t := (.array .int)) (t' := (.array .int)) (by decide) (by decide)
theorem own_sn6 {Z : State} {a0 : Array Value} (hw : ∀ d ∈ tables_1, d.before a0 Z = true) : Jvm.RoadKit.slotOf Z TVn "bytes" DBn ≠ Jvm.RoadKit.slotOf Z TVn "tags" "[I" := slot_ne (Or.inr (own_g hw 55 rfl)) (Or.inr (own_g hw 57 rfl)) (by decide) (t := (.array .byte)) (t' := (.array .int)) (by decide) (by decide)
theorem own_sn7 {Z : State} {a0 : Array Value} (hw : ∀ d ∈ tables_1, d.before a0 Z = true) : Jvm.RoadKit.slotOf Z TVn "bytes" DBn ≠ Jvm.RoadKit.slotOf Z TVn VSn "[I" := slot_ne (Or.inr (own_g hw 55 rfl)) (Or.inr (own_g hw 59 rfl)) (by decide) (t := (.array .byte)) (t' := (.array .int)) (by decide) (by decide)
theorem own_sn8 {Z : State} {a0 : Array Value} (hw : ∀ d ∈ tables_1, d.before a0 Z = true) : Jvm.RoadKit.slotOf Z TVn "bytes" DBn ≠ Jvm.RoadKit.slotOf Z TVn VEn "[I" := slot_ne (Or.inr (own_g hw 55 rfl)) (Or.inr (own_g hw 61 rfl)) (by decide) (t := (.array .byte)) (t' := (.array .int)) (by decide) (by decide)
theorem own_sn9 {Z : State} {a0 : Array Value} (hw : ∀ d ∈ tables_1, d.before a0 Z = true) : Jvm.RoadKit.slotOf Z TVn "tags" "[I" ≠ Jvm.RoadKit.slotOf Z TVn VSn "[I" := slot_ne (Or.inr (own_g hw 57 rfl)) (Or.inr (own_g hw 59 rfl)) (by decide) (t := (.array .int)) (t' := (.array .int)) (by decide) (by decide)
theorem own_sn10 {Z : State} {a0 : Array Value} (hw : ∀ d ∈ tables_1, d.before a0 Z = true) : Jvm.RoadKit.slotOf Z TVn "tags" "[I" ≠ Jvm.RoadKit.slotOf Z TVn VEn "[I" := slot_ne (Or.inr (own_g hw 57 rfl)) (Or.inr (own_g hw 61 rfl)) (by decide) (t := (.array .int)) (t' := (.array .int)) (by decide) (by decide)
theorem own_sn11 {Z : State} {a0 : Array Value} (hw : ∀ d ∈ tables_1, d.before a0 Z = true) : Jvm.RoadKit.slotOf Z TVn VSn "[I" ≠ Jvm.RoadKit.slotOf Z TVn VEn "[I" := slot_ne (Or.inr (own_g hw 59 rfl)) (Or.inr (own_g hw 61 rfl)) (by decide) (t := (.array .int)) (t' := (.array .int)) (by decide) (by decide)
theorem d10_0 : D3 0 (.aload_n 0) 1 := by decide +kernel
theorem d10_1 : D3 1 (.invokespecial 3) 3 := by decide +kernel
theorem d10_4 : D3 4 (.aload_n 0) 1 := by decide +kernel
theorem d10_5 : D3 5 (.aload_n 1) 1 := by decide +kernel
theorem d10_6 : D3 6 (.putfield 9) 3 := by decide +kernel
theorem d10_9 : D3 9 (.aload_n 0) 1 := by decide +kernel
theorem d10_10 : D3 10 (.aload_n 2) 1 := by decide +kernel
theorem d10_11 : D3 11 (.putfield 15) 3 := by decide +kernel
theorem d10_14 : D3 14 (.aload_n 0) 1 := by decide +kernel
theorem d10_15 : D3 15 (.aload_n 3) 1 := by decide +kernel
theorem d10_16 : D3 16 (.putfield 19) 3 := by decide +kernel
theorem d10_19 : D3 19 (.aload_n 0) 1 := by decide +kernel
theorem d10_20 : D3 20 (.aload 4) 2 := by decide +kernel
theorem d10_22 : D3 22 (.putfield 22) 3 := by decide +kernel
theorem d10_25 : D3 25 (.return_) 1 := by decide +kernel
theorem ef_10 (m : MethodId) (x0 : Addr) (x1 : Addr) (x2 : Addr) (x3 : Addr) (x4 : Addr) : entryFrame m #[(.ref x0), (.ref x1), (.ref x2), (.ref x3), (.ref x4)] 5 = mkF m 0 #[.val (.ref x0), .val (.ref x1), .val (.ref x2), .val (.ref x3), .val (.ref x4)] [] := by first | (simp [entryFrame, mkF, argsToLocals, Value.category]; done) | rfl
def Q10 (Z : State) (oa : Addr) (ob : Addr) (ot : Addr) (os : Addr) (oe : Addr) (h0 : Heap) (n0 : Nat) (v : Option Value) (h : Heap) (L : List Loc) : Prop := v = none ∧ Fr n0 L ∧ Keep h0 h [oa] ∧ Exa Z h oa TVn ∧ Fld Z h oa TVn "bytes" DBn (.ref ob) ∧ Fld Z h oa TVn "tags" "[I" (.ref ot) ∧ Fld Z h oa TVn VSn "[I" (.ref os) ∧ Fld Z h oa TVn VEn "[I" (.ref oe)
theorem rm10 (l : Launch) (Z : State) (a0 : Array Value) (hw : HW a0 Z) (ws : List Jvm.Cond) (oa : Addr) (ob : Addr) (ot : Addr) (os : Addr) (oe : Addr) (h0 : Heap) (n0 : Nat) (Z0 : n0 ≤ h0.size) (P0 : Exa Z h0 oa TVn) (P1 : Fld Z h0 oa TVn "bytes" DBn .null) (P2 : Fld Z h0 oa TVn "tags" "[I" .null) (P3 : Fld Z h0 oa TVn VSn "[I" .null) (P4 : Fld Z h0 oa TVn VEn "[I" .null) (ga : n0 ≤ oa) :
    MFr l Z (⟨TVn, "<init>", "([B[I[I[I)V"⟩ : MethodName) prog_39_method_1_code 5 none ws (Rm 1 0 0 12) #[(.ref oa), (.ref ob), (.ref ot), (.ref os), (.ref oe)] h0 (Q10 Z oa ob ot os oe h0 n0) := by
  refine own_body (own := TVn) (plainFor_of_name own_pn0) rfl (fun m => ef_10 m oa ob ot os oe) ?_
  intro p e s m below meth c s₁ Bd H hml hZ hown X0 e0 P hP
  have hx := H.1
  have hby := H.2
  have hnm := (name_of_methodNamed Bd.named Bd.method).1
  have N0 := Fr.nil n0
  have K0 : Keep h0 h0 [oa] := Keep.refl _ _
  refine g_aloadN X0 H d10_0 rfl rfl ?_
  obtain ⟨T1, X1, e1, st1⟩ := initO X0 hx hZ hown (own_g hw 51 rfl) (own_g hw 52 rfl) (own_g hw 53 rfl) e0 (g := (mkF m 1 #[vr oa, vr ob, vr ot, vr os, vr oe] [(.ref oa)])) rfl (by rw [hml]; rfl) rfl (hb hby d10_1) (by decide) (W := 0) (by show 2 * 0 + _ ≤ _; exact Nat.le_of_eq rfl) (by decide)
  refine gv st1 ?_
  show Go p.tables e below P T1 (mkF m 4 #[vr oa, vr ob, vr ot, vr os, vr oe] [])
  refine g_aloadN X1 H d10_4 rfl rfl ?_
  refine g_aloadN X1 H d10_5 rfl rfl ?_
  obtain ⟨T2, h2, X2, e2, W2, st2⟩ := putF X1 hx hZ hown (host := "") (Or.inl (own_g hw 54 rfl)) Via.refl e1 P1 P0 (Or.inr ⟨(own_g hw 55 rfl), rfl, hnm⟩) (own_g hw 47 rfl) (ty := (.array .byte)) (by decide) rfl rfl (g := (mkF m 6 #[vr oa, vr ob, vr ot, vr os, vr oe] [(.ref ob), (.ref oa)])) rfl rfl (hb hby d10_6)
  refine gv st2 ?_
  have Z3 := Nat.le_trans Z0 (Nat.le_of_eq W2.size.symm)
  have K4 := K0.wr W2 (Or.inl (List.mem_of_getElem? (i := 0) rfl))
  obtain ⟨lc2, Xh2, N5⟩ := own_hide X2 (Fr.snoc X2 N0 ga)
  clear X2
  have Fw2 := P1.same W2
  show Go p.tables e below P T2 (mkF m 9 #[vr oa, vr ob, vr ot, vr os, vr oe] [])
  refine g_aloadN Xh2 H d10_9 rfl rfl ?_
  refine g_aloadN Xh2 H d10_10 rfl rfl ?_
  have F6 := (P0.wr W2)
  have F7 := (P2.other W2 (Or.inr (own_sn0 hw)))
  obtain ⟨T8, h8, X8, e8, W8, st8⟩ := putF Xh2 hx hZ hown (host := "") (Or.inl (own_g hw 56 rfl)) Via.refl e2 F7 F6 (Or.inr ⟨(own_g hw 57 rfl), rfl, hnm⟩) (own_g hw 47 rfl) (ty := (.array .int)) (by decide) rfl rfl (g := (mkF m 11 #[vr oa, vr ob, vr ot, vr os, vr oe] [(.ref ot), (.ref oa)])) rfl rfl (hb hby d10_11)
  refine gv st8 ?_
  have Z9 := Nat.le_trans Z3 (Nat.le_of_eq W8.size.symm)
  have K10 := K4.wr W8 (Or.inl (List.mem_of_getElem? (i := 0) rfl))
  obtain ⟨lc8, Xh8, N11⟩ := own_hide X8 (Fr.snoc X8 N5 ga)
  clear X8
  have Fw8 := F7.same W8
  show Go p.tables e below P T8 (mkF m 14 #[vr oa, vr ob, vr ot, vr os, vr oe] [])
  refine g_aloadN Xh8 H d10_14 rfl rfl ?_
  refine g_aloadN Xh8 H d10_15 rfl rfl ?_
  have F12 := (F6.wr W8)
  have F13 := ((P3.other W2 (Or.inr (own_sn1 hw))).other W8 (Or.inr (own_sn2 hw)))
  obtain ⟨T14, h14, X14, e14, W14, st14⟩ := putF Xh8 hx hZ hown (host := "") (Or.inl (own_g hw 58 rfl)) Via.refl e8 F13 F12 (Or.inr ⟨(own_g hw 59 rfl), rfl, hnm⟩) (own_g hw 47 rfl) (ty := (.array .int)) (by decide) rfl rfl (g := (mkF m 16 #[vr oa, vr ob, vr ot, vr os, vr oe] [(.ref os), (.ref oa)])) rfl rfl (hb hby d10_16)
  refine gv st14 ?_
  have Z15 := Nat.le_trans Z9 (Nat.le_of_eq W14.size.symm)
  have K16 := K10.wr W14 (Or.inl (List.mem_of_getElem? (i := 0) rfl))
  obtain ⟨lc14, Xh14, N17⟩ := own_hide X14 (Fr.snoc X14 N11 ga)
  clear X14
  have Fw14 := F13.same W14
  show Go p.tables e below P T14 (mkF m 19 #[vr oa, vr ob, vr ot, vr os, vr oe] [])
  refine g_aloadN Xh14 H d10_19 rfl rfl ?_
  refine g_aload Xh14 H d10_20 rfl rfl ?_
  have F18 := (F12.wr W14)
  have F19 := (((P4.other W2 (Or.inr (own_sn3 hw))).other W8 (Or.inr (own_sn4 hw))).other W14 (Or.inr (own_sn5 hw)))
  obtain ⟨T20, h20, X20, e20, W20, st20⟩ := putF Xh14 hx hZ hown (host := "") (Or.inl (own_g hw 60 rfl)) Via.refl e14 F19 F18 (Or.inr ⟨(own_g hw 61 rfl), rfl, hnm⟩) (own_g hw 47 rfl) (ty := (.array .int)) (by decide) rfl rfl (g := (mkF m 22 #[vr oa, vr ob, vr ot, vr os, vr oe] [(.ref oe), (.ref oa)])) rfl rfl (hb hby d10_22)
  refine gv st20 ?_
  have Z21 := Nat.le_trans Z15 (Nat.le_of_eq W20.size.symm)
  have K22 := K16.wr W20 (Or.inl (List.mem_of_getElem? (i := 0) rfl))
  obtain ⟨lc20, Xh20, N23⟩ := own_hide X20 (Fr.snoc X20 N17 ga)
  clear X20
  have Fw20 := F19.same W20
  show Go p.tables e below P T20 (mkF m 25 #[vr oa, vr ob, vr ot, vr os, vr oe] [])
  have F25 := (F18.wr W20)
  have F26 := (((Fw2.other W8 (Or.inr (own_sn6 hw))).other W14 (Or.inr (own_sn7 hw))).other W20 (Or.inr (own_sn8 hw)))
  have F27 := ((Fw8.other W14 (Or.inr (own_sn9 hw))).other W20 (Or.inr (own_sn10 hw)))
  have F28 := (Fw14.other W20 (Or.inr (own_sn11 hw)))
  refine g_retV Xh20 H Bd.notSynchronized hP (by decide) Bd.returns d10_25 ?_
  rw [e20]
  exact ⟨rfl, N23, K22, F25, F26, F27, F28, Fw20⟩
def own_bl (qa qb qv ya yb yc : Int32) : List Int32 := [(56 : Int32), (61 : Int32), (70 : Int32), (1 : Int32), (57 : Int32), (61 : Int32), (49 : Int32), (48 : Int32), (1 : Int32), (51 : Int32), (53 : Int32), (61 : Int32), (65 : Int32), (1 : Int32), qa, qb, (61 : Int32), qv, (1 : Int32), (49 : Int32), (48 : Int32), (61 : Int32), ya, yb, yc, (1 : Int32)]
theorem own_getDI (xs : List Int32) (i : Nat) : (xs.map Value.int).getD i (.int 0) = .int (xs.getD i 0) := by
  induction xs generalizing i with
  | nil => rfl
  | cons x t ih => cases i with
    | zero => rfl
    | succ i => simpa using ih i
def own_cnt (bl : List Int32) : Nat → Nat
  | 0 => 0
  | i + 1 => if (bl.getD i 0) = (1 : Int32) then own_cnt bl i + 1 else own_cnt bl i
theorem own_cntle (bl : List Int32) : ∀ i, own_cnt bl i ≤ i
  | 0 => Nat.le_refl _
  | i + 1 => by have q := own_cntle bl i; rw [own_cnt]; split <;> omega
theorem own_cnt5 {qa qb qv ya yb yc : Int32} (h1 : ¬ qa = (1 : Int32)) (h2 : ¬ qb = (1 : Int32)) (h3 : ¬ qv = (1 : Int32)) (h4 : ¬ ya = (1 : Int32)) (h5 : ¬ yb = (1 : Int32)) (h6 : ¬ yc = (1 : Int32)) : own_cnt (own_bl qa qb qv ya yb yc) 26 = 5 := by
  simp [own_cnt, own_bl, h1, h2, h3, h4, h5, h6]
theorem own_pd2 : parseMethodDescriptor "([BII)J" = some ⟨[(.array .byte), .int, .int], some .long⟩ := by decide +kernel
theorem own_pd3 : parseMethodDescriptor "([B[I[I[I)V" = some ⟨[(.array .byte), (.array .int), (.array .int), (.array .int)], none⟩ := by decide +kernel
theorem d6_0 : D4 0 (.iconst 0) 1 := by decide +kernel
theorem d6_1 : D4 1 (.istore_n 1) 1 := by decide +kernel
theorem d6_2 : D4 2 (.aload_n 0) 1 := by decide +kernel
theorem d6_3 : D4 3 (.astore_n 2) 1 := by decide +kernel
theorem d6_4 : D4 4 (.aload_n 2) 1 := by decide +kernel
theorem d6_5 : D4 5 (.arraylength) 1 := by decide +kernel
theorem d6_6 : D4 6 (.istore_n 3) 1 := by decide +kernel
theorem d6_7 : D4 7 (.iconst 0) 1 := by decide +kernel
theorem d6_8 : D4 8 (.istore 4) 2 := by decide +kernel
theorem d6_10 : D4 10 (.iload 4) 2 := by decide +kernel
theorem d6_12 : D4 12 (.iload_n 3) 1 := by decide +kernel
theorem d6_13 : D4 13 (.if_icmp .ge 24) 3 := by decide +kernel
theorem d6_16 : D4 16 (.aload_n 2) 1 := by decide +kernel
theorem d6_17 : D4 17 (.iload 4) 2 := by decide +kernel
theorem d6_19 : D4 19 (.baload) 1 := by decide +kernel
theorem d6_20 : D4 20 (.istore 5) 2 := by decide +kernel
theorem d6_22 : D4 22 (.iload 5) 2 := by decide +kernel
theorem d6_24 : D4 24 (.iconst 1) 1 := by decide +kernel
theorem d6_25 : D4 25 (.if_icmp .ne 6) 3 := by decide +kernel
theorem d6_28 : D4 28 (.iinc 1 1) 3 := by decide +kernel
theorem d6_31 : D4 31 (.iinc 4 1) 3 := by decide +kernel
theorem d6_34 : D4 34 (.goto (-24)) 3 := by decide +kernel
theorem d6_37 : D4 37 (.iload_n 1) 1 := by decide +kernel
theorem d6_38 : D4 38 (.newarray .int) 2 := by decide +kernel
theorem d6_40 : D4 40 (.astore_n 2) 1 := by decide +kernel
theorem d6_41 : D4 41 (.iload_n 1) 1 := by decide +kernel
theorem d6_42 : D4 42 (.newarray .int) 2 := by decide +kernel
theorem d6_44 : D4 44 (.astore_n 3) 1 := by decide +kernel
theorem d6_45 : D4 45 (.iload_n 1) 1 := by decide +kernel
theorem d6_46 : D4 46 (.newarray .int) 2 := by decide +kernel
theorem d6_48 : D4 48 (.astore 4) 2 := by decide +kernel
theorem d6_50 : D4 50 (.iconst 0) 1 := by decide +kernel
theorem d6_51 : D4 51 (.istore 5) 2 := by decide +kernel
theorem d6_53 : D4 53 (.iconst 0) 1 := by decide +kernel
theorem d6_54 : D4 54 (.istore 6) 2 := by decide +kernel
theorem d6_56 : D4 56 (.iload 6) 2 := by decide +kernel
theorem d6_58 : D4 58 (.aload_n 0) 1 := by decide +kernel
theorem d6_59 : D4 59 (.arraylength) 1 := by decide +kernel
theorem d6_60 : D4 60 (.if_icmp .ge 278) 3 := by decide +kernel
theorem d6_63 : D4 63 (.iload 5) 2 := by decide +kernel
theorem d6_65 : D4 65 (.iconst 1) 1 := by decide +kernel
theorem d6_66 : D4 66 (.iadd) 1 := by decide +kernel
theorem d6_67 : D4 67 (.istore 7) 2 := by decide +kernel
theorem d6_69 : D4 69 (.iload 6) 2 := by decide +kernel
theorem d6_71 : D4 71 (.istore 8) 2 := by decide +kernel
theorem d6_73 : D4 73 (.iload 6) 2 := by decide +kernel
theorem d6_75 : D4 75 (.aload_n 0) 1 := by decide +kernel
theorem d6_76 : D4 76 (.arraylength) 1 := by decide +kernel
theorem d6_77 : D4 77 (.if_icmp .ge 19) 3 := by decide +kernel
theorem d6_80 : D4 80 (.aload_n 0) 1 := by decide +kernel
theorem d6_81 : D4 81 (.iload 6) 2 := by decide +kernel
theorem d6_83 : D4 83 (.baload) 1 := by decide +kernel
theorem d6_84 : D4 84 (.invokestatic 58) 3 := by decide +kernel
theorem d6_87 : D4 87 (.ifCond .eq 9) 3 := by decide +kernel
theorem d6_90 : D4 90 (.iinc 6 1) 3 := by decide +kernel
theorem d6_93 : D4 93 (.goto (-20)) 3 := by decide +kernel
theorem d6_96 : D4 96 (.iload 6) 2 := by decide +kernel
theorem d6_98 : D4 98 (.iload 8) 2 := by decide +kernel
theorem d6_100 : D4 100 (.if_icmp .eq 19) 3 := by decide +kernel
theorem d6_103 : D4 103 (.iload 6) 2 := by decide +kernel
theorem d6_105 : D4 105 (.aload_n 0) 1 := by decide +kernel
theorem d6_106 : D4 106 (.arraylength) 1 := by decide +kernel
theorem d6_107 : D4 107 (.if_icmp .eq 12) 3 := by decide +kernel
theorem d6_110 : D4 110 (.aload_n 0) 1 := by decide +kernel
theorem d6_111 : D4 111 (.iload 6) 2 := by decide +kernel
theorem d6_113 : D4 113 (.baload) 1 := by decide +kernel
theorem d6_114 : D4 114 (.bipush 61) 2 := by decide +kernel
theorem d6_116 : D4 116 (.if_icmp .eq 36) 3 := by decide +kernel
theorem d6_152 : D4 152 (.aload_n 0) 1 := by decide +kernel
theorem d6_153 : D4 153 (.iload 8) 2 := by decide +kernel
theorem d6_155 : D4 155 (.iload 6) 2 := by decide +kernel
theorem d6_157 : D4 157 (.invokestatic 80) 3 := by decide +kernel
theorem d6_160 : D4 160 (.lstore 9) 2 := by decide +kernel
theorem d6_162 : D4 162 (.lload 9) 2 := by decide +kernel
theorem d6_164 : D4 164 (.lconst 0) 1 := by decide +kernel
theorem d6_165 : D4 165 (.lcmp) 1 := by decide +kernel
theorem d6_166 : D4 166 (.ifCond .eq 12) 3 := by decide +kernel
theorem d6_169 : D4 169 (.lload 9) 2 := by decide +kernel
theorem d6_171 : D4 171 (.ldc2_w 84) 3 := by decide +kernel
theorem d6_174 : D4 174 (.lcmp) 1 := by decide +kernel
theorem d6_175 : D4 175 (.ifCond .ne 66) 3 := by decide +kernel
theorem d6_241 : D4 241 (.iinc 6 1) 3 := by decide +kernel
theorem d6_244 : D4 244 (.iload 6) 2 := by decide +kernel
theorem d6_246 : D4 246 (.istore 11) 2 := by decide +kernel
theorem d6_248 : D4 248 (.iload 6) 2 := by decide +kernel
theorem d6_250 : D4 250 (.aload_n 0) 1 := by decide +kernel
theorem d6_251 : D4 251 (.arraylength) 1 := by decide +kernel
theorem d6_252 : D4 252 (.if_icmp .ge 17) 3 := by decide +kernel
theorem d6_255 : D4 255 (.aload_n 0) 1 := by decide +kernel
theorem d6_256 : D4 256 (.iload 6) 2 := by decide +kernel
theorem d6_258 : D4 258 (.baload) 1 := by decide +kernel
theorem d6_259 : D4 259 (.iconst 1) 1 := by decide +kernel
theorem d6_260 : D4 260 (.if_icmp .eq 9) 3 := by decide +kernel
theorem d6_263 : D4 263 (.iinc 6 1) 3 := by decide +kernel
theorem d6_266 : D4 266 (.goto (-18)) 3 := by decide +kernel
theorem d6_269 : D4 269 (.iload 6) 2 := by decide +kernel
theorem d6_271 : D4 271 (.aload_n 0) 1 := by decide +kernel
theorem d6_272 : D4 272 (.arraylength) 1 := by decide +kernel
theorem d6_273 : D4 273 (.if_icmp .ne 36) 3 := by decide +kernel
theorem d6_309 : D4 309 (.aload_n 2) 1 := by decide +kernel
theorem d6_310 : D4 310 (.iload 5) 2 := by decide +kernel
theorem d6_312 : D4 312 (.lload 9) 2 := by decide +kernel
theorem d6_314 : D4 314 (.l2i) 1 := by decide +kernel
theorem d6_315 : D4 315 (.iastore) 1 := by decide +kernel
theorem d6_316 : D4 316 (.aload_n 3) 1 := by decide +kernel
theorem d6_317 : D4 317 (.iload 5) 2 := by decide +kernel
theorem d6_319 : D4 319 (.iload 11) 2 := by decide +kernel
theorem d6_321 : D4 321 (.iastore) 1 := by decide +kernel
theorem d6_322 : D4 322 (.aload 4) 2 := by decide +kernel
theorem d6_324 : D4 324 (.iload 5) 2 := by decide +kernel
theorem d6_326 : D4 326 (.iload 6) 2 := by decide +kernel
theorem d6_328 : D4 328 (.iastore) 1 := by decide +kernel
theorem d6_329 : D4 329 (.iinc 5 1) 3 := by decide +kernel
theorem d6_332 : D4 332 (.iinc 6 1) 3 := by decide +kernel
theorem d6_335 : D4 335 (.goto (-279)) 3 := by decide +kernel
theorem d6_338 : D4 338 (.new 10) 3 := by decide +kernel
theorem d6_341 : D4 341 (.dup) 1 := by decide +kernel
theorem d6_342 : D4 342 (.aload_n 0) 1 := by decide +kernel
theorem d6_343 : D4 343 (.aload_n 2) 1 := by decide +kernel
theorem d6_344 : D4 344 (.aload_n 3) 1 := by decide +kernel
theorem d6_345 : D4 345 (.aload 4) 2 := by decide +kernel
theorem d6_347 : D4 347 (.invokespecial 103) 3 := by decide +kernel
theorem d6_350 : D4 350 (.areturn) 1 := by decide +kernel
theorem ef_6 (m : MethodId) (x0 : Addr) : entryFrame m #[(.ref x0)] 12 = mkF m 0 #[.val (.ref x0), .unset, .unset, .unset, .unset, .unset, .unset, .unset, .unset, .unset, .unset, .unset] [] := by first | (simp [entryFrame, mkF, argsToLocals, Value.category]; done) | rfl
def Q6 (Z : State) (ob : Addr) (kk : ClassId) (qa : Int32) (qb : Int32) (qv : Int32) (ya : Int32) (yb : Int32) (yc : Int32) (h0 : Heap) (n0 : Nat) (v : Option Value) (h : Heap) (L : List Loc) : Prop := ∃ (om : Addr) (ot : Addr) (os : Addr) (oe : Addr) (kt : ClassId) (ks : ClassId) (ke : ClassId), v = some (.ref om) ∧ Fr n0 L ∧ Keep h0 h [] ∧ h0.size ≤ om ∧ h0.size ≤ ot ∧ h0.size ≤ os ∧ h0.size ≤ oe ∧ Exa Z h om TVn ∧ Fld Z h om TVn "bytes" DBn (.ref ob) ∧ Fld Z h om TVn "tags" "[I" (.ref ot) ∧ Fld Z h om TVn VSn "[I" (.ref os) ∧ Fld Z h om TVn VEn "[I" (.ref oe) ∧ Arv Z h ot kt .int (5 : Int32) (tgs qa qb) (.int 0) ∧ Arv Z h os ks .int (5 : Int32) lvs (.int 0) ∧ Arv Z h oe ke .int (5 : Int32) lve (.int 0)
theorem rm6 (l : Launch) (Z : State) (a0 : Array Value) (hw : HW a0 Z) (ws : List Jvm.Cond) (ob : Addr) (kk : ClassId) (qa : Int32) (qb : Int32) (qv : Int32) (ya : Int32) (yb : Int32) (yc : Int32) (h0 : Heap) (n0 : Nat) (Z0 : n0 ≤ h0.size) (P0 : Arv Z h0 ob kk .byte (26 : Int32) (bll qa qb qv ya yb yc) (.int 0)) (d_qa : own_dg qa) (d_qb : own_dg qb) (d_ya : own_dg ya) (d_yb : own_dg yb) (d_yc : own_dg yc) (hq0 : ¬ (lcmpW (own_d (own_d (0 : Int64) qa) qb) (0 : Int64)) = (0 : Int32)) (hq1 : ¬ (lcmpW (own_d (own_d (0 : Int64) qa) qb) (2147483648 : Int64)) = (0 : Int32)) (nv1 : ¬ qv = (1 : Int32)) :
    MFr l Z (⟨TVn, "splitFields", "([B)Lcom/example/splitbook/splitbook/tagvalue/TagValueMessage;"⟩ : MethodName) prog_39_method_4_code 12 (some (.object TVn)) ws (Rm 2 4 19 32) #[(.ref ob)] h0 (Q6 Z ob kk qa qb qv ya yb yc h0 n0) := by
  refine own_body (own := TVn) (plainFor_of_name own_pn0) rfl (fun m => ef_6 m ob) ?_
  intro p e s m below meth c s₁ Bd H hml hZ hown X0 e0 P hP
  have hx := H.1
  have hby := H.2
  have N0 := Fr.nil n0
  have K0 : Keep h0 h0 [] := Keep.refl _ _
  refine g_iconst X0 H d6_0 0 rfl ?_
  refine g_istoreN X0 H d6_1 #[vr ob, vi 0, vu, vu, vu, vu, vu, vu, vu, vu, vu, vu] rfl ?_
  refine g_aloadN X0 H d6_2 rfl rfl ?_
  refine g_astoreN X0 H d6_3 rfl #[vr ob, vi 0, vr ob, vu, vu, vu, vu, vu, vu, vu, vu, vu] rfl ?_
  refine g_aloadN X0 H d6_4 rfl rfl ?_
  refine g_len X0 H hZ e0 P0 d6_5 ?_
  refine g_istoreN X0 H d6_6 #[vr ob, vi 0, vr ob, vi 26, vu, vu, vu, vu, vu, vu, vu, vu] rfl ?_
  refine g_iconst X0 H d6_7 0 rfl ?_
  refine g_istore X0 H d6_8 #[vr ob, vi 0, vr ob, vi 26, vi 0, vu, vu, vu, vu, vu, vu, vu] rfl ?_
  have LP2 : ∀ (k2 : Nat) (T2 : State) (locs2 : List Loc) (i : Nat) (x4 : Int32) (x1 : Int32) (s2_5 : Slot), Stand p l e (Rm 2 4 19 32) s m #[(.ref ob)] below meth c T2 locs2 0 0 → T2.heap = h0 → Fr n0 locs2 → i ≤ 26 → x4 = i.toInt32 → x1 = (own_cnt (own_bl qa qb qv ya yb yc) i).toInt32 → (s2_5 = .unset ∨ ∃ w, s2_5 = .val w ∧ w.category = 1) → 26 - i < k2 → Go p.tables e below P T2 (mkF m 10 #[.val (.ref ob), .val (.int x1), .val (.ref ob), .val (.int 26), .val (.int x4), s2_5, .unset, .unset, .unset, .unset, .unset, .unset] []) := by
    intro k2
    induction k2 with
    | zero => intros; rename_i hk; exact absurd hk (Nat.not_lt_zero _)
    | succ k2 ih2 =>
      intro T2 locs2 i x4 x1 s2_5 X2 e2 N2 hi hx4 hx1 hos2_5 hk
      refine g_iload X2 H d6_10 rfl ?_
      refine g_iloadN X2 H d6_12 rfl ?_
      by_cases hc3 : x4 < (26 : Int32)
      · refine g_icmpNo X2 H d6_13 (tlt hc3).2.1 ?_
        show Go p.tables e below P T2 (mkF m 16 #[vr ob, vi x1, vr ob, vi 26, vi x4, s2_5, vu, vu, vu, vu, vu, vu] [])
        have hlt : i < 26 := (own_ltN (n := 26) (by omega) (by omega)).mp (by rw [← hx4]; exact hc3)
        refine g_aloadN X2 H d6_16 rfl rfl ?_
        refine g_iload X2 H d6_17 rfl ?_
        refine g_baload X2 H hZ e2 P0 (.int ((own_bl qa qb qv ya yb yc).getD i 0)) d6_19 ⟨by rw [hx4]; exact own_nneg (by omega), by rw [hx4]; exact (own_ltN (n := 26) (by omega) (by omega)).mpr hlt⟩ (by rw [hx4, own_clamp (by omega)]; exact own_getDI (own_bl qa qb qv ya yb yc) i) ?_
        refine g_istore X2 H d6_20 #[vr ob, vi x1, vr ob, vi 26, vi x4, vi ((own_bl qa qb qv ya yb yc).getD i 0), vu, vu, vu, vu, vu, vu] (XS.store1 rfl hos2_5 rfl) ?_
        refine g_iload X2 H d6_22 rfl ?_
        refine g_iconst X2 H d6_24 1 rfl ?_
        by_cases hc5 : ((own_bl qa qb qv ya yb yc).getD i 0) = (1 : Int32)
        · refine g_icmpNo X2 H d6_25 (teq hc5).2 ?_
          refine g_iinc X2 H d6_28 rfl #[vr ob, vi (x1 + (1 : Int32)), vr ob, vi 26, vi x4, vi ((own_bl qa qb qv ya yb yc).getD i 0), vu, vu, vu, vu, vu, vu] rfl ?_
          refine g_iinc X2 H d6_31 rfl #[vr ob, vi (x1 + (1 : Int32)), vr ob, vi 26, vi (x4 + (1 : Int32)), vi ((own_bl qa qb qv ya yb yc).getD i 0), vu, vu, vu, vu, vu, vu] rfl ?_
          refine g_goto X2 H d6_34 10 (by decide) ?_
          exact ih2 T2 _ (i + 1) (x4 + (1 : Int32)) (x1 + (1 : Int32)) (.val (.int ((own_bl qa qb qv ya yb yc).getD i 0))) X2 e2 N2 hlt (by rw [hx4]; exact own_succ i) (by rw [own_cnt, if_pos hc5, hx1]; exact own_succ _) (Or.inr ⟨_, rfl, rfl⟩) (by omega)
        · refine g_icmpYes X2 H d6_25 31 (feq hc5).2 (by decide) ?_
          refine g_iinc X2 H d6_31 rfl #[vr ob, vi x1, vr ob, vi 26, vi (x4 + (1 : Int32)), vi ((own_bl qa qb qv ya yb yc).getD i 0), vu, vu, vu, vu, vu, vu] rfl ?_
          refine g_goto X2 H d6_34 10 (by decide) ?_
          exact ih2 T2 _ (i + 1) (x4 + (1 : Int32)) x1 (.val (.int ((own_bl qa qb qv ya yb yc).getD i 0))) X2 e2 N2 hlt (by rw [hx4]; exact own_succ i) (by rw [own_cnt, if_neg hc5]; exact hx1) (Or.inr ⟨_, rfl, rfl⟩) (by omega)
      · refine g_icmpYes X2 H d6_13 37 (flt hc3).2.1 (by decide) ?_
        show Go p.tables e below P T2 (mkF m 37 #[vr ob, vi x1, vr ob, vi 26, vi x4, s2_5, vu, vu, vu, vu, vu, vu] [])
        have hcn : x1 = (5 : Int32) := by rw [hx1, show i = 26 from by have q := hc3; rw [hx4, show (26 : Int32) = (26 : Nat).toInt32 from rfl, own_ltN (by omega) (by omega)] at q; omega, own_cnt5 (own_dg1 d_qa) (own_dg1 d_qb) nv1 (own_dg1 d_ya) (own_dg1 d_yb) (own_dg1 d_yc)]; rfl
        rw [hcn]
        refine g_iloadN X2 H d6_37 rfl ?_
        obtain ⟨T6, h6, k6, X6, e6, E6, A6, st6⟩ := newP X2 hx hZ (own_g hw 33 rfl) e2 (g := (mkF m 38 #[vr ob, vi 5, vr ob, vi 26, vi x4, s2_5, vu, vu, vu, vu, vu, vu] [(.int 5)])) rfl (hb hby d6_38) rfl (by decide) (cap := 5) (by decide) (by decide) (by decide) (by decide)
        obtain ⟨b6, g6⟩ : ∃ z, z = h0.size := ⟨_, rfl⟩
        rw [← g6] at A6 st6
        refine gv st6 ?_
        have g7 := Nat.le_trans Z0 (Nat.le_of_eq g6.symm)
        have sz8 := Nat.le_trans K0.1 (Nat.le_of_eq g6.symm)
        have Z9 := Nat.le_trans Z0 E6.1
        have K10 := K0.ext E6
        have V6 : Arv Z h6 b6 k6 .int (5 : Int32) [(.int 0), (.int 0), (.int 0), (.int 0), (.int 0)] (.int 0) := (Arv.new A6 (by decide)).pad (pad_rep [] (.int 0) 5)
        show Go p.tables e below P T6 (mkF m 40 #[vr ob, vi 5, vr ob, vi 26, vi x4, s2_5, vu, vu, vu, vu, vu, vu] [(.ref b6)])
        refine g_astoreN X6 H d6_40 rfl #[vr ob, vi 5, vr b6, vi 26, vi x4, s2_5, vu, vu, vu, vu, vu, vu] rfl ?_
        refine g_iloadN X6 H d6_41 rfl ?_
        obtain ⟨T11, h11, k11, X11, e11, E11, A11, st11⟩ := newP X6 hx hZ (own_g hw 33 rfl) e6 (g := (mkF m 42 #[vr ob, vi 5, vr b6, vi 26, vi x4, s2_5, vu, vu, vu, vu, vu, vu] [(.int 5)])) rfl (hb hby d6_42) rfl (by decide) (cap := 5) (by decide) (by decide) (by decide) (by decide)
        obtain ⟨b11, g11⟩ : ∃ z, z = h6.size := ⟨_, rfl⟩
        rw [← g11] at A11 st11
        refine gv st11 ?_
        have ne12 := Nat.ne_of_lt (Nat.lt_of_lt_of_le V6.lt (Nat.le_of_eq g11.symm))
        have g13 := Nat.le_trans Z9 (Nat.le_of_eq g11.symm)
        have sz14 := Nat.le_trans K10.1 (Nat.le_of_eq g11.symm)
        have Z15 := Nat.le_trans Z9 E11.1
        have K16 := K10.ext E11
        have V11 : Arv Z h11 b11 k11 .int (5 : Int32) [(.int 0), (.int 0), (.int 0), (.int 0), (.int 0)] (.int 0) := (Arv.new A11 (by decide)).pad (pad_rep [] (.int 0) 5)
        show Go p.tables e below P T11 (mkF m 44 #[vr ob, vi 5, vr b6, vi 26, vi x4, s2_5, vu, vu, vu, vu, vu, vu] [(.ref b11)])
        refine g_astoreN X11 H d6_44 rfl #[vr ob, vi 5, vr b6, vr b11, vi x4, s2_5, vu, vu, vu, vu, vu, vu] rfl ?_
        refine g_iloadN X11 H d6_45 rfl ?_
        obtain ⟨T17, h17, k17, X17, e17, E17, A17, st17⟩ := newP X11 hx hZ (own_g hw 33 rfl) e11 (g := (mkF m 46 #[vr ob, vi 5, vr b6, vr b11, vi x4, s2_5, vu, vu, vu, vu, vu, vu] [(.int 5)])) rfl (hb hby d6_46) rfl (by decide) (cap := 5) (by decide) (by decide) (by decide) (by decide)
        obtain ⟨b17, g17⟩ : ∃ z, z = h11.size := ⟨_, rfl⟩
        rw [← g17] at A17 st17
        refine gv st17 ?_
        have F19 := (V6.ext E11)
        have ne18 := Nat.ne_of_lt (Nat.lt_of_lt_of_le F19.lt (Nat.le_of_eq g17.symm))
        have ne20 := Nat.ne_of_lt (Nat.lt_of_lt_of_le V11.lt (Nat.le_of_eq g17.symm))
        have g21 := Nat.le_trans Z15 (Nat.le_of_eq g17.symm)
        have sz22 := Nat.le_trans K16.1 (Nat.le_of_eq g17.symm)
        have Z23 := Nat.le_trans Z15 E17.1
        have K24 := K16.ext E17
        have V17 : Arv Z h17 b17 k17 .int (5 : Int32) [(.int 0), (.int 0), (.int 0), (.int 0), (.int 0)] (.int 0) := (Arv.new A17 (by decide)).pad (pad_rep [] (.int 0) 5)
        show Go p.tables e below P T17 (mkF m 48 #[vr ob, vi 5, vr b6, vr b11, vi x4, s2_5, vu, vu, vu, vu, vu, vu] [(.ref b17)])
        refine g_astore X17 H d6_48 rfl #[vr ob, vi 5, vr b6, vr b11, vr b17, s2_5, vu, vu, vu, vu, vu, vu] rfl ?_
        refine g_iconst X17 H d6_50 0 rfl ?_
        refine g_istore X17 H d6_51 #[vr ob, vi 5, vr b6, vr b11, vr b17, vi 0, vu, vu, vu, vu, vu, vu] (XS.store1 rfl hos2_5 rfl) ?_
        refine g_iconst X17 H d6_53 0 rfl ?_
        refine g_istore X17 H d6_54 #[vr ob, vi 5, vr b6, vr b11, vr b17, vi 0, vi 0, vu, vu, vu, vu, vu] rfl ?_
        refine g_iload X17 H d6_56 rfl ?_
        refine g_aloadN X17 H d6_58 rfl rfl ?_
        have F25 := (((P0.ext E6).ext E11).ext E17)
        refine g_len X17 H hZ e17 F25 d6_59 ?_
        refine g_icmpNo X17 H d6_60 (tlt (by decide : (0 : Int32) < (26 : Int32))).2.1 ?_
        refine g_iload X17 H d6_63 rfl ?_
        refine g_iconst X17 H d6_65 1 rfl ?_
        refine g_iadd X17 H d6_66 ?_
        refine g_istore X17 H d6_67 #[vr ob, vi 5, vr b6, vr b11, vr b17, vi 0, vi 0, vi ((0 : Int32) + (1 : Int32)), vu, vu, vu, vu] rfl ?_
        show Go p.tables e below P T17 (mkF m 69 #[vr ob, vi 5, vr b6, vr b11, vr b17, vi 0, vi 0, vi ((0 : Int32) + (1 : Int32)), vu, vu, vu, vu] [])
        refine g_iload X17 H d6_69 rfl ?_
        refine g_istore X17 H d6_71 #[vr ob, vi 5, vr b6, vr b11, vr b17, vi 0, vi 0, vi ((0 : Int32) + (1 : Int32)), vi 0, vu, vu, vu] rfl ?_
        refine g_iload X17 H d6_73 rfl ?_
        refine g_aloadN X17 H d6_75 rfl rfl ?_
        refine g_len X17 H hZ e17 F25 d6_76 ?_
        refine g_icmpNo X17 H d6_77 (tlt (by decide : (0 : Int32) < (26 : Int32))).2.1 ?_
        refine g_aloadN X17 H d6_80 rfl rfl ?_
        refine g_iload X17 H d6_81 rfl ?_
        refine g_baload X17 H hZ e17 F25 (.int 56) d6_83 ⟨by decide, by decide⟩ rfl ?_
        refine g_cS X17 H hZ hml rfl hown e17 (rm7 l Z a0 hw [] (56 : Int32) h17 n0 Z23 (by unfold own_dg; decide)) (own_g hw 34 rfl) (own_g hw 35 rfl) (own_g hw 4 rfl) (own_g hw 36 rfl) (by decide) own_pd0 d6_84 rfl rfl rfl (W := 0) rfl (by decide) ?_
        intro _ T29 Lc29 X29 hQ29
        obtain ⟨rfl, Nq29, hh29⟩ := hQ29
        obtain ⟨lc29, Xh29, N29⟩ := own_hide X29 (Fr.app N2 Nq29)
        clear X29
        refine g_ifNo Xh29 H d6_87 ((if0 _ _).trans (feq (by decide : ¬ ((1 : Int32) = (0 : Int32)))).1) ?_
        refine g_iinc Xh29 H d6_90 rfl #[vr ob, vi 5, vr b6, vr b11, vr b17, vi 0, vi 1, vi ((0 : Int32) + (1 : Int32)), vi 0, vu, vu, vu] rfl ?_
        refine g_goto Xh29 H d6_93 73 (by decide) ?_
        show Go p.tables e below P T29 (mkF m 73 #[vr ob, vi 5, vr b6, vr b11, vr b17, vi 0, vi 1, vi ((0 : Int32) + (1 : Int32)), vi 0, vu, vu, vu] [])
        refine g_iload Xh29 H d6_73 rfl ?_
        refine g_aloadN Xh29 H d6_75 rfl rfl ?_
        refine g_len Xh29 H hZ hh29 F25 d6_76 ?_
        refine g_icmpNo Xh29 H d6_77 (tlt (by decide : (1 : Int32) < (26 : Int32))).2.1 ?_
        refine g_aloadN Xh29 H d6_80 rfl rfl ?_
        refine g_iload Xh29 H d6_81 rfl ?_
        refine g_baload Xh29 H hZ hh29 F25 (.int 61) d6_83 ⟨by decide, by decide⟩ rfl ?_
        refine g_cS Xh29 H hZ hml rfl hown hh29 (rm7n l Z a0 hw []  h17 n0 Z23 ) (own_g hw 34 rfl) (own_g hw 35 rfl) (own_g hw 4 rfl) (own_g hw 36 rfl) (by decide) own_pd0 d6_84 rfl rfl rfl (W := 0) rfl (by decide) ?_
        intro _ T32 Lc32 X32 hQ32
        obtain ⟨rfl, Nq32, hh32⟩ := hQ32
        obtain ⟨lc32, Xh32, N32⟩ := own_hide X32 (Fr.app N29 Nq32)
        clear X32
        refine g_ifYes Xh32 H d6_87 96 ((if0 _ _).trans (teq (rfl : (0 : Int32) = (0 : Int32))).1) (by decide) ?_
        refine g_iload Xh32 H d6_96 rfl ?_
        refine g_iload Xh32 H d6_98 rfl ?_
        refine g_icmpNo Xh32 H d6_100 (feq (by decide : ¬ ((1 : Int32) = (0 : Int32)))).1 ?_
        refine g_iload Xh32 H d6_103 rfl ?_
        show Go p.tables e below P T32 (mkF m 105 #[vr ob, vi 5, vr b6, vr b11, vr b17, vi 0, vi 1, vi ((0 : Int32) + (1 : Int32)), vi 0, vu, vu, vu] [(.int 1)])
        refine g_aloadN Xh32 H d6_105 rfl rfl ?_
        refine g_len Xh32 H hZ hh32 F25 d6_106 ?_
        refine g_icmpNo Xh32 H d6_107 (feq (by decide : ¬ ((1 : Int32) = (26 : Int32)))).1 ?_
        refine g_aloadN Xh32 H d6_110 rfl rfl ?_
        refine g_iload Xh32 H d6_111 rfl ?_
        refine g_baload Xh32 H hZ hh32 F25 (.int 61) d6_113 ⟨by decide, by decide⟩ rfl ?_
        refine g_bipush Xh32 H d6_114 61 rfl ?_
        refine g_icmpYes Xh32 H d6_116 152 (teq (rfl : (61 : Int32) = (61 : Int32))).1 (by decide) ?_
        refine g_aloadN Xh32 H d6_152 rfl rfl ?_
        refine g_iload Xh32 H d6_153 rfl ?_
        refine g_iload Xh32 H d6_155 rfl ?_
        refine g_cS Xh32 H hZ hml rfl hown hh32 (rm8v0 l Z a0 hw [] ob kk qa qb qv ya yb yc h17 n0 Z23 F25) (own_g hw 37 rfl) (own_g hw 38 rfl) (own_g hw 4 rfl) (own_g hw 39 rfl) (by decide) own_pd2 d6_157 rfl rfl rfl (W := 0) rfl (by decide) ?_
        intro _ T35 Lc35 X35 hQ35
        obtain ⟨rfl, Nq35, hh35⟩ := hQ35
        obtain ⟨lc35, Xh35, N35⟩ := own_hide X35 (Fr.app N32 Nq35)
        clear X35
        refine g_lstore Xh35 H d6_160 #[vr ob, vi 5, vr b6, vr b11, vr b17, vi 0, vi 1, vi ((0 : Int32) + (1 : Int32)), vi 0, vj 8, v2, vu] rfl ?_
        show Go p.tables e below P T35 (mkF m 162 #[vr ob, vi 5, vr b6, vr b11, vr b17, vi 0, vi 1, vi ((0 : Int32) + (1 : Int32)), vi 0, vj 8, v2, vu] [])
        refine g_lload Xh35 H d6_162 rfl ?_
        refine g_lconst Xh35 H d6_164 0 rfl ?_
        refine g_lcmp Xh35 H d6_165 ?_
        refine g_ifNo Xh35 H d6_166 ((if0 _ _).trans (feq (by decide)).1) ?_
        refine g_lload Xh35 H d6_169 rfl ?_
        refine g_ldcJ Xh35 H hZ hown (own_g hw 41 rfl) d6_171 ?_
        refine g_lcmp Xh35 H d6_174 ?_
        refine g_ifYes Xh35 H d6_175 241 ((if0 _ _).trans (feq (by decide)).2) (by decide) ?_
        refine g_iinc Xh35 H d6_241 rfl #[vr ob, vi 5, vr b6, vr b11, vr b17, vi 0, vi 2, vi ((0 : Int32) + (1 : Int32)), vi 0, vj 8, v2, vu] rfl ?_
        refine g_iload Xh35 H d6_244 rfl ?_
        refine g_istore Xh35 H d6_246 #[vr ob, vi 5, vr b6, vr b11, vr b17, vi 0, vi 2, vi ((0 : Int32) + (1 : Int32)), vi 0, vj 8, v2, vi 2] rfl ?_
        refine g_iload Xh35 H d6_248 rfl ?_
        refine g_aloadN Xh35 H d6_250 rfl rfl ?_
        show Go p.tables e below P T35 (mkF m 251 #[vr ob, vi 5, vr b6, vr b11, vr b17, vi 0, vi 2, vi ((0 : Int32) + (1 : Int32)), vi 0, vj 8, v2, vi 2] [(.ref ob), (.int 2)])
        refine g_len Xh35 H hZ hh35 F25 d6_251 ?_
        refine g_icmpNo Xh35 H d6_252 (tlt (by decide : (2 : Int32) < (26 : Int32))).2.1 ?_
        refine g_aloadN Xh35 H d6_255 rfl rfl ?_
        refine g_iload Xh35 H d6_256 rfl ?_
        refine g_baload Xh35 H hZ hh35 F25 (.int 70) d6_258 ⟨by decide, by decide⟩ rfl ?_
        refine g_iconst Xh35 H d6_259 1 rfl ?_
        refine g_icmpNo Xh35 H d6_260 (feq (by decide : ¬ ((70 : Int32) = (1 : Int32)))).1 ?_
        refine g_iinc Xh35 H d6_263 rfl #[vr ob, vi 5, vr b6, vr b11, vr b17, vi 0, vi 3, vi ((0 : Int32) + (1 : Int32)), vi 0, vj 8, v2, vi 2] rfl ?_
        refine g_goto Xh35 H d6_266 248 (by decide) ?_
        refine g_iload Xh35 H d6_248 rfl ?_
        refine g_aloadN Xh35 H d6_250 rfl rfl ?_
        refine g_len Xh35 H hZ hh35 F25 d6_251 ?_
        refine g_icmpNo Xh35 H d6_252 (tlt (by decide : (3 : Int32) < (26 : Int32))).2.1 ?_
        show Go p.tables e below P T35 (mkF m 255 #[vr ob, vi 5, vr b6, vr b11, vr b17, vi 0, vi 3, vi ((0 : Int32) + (1 : Int32)), vi 0, vj 8, v2, vi 2] [])
        refine g_aloadN Xh35 H d6_255 rfl rfl ?_
        refine g_iload Xh35 H d6_256 rfl ?_
        refine g_baload Xh35 H hZ hh35 F25 (.int 1) d6_258 ⟨by decide, by decide⟩ rfl ?_
        refine g_iconst Xh35 H d6_259 1 rfl ?_
        refine g_icmpYes Xh35 H d6_260 269 (teq (rfl : (1 : Int32) = (1 : Int32))).1 (by decide) ?_
        refine g_iload Xh35 H d6_269 rfl ?_
        refine g_aloadN Xh35 H d6_271 rfl rfl ?_
        refine g_len Xh35 H hZ hh35 F25 d6_272 ?_
        refine g_icmpYes Xh35 H d6_273 309 (feq (by decide : ¬ ((3 : Int32) = (26 : Int32)))).2 (by decide) ?_
        refine g_aloadN Xh35 H d6_309 rfl rfl ?_
        refine g_iload Xh35 H d6_310 rfl ?_
        refine g_lload Xh35 H d6_312 rfl ?_
        show Go p.tables e below P T35 (mkF m 314 #[vr ob, vi 5, vr b6, vr b11, vr b17, vi 0, vi 3, vi ((0 : Int32) + (1 : Int32)), vi 0, vj 8, v2, vi 2] [(.long 8), (.int 0), (.ref b6)])
        refine gv (fun t k => XS.l2i Xh35.here hx rfl (hb hby d6_314) rfl k) ?_
        show Go p.tables e below P T35 (mkF m 315 #[vr ob, vi 5, vr b6, vr b11, vr b17, vi 0, vi 3, vi ((0 : Int32) + (1 : Int32)), vi 0, vj 8, v2, vi 2] [(.int ((8 : Int64).toInt32)), (.int 0), (.ref b6)])
        rw [show (8 : Int64).toInt32 = (8 : Int32) from rfl]
        have F41 := (F19.ext E17)
        obtain ⟨T42, h42, lc42, X42, e42, N42, Z42, K42, W42, V42, st42⟩ := own_stI Xh35 hx hZ hh35 F41 N35 Z23 K24 g7 (Or.inr sz8) (j := (0 : Int32)) ⟨by decide, by decide⟩ (ji := 0) rfl (Nat.le_of_ble_eq_true rfl) (g := (mkF m 315 #[vr ob, vi 5, vr b6, vr b11, vr b17, vi 0, vi 3, vi ((0 : Int32) + (1 : Int32)), vi 0, vj 8, v2, vi 2] [(.int 8), (.int 0), (.ref b6)])) rfl rfl (hb hby d6_315)
        refine gv st42 ?_
        show Go p.tables e below P T42 (mkF m 316 #[vr ob, vi 5, vr b6, vr b11, vr b17, vi 0, vi 3, vi ((0 : Int32) + (1 : Int32)), vi 0, vj 8, v2, vi 2] [])
        refine g_aloadN X42 H d6_316 rfl rfl ?_
        refine g_iload X42 H d6_317 rfl ?_
        refine g_iload X42 H d6_319 rfl ?_
        have F43 := ((V11.ext E17).other W42 (Ne.symm ne12))
        obtain ⟨T44, h44, lc44, X44, e44, N44, Z44, K44, W44, V44, st44⟩ := own_stI X42 hx hZ e42 F43 N42 Z42 K42 g13 (Or.inr sz14) (j := (0 : Int32)) ⟨by decide, by decide⟩ (ji := 0) rfl (Nat.le_of_ble_eq_true rfl) (g := (mkF m 321 #[vr ob, vi 5, vr b6, vr b11, vr b17, vi 0, vi 3, vi ((0 : Int32) + (1 : Int32)), vi 0, vj 8, v2, vi 2] [(.int 2), (.int 0), (.ref b11)])) rfl rfl (hb hby d6_321)
        refine gv st44 ?_
        show Go p.tables e below P T44 (mkF m 322 #[vr ob, vi 5, vr b6, vr b11, vr b17, vi 0, vi 3, vi ((0 : Int32) + (1 : Int32)), vi 0, vj 8, v2, vi 2] [])
        refine g_aload X44 H d6_322 rfl rfl ?_
        refine g_iload X44 H d6_324 rfl ?_
        refine g_iload X44 H d6_326 rfl ?_
        have F45 := ((V17.other W42 (Ne.symm ne18)).other W44 (Ne.symm ne20))
        obtain ⟨T46, h46, lc46, X46, e46, N46, Z46, K46, W46, V46, st46⟩ := own_stI X44 hx hZ e44 F45 N44 Z44 K44 g21 (Or.inr sz22) (j := (0 : Int32)) ⟨by decide, by decide⟩ (ji := 0) rfl (Nat.le_of_ble_eq_true rfl) (g := (mkF m 328 #[vr ob, vi 5, vr b6, vr b11, vr b17, vi 0, vi 3, vi ((0 : Int32) + (1 : Int32)), vi 0, vj 8, v2, vi 2] [(.int 3), (.int 0), (.ref b17)])) rfl rfl (hb hby d6_328)
        refine gv st46 ?_
        show Go p.tables e below P T46 (mkF m 329 #[vr ob, vi 5, vr b6, vr b11, vr b17, vi 0, vi 3, vi ((0 : Int32) + (1 : Int32)), vi 0, vj 8, v2, vi 2] [])
        refine g_iinc X46 H d6_329 rfl #[vr ob, vi 5, vr b6, vr b11, vr b17, vi 1, vi 3, vi ((0 : Int32) + (1 : Int32)), vi 0, vj 8, v2, vi 2] rfl ?_
        refine g_iinc X46 H d6_332 rfl #[vr ob, vi 5, vr b6, vr b11, vr b17, vi 1, vi 4, vi ((0 : Int32) + (1 : Int32)), vi 0, vj 8, v2, vi 2] rfl ?_
        refine g_goto X46 H d6_335 56 (by decide) ?_
        refine g_iload X46 H d6_56 rfl ?_
        refine g_aloadN X46 H d6_58 rfl rfl ?_
        have F47 := (((F25.other W42 (Nat.ne_of_lt (Nat.lt_of_lt_of_le P0.lt sz8))).other W44 (Nat.ne_of_lt (Nat.lt_of_lt_of_le P0.lt sz14))).other W46 (Nat.ne_of_lt (Nat.lt_of_lt_of_le P0.lt sz22)))
        refine g_len X46 H hZ e46 F47 d6_59 ?_
        refine g_icmpNo X46 H d6_60 (tlt (by decide : (4 : Int32) < (26 : Int32))).2.1 ?_
        refine g_iload X46 H d6_63 rfl ?_
        refine g_iconst X46 H d6_65 1 rfl ?_
        refine g_iadd X46 H d6_66 ?_
        refine g_istore X46 H d6_67 #[vr ob, vi 5, vr b6, vr b11, vr b17, vi 1, vi 4, vi ((1 : Int32) + (1 : Int32)), vi 0, vj 8, v2, vi 2] rfl ?_
        refine g_iload X46 H d6_69 rfl ?_
        refine g_istore X46 H d6_71 #[vr ob, vi 5, vr b6, vr b11, vr b17, vi 1, vi 4, vi ((1 : Int32) + (1 : Int32)), vi 4, vj 8, v2, vi 2] rfl ?_
        show Go p.tables e below P T46 (mkF m 73 #[vr ob, vi 5, vr b6, vr b11, vr b17, vi 1, vi 4, vi ((1 : Int32) + (1 : Int32)), vi 4, vj 8, v2, vi 2] [])
        refine g_iload X46 H d6_73 rfl ?_
        refine g_aloadN X46 H d6_75 rfl rfl ?_
        refine g_len X46 H hZ e46 F47 d6_76 ?_
        refine g_icmpNo X46 H d6_77 (tlt (by decide : (4 : Int32) < (26 : Int32))).2.1 ?_
        refine g_aloadN X46 H d6_80 rfl rfl ?_
        refine g_iload X46 H d6_81 rfl ?_
        refine g_baload X46 H hZ e46 F47 (.int 57) d6_83 ⟨by decide, by decide⟩ rfl ?_
        refine g_cS X46 H hZ hml rfl hown e46 (rm7 l Z a0 hw [] (57 : Int32) h46 n0 Z46 (by unfold own_dg; decide)) (own_g hw 34 rfl) (own_g hw 35 rfl) (own_g hw 4 rfl) (own_g hw 36 rfl) (by decide) own_pd0 d6_84 rfl rfl rfl (W := 0) rfl (by decide) ?_
        intro _ T51 Lc51 X51 hQ51
        obtain ⟨rfl, Nq51, hh51⟩ := hQ51
        obtain ⟨lc51, Xh51, N51⟩ := own_hide X51 (Fr.app N46 Nq51)
        clear X51
        refine g_ifNo Xh51 H d6_87 ((if0 _ _).trans (feq (by decide : ¬ ((1 : Int32) = (0 : Int32)))).1) ?_
        refine g_iinc Xh51 H d6_90 rfl #[vr ob, vi 5, vr b6, vr b11, vr b17, vi 1, vi 5, vi ((1 : Int32) + (1 : Int32)), vi 4, vj 8, v2, vi 2] rfl ?_
        refine g_goto Xh51 H d6_93 73 (by decide) ?_
        refine g_iload Xh51 H d6_73 rfl ?_
        refine g_aloadN Xh51 H d6_75 rfl rfl ?_
        show Go p.tables e below P T51 (mkF m 76 #[vr ob, vi 5, vr b6, vr b11, vr b17, vi 1, vi 5, vi ((1 : Int32) + (1 : Int32)), vi 4, vj 8, v2, vi 2] [(.ref ob), (.int 5)])
        refine g_len Xh51 H hZ hh51 F47 d6_76 ?_
        refine g_icmpNo Xh51 H d6_77 (tlt (by decide : (5 : Int32) < (26 : Int32))).2.1 ?_
        refine g_aloadN Xh51 H d6_80 rfl rfl ?_
        refine g_iload Xh51 H d6_81 rfl ?_
        refine g_baload Xh51 H hZ hh51 F47 (.int 61) d6_83 ⟨by decide, by decide⟩ rfl ?_
        refine g_cS Xh51 H hZ hml rfl hown hh51 (rm7n l Z a0 hw []  h46 n0 Z46 ) (own_g hw 34 rfl) (own_g hw 35 rfl) (own_g hw 4 rfl) (own_g hw 36 rfl) (by decide) own_pd0 d6_84 rfl rfl rfl (W := 0) rfl (by decide) ?_
        intro _ T54 Lc54 X54 hQ54
        obtain ⟨rfl, Nq54, hh54⟩ := hQ54
        obtain ⟨lc54, Xh54, N54⟩ := own_hide X54 (Fr.app N51 Nq54)
        clear X54
        refine g_ifYes Xh54 H d6_87 96 ((if0 _ _).trans (teq (rfl : (0 : Int32) = (0 : Int32))).1) (by decide) ?_
        refine g_iload Xh54 H d6_96 rfl ?_
        refine g_iload Xh54 H d6_98 rfl ?_
        refine g_icmpNo Xh54 H d6_100 (feq (by decide : ¬ ((5 : Int32) = (4 : Int32)))).1 ?_
        refine g_iload Xh54 H d6_103 rfl ?_
        refine g_aloadN Xh54 H d6_105 rfl rfl ?_
        refine g_len Xh54 H hZ hh54 F47 d6_106 ?_
        show Go p.tables e below P T54 (mkF m 107 #[vr ob, vi 5, vr b6, vr b11, vr b17, vi 1, vi 5, vi ((1 : Int32) + (1 : Int32)), vi 4, vj 8, v2, vi 2] [(.int 26), (.int 5)])
        refine g_icmpNo Xh54 H d6_107 (feq (by decide : ¬ ((5 : Int32) = (26 : Int32)))).1 ?_
        refine g_aloadN Xh54 H d6_110 rfl rfl ?_
        refine g_iload Xh54 H d6_111 rfl ?_
        refine g_baload Xh54 H hZ hh54 F47 (.int 61) d6_113 ⟨by decide, by decide⟩ rfl ?_
        refine g_bipush Xh54 H d6_114 61 rfl ?_
        refine g_icmpYes Xh54 H d6_116 152 (teq (rfl : (61 : Int32) = (61 : Int32))).1 (by decide) ?_
        refine g_aloadN Xh54 H d6_152 rfl rfl ?_
        refine g_iload Xh54 H d6_153 rfl ?_
        refine g_iload Xh54 H d6_155 rfl ?_
        refine g_cS Xh54 H hZ hml rfl hown hh54 (rm8v4 l Z a0 hw [] ob kk qa qb qv ya yb yc h46 n0 Z46 F47) (own_g hw 37 rfl) (own_g hw 38 rfl) (own_g hw 4 rfl) (own_g hw 39 rfl) (by decide) own_pd2 d6_157 rfl rfl rfl (W := 0) rfl (by decide) ?_
        intro _ T57 Lc57 X57 hQ57
        obtain ⟨rfl, Nq57, hh57⟩ := hQ57
        obtain ⟨lc57, Xh57, N57⟩ := own_hide X57 (Fr.app N54 Nq57)
        clear X57
        refine g_lstore Xh57 H d6_160 #[vr ob, vi 5, vr b6, vr b11, vr b17, vi 1, vi 5, vi ((1 : Int32) + (1 : Int32)), vi 4, vj 9, v2, vi 2] rfl ?_
        refine g_lload Xh57 H d6_162 rfl ?_
        refine g_lconst Xh57 H d6_164 0 rfl ?_
        show Go p.tables e below P T57 (mkF m 165 #[vr ob, vi 5, vr b6, vr b11, vr b17, vi 1, vi 5, vi ((1 : Int32) + (1 : Int32)), vi 4, vj 9, v2, vi 2] [(.long 0), (.long 9)])
        refine g_lcmp Xh57 H d6_165 ?_
        refine g_ifNo Xh57 H d6_166 ((if0 _ _).trans (feq (by decide)).1) ?_
        refine g_lload Xh57 H d6_169 rfl ?_
        refine g_ldcJ Xh57 H hZ hown (own_g hw 41 rfl) d6_171 ?_
        refine g_lcmp Xh57 H d6_174 ?_
        refine g_ifYes Xh57 H d6_175 241 ((if0 _ _).trans (feq (by decide)).2) (by decide) ?_
        refine g_iinc Xh57 H d6_241 rfl #[vr ob, vi 5, vr b6, vr b11, vr b17, vi 1, vi 6, vi ((1 : Int32) + (1 : Int32)), vi 4, vj 9, v2, vi 2] rfl ?_
        refine g_iload Xh57 H d6_244 rfl ?_
        refine g_istore Xh57 H d6_246 #[vr ob, vi 5, vr b6, vr b11, vr b17, vi 1, vi 6, vi ((1 : Int32) + (1 : Int32)), vi 4, vj 9, v2, vi 6] rfl ?_
        refine g_iload Xh57 H d6_248 rfl ?_
        refine g_aloadN Xh57 H d6_250 rfl rfl ?_
        refine g_len Xh57 H hZ hh57 F47 d6_251 ?_
        refine g_icmpNo Xh57 H d6_252 (tlt (by decide : (6 : Int32) < (26 : Int32))).2.1 ?_
        show Go p.tables e below P T57 (mkF m 255 #[vr ob, vi 5, vr b6, vr b11, vr b17, vi 1, vi 6, vi ((1 : Int32) + (1 : Int32)), vi 4, vj 9, v2, vi 6] [])
        refine g_aloadN Xh57 H d6_255 rfl rfl ?_
        refine g_iload Xh57 H d6_256 rfl ?_
        refine g_baload Xh57 H hZ hh57 F47 (.int 49) d6_258 ⟨by decide, by decide⟩ rfl ?_
        refine g_iconst Xh57 H d6_259 1 rfl ?_
        refine g_icmpNo Xh57 H d6_260 (feq (by decide : ¬ ((49 : Int32) = (1 : Int32)))).1 ?_
        refine g_iinc Xh57 H d6_263 rfl #[vr ob, vi 5, vr b6, vr b11, vr b17, vi 1, vi 7, vi ((1 : Int32) + (1 : Int32)), vi 4, vj 9, v2, vi 6] rfl ?_
        refine g_goto Xh57 H d6_266 248 (by decide) ?_
        refine g_iload Xh57 H d6_248 rfl ?_
        refine g_aloadN Xh57 H d6_250 rfl rfl ?_
        refine g_len Xh57 H hZ hh57 F47 d6_251 ?_
        refine g_icmpNo Xh57 H d6_252 (tlt (by decide : (7 : Int32) < (26 : Int32))).2.1 ?_
        refine g_aloadN Xh57 H d6_255 rfl rfl ?_
        refine g_iload Xh57 H d6_256 rfl ?_
        show Go p.tables e below P T57 (mkF m 258 #[vr ob, vi 5, vr b6, vr b11, vr b17, vi 1, vi 7, vi ((1 : Int32) + (1 : Int32)), vi 4, vj 9, v2, vi 6] [(.int 7), (.ref ob)])
        refine g_baload Xh57 H hZ hh57 F47 (.int 48) d6_258 ⟨by decide, by decide⟩ rfl ?_
        refine g_iconst Xh57 H d6_259 1 rfl ?_
        refine g_icmpNo Xh57 H d6_260 (feq (by decide : ¬ ((48 : Int32) = (1 : Int32)))).1 ?_
        refine g_iinc Xh57 H d6_263 rfl #[vr ob, vi 5, vr b6, vr b11, vr b17, vi 1, vi 8, vi ((1 : Int32) + (1 : Int32)), vi 4, vj 9, v2, vi 6] rfl ?_
        refine g_goto Xh57 H d6_266 248 (by decide) ?_
        refine g_iload Xh57 H d6_248 rfl ?_
        refine g_aloadN Xh57 H d6_250 rfl rfl ?_
        refine g_len Xh57 H hZ hh57 F47 d6_251 ?_
        refine g_icmpNo Xh57 H d6_252 (tlt (by decide : (8 : Int32) < (26 : Int32))).2.1 ?_
        refine g_aloadN Xh57 H d6_255 rfl rfl ?_
        refine g_iload Xh57 H d6_256 rfl ?_
        refine g_baload Xh57 H hZ hh57 F47 (.int 1) d6_258 ⟨by decide, by decide⟩ rfl ?_
        refine g_iconst Xh57 H d6_259 1 rfl ?_
        show Go p.tables e below P T57 (mkF m 260 #[vr ob, vi 5, vr b6, vr b11, vr b17, vi 1, vi 8, vi ((1 : Int32) + (1 : Int32)), vi 4, vj 9, v2, vi 6] [(.int 1), (.int 1)])
        refine g_icmpYes Xh57 H d6_260 269 (teq (rfl : (1 : Int32) = (1 : Int32))).1 (by decide) ?_
        refine g_iload Xh57 H d6_269 rfl ?_
        refine g_aloadN Xh57 H d6_271 rfl rfl ?_
        refine g_len Xh57 H hZ hh57 F47 d6_272 ?_
        refine g_icmpYes Xh57 H d6_273 309 (feq (by decide : ¬ ((8 : Int32) = (26 : Int32)))).2 (by decide) ?_
        refine g_aloadN Xh57 H d6_309 rfl rfl ?_
        refine g_iload Xh57 H d6_310 rfl ?_
        refine g_lload Xh57 H d6_312 rfl ?_
        show Go p.tables e below P T57 (mkF m 314 #[vr ob, vi 5, vr b6, vr b11, vr b17, vi 1, vi 8, vi ((1 : Int32) + (1 : Int32)), vi 4, vj 9, v2, vi 6] [(.long 9), (.int 1), (.ref b6)])
        refine gv (fun t k => XS.l2i Xh57.here hx rfl (hb hby d6_314) rfl k) ?_
        show Go p.tables e below P T57 (mkF m 315 #[vr ob, vi 5, vr b6, vr b11, vr b17, vi 1, vi 8, vi ((1 : Int32) + (1 : Int32)), vi 4, vj 9, v2, vi 6] [(.int ((9 : Int64).toInt32)), (.int 1), (.ref b6)])
        rw [show (9 : Int64).toInt32 = (9 : Int32) from rfl]
        have F65 := ((V42.other W44 ne12).other W46 ne18)
        obtain ⟨T66, h66, lc66, X66, e66, N66, Z66, K66, W66, V66, st66⟩ := own_stI Xh57 hx hZ hh57 F65 N57 Z46 K46 g7 (Or.inr sz8) (j := (1 : Int32)) ⟨by decide, by decide⟩ (ji := 1) rfl (Nat.le_of_ble_eq_true rfl) (g := (mkF m 315 #[vr ob, vi 5, vr b6, vr b11, vr b17, vi 1, vi 8, vi ((1 : Int32) + (1 : Int32)), vi 4, vj 9, v2, vi 6] [(.int 9), (.int 1), (.ref b6)])) rfl rfl (hb hby d6_315)
        refine gv st66 ?_
        show Go p.tables e below P T66 (mkF m 316 #[vr ob, vi 5, vr b6, vr b11, vr b17, vi 1, vi 8, vi ((1 : Int32) + (1 : Int32)), vi 4, vj 9, v2, vi 6] [])
        refine g_aloadN X66 H d6_316 rfl rfl ?_
        refine g_iload X66 H d6_317 rfl ?_
        refine g_iload X66 H d6_319 rfl ?_
        have F67 := ((V44.other W46 ne20).other W66 (Ne.symm ne12))
        obtain ⟨T68, h68, lc68, X68, e68, N68, Z68, K68, W68, V68, st68⟩ := own_stI X66 hx hZ e66 F67 N66 Z66 K66 g13 (Or.inr sz14) (j := (1 : Int32)) ⟨by decide, by decide⟩ (ji := 1) rfl (Nat.le_of_ble_eq_true rfl) (g := (mkF m 321 #[vr ob, vi 5, vr b6, vr b11, vr b17, vi 1, vi 8, vi ((1 : Int32) + (1 : Int32)), vi 4, vj 9, v2, vi 6] [(.int 6), (.int 1), (.ref b11)])) rfl rfl (hb hby d6_321)
        refine gv st68 ?_
        show Go p.tables e below P T68 (mkF m 322 #[vr ob, vi 5, vr b6, vr b11, vr b17, vi 1, vi 8, vi ((1 : Int32) + (1 : Int32)), vi 4, vj 9, v2, vi 6] [])
        refine g_aload X68 H d6_322 rfl rfl ?_
        refine g_iload X68 H d6_324 rfl ?_
        refine g_iload X68 H d6_326 rfl ?_
        have F69 := ((V46.other W66 (Ne.symm ne18)).other W68 (Ne.symm ne20))
        obtain ⟨T70, h70, lc70, X70, e70, N70, Z70, K70, W70, V70, st70⟩ := own_stI X68 hx hZ e68 F69 N68 Z68 K68 g21 (Or.inr sz22) (j := (1 : Int32)) ⟨by decide, by decide⟩ (ji := 1) rfl (Nat.le_of_ble_eq_true rfl) (g := (mkF m 328 #[vr ob, vi 5, vr b6, vr b11, vr b17, vi 1, vi 8, vi ((1 : Int32) + (1 : Int32)), vi 4, vj 9, v2, vi 6] [(.int 8), (.int 1), (.ref b17)])) rfl rfl (hb hby d6_328)
        refine gv st70 ?_
        show Go p.tables e below P T70 (mkF m 329 #[vr ob, vi 5, vr b6, vr b11, vr b17, vi 1, vi 8, vi ((1 : Int32) + (1 : Int32)), vi 4, vj 9, v2, vi 6] [])
        refine g_iinc X70 H d6_329 rfl #[vr ob, vi 5, vr b6, vr b11, vr b17, vi 2, vi 8, vi ((1 : Int32) + (1 : Int32)), vi 4, vj 9, v2, vi 6] rfl ?_
        refine g_iinc X70 H d6_332 rfl #[vr ob, vi 5, vr b6, vr b11, vr b17, vi 2, vi 9, vi ((1 : Int32) + (1 : Int32)), vi 4, vj 9, v2, vi 6] rfl ?_
        refine g_goto X70 H d6_335 56 (by decide) ?_
        refine g_iload X70 H d6_56 rfl ?_
        refine g_aloadN X70 H d6_58 rfl rfl ?_
        have F71 := (((F47.other W66 (Nat.ne_of_lt (Nat.lt_of_lt_of_le P0.lt sz8))).other W68 (Nat.ne_of_lt (Nat.lt_of_lt_of_le P0.lt sz14))).other W70 (Nat.ne_of_lt (Nat.lt_of_lt_of_le P0.lt sz22)))
        refine g_len X70 H hZ e70 F71 d6_59 ?_
        refine g_icmpNo X70 H d6_60 (tlt (by decide : (9 : Int32) < (26 : Int32))).2.1 ?_
        refine g_iload X70 H d6_63 rfl ?_
        refine g_iconst X70 H d6_65 1 rfl ?_
        refine g_iadd X70 H d6_66 ?_
        refine g_istore X70 H d6_67 #[vr ob, vi 5, vr b6, vr b11, vr b17, vi 2, vi 9, vi ((2 : Int32) + (1 : Int32)), vi 4, vj 9, v2, vi 6] rfl ?_
        refine g_iload X70 H d6_69 rfl ?_
        refine g_istore X70 H d6_71 #[vr ob, vi 5, vr b6, vr b11, vr b17, vi 2, vi 9, vi ((2 : Int32) + (1 : Int32)), vi 9, vj 9, v2, vi 6] rfl ?_
        show Go p.tables e below P T70 (mkF m 73 #[vr ob, vi 5, vr b6, vr b11, vr b17, vi 2, vi 9, vi ((2 : Int32) + (1 : Int32)), vi 9, vj 9, v2, vi 6] [])
        refine g_iload X70 H d6_73 rfl ?_
        refine g_aloadN X70 H d6_75 rfl rfl ?_
        refine g_len X70 H hZ e70 F71 d6_76 ?_
        refine g_icmpNo X70 H d6_77 (tlt (by decide : (9 : Int32) < (26 : Int32))).2.1 ?_
        refine g_aloadN X70 H d6_80 rfl rfl ?_
        refine g_iload X70 H d6_81 rfl ?_
        refine g_baload X70 H hZ e70 F71 (.int 51) d6_83 ⟨by decide, by decide⟩ rfl ?_
        refine g_cS X70 H hZ hml rfl hown e70 (rm7 l Z a0 hw [] (51 : Int32) h70 n0 Z70 (by unfold own_dg; decide)) (own_g hw 34 rfl) (own_g hw 35 rfl) (own_g hw 4 rfl) (own_g hw 36 rfl) (by decide) own_pd0 d6_84 rfl rfl rfl (W := 0) rfl (by decide) ?_
        intro _ T75 Lc75 X75 hQ75
        obtain ⟨rfl, Nq75, hh75⟩ := hQ75
        obtain ⟨lc75, Xh75, N75⟩ := own_hide X75 (Fr.app N70 Nq75)
        clear X75
        refine g_ifNo Xh75 H d6_87 ((if0 _ _).trans (feq (by decide : ¬ ((1 : Int32) = (0 : Int32)))).1) ?_
        refine g_iinc Xh75 H d6_90 rfl #[vr ob, vi 5, vr b6, vr b11, vr b17, vi 2, vi 10, vi ((2 : Int32) + (1 : Int32)), vi 9, vj 9, v2, vi 6] rfl ?_
        refine g_goto Xh75 H d6_93 73 (by decide) ?_
        refine g_iload Xh75 H d6_73 rfl ?_
        refine g_aloadN Xh75 H d6_75 rfl rfl ?_
        show Go p.tables e below P T75 (mkF m 76 #[vr ob, vi 5, vr b6, vr b11, vr b17, vi 2, vi 10, vi ((2 : Int32) + (1 : Int32)), vi 9, vj 9, v2, vi 6] [(.ref ob), (.int 10)])
        refine g_len Xh75 H hZ hh75 F71 d6_76 ?_
        refine g_icmpNo Xh75 H d6_77 (tlt (by decide : (10 : Int32) < (26 : Int32))).2.1 ?_
        refine g_aloadN Xh75 H d6_80 rfl rfl ?_
        refine g_iload Xh75 H d6_81 rfl ?_
        refine g_baload Xh75 H hZ hh75 F71 (.int 53) d6_83 ⟨by decide, by decide⟩ rfl ?_
        refine g_cS Xh75 H hZ hml rfl hown hh75 (rm7 l Z a0 hw [] (53 : Int32) h70 n0 Z70 (by unfold own_dg; decide)) (own_g hw 34 rfl) (own_g hw 35 rfl) (own_g hw 4 rfl) (own_g hw 36 rfl) (by decide) own_pd0 d6_84 rfl rfl rfl (W := 0) rfl (by decide) ?_
        intro _ T78 Lc78 X78 hQ78
        obtain ⟨rfl, Nq78, hh78⟩ := hQ78
        obtain ⟨lc78, Xh78, N78⟩ := own_hide X78 (Fr.app N75 Nq78)
        clear X78
        refine g_ifNo Xh78 H d6_87 ((if0 _ _).trans (feq (by decide : ¬ ((1 : Int32) = (0 : Int32)))).1) ?_
        refine g_iinc Xh78 H d6_90 rfl #[vr ob, vi 5, vr b6, vr b11, vr b17, vi 2, vi 11, vi ((2 : Int32) + (1 : Int32)), vi 9, vj 9, v2, vi 6] rfl ?_
        refine g_goto Xh78 H d6_93 73 (by decide) ?_
        refine g_iload Xh78 H d6_73 rfl ?_
        refine g_aloadN Xh78 H d6_75 rfl rfl ?_
        refine g_len Xh78 H hZ hh78 F71 d6_76 ?_
        refine g_icmpNo Xh78 H d6_77 (tlt (by decide : (11 : Int32) < (26 : Int32))).2.1 ?_
        show Go p.tables e below P T78 (mkF m 80 #[vr ob, vi 5, vr b6, vr b11, vr b17, vi 2, vi 11, vi ((2 : Int32) + (1 : Int32)), vi 9, vj 9, v2, vi 6] [])
        refine g_aloadN Xh78 H d6_80 rfl rfl ?_
        refine g_iload Xh78 H d6_81 rfl ?_
        refine g_baload Xh78 H hZ hh78 F71 (.int 61) d6_83 ⟨by decide, by decide⟩ rfl ?_
        refine g_cS Xh78 H hZ hml rfl hown hh78 (rm7n l Z a0 hw []  h70 n0 Z70 ) (own_g hw 34 rfl) (own_g hw 35 rfl) (own_g hw 4 rfl) (own_g hw 36 rfl) (by decide) own_pd0 d6_84 rfl rfl rfl (W := 0) rfl (by decide) ?_
        intro _ T81 Lc81 X81 hQ81
        obtain ⟨rfl, Nq81, hh81⟩ := hQ81
        obtain ⟨lc81, Xh81, N81⟩ := own_hide X81 (Fr.app N78 Nq81)
        clear X81
        refine g_ifYes Xh81 H d6_87 96 ((if0 _ _).trans (teq (rfl : (0 : Int32) = (0 : Int32))).1) (by decide) ?_
        refine g_iload Xh81 H d6_96 rfl ?_
        refine g_iload Xh81 H d6_98 rfl ?_
        refine g_icmpNo Xh81 H d6_100 (feq (by decide : ¬ ((11 : Int32) = (9 : Int32)))).1 ?_
        refine g_iload Xh81 H d6_103 rfl ?_
        refine g_aloadN Xh81 H d6_105 rfl rfl ?_
        refine g_len Xh81 H hZ hh81 F71 d6_106 ?_
        refine g_icmpNo Xh81 H d6_107 (feq (by decide : ¬ ((11 : Int32) = (26 : Int32)))).1 ?_
        refine g_aloadN Xh81 H d6_110 rfl rfl ?_
        show Go p.tables e below P T81 (mkF m 111 #[vr ob, vi 5, vr b6, vr b11, vr b17, vi 2, vi 11, vi ((2 : Int32) + (1 : Int32)), vi 9, vj 9, v2, vi 6] [(.ref ob)])
        refine g_iload Xh81 H d6_111 rfl ?_
        refine g_baload Xh81 H hZ hh81 F71 (.int 61) d6_113 ⟨by decide, by decide⟩ rfl ?_
        refine g_bipush Xh81 H d6_114 61 rfl ?_
        refine g_icmpYes Xh81 H d6_116 152 (teq (rfl : (61 : Int32) = (61 : Int32))).1 (by decide) ?_
        refine g_aloadN Xh81 H d6_152 rfl rfl ?_
        refine g_iload Xh81 H d6_153 rfl ?_
        refine g_iload Xh81 H d6_155 rfl ?_
        refine g_cS Xh81 H hZ hml rfl hown hh81 (rm8v9 l Z a0 hw [] ob kk qa qb qv ya yb yc h70 n0 Z70 F71) (own_g hw 37 rfl) (own_g hw 38 rfl) (own_g hw 4 rfl) (own_g hw 39 rfl) (by decide) own_pd2 d6_157 rfl rfl rfl (W := 0) rfl (by decide) ?_
        intro _ T84 Lc84 X84 hQ84
        obtain ⟨rfl, Nq84, hh84⟩ := hQ84
        obtain ⟨lc84, Xh84, N84⟩ := own_hide X84 (Fr.app N81 Nq84)
        clear X84
        refine g_lstore Xh84 H d6_160 #[vr ob, vi 5, vr b6, vr b11, vr b17, vi 2, vi 11, vi ((2 : Int32) + (1 : Int32)), vi 9, vj 35, v2, vi 6] rfl ?_
        refine g_lload Xh84 H d6_162 rfl ?_
        refine g_lconst Xh84 H d6_164 0 rfl ?_
        refine g_lcmp Xh84 H d6_165 ?_
        refine g_ifNo Xh84 H d6_166 ((if0 _ _).trans (feq (by decide)).1) ?_
        show Go p.tables e below P T84 (mkF m 169 #[vr ob, vi 5, vr b6, vr b11, vr b17, vi 2, vi 11, vi ((2 : Int32) + (1 : Int32)), vi 9, vj 35, v2, vi 6] [])
        refine g_lload Xh84 H d6_169 rfl ?_
        refine g_ldcJ Xh84 H hZ hown (own_g hw 41 rfl) d6_171 ?_
        refine g_lcmp Xh84 H d6_174 ?_
        refine g_ifYes Xh84 H d6_175 241 ((if0 _ _).trans (feq (by decide)).2) (by decide) ?_
        refine g_iinc Xh84 H d6_241 rfl #[vr ob, vi 5, vr b6, vr b11, vr b17, vi 2, vi 12, vi ((2 : Int32) + (1 : Int32)), vi 9, vj 35, v2, vi 6] rfl ?_
        refine g_iload Xh84 H d6_244 rfl ?_
        refine g_istore Xh84 H d6_246 #[vr ob, vi 5, vr b6, vr b11, vr b17, vi 2, vi 12, vi ((2 : Int32) + (1 : Int32)), vi 9, vj 35, v2, vi 12] rfl ?_
        refine g_iload Xh84 H d6_248 rfl ?_
        refine g_aloadN Xh84 H d6_250 rfl rfl ?_
        refine g_len Xh84 H hZ hh84 F71 d6_251 ?_
        refine g_icmpNo Xh84 H d6_252 (tlt (by decide : (12 : Int32) < (26 : Int32))).2.1 ?_
        refine g_aloadN Xh84 H d6_255 rfl rfl ?_
        refine g_iload Xh84 H d6_256 rfl ?_
        show Go p.tables e below P T84 (mkF m 258 #[vr ob, vi 5, vr b6, vr b11, vr b17, vi 2, vi 12, vi ((2 : Int32) + (1 : Int32)), vi 9, vj 35, v2, vi 12] [(.int 12), (.ref ob)])
        refine g_baload Xh84 H hZ hh84 F71 (.int 65) d6_258 ⟨by decide, by decide⟩ rfl ?_
        refine g_iconst Xh84 H d6_259 1 rfl ?_
        refine g_icmpNo Xh84 H d6_260 (feq (by decide : ¬ ((65 : Int32) = (1 : Int32)))).1 ?_
        refine g_iinc Xh84 H d6_263 rfl #[vr ob, vi 5, vr b6, vr b11, vr b17, vi 2, vi 13, vi ((2 : Int32) + (1 : Int32)), vi 9, vj 35, v2, vi 12] rfl ?_
        refine g_goto Xh84 H d6_266 248 (by decide) ?_
        refine g_iload Xh84 H d6_248 rfl ?_
        refine g_aloadN Xh84 H d6_250 rfl rfl ?_
        refine g_len Xh84 H hZ hh84 F71 d6_251 ?_
        refine g_icmpNo Xh84 H d6_252 (tlt (by decide : (13 : Int32) < (26 : Int32))).2.1 ?_
        refine g_aloadN Xh84 H d6_255 rfl rfl ?_
        refine g_iload Xh84 H d6_256 rfl ?_
        refine g_baload Xh84 H hZ hh84 F71 (.int 1) d6_258 ⟨by decide, by decide⟩ rfl ?_
        refine g_iconst Xh84 H d6_259 1 rfl ?_
        show Go p.tables e below P T84 (mkF m 260 #[vr ob, vi 5, vr b6, vr b11, vr b17, vi 2, vi 13, vi ((2 : Int32) + (1 : Int32)), vi 9, vj 35, v2, vi 12] [(.int 1), (.int 1)])
        refine g_icmpYes Xh84 H d6_260 269 (teq (rfl : (1 : Int32) = (1 : Int32))).1 (by decide) ?_
        refine g_iload Xh84 H d6_269 rfl ?_
        refine g_aloadN Xh84 H d6_271 rfl rfl ?_
        refine g_len Xh84 H hZ hh84 F71 d6_272 ?_
        refine g_icmpYes Xh84 H d6_273 309 (feq (by decide : ¬ ((13 : Int32) = (26 : Int32)))).2 (by decide) ?_
        refine g_aloadN Xh84 H d6_309 rfl rfl ?_
        refine g_iload Xh84 H d6_310 rfl ?_
        refine g_lload Xh84 H d6_312 rfl ?_
        show Go p.tables e below P T84 (mkF m 314 #[vr ob, vi 5, vr b6, vr b11, vr b17, vi 2, vi 13, vi ((2 : Int32) + (1 : Int32)), vi 9, vj 35, v2, vi 12] [(.long 35), (.int 2), (.ref b6)])
        refine gv (fun t k => XS.l2i Xh84.here hx rfl (hb hby d6_314) rfl k) ?_
        show Go p.tables e below P T84 (mkF m 315 #[vr ob, vi 5, vr b6, vr b11, vr b17, vi 2, vi 13, vi ((2 : Int32) + (1 : Int32)), vi 9, vj 35, v2, vi 12] [(.int ((35 : Int64).toInt32)), (.int 2), (.ref b6)])
        rw [show (35 : Int64).toInt32 = (35 : Int32) from rfl]
        have F90 := ((V66.other W68 ne12).other W70 ne18)
        obtain ⟨T91, h91, lc91, X91, e91, N91, Z91, K91, W91, V91, st91⟩ := own_stI Xh84 hx hZ hh84 F90 N84 Z70 K70 g7 (Or.inr sz8) (j := (2 : Int32)) ⟨by decide, by decide⟩ (ji := 2) rfl (Nat.le_of_ble_eq_true rfl) (g := (mkF m 315 #[vr ob, vi 5, vr b6, vr b11, vr b17, vi 2, vi 13, vi ((2 : Int32) + (1 : Int32)), vi 9, vj 35, v2, vi 12] [(.int 35), (.int 2), (.ref b6)])) rfl rfl (hb hby d6_315)
        refine gv st91 ?_
        show Go p.tables e below P T91 (mkF m 316 #[vr ob, vi 5, vr b6, vr b11, vr b17, vi 2, vi 13, vi ((2 : Int32) + (1 : Int32)), vi 9, vj 35, v2, vi 12] [])
        refine g_aloadN X91 H d6_316 rfl rfl ?_
        refine g_iload X91 H d6_317 rfl ?_
        refine g_iload X91 H d6_319 rfl ?_
        have F92 := ((V68.other W70 ne20).other W91 (Ne.symm ne12))
        obtain ⟨T93, h93, lc93, X93, e93, N93, Z93, K93, W93, V93, st93⟩ := own_stI X91 hx hZ e91 F92 N91 Z91 K91 g13 (Or.inr sz14) (j := (2 : Int32)) ⟨by decide, by decide⟩ (ji := 2) rfl (Nat.le_of_ble_eq_true rfl) (g := (mkF m 321 #[vr ob, vi 5, vr b6, vr b11, vr b17, vi 2, vi 13, vi ((2 : Int32) + (1 : Int32)), vi 9, vj 35, v2, vi 12] [(.int 12), (.int 2), (.ref b11)])) rfl rfl (hb hby d6_321)
        refine gv st93 ?_
        show Go p.tables e below P T93 (mkF m 322 #[vr ob, vi 5, vr b6, vr b11, vr b17, vi 2, vi 13, vi ((2 : Int32) + (1 : Int32)), vi 9, vj 35, v2, vi 12] [])
        refine g_aload X93 H d6_322 rfl rfl ?_
        refine g_iload X93 H d6_324 rfl ?_
        refine g_iload X93 H d6_326 rfl ?_
        have F94 := ((V70.other W91 (Ne.symm ne18)).other W93 (Ne.symm ne20))
        obtain ⟨T95, h95, lc95, X95, e95, N95, Z95, K95, W95, V95, st95⟩ := own_stI X93 hx hZ e93 F94 N93 Z93 K93 g21 (Or.inr sz22) (j := (2 : Int32)) ⟨by decide, by decide⟩ (ji := 2) rfl (Nat.le_of_ble_eq_true rfl) (g := (mkF m 328 #[vr ob, vi 5, vr b6, vr b11, vr b17, vi 2, vi 13, vi ((2 : Int32) + (1 : Int32)), vi 9, vj 35, v2, vi 12] [(.int 13), (.int 2), (.ref b17)])) rfl rfl (hb hby d6_328)
        refine gv st95 ?_
        show Go p.tables e below P T95 (mkF m 329 #[vr ob, vi 5, vr b6, vr b11, vr b17, vi 2, vi 13, vi ((2 : Int32) + (1 : Int32)), vi 9, vj 35, v2, vi 12] [])
        refine g_iinc X95 H d6_329 rfl #[vr ob, vi 5, vr b6, vr b11, vr b17, vi 3, vi 13, vi ((2 : Int32) + (1 : Int32)), vi 9, vj 35, v2, vi 12] rfl ?_
        refine g_iinc X95 H d6_332 rfl #[vr ob, vi 5, vr b6, vr b11, vr b17, vi 3, vi 14, vi ((2 : Int32) + (1 : Int32)), vi 9, vj 35, v2, vi 12] rfl ?_
        refine g_goto X95 H d6_335 56 (by decide) ?_
        refine g_iload X95 H d6_56 rfl ?_
        refine g_aloadN X95 H d6_58 rfl rfl ?_
        have F96 := (((F71.other W91 (Nat.ne_of_lt (Nat.lt_of_lt_of_le P0.lt sz8))).other W93 (Nat.ne_of_lt (Nat.lt_of_lt_of_le P0.lt sz14))).other W95 (Nat.ne_of_lt (Nat.lt_of_lt_of_le P0.lt sz22)))
        refine g_len X95 H hZ e95 F96 d6_59 ?_
        refine g_icmpNo X95 H d6_60 (tlt (by decide : (14 : Int32) < (26 : Int32))).2.1 ?_
        refine g_iload X95 H d6_63 rfl ?_
        refine g_iconst X95 H d6_65 1 rfl ?_
        refine g_iadd X95 H d6_66 ?_
        refine g_istore X95 H d6_67 #[vr ob, vi 5, vr b6, vr b11, vr b17, vi 3, vi 14, vi ((3 : Int32) + (1 : Int32)), vi 9, vj 35, v2, vi 12] rfl ?_
        refine g_iload X95 H d6_69 rfl ?_
        refine g_istore X95 H d6_71 #[vr ob, vi 5, vr b6, vr b11, vr b17, vi 3, vi 14, vi ((3 : Int32) + (1 : Int32)), vi 14, vj 35, v2, vi 12] rfl ?_
        show Go p.tables e below P T95 (mkF m 73 #[vr ob, vi 5, vr b6, vr b11, vr b17, vi 3, vi 14, vi ((3 : Int32) + (1 : Int32)), vi 14, vj 35, v2, vi 12] [])
        refine g_iload X95 H d6_73 rfl ?_
        refine g_aloadN X95 H d6_75 rfl rfl ?_
        refine g_len X95 H hZ e95 F96 d6_76 ?_
        refine g_icmpNo X95 H d6_77 (tlt (by decide : (14 : Int32) < (26 : Int32))).2.1 ?_
        refine g_aloadN X95 H d6_80 rfl rfl ?_
        refine g_iload X95 H d6_81 rfl ?_
        refine g_baload X95 H hZ e95 F96 (.int qa) d6_83 ⟨by decide, by decide⟩ rfl ?_
        refine g_cS X95 H hZ hml rfl hown e95 (rm7 l Z a0 hw [] qa h95 n0 Z95 d_qa) (own_g hw 34 rfl) (own_g hw 35 rfl) (own_g hw 4 rfl) (own_g hw 36 rfl) (by decide) own_pd0 d6_84 rfl rfl rfl (W := 0) rfl (by decide) ?_
        intro _ T100 Lc100 X100 hQ100
        obtain ⟨rfl, Nq100, hh100⟩ := hQ100
        obtain ⟨lc100, Xh100, N100⟩ := own_hide X100 (Fr.app N95 Nq100)
        clear X100
        refine g_ifNo Xh100 H d6_87 ((if0 _ _).trans (feq (by decide : ¬ ((1 : Int32) = (0 : Int32)))).1) ?_
        refine g_iinc Xh100 H d6_90 rfl #[vr ob, vi 5, vr b6, vr b11, vr b17, vi 3, vi 15, vi ((3 : Int32) + (1 : Int32)), vi 14, vj 35, v2, vi 12] rfl ?_
        refine g_goto Xh100 H d6_93 73 (by decide) ?_
        refine g_iload Xh100 H d6_73 rfl ?_
        refine g_aloadN Xh100 H d6_75 rfl rfl ?_
        show Go p.tables e below P T100 (mkF m 76 #[vr ob, vi 5, vr b6, vr b11, vr b17, vi 3, vi 15, vi ((3 : Int32) + (1 : Int32)), vi 14, vj 35, v2, vi 12] [(.ref ob), (.int 15)])
        refine g_len Xh100 H hZ hh100 F96 d6_76 ?_
        refine g_icmpNo Xh100 H d6_77 (tlt (by decide : (15 : Int32) < (26 : Int32))).2.1 ?_
        refine g_aloadN Xh100 H d6_80 rfl rfl ?_
        refine g_iload Xh100 H d6_81 rfl ?_
        refine g_baload Xh100 H hZ hh100 F96 (.int qb) d6_83 ⟨by decide, by decide⟩ rfl ?_
        refine g_cS Xh100 H hZ hml rfl hown hh100 (rm7 l Z a0 hw [] qb h95 n0 Z95 d_qb) (own_g hw 34 rfl) (own_g hw 35 rfl) (own_g hw 4 rfl) (own_g hw 36 rfl) (by decide) own_pd0 d6_84 rfl rfl rfl (W := 0) rfl (by decide) ?_
        intro _ T103 Lc103 X103 hQ103
        obtain ⟨rfl, Nq103, hh103⟩ := hQ103
        obtain ⟨lc103, Xh103, N103⟩ := own_hide X103 (Fr.app N100 Nq103)
        clear X103
        refine g_ifNo Xh103 H d6_87 ((if0 _ _).trans (feq (by decide : ¬ ((1 : Int32) = (0 : Int32)))).1) ?_
        refine g_iinc Xh103 H d6_90 rfl #[vr ob, vi 5, vr b6, vr b11, vr b17, vi 3, vi 16, vi ((3 : Int32) + (1 : Int32)), vi 14, vj 35, v2, vi 12] rfl ?_
        refine g_goto Xh103 H d6_93 73 (by decide) ?_
        refine g_iload Xh103 H d6_73 rfl ?_
        refine g_aloadN Xh103 H d6_75 rfl rfl ?_
        refine g_len Xh103 H hZ hh103 F96 d6_76 ?_
        refine g_icmpNo Xh103 H d6_77 (tlt (by decide : (16 : Int32) < (26 : Int32))).2.1 ?_
        show Go p.tables e below P T103 (mkF m 80 #[vr ob, vi 5, vr b6, vr b11, vr b17, vi 3, vi 16, vi ((3 : Int32) + (1 : Int32)), vi 14, vj 35, v2, vi 12] [])
        refine g_aloadN Xh103 H d6_80 rfl rfl ?_
        refine g_iload Xh103 H d6_81 rfl ?_
        refine g_baload Xh103 H hZ hh103 F96 (.int 61) d6_83 ⟨by decide, by decide⟩ rfl ?_
        refine g_cS Xh103 H hZ hml rfl hown hh103 (rm7n l Z a0 hw []  h95 n0 Z95 ) (own_g hw 34 rfl) (own_g hw 35 rfl) (own_g hw 4 rfl) (own_g hw 36 rfl) (by decide) own_pd0 d6_84 rfl rfl rfl (W := 0) rfl (by decide) ?_
        intro _ T106 Lc106 X106 hQ106
        obtain ⟨rfl, Nq106, hh106⟩ := hQ106
        obtain ⟨lc106, Xh106, N106⟩ := own_hide X106 (Fr.app N103 Nq106)
        clear X106
        refine g_ifYes Xh106 H d6_87 96 ((if0 _ _).trans (teq (rfl : (0 : Int32) = (0 : Int32))).1) (by decide) ?_
        refine g_iload Xh106 H d6_96 rfl ?_
        refine g_iload Xh106 H d6_98 rfl ?_
        refine g_icmpNo Xh106 H d6_100 (feq (by decide : ¬ ((16 : Int32) = (14 : Int32)))).1 ?_
        refine g_iload Xh106 H d6_103 rfl ?_
        refine g_aloadN Xh106 H d6_105 rfl rfl ?_
        refine g_len Xh106 H hZ hh106 F96 d6_106 ?_
        refine g_icmpNo Xh106 H d6_107 (feq (by decide : ¬ ((16 : Int32) = (26 : Int32)))).1 ?_
        refine g_aloadN Xh106 H d6_110 rfl rfl ?_
        show Go p.tables e below P T106 (mkF m 111 #[vr ob, vi 5, vr b6, vr b11, vr b17, vi 3, vi 16, vi ((3 : Int32) + (1 : Int32)), vi 14, vj 35, v2, vi 12] [(.ref ob)])
        refine g_iload Xh106 H d6_111 rfl ?_
        refine g_baload Xh106 H hZ hh106 F96 (.int 61) d6_113 ⟨by decide, by decide⟩ rfl ?_
        refine g_bipush Xh106 H d6_114 61 rfl ?_
        refine g_icmpYes Xh106 H d6_116 152 (teq (rfl : (61 : Int32) = (61 : Int32))).1 (by decide) ?_
        refine g_aloadN Xh106 H d6_152 rfl rfl ?_
        refine g_iload Xh106 H d6_153 rfl ?_
        refine g_iload Xh106 H d6_155 rfl ?_
        refine g_cS Xh106 H hZ hml rfl hown hh106 (rm8v14 l Z a0 hw [] ob kk qa qb qv ya yb yc h95 n0 Z95 F96 d_qa d_qb) (own_g hw 37 rfl) (own_g hw 38 rfl) (own_g hw 4 rfl) (own_g hw 39 rfl) (by decide) own_pd2 d6_157 rfl rfl rfl (W := 0) rfl (by decide) ?_
        intro _ T109 Lc109 X109 hQ109
        obtain ⟨rfl, Nq109, hh109⟩ := hQ109
        obtain ⟨lc109, Xh109, N109⟩ := own_hide X109 (Fr.app N106 Nq109)
        clear X109
        refine g_lstore Xh109 H d6_160 #[vr ob, vi 5, vr b6, vr b11, vr b17, vi 3, vi 16, vi ((3 : Int32) + (1 : Int32)), vi 14, vj (own_d (own_d (0 : Int64) qa) qb), v2, vi 12] rfl ?_
        refine g_lload Xh109 H d6_162 rfl ?_
        refine g_lconst Xh109 H d6_164 0 rfl ?_
        refine g_lcmp Xh109 H d6_165 ?_
        refine g_ifNo Xh109 H d6_166 ((if0 _ _).trans (feq hq0).1) ?_
        show Go p.tables e below P T109 (mkF m 169 #[vr ob, vi 5, vr b6, vr b11, vr b17, vi 3, vi 16, vi ((3 : Int32) + (1 : Int32)), vi 14, vj (own_d (own_d (0 : Int64) qa) qb), v2, vi 12] [])
        refine g_lload Xh109 H d6_169 rfl ?_
        refine g_ldcJ Xh109 H hZ hown (own_g hw 41 rfl) d6_171 ?_
        refine g_lcmp Xh109 H d6_174 ?_
        refine g_ifYes Xh109 H d6_175 241 ((if0 _ _).trans (feq hq1).2) (by decide) ?_
        refine g_iinc Xh109 H d6_241 rfl #[vr ob, vi 5, vr b6, vr b11, vr b17, vi 3, vi 17, vi ((3 : Int32) + (1 : Int32)), vi 14, vj (own_d (own_d (0 : Int64) qa) qb), v2, vi 12] rfl ?_
        refine g_iload Xh109 H d6_244 rfl ?_
        refine g_istore Xh109 H d6_246 #[vr ob, vi 5, vr b6, vr b11, vr b17, vi 3, vi 17, vi ((3 : Int32) + (1 : Int32)), vi 14, vj (own_d (own_d (0 : Int64) qa) qb), v2, vi 17] rfl ?_
        refine g_iload Xh109 H d6_248 rfl ?_
        refine g_aloadN Xh109 H d6_250 rfl rfl ?_
        refine g_len Xh109 H hZ hh109 F96 d6_251 ?_
        refine g_icmpNo Xh109 H d6_252 (tlt (by decide : (17 : Int32) < (26 : Int32))).2.1 ?_
        refine g_aloadN Xh109 H d6_255 rfl rfl ?_
        refine g_iload Xh109 H d6_256 rfl ?_
        show Go p.tables e below P T109 (mkF m 258 #[vr ob, vi 5, vr b6, vr b11, vr b17, vi 3, vi 17, vi ((3 : Int32) + (1 : Int32)), vi 14, vj (own_d (own_d (0 : Int64) qa) qb), v2, vi 17] [(.int 17), (.ref ob)])
        refine g_baload Xh109 H hZ hh109 F96 (.int qv) d6_258 ⟨by decide, by decide⟩ rfl ?_
        refine g_iconst Xh109 H d6_259 1 rfl ?_
        refine g_icmpNo Xh109 H d6_260 (feq nv1).1 ?_
        refine g_iinc Xh109 H d6_263 rfl #[vr ob, vi 5, vr b6, vr b11, vr b17, vi 3, vi 18, vi ((3 : Int32) + (1 : Int32)), vi 14, vj (own_d (own_d (0 : Int64) qa) qb), v2, vi 17] rfl ?_
        refine g_goto Xh109 H d6_266 248 (by decide) ?_
        refine g_iload Xh109 H d6_248 rfl ?_
        refine g_aloadN Xh109 H d6_250 rfl rfl ?_
        refine g_len Xh109 H hZ hh109 F96 d6_251 ?_
        refine g_icmpNo Xh109 H d6_252 (tlt (by decide : (18 : Int32) < (26 : Int32))).2.1 ?_
        refine g_aloadN Xh109 H d6_255 rfl rfl ?_
        refine g_iload Xh109 H d6_256 rfl ?_
        refine g_baload Xh109 H hZ hh109 F96 (.int 1) d6_258 ⟨by decide, by decide⟩ rfl ?_
        refine g_iconst Xh109 H d6_259 1 rfl ?_
        show Go p.tables e below P T109 (mkF m 260 #[vr ob, vi 5, vr b6, vr b11, vr b17, vi 3, vi 18, vi ((3 : Int32) + (1 : Int32)), vi 14, vj (own_d (own_d (0 : Int64) qa) qb), v2, vi 17] [(.int 1), (.int 1)])
        refine g_icmpYes Xh109 H d6_260 269 (teq (rfl : (1 : Int32) = (1 : Int32))).1 (by decide) ?_
        refine g_iload Xh109 H d6_269 rfl ?_
        refine g_aloadN Xh109 H d6_271 rfl rfl ?_
        refine g_len Xh109 H hZ hh109 F96 d6_272 ?_
        refine g_icmpYes Xh109 H d6_273 309 (feq (by decide : ¬ ((18 : Int32) = (26 : Int32)))).2 (by decide) ?_
        refine g_aloadN Xh109 H d6_309 rfl rfl ?_
        refine g_iload Xh109 H d6_310 rfl ?_
        refine g_lload Xh109 H d6_312 rfl ?_
        show Go p.tables e below P T109 (mkF m 314 #[vr ob, vi 5, vr b6, vr b11, vr b17, vi 3, vi 18, vi ((3 : Int32) + (1 : Int32)), vi 14, vj (own_d (own_d (0 : Int64) qa) qb), v2, vi 17] [(.long (own_d (own_d (0 : Int64) qa) qb)), (.int 3), (.ref b6)])
        refine gv (fun t k => XS.l2i Xh109.here hx rfl (hb hby d6_314) rfl k) ?_
        show Go p.tables e below P T109 (mkF m 315 #[vr ob, vi 5, vr b6, vr b11, vr b17, vi 3, vi 18, vi ((3 : Int32) + (1 : Int32)), vi 14, vj (own_d (own_d (0 : Int64) qa) qb), v2, vi 17] [(.int ((own_d (own_d (0 : Int64) qa) qb).toInt32)), (.int 3), (.ref b6)])
        have F115 := ((V91.other W93 ne12).other W95 ne18)
        obtain ⟨T116, h116, lc116, X116, e116, N116, Z116, K116, W116, V116, st116⟩ := own_stI Xh109 hx hZ hh109 F115 N109 Z95 K95 g7 (Or.inr sz8) (j := (3 : Int32)) ⟨by decide, by decide⟩ (ji := 3) rfl (Nat.le_of_ble_eq_true rfl) (g := (mkF m 315 #[vr ob, vi 5, vr b6, vr b11, vr b17, vi 3, vi 18, vi ((3 : Int32) + (1 : Int32)), vi 14, vj (own_d (own_d (0 : Int64) qa) qb), v2, vi 17] [(.int ((own_d (own_d (0 : Int64) qa) qb).toInt32)), (.int 3), (.ref b6)])) rfl rfl (hb hby d6_315)
        refine gv st116 ?_
        show Go p.tables e below P T116 (mkF m 316 #[vr ob, vi 5, vr b6, vr b11, vr b17, vi 3, vi 18, vi ((3 : Int32) + (1 : Int32)), vi 14, vj (own_d (own_d (0 : Int64) qa) qb), v2, vi 17] [])
        refine g_aloadN X116 H d6_316 rfl rfl ?_
        refine g_iload X116 H d6_317 rfl ?_
        refine g_iload X116 H d6_319 rfl ?_
        have F117 := ((V93.other W95 ne20).other W116 (Ne.symm ne12))
        obtain ⟨T118, h118, lc118, X118, e118, N118, Z118, K118, W118, V118, st118⟩ := own_stI X116 hx hZ e116 F117 N116 Z116 K116 g13 (Or.inr sz14) (j := (3 : Int32)) ⟨by decide, by decide⟩ (ji := 3) rfl (Nat.le_of_ble_eq_true rfl) (g := (mkF m 321 #[vr ob, vi 5, vr b6, vr b11, vr b17, vi 3, vi 18, vi ((3 : Int32) + (1 : Int32)), vi 14, vj (own_d (own_d (0 : Int64) qa) qb), v2, vi 17] [(.int 17), (.int 3), (.ref b11)])) rfl rfl (hb hby d6_321)
        refine gv st118 ?_
        show Go p.tables e below P T118 (mkF m 322 #[vr ob, vi 5, vr b6, vr b11, vr b17, vi 3, vi 18, vi ((3 : Int32) + (1 : Int32)), vi 14, vj (own_d (own_d (0 : Int64) qa) qb), v2, vi 17] [])
        refine g_aload X118 H d6_322 rfl rfl ?_
        refine g_iload X118 H d6_324 rfl ?_
        refine g_iload X118 H d6_326 rfl ?_
        have F119 := ((V95.other W116 (Ne.symm ne18)).other W118 (Ne.symm ne20))
        obtain ⟨T120, h120, lc120, X120, e120, N120, Z120, K120, W120, V120, st120⟩ := own_stI X118 hx hZ e118 F119 N118 Z118 K118 g21 (Or.inr sz22) (j := (3 : Int32)) ⟨by decide, by decide⟩ (ji := 3) rfl (Nat.le_of_ble_eq_true rfl) (g := (mkF m 328 #[vr ob, vi 5, vr b6, vr b11, vr b17, vi 3, vi 18, vi ((3 : Int32) + (1 : Int32)), vi 14, vj (own_d (own_d (0 : Int64) qa) qb), v2, vi 17] [(.int 18), (.int 3), (.ref b17)])) rfl rfl (hb hby d6_328)
        refine gv st120 ?_
        show Go p.tables e below P T120 (mkF m 329 #[vr ob, vi 5, vr b6, vr b11, vr b17, vi 3, vi 18, vi ((3 : Int32) + (1 : Int32)), vi 14, vj (own_d (own_d (0 : Int64) qa) qb), v2, vi 17] [])
        refine g_iinc X120 H d6_329 rfl #[vr ob, vi 5, vr b6, vr b11, vr b17, vi 4, vi 18, vi ((3 : Int32) + (1 : Int32)), vi 14, vj (own_d (own_d (0 : Int64) qa) qb), v2, vi 17] rfl ?_
        refine g_iinc X120 H d6_332 rfl #[vr ob, vi 5, vr b6, vr b11, vr b17, vi 4, vi 19, vi ((3 : Int32) + (1 : Int32)), vi 14, vj (own_d (own_d (0 : Int64) qa) qb), v2, vi 17] rfl ?_
        refine g_goto X120 H d6_335 56 (by decide) ?_
        refine g_iload X120 H d6_56 rfl ?_
        refine g_aloadN X120 H d6_58 rfl rfl ?_
        have F121 := (((F96.other W116 (Nat.ne_of_lt (Nat.lt_of_lt_of_le P0.lt sz8))).other W118 (Nat.ne_of_lt (Nat.lt_of_lt_of_le P0.lt sz14))).other W120 (Nat.ne_of_lt (Nat.lt_of_lt_of_le P0.lt sz22)))
        refine g_len X120 H hZ e120 F121 d6_59 ?_
        refine g_icmpNo X120 H d6_60 (tlt (by decide : (19 : Int32) < (26 : Int32))).2.1 ?_
        refine g_iload X120 H d6_63 rfl ?_
        refine g_iconst X120 H d6_65 1 rfl ?_
        refine g_iadd X120 H d6_66 ?_
        refine g_istore X120 H d6_67 #[vr ob, vi 5, vr b6, vr b11, vr b17, vi 4, vi 19, vi ((4 : Int32) + (1 : Int32)), vi 14, vj (own_d (own_d (0 : Int64) qa) qb), v2, vi 17] rfl ?_
        refine g_iload X120 H d6_69 rfl ?_
        refine g_istore X120 H d6_71 #[vr ob, vi 5, vr b6, vr b11, vr b17, vi 4, vi 19, vi ((4 : Int32) + (1 : Int32)), vi 19, vj (own_d (own_d (0 : Int64) qa) qb), v2, vi 17] rfl ?_
        show Go p.tables e below P T120 (mkF m 73 #[vr ob, vi 5, vr b6, vr b11, vr b17, vi 4, vi 19, vi ((4 : Int32) + (1 : Int32)), vi 19, vj (own_d (own_d (0 : Int64) qa) qb), v2, vi 17] [])
        refine g_iload X120 H d6_73 rfl ?_
        refine g_aloadN X120 H d6_75 rfl rfl ?_
        refine g_len X120 H hZ e120 F121 d6_76 ?_
        refine g_icmpNo X120 H d6_77 (tlt (by decide : (19 : Int32) < (26 : Int32))).2.1 ?_
        refine g_aloadN X120 H d6_80 rfl rfl ?_
        refine g_iload X120 H d6_81 rfl ?_
        refine g_baload X120 H hZ e120 F121 (.int 49) d6_83 ⟨by decide, by decide⟩ rfl ?_
        refine g_cS X120 H hZ hml rfl hown e120 (rm7 l Z a0 hw [] (49 : Int32) h120 n0 Z120 (by unfold own_dg; decide)) (own_g hw 34 rfl) (own_g hw 35 rfl) (own_g hw 4 rfl) (own_g hw 36 rfl) (by decide) own_pd0 d6_84 rfl rfl rfl (W := 0) rfl (by decide) ?_
        intro _ T125 Lc125 X125 hQ125
        obtain ⟨rfl, Nq125, hh125⟩ := hQ125
        obtain ⟨lc125, Xh125, N125⟩ := own_hide X125 (Fr.app N120 Nq125)
        clear X125
        refine g_ifNo Xh125 H d6_87 ((if0 _ _).trans (feq (by decide : ¬ ((1 : Int32) = (0 : Int32)))).1) ?_
        refine g_iinc Xh125 H d6_90 rfl #[vr ob, vi 5, vr b6, vr b11, vr b17, vi 4, vi 20, vi ((4 : Int32) + (1 : Int32)), vi 19, vj (own_d (own_d (0 : Int64) qa) qb), v2, vi 17] rfl ?_
        refine g_goto Xh125 H d6_93 73 (by decide) ?_
        refine g_iload Xh125 H d6_73 rfl ?_
        refine g_aloadN Xh125 H d6_75 rfl rfl ?_
        show Go p.tables e below P T125 (mkF m 76 #[vr ob, vi 5, vr b6, vr b11, vr b17, vi 4, vi 20, vi ((4 : Int32) + (1 : Int32)), vi 19, vj (own_d (own_d (0 : Int64) qa) qb), v2, vi 17] [(.ref ob), (.int 20)])
        refine g_len Xh125 H hZ hh125 F121 d6_76 ?_
        refine g_icmpNo Xh125 H d6_77 (tlt (by decide : (20 : Int32) < (26 : Int32))).2.1 ?_
        refine g_aloadN Xh125 H d6_80 rfl rfl ?_
        refine g_iload Xh125 H d6_81 rfl ?_
        refine g_baload Xh125 H hZ hh125 F121 (.int 48) d6_83 ⟨by decide, by decide⟩ rfl ?_
        refine g_cS Xh125 H hZ hml rfl hown hh125 (rm7 l Z a0 hw [] (48 : Int32) h120 n0 Z120 (by unfold own_dg; decide)) (own_g hw 34 rfl) (own_g hw 35 rfl) (own_g hw 4 rfl) (own_g hw 36 rfl) (by decide) own_pd0 d6_84 rfl rfl rfl (W := 0) rfl (by decide) ?_
        intro _ T128 Lc128 X128 hQ128
        obtain ⟨rfl, Nq128, hh128⟩ := hQ128
        obtain ⟨lc128, Xh128, N128⟩ := own_hide X128 (Fr.app N125 Nq128)
        clear X128
        refine g_ifNo Xh128 H d6_87 ((if0 _ _).trans (feq (by decide : ¬ ((1 : Int32) = (0 : Int32)))).1) ?_
        refine g_iinc Xh128 H d6_90 rfl #[vr ob, vi 5, vr b6, vr b11, vr b17, vi 4, vi 21, vi ((4 : Int32) + (1 : Int32)), vi 19, vj (own_d (own_d (0 : Int64) qa) qb), v2, vi 17] rfl ?_
        refine g_goto Xh128 H d6_93 73 (by decide) ?_
        refine g_iload Xh128 H d6_73 rfl ?_
        refine g_aloadN Xh128 H d6_75 rfl rfl ?_
        refine g_len Xh128 H hZ hh128 F121 d6_76 ?_
        refine g_icmpNo Xh128 H d6_77 (tlt (by decide : (21 : Int32) < (26 : Int32))).2.1 ?_
        show Go p.tables e below P T128 (mkF m 80 #[vr ob, vi 5, vr b6, vr b11, vr b17, vi 4, vi 21, vi ((4 : Int32) + (1 : Int32)), vi 19, vj (own_d (own_d (0 : Int64) qa) qb), v2, vi 17] [])
        refine g_aloadN Xh128 H d6_80 rfl rfl ?_
        refine g_iload Xh128 H d6_81 rfl ?_
        refine g_baload Xh128 H hZ hh128 F121 (.int 61) d6_83 ⟨by decide, by decide⟩ rfl ?_
        refine g_cS Xh128 H hZ hml rfl hown hh128 (rm7n l Z a0 hw []  h120 n0 Z120 ) (own_g hw 34 rfl) (own_g hw 35 rfl) (own_g hw 4 rfl) (own_g hw 36 rfl) (by decide) own_pd0 d6_84 rfl rfl rfl (W := 0) rfl (by decide) ?_
        intro _ T131 Lc131 X131 hQ131
        obtain ⟨rfl, Nq131, hh131⟩ := hQ131
        obtain ⟨lc131, Xh131, N131⟩ := own_hide X131 (Fr.app N128 Nq131)
        clear X131
        refine g_ifYes Xh131 H d6_87 96 ((if0 _ _).trans (teq (rfl : (0 : Int32) = (0 : Int32))).1) (by decide) ?_
        refine g_iload Xh131 H d6_96 rfl ?_
        refine g_iload Xh131 H d6_98 rfl ?_
        refine g_icmpNo Xh131 H d6_100 (feq (by decide : ¬ ((21 : Int32) = (19 : Int32)))).1 ?_
        refine g_iload Xh131 H d6_103 rfl ?_
        refine g_aloadN Xh131 H d6_105 rfl rfl ?_
        refine g_len Xh131 H hZ hh131 F121 d6_106 ?_
        refine g_icmpNo Xh131 H d6_107 (feq (by decide : ¬ ((21 : Int32) = (26 : Int32)))).1 ?_
        refine g_aloadN Xh131 H d6_110 rfl rfl ?_
        show Go p.tables e below P T131 (mkF m 111 #[vr ob, vi 5, vr b6, vr b11, vr b17, vi 4, vi 21, vi ((4 : Int32) + (1 : Int32)), vi 19, vj (own_d (own_d (0 : Int64) qa) qb), v2, vi 17] [(.ref ob)])
        refine g_iload Xh131 H d6_111 rfl ?_
        refine g_baload Xh131 H hZ hh131 F121 (.int 61) d6_113 ⟨by decide, by decide⟩ rfl ?_
        refine g_bipush Xh131 H d6_114 61 rfl ?_
        refine g_icmpYes Xh131 H d6_116 152 (teq (rfl : (61 : Int32) = (61 : Int32))).1 (by decide) ?_
        refine g_aloadN Xh131 H d6_152 rfl rfl ?_
        refine g_iload Xh131 H d6_153 rfl ?_
        refine g_iload Xh131 H d6_155 rfl ?_
        refine g_cS Xh131 H hZ hml rfl hown hh131 (rm8v19 l Z a0 hw [] ob kk qa qb qv ya yb yc h120 n0 Z120 F121) (own_g hw 37 rfl) (own_g hw 38 rfl) (own_g hw 4 rfl) (own_g hw 39 rfl) (by decide) own_pd2 d6_157 rfl rfl rfl (W := 0) rfl (by decide) ?_
        intro _ T134 Lc134 X134 hQ134
        obtain ⟨rfl, Nq134, hh134⟩ := hQ134
        obtain ⟨lc134, Xh134, N134⟩ := own_hide X134 (Fr.app N131 Nq134)
        clear X134
        refine g_lstore Xh134 H d6_160 #[vr ob, vi 5, vr b6, vr b11, vr b17, vi 4, vi 21, vi ((4 : Int32) + (1 : Int32)), vi 19, vj 10, v2, vi 17] rfl ?_
        refine g_lload Xh134 H d6_162 rfl ?_
        refine g_lconst Xh134 H d6_164 0 rfl ?_
        refine g_lcmp Xh134 H d6_165 ?_
        refine g_ifNo Xh134 H d6_166 ((if0 _ _).trans (feq (by decide)).1) ?_
        show Go p.tables e below P T134 (mkF m 169 #[vr ob, vi 5, vr b6, vr b11, vr b17, vi 4, vi 21, vi ((4 : Int32) + (1 : Int32)), vi 19, vj 10, v2, vi 17] [])
        refine g_lload Xh134 H d6_169 rfl ?_
        refine g_ldcJ Xh134 H hZ hown (own_g hw 41 rfl) d6_171 ?_
        refine g_lcmp Xh134 H d6_174 ?_
        refine g_ifYes Xh134 H d6_175 241 ((if0 _ _).trans (feq (by decide)).2) (by decide) ?_
        refine g_iinc Xh134 H d6_241 rfl #[vr ob, vi 5, vr b6, vr b11, vr b17, vi 4, vi 22, vi ((4 : Int32) + (1 : Int32)), vi 19, vj 10, v2, vi 17] rfl ?_
        refine g_iload Xh134 H d6_244 rfl ?_
        refine g_istore Xh134 H d6_246 #[vr ob, vi 5, vr b6, vr b11, vr b17, vi 4, vi 22, vi ((4 : Int32) + (1 : Int32)), vi 19, vj 10, v2, vi 22] rfl ?_
        refine g_iload Xh134 H d6_248 rfl ?_
        refine g_aloadN Xh134 H d6_250 rfl rfl ?_
        refine g_len Xh134 H hZ hh134 F121 d6_251 ?_
        refine g_icmpNo Xh134 H d6_252 (tlt (by decide : (22 : Int32) < (26 : Int32))).2.1 ?_
        refine g_aloadN Xh134 H d6_255 rfl rfl ?_
        refine g_iload Xh134 H d6_256 rfl ?_
        show Go p.tables e below P T134 (mkF m 258 #[vr ob, vi 5, vr b6, vr b11, vr b17, vi 4, vi 22, vi ((4 : Int32) + (1 : Int32)), vi 19, vj 10, v2, vi 22] [(.int 22), (.ref ob)])
        refine g_baload Xh134 H hZ hh134 F121 (.int ya) d6_258 ⟨by decide, by decide⟩ rfl ?_
        refine g_iconst Xh134 H d6_259 1 rfl ?_
        refine g_icmpNo Xh134 H d6_260 (feq (own_dg1 d_ya)).1 ?_
        refine g_iinc Xh134 H d6_263 rfl #[vr ob, vi 5, vr b6, vr b11, vr b17, vi 4, vi 23, vi ((4 : Int32) + (1 : Int32)), vi 19, vj 10, v2, vi 22] rfl ?_
        refine g_goto Xh134 H d6_266 248 (by decide) ?_
        refine g_iload Xh134 H d6_248 rfl ?_
        refine g_aloadN Xh134 H d6_250 rfl rfl ?_
        refine g_len Xh134 H hZ hh134 F121 d6_251 ?_
        refine g_icmpNo Xh134 H d6_252 (tlt (by decide : (23 : Int32) < (26 : Int32))).2.1 ?_
        refine g_aloadN Xh134 H d6_255 rfl rfl ?_
        refine g_iload Xh134 H d6_256 rfl ?_
        refine g_baload Xh134 H hZ hh134 F121 (.int yb) d6_258 ⟨by decide, by decide⟩ rfl ?_
        refine g_iconst Xh134 H d6_259 1 rfl ?_
        show Go p.tables e below P T134 (mkF m 260 #[vr ob, vi 5, vr b6, vr b11, vr b17, vi 4, vi 23, vi ((4 : Int32) + (1 : Int32)), vi 19, vj 10, v2, vi 22] [(.int 1), (.int yb)])
        refine g_icmpNo Xh134 H d6_260 (feq (own_dg1 d_yb)).1 ?_
        refine g_iinc Xh134 H d6_263 rfl #[vr ob, vi 5, vr b6, vr b11, vr b17, vi 4, vi 24, vi ((4 : Int32) + (1 : Int32)), vi 19, vj 10, v2, vi 22] rfl ?_
        refine g_goto Xh134 H d6_266 248 (by decide) ?_
        refine g_iload Xh134 H d6_248 rfl ?_
        refine g_aloadN Xh134 H d6_250 rfl rfl ?_
        refine g_len Xh134 H hZ hh134 F121 d6_251 ?_
        refine g_icmpNo Xh134 H d6_252 (tlt (by decide : (24 : Int32) < (26 : Int32))).2.1 ?_
        refine g_aloadN Xh134 H d6_255 rfl rfl ?_
        refine g_iload Xh134 H d6_256 rfl ?_
        refine g_baload Xh134 H hZ hh134 F121 (.int yc) d6_258 ⟨by decide, by decide⟩ rfl ?_
        refine g_iconst Xh134 H d6_259 1 rfl ?_
        refine g_icmpNo Xh134 H d6_260 (feq (own_dg1 d_yc)).1 ?_
        refine g_iinc Xh134 H d6_263 rfl #[vr ob, vi 5, vr b6, vr b11, vr b17, vi 4, vi 25, vi ((4 : Int32) + (1 : Int32)), vi 19, vj 10, v2, vi 22] rfl ?_
        show Go p.tables e below P T134 (mkF m 266 #[vr ob, vi 5, vr b6, vr b11, vr b17, vi 4, vi 25, vi ((4 : Int32) + (1 : Int32)), vi 19, vj 10, v2, vi 22] [])
        refine g_goto Xh134 H d6_266 248 (by decide) ?_
        refine g_iload Xh134 H d6_248 rfl ?_
        refine g_aloadN Xh134 H d6_250 rfl rfl ?_
        refine g_len Xh134 H hZ hh134 F121 d6_251 ?_
        refine g_icmpNo Xh134 H d6_252 (tlt (by decide : (25 : Int32) < (26 : Int32))).2.1 ?_
        refine g_aloadN Xh134 H d6_255 rfl rfl ?_
        refine g_iload Xh134 H d6_256 rfl ?_
        refine g_baload Xh134 H hZ hh134 F121 (.int 1) d6_258 ⟨by decide, by decide⟩ rfl ?_
        refine g_iconst Xh134 H d6_259 1 rfl ?_
        refine g_icmpYes Xh134 H d6_260 269 (teq (rfl : (1 : Int32) = (1 : Int32))).1 (by decide) ?_
        refine g_iload Xh134 H d6_269 rfl ?_
        refine g_aloadN Xh134 H d6_271 rfl rfl ?_
        refine g_len Xh134 H hZ hh134 F121 d6_272 ?_
        show Go p.tables e below P T134 (mkF m 273 #[vr ob, vi 5, vr b6, vr b11, vr b17, vi 4, vi 25, vi ((4 : Int32) + (1 : Int32)), vi 19, vj 10, v2, vi 22] [(.int 26), (.int 25)])
        refine g_icmpYes Xh134 H d6_273 309 (feq (by decide : ¬ ((25 : Int32) = (26 : Int32)))).2 (by decide) ?_
        refine g_aloadN Xh134 H d6_309 rfl rfl ?_
        refine g_iload Xh134 H d6_310 rfl ?_
        refine g_lload Xh134 H d6_312 rfl ?_
        show Go p.tables e below P T134 (mkF m 314 #[vr ob, vi 5, vr b6, vr b11, vr b17, vi 4, vi 25, vi ((4 : Int32) + (1 : Int32)), vi 19, vj 10, v2, vi 22] [(.long 10), (.int 4), (.ref b6)])
        refine gv (fun t k => XS.l2i Xh134.here hx rfl (hb hby d6_314) rfl k) ?_
        show Go p.tables e below P T134 (mkF m 315 #[vr ob, vi 5, vr b6, vr b11, vr b17, vi 4, vi 25, vi ((4 : Int32) + (1 : Int32)), vi 19, vj 10, v2, vi 22] [(.int ((10 : Int64).toInt32)), (.int 4), (.ref b6)])
        rw [show (10 : Int64).toInt32 = (10 : Int32) from rfl]
        have F144 := ((V116.other W118 ne12).other W120 ne18)
        obtain ⟨T145, h145, lc145, X145, e145, N145, Z145, K145, W145, V145, st145⟩ := own_stI Xh134 hx hZ hh134 F144 N134 Z120 K120 g7 (Or.inr sz8) (j := (4 : Int32)) ⟨by decide, by decide⟩ (ji := 4) rfl (Nat.le_of_ble_eq_true rfl) (g := (mkF m 315 #[vr ob, vi 5, vr b6, vr b11, vr b17, vi 4, vi 25, vi ((4 : Int32) + (1 : Int32)), vi 19, vj 10, v2, vi 22] [(.int 10), (.int 4), (.ref b6)])) rfl rfl (hb hby d6_315)
        refine gv st145 ?_
        show Go p.tables e below P T145 (mkF m 316 #[vr ob, vi 5, vr b6, vr b11, vr b17, vi 4, vi 25, vi ((4 : Int32) + (1 : Int32)), vi 19, vj 10, v2, vi 22] [])
        refine g_aloadN X145 H d6_316 rfl rfl ?_
        refine g_iload X145 H d6_317 rfl ?_
        refine g_iload X145 H d6_319 rfl ?_
        have F146 := ((V118.other W120 ne20).other W145 (Ne.symm ne12))
        obtain ⟨T147, h147, lc147, X147, e147, N147, Z147, K147, W147, V147, st147⟩ := own_stI X145 hx hZ e145 F146 N145 Z145 K145 g13 (Or.inr sz14) (j := (4 : Int32)) ⟨by decide, by decide⟩ (ji := 4) rfl (Nat.le_of_ble_eq_true rfl) (g := (mkF m 321 #[vr ob, vi 5, vr b6, vr b11, vr b17, vi 4, vi 25, vi ((4 : Int32) + (1 : Int32)), vi 19, vj 10, v2, vi 22] [(.int 22), (.int 4), (.ref b11)])) rfl rfl (hb hby d6_321)
        refine gv st147 ?_
        show Go p.tables e below P T147 (mkF m 322 #[vr ob, vi 5, vr b6, vr b11, vr b17, vi 4, vi 25, vi ((4 : Int32) + (1 : Int32)), vi 19, vj 10, v2, vi 22] [])
        refine g_aload X147 H d6_322 rfl rfl ?_
        refine g_iload X147 H d6_324 rfl ?_
        refine g_iload X147 H d6_326 rfl ?_
        have F148 := ((V120.other W145 (Ne.symm ne18)).other W147 (Ne.symm ne20))
        obtain ⟨T149, h149, lc149, X149, e149, N149, Z149, K149, W149, V149, st149⟩ := own_stI X147 hx hZ e147 F148 N147 Z147 K147 g21 (Or.inr sz22) (j := (4 : Int32)) ⟨by decide, by decide⟩ (ji := 4) rfl (Nat.le_of_ble_eq_true rfl) (g := (mkF m 328 #[vr ob, vi 5, vr b6, vr b11, vr b17, vi 4, vi 25, vi ((4 : Int32) + (1 : Int32)), vi 19, vj 10, v2, vi 22] [(.int 25), (.int 4), (.ref b17)])) rfl rfl (hb hby d6_328)
        refine gv st149 ?_
        show Go p.tables e below P T149 (mkF m 329 #[vr ob, vi 5, vr b6, vr b11, vr b17, vi 4, vi 25, vi ((4 : Int32) + (1 : Int32)), vi 19, vj 10, v2, vi 22] [])
        refine g_iinc X149 H d6_329 rfl #[vr ob, vi 5, vr b6, vr b11, vr b17, vi 5, vi 25, vi ((4 : Int32) + (1 : Int32)), vi 19, vj 10, v2, vi 22] rfl ?_
        refine g_iinc X149 H d6_332 rfl #[vr ob, vi 5, vr b6, vr b11, vr b17, vi 5, vi 26, vi ((4 : Int32) + (1 : Int32)), vi 19, vj 10, v2, vi 22] rfl ?_
        refine g_goto X149 H d6_335 56 (by decide) ?_
        refine g_iload X149 H d6_56 rfl ?_
        refine g_aloadN X149 H d6_58 rfl rfl ?_
        have F150 := (((F121.other W145 (Nat.ne_of_lt (Nat.lt_of_lt_of_le P0.lt sz8))).other W147 (Nat.ne_of_lt (Nat.lt_of_lt_of_le P0.lt sz14))).other W149 (Nat.ne_of_lt (Nat.lt_of_lt_of_le P0.lt sz22)))
        refine g_len X149 H hZ e149 F150 d6_59 ?_
        refine g_icmpYes X149 H d6_60 338 (flt (by decide : ¬ ((26 : Int32) < (26 : Int32)))).2.1 (by decide) ?_
        obtain ⟨T152, h152, X152, e152, E152, A152, D152, -, st152⟩ := newO X149 hx hZ hown (own_g hw 46 rfl) (own_g hw 47 rfl) (own_g hw 4 rfl) e149 (g := (mkF m 338 #[vr ob, vi 5, vr b6, vr b11, vr b17, vi 5, vi 26, vi ((4 : Int32) + (1 : Int32)), vi 19, vj 10, v2, vi 22] [])) rfl (hb hby d6_338) (by decide) (by decide)
        obtain ⟨b152, g152⟩ : ∃ z, z = h149.size := ⟨_, rfl⟩
        rw [← g152] at A152 D152 st152
        refine gv st152 ?_
        have F154 := ((V145.other W147 ne12).other W149 ne18)
        have ne153 := Nat.ne_of_lt (Nat.lt_of_lt_of_le F154.lt (Nat.le_of_eq g152.symm))
        have F156 := (V147.other W149 ne20)
        have ne155 := Nat.ne_of_lt (Nat.lt_of_lt_of_le F156.lt (Nat.le_of_eq g152.symm))
        have ne157 := Nat.ne_of_lt (Nat.lt_of_lt_of_le V149.lt (Nat.le_of_eq g152.symm))
        have g158 := Nat.le_trans Z149 (Nat.le_of_eq g152.symm)
        have sz159 := Nat.le_trans K149.1 (Nat.le_of_eq g152.symm)
        have Z160 := Nat.le_trans Z149 E152.1
        have K161 := K149.ext E152
        show Go p.tables e below P T152 (mkF m 341 #[vr ob, vi 5, vr b6, vr b11, vr b17, vi 5, vi 26, vi ((4 : Int32) + (1 : Int32)), vi 19, vj 10, v2, vi 22] [(.ref b152)])
        refine g_dup X152 H d6_341 rfl ?_
        refine g_aloadN X152 H d6_342 rfl rfl ?_
        refine g_aloadN X152 H d6_343 rfl rfl ?_
        refine g_aloadN X152 H d6_344 rfl rfl ?_
        refine g_aload X152 H d6_345 rfl rfl ?_
        refine g_cI X152 H hZ hml rfl hown e152 (rm10 l Z a0 hw [] b152 ob b6 b11 b17 h152 n0 Z160 A152 (D152 (Or.inr (own_g hw 55 rfl)) (ty := (.array .byte)) (by decide) : Fld Z h152 b152 TVn "bytes" DBn .null) (D152 (Or.inr (own_g hw 57 rfl)) (ty := (.array .int)) (by decide) : Fld Z h152 b152 TVn "tags" "[I" .null) (D152 (Or.inr (own_g hw 59 rfl)) (ty := (.array .int)) (by decide) : Fld Z h152 b152 TVn VSn "[I" .null) (D152 (Or.inr (own_g hw 61 rfl)) (ty := (.array .int)) (by decide) : Fld Z h152 b152 TVn VEn "[I" .null) g158) (own_g hw 48 rfl) (own_g hw 49 rfl) (own_g hw 4 rfl) (own_g hw 50 rfl) (by decide) own_pd3 d6_347 rfl rfl rfl rfl (W := 1) rfl (by decide) ?_
        intro _ T162 Lc162 X162 hQ162
        obtain ⟨rfl, Nq162, K162, u162_0, u162_1, u162_2, u162_3, u162_4⟩ := hQ162
        obtain ⟨lc162, Xh162, N162⟩ := own_hide X162 (Fr.app N149 Nq162)
        clear X162
        have Z163 := Nat.le_trans Z160 K162.1
        have K164 := K161.trans K162 (own_allC (Or.inr sz159) own_all0)
        have F166 := ((F154.ext E152).keep K162 (own_ninC ne153 own_nin0))
        have F167 := ((F156.ext E152).keep K162 (own_ninC ne155 own_nin0))
        have F168 := ((V149.ext E152).keep K162 (own_ninC ne157 own_nin0))
        refine g_retA Xh162 H Bd.notSynchronized hP (by decide) Bd.returns rfl rfl rfl d6_350 ?_
        exact ⟨b152, b6, b11, b17, k6, k11, k17, rfl, N162, K164, sz159, sz8, sz14, sz22, u162_0, u162_1, u162_2, u162_3, u162_4, F166, F167, F168⟩
  exact LP2 _ s₁ _ 0 (0 : Int32) (0 : Int32) .unset X0 e0 N0 (Nat.zero_le _) rfl rfl (Or.inl rfl) (Nat.lt_succ_self _)
def own_mn (x y : Int32) : Int32 := if y < x then y else x
theorem own_or3 {x y z : Int32} (hx : ¬ x < 0) (hy : ¬ y < 0) (hz : ¬ z < 0) : ¬ ((x ||| y) ||| z) < (0 : Int32) := by
  rw [Int32.lt_iff_toInt_lt] at *; have e : (0 : Int32).toInt = 0 := rfl
  have a := (c_orS x y).1 (by omega) (by omega)
  have b := (c_orS (x ||| y) z).1 a (by omega)
  omega
theorem own_subN {a b d : Nat} (h : a = b + d) : a.toInt32 - b.toInt32 = d.toInt32 := by
  subst h; rw [show (b + d).toInt32 = b.toInt32 + d.toInt32 from Int32.ofNat_add b d, Int32.add_comm]; exact Int32.add_sub_cancel _ _
theorem own_lenk : ((3 : Nat).toInt32 >>> ((0 : Int32) &&& 31)) = (3 : Int32) := by decide
theorem own_cpy {Z : State} {h : Heap} {a : Addr} {k : ClassId} {ty : FieldType} {z : Int32} {vs : List Value} {dv : Value} (F : Arv Z h a k ty z vs dv) : ∃ us, Arv Z h a k ty z us dv := ⟨_, F⟩
theorem d24_0 : D5 0 (.iload_n 0) 1 := by decide +kernel
theorem d24_1 : D5 1 (.iload_n 1) 1 := by decide +kernel
theorem d24_2 : D5 2 (.if_icmp .gt 7) 3 := by decide +kernel
theorem d24_5 : D5 5 (.iload_n 0) 1 := by decide +kernel
theorem d24_6 : D5 6 (.goto 4) 3 := by decide +kernel
theorem d24_9 : D5 9 (.iload_n 1) 1 := by decide +kernel
theorem d24_10 : D5 10 (.ireturn) 1 := by decide +kernel
theorem ef_24 (m : MethodId) (x0 : Int32) (x1 : Int32) : entryFrame m #[(.int x0), (.int x1)] 2 = mkF m 0 #[.val (.int x0), .val (.int x1)] [] := by first | (simp [entryFrame, mkF, argsToLocals, Value.category]; done) | rfl
def Q24 (Z : State) (px : Int32) (py : Int32) (h0 : Heap) (n0 : Nat) (v : Option Value) (h : Heap) (L : List Loc) : Prop := v = some (.int (own_mn px py)) ∧ Fr n0 L ∧ h = h0
theorem rm24 (l : Launch) (Z : State) (a0 : Array Value) (hw : HW a0 Z) (ws : List Jvm.Cond) (px : Int32) (py : Int32) (h0 : Heap) (n0 : Nat) (Z0 : n0 ≤ h0.size) :
    MFr l Z (⟨"java/lang/Math", "min", "(II)I"⟩ : MethodName) jdk_29_method_69_code 2 (some .int) ws (Rm 0 0 0 0) #[(.int px), (.int py)] h0 (Q24 Z px py h0 n0) := by
  refine own_body (own := "java/lang/Math") (Jvm.Free.JP.mathPlain rfl (by decide +kernel)) rfl (fun m => ef_24 m px py) ?_
  intro p e s m below meth c s₁ Bd H hml hZ hown X0 e0 P hP
  have N0 := Fr.nil n0
  refine g_iloadN X0 H d24_0 rfl ?_
  refine g_iloadN X0 H d24_1 rfl ?_
  show Go p.tables e below P s₁ (mkF m 2 #[vi px, vi py] [(.int py), (.int px)])
  have J2 : ∀ (T2 : State) (locs2 : List Loc) (v2_0 : Int32), Stand p l e (Rm 0 0 0 0) s m #[(.int px), (.int py)] below meth c T2 locs2 0 0 → T2.heap = h0 → Fr n0 locs2 → v2_0 = (if py < px then py else px) → Go p.tables e below P T2 (mkF m 10 #[.val (.int px), .val (.int py)] [(.int v2_0)]) := by
    intro T2 locs2 v2_0 X2 e2 N2 hv2_0
    refine g_retI X2 H Bd.notSynchronized hP (by decide) Bd.returns d24_10 (r := (own_mn px py)) (show v2_0 = own_mn px py from hv2_0) ?_
    rw [e2]
    exact ⟨rfl, N2, rfl⟩
  by_cases hc1 : py < px
  · refine g_icmpYes X0 H d24_2 9 (tlt hc1).2.2.1 (by decide) ?_
    refine g_iloadN X0 H d24_9 rfl ?_
    exact J2 s₁ _ py X0 e0 N0 (if_pos hc1).symm
  · refine g_icmpNo X0 H d24_2 (flt hc1).2.2.1 ?_
    refine g_iloadN X0 H d24_5 rfl ?_
    refine g_goto X0 H d24_6 10 (by decide) ?_
    exact J2 s₁ _ px X0 e0 N0 (if_neg hc1).symm
theorem own_pn1 : plainName PRn = true := by first | (simp [plainName, overriddenIn]; done) | decide +kernel
theorem d4_0 : D6 0 (.iload_n 2) 1 := by decide +kernel
theorem d4_1 : D6 1 (.iload_n 0) 1 := by decide +kernel
theorem d4_2 : D6 2 (.ior) 1 := by decide +kernel
theorem d4_3 : D6 3 (.iload_n 1) 1 := by decide +kernel
theorem d4_4 : D6 4 (.ior) 1 := by decide +kernel
theorem d4_5 : D6 5 (.ifCond .lt 10) 3 := by decide +kernel
theorem d4_8 : D6 8 (.iload_n 1) 1 := by decide +kernel
theorem d4_9 : D6 9 (.iload_n 2) 1 := by decide +kernel
theorem d4_10 : D6 10 (.iload_n 0) 1 := by decide +kernel
theorem d4_11 : D6 11 (.isub) 1 := by decide +kernel
theorem d4_12 : D6 12 (.if_icmp .le 11) 3 := by decide +kernel
theorem d4_23 : D6 23 (.iload_n 0) 1 := by decide +kernel
theorem d4_24 : D6 24 (.ireturn) 1 := by decide +kernel
theorem ef_4 (m : MethodId) (x0 : Int32) (x1 : Int32) (x2 : Value) (hx2 : x2.isRef = true) : entryFrame m #[(.int x0), (.int x1), (.int 26), x2] 4 = mkF m 0 #[.val (.int x0), .val (.int x1), .val (.int 26), .val x2] [] := by rcases ref_cases hx2 with rfl | ⟨zx2, rfl⟩ <;> first | (simp [entryFrame, mkF, argsToLocals, Value.category]; done) | rfl
def Q4 (Z : State) (ns : Nat) (nl : Nat) (fm : Value) (h0 : Heap) (n0 : Nat) (v : Option Value) (h : Heap) (L : List Loc) : Prop := v = some (.int (ns.toInt32)) ∧ Fr n0 L ∧ h = h0
theorem rm4 (l : Launch) (Z : State) (a0 : Array Value) (hw : HW a0 Z) (ws : List Jvm.Cond) (ns : Nat) (nl : Nat) (fm : Value) (h0 : Heap) (n0 : Nat) (Z0 : n0 ≤ h0.size) (hsl : ns + nl ≤ 26) (rfm : fm.isRef = true) :
    MFr l Z (⟨PRn, "checkFromIndexSize", "(IIILjava/util/function/BiFunction;)I"⟩ : MethodName) jdk_41_method_13_code 4 (some .int) ws (Rm 0 0 0 0) #[(.int (ns.toInt32)), (.int (nl.toInt32)), (.int 26), fm] h0 (Q4 Z ns nl fm h0 n0) := by
  refine own_body (own := PRn) (plainFor_of_name own_pn1) rfl (fun m => ef_4 m (ns.toInt32) (nl.toInt32) fm rfm) ?_
  intro p e s m below meth c s₁ Bd H hml hZ hown X0 e0 P hP
  have N0 := Fr.nil n0
  refine g_iloadN X0 H d4_0 rfl ?_
  refine g_iloadN X0 H d4_1 rfl ?_
  refine g_ior X0 H d4_2 ?_
  refine g_iloadN X0 H d4_3 rfl ?_
  refine g_ior X0 H d4_4 ?_
  refine g_ifNo X0 H d4_5 ((if0 _ _).trans (flt (own_or3 (by decide) (own_nneg (by omega)) (own_nneg (by omega)))).1) ?_
  refine g_iloadN X0 H d4_8 rfl ?_
  refine g_iloadN X0 H d4_9 rfl ?_
  show Go p.tables e below P s₁ (mkF m 10 #[vi (ns.toInt32), vi (nl.toInt32), vi 26, .val fm] [(.int 26), (.int (nl.toInt32))])
  refine g_iloadN X0 H d4_10 rfl ?_
  refine g_isub X0 H d4_11 ?_
  refine g_icmpYes X0 H d4_12 23 (flt (by rw [show (26 : Int32) = (26 : Nat).toInt32 from rfl, own_subN (show 26 = ns + (26 - ns) by omega)]; exact fun q => absurd ((own_ltN (by omega) (by omega)).mp q) (by omega))).2.2.2 (by decide) ?_
  refine g_iloadN X0 H d4_23 rfl ?_
  refine g_retI X0 H Bd.notSynchronized hP (by decide) Bd.returns d4_24 (r := (ns.toInt32)) rfl ?_
  rw [e0]
  exact ⟨rfl, N0, rfl⟩
theorem ef_4n (m : MethodId) (x0 : Int32) (x1 : Int32) : entryFrame m #[(.int x0), (.int x1), (.int 26), .null] 4 = mkF m 0 #[.val (.int x0), .val (.int x1), .val (.int 26), .val .null] [] := by first | (simp [entryFrame, mkF, argsToLocals, Value.category]; done) | rfl
def Q4n (Z : State) (ns : Nat) (nl : Nat) (h0 : Heap) (n0 : Nat) (v : Option Value) (h : Heap) (L : List Loc) : Prop := v = some (.int (ns.toInt32)) ∧ Fr n0 L ∧ h = h0
theorem rm4n (l : Launch) (Z : State) (a0 : Array Value) (hw : HW a0 Z) (ws : List Jvm.Cond) (ns : Nat) (nl : Nat) (h0 : Heap) (n0 : Nat) (Z0 : n0 ≤ h0.size) (hsl : ns + nl ≤ 26) :
    MFr l Z (⟨PRn, "checkFromIndexSize", "(IIILjava/util/function/BiFunction;)I"⟩ : MethodName) jdk_41_method_13_code 4 (some .int) ws (Rm 0 0 0 0) #[(.int (ns.toInt32)), (.int (nl.toInt32)), (.int 26), .null] h0 (Q4n Z ns nl h0 n0) := by
  refine own_body (own := PRn) (plainFor_of_name own_pn1) rfl (fun m => ef_4n m (ns.toInt32) (nl.toInt32)) ?_
  intro p e s m below meth c s₁ Bd H hml hZ hown X0 e0 P hP
  have N0 := Fr.nil n0
  refine g_iloadN X0 H d4_0 rfl ?_
  refine g_iloadN X0 H d4_1 rfl ?_
  refine g_ior X0 H d4_2 ?_
  refine g_iloadN X0 H d4_3 rfl ?_
  refine g_ior X0 H d4_4 ?_
  refine g_ifNo X0 H d4_5 ((if0 _ _).trans (flt (own_or3 (by decide) (own_nneg (by omega)) (own_nneg (by omega)))).1) ?_
  refine g_iloadN X0 H d4_8 rfl ?_
  refine g_iloadN X0 H d4_9 rfl ?_
  show Go p.tables e below P s₁ (mkF m 10 #[vi (ns.toInt32), vi (nl.toInt32), vi 26, .val .null] [(.int 26), (.int (nl.toInt32))])
  refine g_iloadN X0 H d4_10 rfl ?_
  refine g_isub X0 H d4_11 ?_
  refine g_icmpYes X0 H d4_12 23 (flt (by rw [show (26 : Int32) = (26 : Nat).toInt32 from rfl, own_subN (show 26 = ns + (26 - ns) by omega)]; exact fun q => absurd ((own_ltN (by omega) (by omega)).mp q) (by omega))).2.2.2 (by decide) ?_
  refine g_iloadN X0 H d4_23 rfl ?_
  refine g_retI X0 H Bd.notSynchronized hP (by decide) Bd.returns d4_24 (r := (ns.toInt32)) rfl ?_
  rw [e0]
  exact ⟨rfl, N0, rfl⟩
theorem own_pd4 : parseMethodDescriptor "(IIILjava/util/function/BiFunction;)I" = some ⟨[.int, .int, .int, (.object "java/util/function/BiFunction")], some .int⟩ := by decide +kernel
theorem own_pn2 : plainName "java/util/Objects" = true := by first | (simp [plainName, overriddenIn]; done) | decide +kernel
theorem d3_0 : D7 0 (.iload_n 0) 1 := by decide +kernel
theorem d3_1 : D7 1 (.iload_n 1) 1 := by decide +kernel
theorem d3_2 : D7 2 (.iload_n 2) 1 := by decide +kernel
theorem d3_3 : D7 3 (.aconst_null) 1 := by decide +kernel
theorem d3_4 : D7 4 (.invokestatic 115) 3 := by decide +kernel
theorem d3_7 : D7 7 (.ireturn) 1 := by decide +kernel
theorem ef_3 (m : MethodId) (x0 : Int32) (x1 : Int32) : entryFrame m #[(.int x0), (.int x1), (.int 26)] 3 = mkF m 0 #[.val (.int x0), .val (.int x1), .val (.int 26)] [] := by first | (simp [entryFrame, mkF, argsToLocals, Value.category]; done) | rfl
def Q3 (Z : State) (ns : Nat) (nl : Nat) (h0 : Heap) (n0 : Nat) (v : Option Value) (h : Heap) (L : List Loc) : Prop := v = some (.int (ns.toInt32)) ∧ Fr n0 L ∧ h = h0
theorem rm3 (l : Launch) (Z : State) (a0 : Array Value) (hw : HW a0 Z) (ws : List Jvm.Cond) (ns : Nat) (nl : Nat) (h0 : Heap) (n0 : Nat) (Z0 : n0 ≤ h0.size) (hsl : ns + nl ≤ 26) :
    MFr l Z (⟨"java/util/Objects", "checkFromIndexSize", "(III)I"⟩ : MethodName) jdk_31_method_19_code 3 (some .int) ws (Rm 1 0 0 15) #[(.int (ns.toInt32)), (.int (nl.toInt32)), (.int 26)] h0 (Q3 Z ns nl h0 n0) := by
  refine own_body (own := "java/util/Objects") (plainFor_of_name own_pn2) rfl (fun m => ef_3 m (ns.toInt32) (nl.toInt32)) ?_
  intro p e s m below meth c s₁ Bd H hml hZ hown X0 e0 P hP
  have hx := H.1
  have hby := H.2
  have N0 := Fr.nil n0
  refine g_iloadN X0 H d3_0 rfl ?_
  refine g_iloadN X0 H d3_1 rfl ?_
  refine g_iloadN X0 H d3_2 rfl ?_
  show Go p.tables e below P s₁ (mkF m 3 #[vi (ns.toInt32), vi (nl.toInt32), vi 26] [(.int 26), (.int (nl.toInt32)), (.int (ns.toInt32))])
  refine gv (fun t k => XS.aconstNull X0.here hx rfl (hb hby d3_3) k) ?_
  show Go p.tables e below P s₁ (mkF m 4 #[vi (ns.toInt32), vi (nl.toInt32), vi 26] [.null, (.int 26), (.int (nl.toInt32)), (.int (ns.toInt32))])
  refine g_cS X0 H hZ hml rfl hown e0 (rm4n l Z a0 hw [] ns nl h0 n0 Z0 hsl) (own_g hw 13 rfl) (own_g hw 14 rfl) (own_g hw 15 rfl) (own_g hw 16 rfl) (by decide) own_pd4 d3_4 rfl rfl rfl (W := 0) rfl (by decide) ?_
  intro _ T1 Lc1 X1 hQ1
  obtain ⟨rfl, Nq1, hh1⟩ := hQ1
  obtain ⟨lc1, Xh1, N1⟩ := own_hide X1 (Fr.app N0 Nq1)
  clear X1
  refine g_retI Xh1 H Bd.notSynchronized hP (by decide) Bd.returns d3_7 (r := (ns.toInt32)) rfl ?_
  rw [hh1]
  exact ⟨rfl, N1, rfl⟩
theorem own_pn3 : plainName STn = true := by first | (simp [plainName, overriddenIn]; done) | decide +kernel
theorem d20_0 : D8 0 (.iload_n 0) 1 := by decide +kernel
theorem d20_1 : D8 1 (.iload_n 1) 1 := by decide +kernel
theorem d20_2 : D8 2 (.iload_n 2) 1 := by decide +kernel
theorem d20_3 : D8 3 (.getstatic 1053) 3 := by decide +kernel
theorem d20_6 : D8 6 (.invokestatic 1065) 3 := by decide +kernel
theorem d20_9 : D8 9 (.ireturn) 1 := by decide +kernel
theorem ef_20 (m : MethodId) (x0 : Int32) (x1 : Int32) : entryFrame m #[(.int x0), (.int x1), (.int 26)] 3 = mkF m 0 #[.val (.int x0), .val (.int x1), .val (.int 26)] [] := by first | (simp [entryFrame, mkF, argsToLocals, Value.category]; done) | rfl
def Q20 (Z : State) (ns : Nat) (nl : Nat) (fm : Value) (h0 : Heap) (n0 : Nat) (v : Option Value) (h : Heap) (L : List Loc) : Prop := v = some (.int (ns.toInt32)) ∧ Fr n0 L ∧ h = h0
theorem rm20 (l : Launch) (Z : State) (a0 : Array Value) (hw : HW a0 Z) (ws : List Jvm.Cond) (ns : Nat) (nl : Nat) (fm : Value) (h0 : Heap) (n0 : Nat) (Z0 : n0 ≤ h0.size) (O0 : Old Z n0 h0) (P1 : Sta Z Z.heap PRn SIn BFn fm) (rfm : fm.isRef = true) (hsl : ns + nl ≤ 26) :
    MFr l Z (⟨STn, "checkBoundsOffCount", "(III)I"⟩ : MethodName) jdk_42_method_157_code 3 (some .int) ws (Rm 1 0 0 15) #[(.int (ns.toInt32)), (.int (nl.toInt32)), (.int 26)] h0 (Q20 Z ns nl fm h0 n0) := by
  refine own_body (own := STn) (plainFor_of_name own_pn3) rfl (fun m => ef_20 m (ns.toInt32) (nl.toInt32)) ?_
  intro p e s m below meth c s₁ Bd H hml hZ hown X0 e0 P hP
  have N0 := Fr.nil n0
  refine g_iloadN X0 H d20_0 rfl ?_
  refine g_iloadN X0 H d20_1 rfl ?_
  refine g_iloadN X0 H d20_2 rfl ?_
  refine g_getS X0 H hZ hown (host := "") (Or.inl (own_g hw 104 rfl)) Via.refl e0 (P1.ext O0.2) d20_3 ?_
  intro T1 X1 e1
  refine g_cS X1 H hZ hml rfl hown e1 (rm4 l Z a0 hw [] ns nl fm h0 n0 Z0 hsl rfm) (own_g hw 105 rfl) (own_g hw 14 rfl) (own_g hw 15 rfl) (own_g hw 16 rfl) (by decide) own_pd4 d20_6 rfl rfl rfl (W := 0) rfl (by decide) ?_
  intro _ T2 Lc2 X2 hQ2
  obtain ⟨rfl, Nq2, hh2⟩ := hQ2
  obtain ⟨lc2, Xh2, N2⟩ := own_hide X2 (Fr.app N0 Nq2)
  clear X2
  refine g_retI Xh2 H Bd.notSynchronized hP (by decide) Bd.returns d20_9 (r := (ns.toInt32)) rfl ?_
  rw [hh2]
  exact ⟨rfl, N2, rfl⟩
theorem d19_0 : D9 0 (.aload_n 0) 1 := by decide +kernel
theorem d19_1 : D9 1 (.ifnonnull 11) 3 := by decide +kernel
theorem d19_12 : D9 12 (.aload_n 0) 1 := by decide +kernel
theorem d19_13 : D9 13 (.areturn) 1 := by decide +kernel
theorem ef_19 (m : MethodId) (x0 : Addr) : entryFrame m #[(.ref x0)] 1 = mkF m 0 #[.val (.ref x0)] [] := by first | (simp [entryFrame, mkF, argsToLocals, Value.category]; done) | rfl
def Q19 (Z : State) (ox : Addr) (h0 : Heap) (n0 : Nat) (v : Option Value) (h : Heap) (L : List Loc) : Prop := v = some (.ref ox) ∧ Fr n0 L ∧ h = h0
theorem rm19 (l : Launch) (Z : State) (a0 : Array Value) (hw : HW a0 Z) (ws : List Jvm.Cond) (ox : Addr) (h0 : Heap) (n0 : Nat) (Z0 : n0 ≤ h0.size) :
    MFr l Z (⟨"java/util/Objects", "requireNonNull", "(Ljava/lang/Object;)Ljava/lang/Object;"⟩ : MethodName) jdk_31_method_10_code 1 (some (.object "java/lang/Object")) ws (Rm 0 0 0 0) #[(.ref ox)] h0 (Q19 Z ox h0 n0) := by
  refine own_body (own := "java/util/Objects") (plainFor_of_name own_pn2) rfl (fun m => ef_19 m ox) ?_
  intro p e s m below meth c s₁ Bd H hml hZ hown X0 e0 P hP
  have hx := H.1
  have hby := H.2
  have N0 := Fr.nil n0
  refine g_aloadN X0 H d19_0 rfl rfl ?_
  show Go p.tables e below P s₁ (mkF m 1 #[vr ox] [(.ref ox)])
  refine gv (fun t k => XS.ifnonnullYes X0.here hx rfl (pc0 := 1) (pc' := 12) rfl (hb hby d19_1) rfl (by decide) (by decide) k) ?_
  show Go p.tables e below P s₁ (mkF m 12 #[vr ox] [])
  refine g_aloadN X0 H d19_12 rfl rfl ?_
  refine g_retA X0 H Bd.notSynchronized hP (by decide) Bd.returns rfl rfl rfl d19_13 ?_
  rw [e0]
  exact ⟨rfl, N0, rfl⟩
theorem own_pn4 : plainName ARn = true := by first | (simp [plainName, overriddenIn]; done) | decide +kernel
theorem d23_0 : D10 0 (.iload_n 1) 1 := by decide +kernel
theorem d23_1 : D10 1 (.iload_n 0) 1 := by decide +kernel
theorem d23_2 : D10 2 (.if_icmp .ge 35) 3 := by decide +kernel
theorem d23_37 : D10 37 (.return_) 1 := by decide +kernel
theorem ef_23 (m : MethodId) (x0 : Int32) (x1 : Int32) : entryFrame m #[(.int x0), (.int x1)] 2 = mkF m 0 #[.val (.int x0), .val (.int x1)] [] := by first | (simp [entryFrame, mkF, argsToLocals, Value.category]; done) | rfl
def Q23 (Z : State) (ns : Nat) (nl : Nat) (h0 : Heap) (n0 : Nat) (v : Option Value) (h : Heap) (L : List Loc) : Prop := v = none ∧ Fr n0 L ∧ h = h0
theorem rm23 (l : Launch) (Z : State) (a0 : Array Value) (hw : HW a0 Z) (ws : List Jvm.Cond) (ns : Nat) (nl : Nat) (h0 : Heap) (n0 : Nat) (Z0 : n0 ≤ h0.size) (hsl : ns + nl ≤ 26) :
    MFr l Z (⟨ARn, "checkLength", "(II)V"⟩ : MethodName) jdk_65_method_131_code 2 none ws (Rm 0 0 0 0) #[(.int (ns.toInt32)), (.int ((ns + nl).toInt32))] h0 (Q23 Z ns nl h0 n0) := by
  refine own_body (own := ARn) (plainFor_of_name own_pn4) rfl (fun m => ef_23 m (ns.toInt32) ((ns + nl).toInt32)) ?_
  intro p e s m below meth c s₁ Bd H hml hZ hown X0 e0 P hP
  have N0 := Fr.nil n0
  refine g_iloadN X0 H d23_0 rfl ?_
  refine g_iloadN X0 H d23_1 rfl ?_
  refine g_icmpYes X0 H d23_2 37 (flt (fun q => absurd ((own_ltN (by omega) (by omega)).mp q) (by omega))).2.1 (by decide) ?_
  refine g_retV X0 H Bd.notSynchronized hP (by decide) Bd.returns d23_37 ?_
  rw [e0]
  exact ⟨rfl, N0, rfl⟩
theorem own_pd5 : parseMethodDescriptor "(II)V" = some ⟨[.int, .int], none⟩ := by decide +kernel
theorem own_pd6 : parseMethodDescriptor "(II)I" = some ⟨[.int, .int], some .int⟩ := by decide +kernel
theorem d22_0 : D11 0 (.iload_n 1) 1 := by decide +kernel
theorem d22_1 : D11 1 (.iload_n 2) 1 := by decide +kernel
theorem d22_2 : D11 2 (.invokestatic 343) 3 := by decide +kernel
theorem d22_5 : D11 5 (.iload_n 2) 1 := by decide +kernel
theorem d22_6 : D11 6 (.iload_n 1) 1 := by decide +kernel
theorem d22_7 : D11 7 (.isub) 1 := by decide +kernel
theorem d22_8 : D11 8 (.istore_n 3) 1 := by decide +kernel
theorem d22_9 : D11 9 (.iload_n 3) 1 := by decide +kernel
theorem d22_10 : D11 10 (.newarray .byte) 2 := by decide +kernel
theorem d22_12 : D11 12 (.astore 4) 2 := by decide +kernel
theorem d22_14 : D11 14 (.aload_n 0) 1 := by decide +kernel
theorem d22_15 : D11 15 (.iload_n 1) 1 := by decide +kernel
theorem d22_16 : D11 16 (.aload 4) 2 := by decide +kernel
theorem d22_18 : D11 18 (.iconst 0) 1 := by decide +kernel
theorem d22_19 : D11 19 (.aload_n 0) 1 := by decide +kernel
theorem d22_20 : D11 20 (.arraylength) 1 := by decide +kernel
theorem d22_21 : D11 21 (.iload_n 1) 1 := by decide +kernel
theorem d22_22 : D11 22 (.isub) 1 := by decide +kernel
theorem d22_23 : D11 23 (.iload_n 3) 1 := by decide +kernel
theorem d22_24 : D11 24 (.invokestatic 304) 3 := by decide +kernel
theorem d22_27 : D11 27 (.invokestatic 150) 3 := by decide +kernel
theorem d22_30 : D11 30 (.aload 4) 2 := by decide +kernel
theorem d22_32 : D11 32 (.areturn) 1 := by decide +kernel
theorem ef_22 (m : MethodId) (x0 : Addr) (x1 : Int32) (x2 : Int32) : entryFrame m #[(.ref x0), (.int x1), (.int x2)] 5 = mkF m 0 #[.val (.ref x0), .val (.int x1), .val (.int x2), .unset, .unset] [] := by first | (simp [entryFrame, mkF, argsToLocals, Value.category]; done) | rfl
def Q22 (Z : State) (ob : Addr) (kk : ClassId) (ns : Nat) (nl : Nat) (qa : Int32) (qb : Int32) (qv : Int32) (ya : Int32) (yb : Int32) (yc : Int32) (h0 : Heap) (n0 : Nat) (v : Option Value) (h : Heap) (L : List Loc) : Prop := ∃ (oc : Addr) (kc : ClassId) (us : List Value), v = some (.ref oc) ∧ Fr n0 L ∧ Keep h0 h [] ∧ h0.size ≤ oc ∧ Arv Z h oc kc .byte (nl.toInt32) us (.int 0)
theorem rm22 (l : Launch) (Z : State) (a0 : Array Value) (hw : HW a0 Z) (ws : List Jvm.Cond) (ob : Addr) (kk : ClassId) (ns : Nat) (nl : Nat) (qa : Int32) (qb : Int32) (qv : Int32) (ya : Int32) (yb : Int32) (yc : Int32) (h0 : Heap) (n0 : Nat) (Z0 : n0 ≤ h0.size) (P0 : Arv Z h0 ob kk .byte (26 : Int32) (bll qa qb qv ya yb yc) (.int 0)) (hsl : ns + nl ≤ 26) :
    MFr l Z (⟨ARn, "copyOfRangeByte", "([BII)[B"⟩ : MethodName) jdk_65_method_133_code 5 (some (.array .byte)) ws (Rm 1 1 26 18) #[(.ref ob), (.int (ns.toInt32)), (.int ((ns + nl).toInt32))] h0 (Q22 Z ob kk ns nl qa qb qv ya yb yc h0 n0) := by
  refine own_body (own := ARn) (plainFor_of_name own_pn4) rfl (fun m => ef_22 m ob (ns.toInt32) ((ns + nl).toInt32)) ?_
  intro p e s m below meth c s₁ Bd H hml hZ hown X0 e0 P hP
  have hx := H.1
  have hby := H.2
  have N0 := Fr.nil n0
  have K0 : Keep h0 h0 [] := Keep.refl _ _
  refine g_iloadN X0 H d22_0 rfl ?_
  refine g_iloadN X0 H d22_1 rfl ?_
  refine g_cS X0 H hZ hml rfl hown e0 (rm23 l Z a0 hw [] ns nl h0 n0 Z0 hsl) (own_g hw 120 rfl) (own_g hw 121 rfl) (own_g hw 19 rfl) (own_g hw 122 rfl) (by decide) own_pd5 d22_2 rfl rfl rfl (W := 0) rfl (by decide) ?_
  intro _ T1 Lc1 X1 hQ1
  obtain ⟨rfl, Nq1, hh1⟩ := hQ1
  obtain ⟨lc1, Xh1, N1⟩ := own_hide X1 (Fr.app N0 Nq1)
  clear X1
  refine g_iloadN Xh1 H d22_5 rfl ?_
  refine g_iloadN Xh1 H d22_6 rfl ?_
  refine g_isub Xh1 H d22_7 ?_
  show Go p.tables e below P T1 (mkF m 8 #[vr ob, vi (ns.toInt32), vi ((ns + nl).toInt32), vu, vu] [(.int (((ns + nl).toInt32) - (ns.toInt32)))])
  rw [own_subN (show ns + nl = ns + nl from rfl)]
  refine g_istoreN Xh1 H d22_8 #[vr ob, vi (ns.toInt32), vi ((ns + nl).toInt32), vi (nl.toInt32), vu] rfl ?_
  refine g_iloadN Xh1 H d22_9 rfl ?_
  obtain ⟨T2, h2, k2, X2, e2, E2, A2, B2, st2⟩ := newPE Xh1 hx hZ (own_g hw 1 rfl) hh1 (g := (mkF m 10 #[vr ob, vi (ns.toInt32), vi ((ns + nl).toInt32), vi (nl.toInt32), vu] [(.int (nl.toInt32))])) rfl (hb hby d22_10) rfl (own_nneg (by omega)) (cap := 26) (by rw [own_clamp (by omega)]; omega) (by decide) (by decide) (by decide) (ad := DBn) (by decide)
  obtain ⟨b2, g2⟩ : ∃ z, z = h0.size := ⟨_, rfl⟩
  rw [← g2] at A2 B2 st2
  refine gv st2 ?_
  have g3 := Nat.le_trans Z0 (Nat.le_of_eq g2.symm)
  have sz4 := Nat.le_trans K0.1 (Nat.le_of_eq g2.symm)
  have Z5 := Nat.le_trans Z0 E2.1
  have K6 := K0.ext E2
  have V2 : Arv Z h2 b2 k2 .byte (nl.toInt32) (List.replicate 26 (.int 0)) (.int 0) := (Arv.new A2 (own_nneg (by omega))).pad (pad_rep [] (.int 0) 26)
  show Go p.tables e below P T2 (mkF m 12 #[vr ob, vi (ns.toInt32), vi ((ns + nl).toInt32), vi (nl.toInt32), vu] [(.ref b2)])
  refine g_astore X2 H d22_12 rfl #[vr ob, vi (ns.toInt32), vi ((ns + nl).toInt32), vi (nl.toInt32), vr b2] rfl ?_
  refine g_aloadN X2 H d22_14 rfl rfl ?_
  refine g_iloadN X2 H d22_15 rfl ?_
  refine g_aload X2 H d22_16 rfl rfl ?_
  refine g_iconst X2 H d22_18 0 rfl ?_
  refine g_aloadN X2 H d22_19 rfl rfl ?_
  have F7 := (P0.ext E2)
  refine g_len X2 H hZ e2 F7 d22_20 ?_
  refine g_iloadN X2 H d22_21 rfl ?_
  refine g_isub X2 H d22_22 ?_
  refine g_iloadN X2 H d22_23 rfl ?_
  refine g_cS X2 H hZ hml rfl hown e2 (rm24 l Z a0 hw [] ((26 : Int32) - (ns.toInt32)) (nl.toInt32) h2 n0 Z5 ) (own_g hw 123 rfl) (own_g hw 124 rfl) (own_g hw 44 rfl) (own_g hw 125 rfl) (by decide) own_pd6 d22_24 rfl rfl rfl (W := 4) rfl (by decide) ?_
  intro _ T9 Lc9 X9 hQ9
  obtain ⟨rfl, Nq9, hh9⟩ := hQ9
  obtain ⟨lc9, Xh9, N9⟩ := own_hide X9 (Fr.app N1 Nq9)
  clear X9
  show Go p.tables e below P T9 (mkF m 27 #[vr ob, vi (ns.toInt32), vi ((ns + nl).toInt32), vi (nl.toInt32), vr b2] [(.int (own_mn ((26 : Int32) - (ns.toInt32)) (nl.toInt32))), (.int 0), (.ref b2), (.int (ns.toInt32)), (.ref ob)])
  have hmn : own_mn ((26 : Int32) - (ns.toInt32)) (nl.toInt32) = nl.toInt32 := by
    rw [show (26 : Int32) = (26 : Nat).toInt32 from rfl, own_subN (show 26 = ns + (26 - ns) by omega)]; unfold own_mn; split
    · rfl
    · rename_i q; rw [own_ltN (by omega) (by omega)] at q; congr 1; omega
  rw [hmn]
  obtain ⟨T10, h10, L10, X10, e10, N10, K10, V10, st10⟩ := cpA Xh9 hx hZ hown (own_g hw 126 rfl) (own_g hw 129 rfl) (own_g hw 127 rfl) (own_g hw 128 rfl) hh9 F7 V2 (Or.inl ⟨rfl, rfl⟩) (sp := (ns.toInt32)) (dp := (0 : Int32)) (nn := (nl.toInt32)) (own_nneg (by omega)) (by decide) (own_nneg (by omega)) (by rw [own_clamp (by omega), own_clamp (by omega)]; exact hsl) (by rw [own_clamp (by omega)]; show 0 + nl ≤ nl; omega) rfl (by rw [own_clamp (by omega)]; show 0 + nl ≤ (List.replicate 26 _).length; rw [List.length_replicate]; omega) N9 g3 (g := (mkF m 27 #[vr ob, vi (ns.toInt32), vi ((ns + nl).toInt32), vi (nl.toInt32), vr b2] [(.int (nl.toInt32)), (.int 0), (.ref b2), (.int (ns.toInt32)), (.ref ob)])) rfl (by rw [hml]; rfl) rfl (hb hby d22_27) (by decide) (W := 0) (by show 2 * 0 + _ ≤ _; exact Nat.le_of_eq rfl) (by decide)
  subst e10
  obtain ⟨us, Vc10⟩ := own_cpy V10
  refine gv st10 ?_
  have Z11 := Nat.le_trans Z5 K10.1
  have K12 := K6.trans K10 (own_allC (Or.inr sz4) own_all0)
  show Go p.tables e below P T10 (mkF m 30 #[vr ob, vi (ns.toInt32), vi ((ns + nl).toInt32), vi (nl.toInt32), vr b2] [])
  refine g_aload X10 H d22_30 rfl rfl ?_
  refine g_retA X10 H Bd.notSynchronized hP (by decide) Bd.returns rfl rfl rfl d22_32 ?_
  exact ⟨b2, k2, us, rfl, N10, K12, sz4, Vc10⟩
theorem own_pd7 : parseMethodDescriptor "([BII)[B" = some ⟨[(.array .byte), .int, .int], some (.array .byte)⟩ := by decide +kernel
theorem d5_0 : D12 0 (.iload_n 1) 1 := by decide +kernel
theorem d5_1 : D12 1 (.ifCond .ne 9) 3 := by decide +kernel
theorem d5_10 : D12 10 (.aload_n 0) 1 := by decide +kernel
theorem d5_11 : D12 11 (.iload_n 1) 1 := by decide +kernel
theorem d5_12 : D12 12 (.iload_n 2) 1 := by decide +kernel
theorem d5_13 : D12 13 (.invokestatic 339) 3 := by decide +kernel
theorem d5_16 : D12 16 (.areturn) 1 := by decide +kernel
theorem ef_5 (m : MethodId) (x0 : Addr) (x1 : Int32) (x2 : Int32) : entryFrame m #[(.ref x0), (.int x1), (.int x2)] 3 = mkF m 0 #[.val (.ref x0), .val (.int x1), .val (.int x2)] [] := by first | (simp [entryFrame, mkF, argsToLocals, Value.category]; done) | rfl
def Q5 (Z : State) (ob : Addr) (kk : ClassId) (ns : Nat) (nl : Nat) (qa : Int32) (qb : Int32) (qv : Int32) (ya : Int32) (yb : Int32) (yc : Int32) (h0 : Heap) (n0 : Nat) (v : Option Value) (h : Heap) (L : List Loc) : Prop := ∃ (oc : Addr) (kc : ClassId) (us : List Value), v = some (.ref oc) ∧ Fr n0 L ∧ Keep h0 h [] ∧ h0.size ≤ oc ∧ Arv Z h oc kc .byte (nl.toInt32) us (.int 0)
theorem rm5 (l : Launch) (Z : State) (a0 : Array Value) (hw : HW a0 Z) (ws : List Jvm.Cond) (ob : Addr) (kk : ClassId) (ns : Nat) (nl : Nat) (qa : Int32) (qb : Int32) (qv : Int32) (ya : Int32) (yb : Int32) (yc : Int32) (h0 : Heap) (n0 : Nat) (Z0 : n0 ≤ h0.size) (P0 : Arv Z h0 ob kk .byte (26 : Int32) (bll qa qb qv ya yb yc) (.int 0)) (hsl : ns + nl ≤ 26) (hn1 : 1 ≤ ns) :
    MFr l Z (⟨ARn, "copyOfRange", "([BII)[B"⟩ : MethodName) jdk_65_method_132_code 3 (some (.array .byte)) ws (Rm 2 1 26 34) #[(.ref ob), (.int (ns.toInt32)), (.int ((ns + nl).toInt32))] h0 (Q5 Z ob kk ns nl qa qb qv ya yb yc h0 n0) := by
  refine own_body (own := ARn) (plainFor_of_name own_pn4) rfl (fun m => ef_5 m ob (ns.toInt32) ((ns + nl).toInt32)) ?_
  intro p e s m below meth c s₁ Bd H hml hZ hown X0 e0 P hP
  have N0 := Fr.nil n0
  have K0 : Keep h0 h0 [] := Keep.refl _ _
  refine g_iloadN X0 H d5_0 rfl ?_
  refine g_ifYes X0 H d5_1 10 ((if0 _ _).trans (feq (fun q => absurd (congrArg Int32.toInt q) (by rw [own_nat (by omega)]; show ¬ (ns : Int) = 0; omega))).2) (by decide) ?_
  refine g_aloadN X0 H d5_10 rfl rfl ?_
  refine g_iloadN X0 H d5_11 rfl ?_
  refine g_iloadN X0 H d5_12 rfl ?_
  refine g_cS X0 H hZ hml rfl hown e0 (rm22 l Z a0 hw [] ob kk ns nl qa qb qv ya yb yc h0 n0 Z0 P0 hsl) (own_g hw 117 rfl) (own_g hw 118 rfl) (own_g hw 19 rfl) (own_g hw 119 rfl) (by decide) own_pd7 d5_13 rfl rfl rfl (W := 0) rfl (by decide) ?_
  intro _ T1 Lc1 X1 hQ1
  obtain ⟨oc_1, kc_1, us_1, rfl, Nq1, K1, fr1_oc, u1_0⟩ := hQ1
  obtain ⟨lc1, Xh1, N1⟩ := own_hide X1 (Fr.app N0 Nq1)
  clear X1
  have g2 := Nat.le_trans Z0 fr1_oc
  have sz3 := Nat.le_trans K0.1 fr1_oc
  have Z4 := Nat.le_trans Z0 K1.1
  have K5 := K0.trans K1 own_all0
  refine g_retA Xh1 H Bd.notSynchronized hP (by decide) Bd.returns rfl rfl rfl d5_16 ?_
  exact ⟨oc_1, kc_1, us_1, rfl, N1, K5, sz3, u1_0⟩
theorem d5_4 : D12 4 (.iload_n 2) 1 := by decide +kernel
theorem d5_5 : D12 5 (.aload_n 0) 1 := by decide +kernel
theorem d5_6 : D12 6 (.arraylength) 1 := by decide +kernel
theorem d5_7 : D12 7 (.if_icmp .eq 10) 3 := by decide +kernel
theorem d5_17 : D12 17 (.aload_n 0) 1 := by decide +kernel
theorem d5_18 : D12 18 (.invokevirtual 310) 3 := by decide +kernel
theorem d5_21 : D12 21 (.checkcast 311) 3 := by decide +kernel
theorem d5_24 : D12 24 (.areturn) 1 := by decide +kernel
theorem ef_5w (m : MethodId) (x0 : Addr) : entryFrame m #[(.ref x0), (.int 0), (.int 26)] 3 = mkF m 0 #[.val (.ref x0), .val (.int 0), .val (.int 26)] [] := by first | (simp [entryFrame, mkF, argsToLocals, Value.category]; done) | rfl
def Q5w (Z : State) (ob : Addr) (kk : ClassId) (qa : Int32) (qb : Int32) (qv : Int32) (ya : Int32) (yb : Int32) (yc : Int32) (h0 : Heap) (n0 : Nat) (v : Option Value) (h : Heap) (L : List Loc) : Prop := ∃ (oc : Addr) (kc : ClassId), v = some (.ref oc) ∧ Fr n0 L ∧ Keep h0 h [] ∧ h0.size ≤ oc ∧ Arv Z h oc kc .byte (26 : Int32) (bll qa qb qv ya yb yc) (.int 0) ∧ Exa Z h oc DBn
theorem rm5w (l : Launch) (Z : State) (a0 : Array Value) (hw : HW a0 Z) (ws : List Jvm.Cond) (ob : Addr) (kk : ClassId) (qa : Int32) (qb : Int32) (qv : Int32) (ya : Int32) (yb : Int32) (yc : Int32) (h0 : Heap) (n0 : Nat) (Z0 : n0 ≤ h0.size) (P0 : Arv Z h0 ob kk .byte (26 : Int32) (bll qa qb qv ya yb yc) (.int 0)) (P1 : Exa Z h0 ob DBn) :
    MFr l Z (⟨ARn, "copyOfRange", "([BII)[B"⟩ : MethodName) jdk_65_method_132_code 3 (some (.array .byte)) ws (Rm 1 1 26 14) #[(.ref ob), (.int 0), (.int 26)] h0 (Q5w Z ob kk qa qb qv ya yb yc h0 n0) := by
  refine own_body (own := ARn) (plainFor_of_name own_pn4) rfl (fun m => ef_5w m ob) ?_
  intro p e s m below meth c s₁ Bd H hml hZ hown X0 e0 P hP
  have hx := H.1
  have hby := H.2
  have N0 := Fr.nil n0
  have K0 : Keep h0 h0 [] := Keep.refl _ _
  refine g_iloadN X0 H d5_0 rfl ?_
  refine g_ifNo X0 H d5_1 ((if0 _ _).trans (teq (rfl : (0 : Int32) = (0 : Int32))).2) ?_
  refine g_iloadN X0 H d5_4 rfl ?_
  refine g_aloadN X0 H d5_5 rfl rfl ?_
  show Go p.tables e below P s₁ (mkF m 6 #[vr ob, vi 0, vi 26] [(.ref ob), (.int 26)])
  refine g_len X0 H hZ e0 P0 d5_6 ?_
  refine g_icmpYes X0 H d5_7 17 (teq (rfl : (26 : Int32) = (26 : Int32))).1 (by decide) ?_
  refine g_aloadN X0 H d5_17 rfl rfl ?_
  obtain ⟨T2, h2, X2, e2, E2, V2, B2, st2⟩ := cloneH X0 hx hZ hown (own_g hw 21 rfl) (own_g hw 22 rfl) (own_g hw 26 rfl) (own_g hw 24 rfl) (own_g hw 25 rfl) (own_g hw 27 rfl) e0 (Arv.arh P0) P1 (g := (mkF m 18 #[vr ob, vi 0, vi 26] [(.ref ob)])) rfl (by rw [hml]; rfl) rfl (hb hby d5_18) (by decide) (W := 0) (by show 2 * 0 + _ ≤ _; exact Nat.le_of_eq rfl) (by decide) (cap := 26) (by decide) (by decide) (by decide)
  obtain ⟨b2, g2⟩ : ∃ z, z = h0.size := ⟨_, rfl⟩
  rw [← g2] at V2 B2 st2
  refine gv st2 ?_
  have g3 := Nat.le_trans Z0 (Nat.le_of_eq g2.symm)
  have sz4 := Nat.le_trans K0.1 (Nat.le_of_eq g2.symm)
  have Z5 := Nat.le_trans Z0 E2.1
  have K6 := K0.ext E2
  have Vc2 : Arv Z h2 b2 kk .byte (26 : Int32) (bll qa qb qv ya yb yc) (.int 0) := V2
  show Go p.tables e below P T2 (mkF m 21 #[vr ob, vi 0, vi 26] [(.ref b2)])
  obtain ⟨T7, X7, e7, st7⟩ := castY X2 hx hZ hown (own_g hw 28 rfl) e2 (Ins.self B2) (g := (mkF m 21 #[vr ob, vi 0, vi 26] [(.ref b2)])) rfl rfl (hb hby d5_21)
  refine gv st7 ?_
  show Go p.tables e below P T7 (mkF m 24 #[vr ob, vi 0, vi 26] [(.ref b2)])
  refine g_retA X7 H Bd.notSynchronized hP (by decide) Bd.returns rfl rfl rfl d5_24 ?_
  rw [e7]
  exact ⟨b2, kk, rfl, N0, K6, sz4, Vc2, B2⟩
theorem own_sn12 {Z : State} {a0 : Array Value} (hw : ∀ d ∈ tables_1, d.before a0 Z = true) : Jvm.RoadKit.slotOf Z STn CDn "B" ≠ Jvm.RoadKit.slotOf Z STn VLn DBn := slot_ne (Or.inr (own_g hw 133 rfl)) (Or.inr (own_g hw 131 rfl)) (by decide) (t := .byte) (t' := (.array .byte)) (by decide) (by decide)
theorem own_sn13 {Z : State} {a0 : Array Value} (hw : ∀ d ∈ tables_1, d.before a0 Z = true) : Jvm.RoadKit.slotOf Z STn VLn DBn ≠ Jvm.RoadKit.slotOf Z STn CDn "B" := slot_ne (Or.inr (own_g hw 131 rfl)) (Or.inr (own_g hw 133 rfl)) (by decide) (t := (.array .byte)) (t' := .byte) (by decide) (by decide)
theorem d21_0 : D13 0 (.aload_n 0) 1 := by decide +kernel
theorem d21_1 : D13 1 (.invokespecial 1) 3 := by decide +kernel
theorem d21_4 : D13 4 (.iload 4) 2 := by decide +kernel
theorem d21_6 : D13 6 (.ifCond .ne 24) 3 := by decide +kernel
theorem d21_30 : D13 30 (.aload_n 1) 1 := by decide +kernel
theorem d21_31 : D13 31 (.getstatic 86) 3 := by decide +kernel
theorem d21_34 : D13 34 (.if_acmp .ne 312) 3 := by decide +kernel
theorem d21_346 : D13 346 (.aload_n 1) 1 := by decide +kernel
theorem d21_347 : D13 347 (.getstatic 116) 3 := by decide +kernel
theorem d21_350 : D13 350 (.if_acmp .ne 49) 3 := by decide +kernel
theorem d21_353 : D13 353 (.getstatic 38) 3 := by decide +kernel
theorem d21_356 : D13 356 (.ifCond .eq 24) 3 := by decide +kernel
theorem d21_359 : D13 359 (.aload_n 0) 1 := by decide +kernel
theorem d21_360 : D13 360 (.aload_n 2) 1 := by decide +kernel
theorem d21_361 : D13 361 (.iload_n 3) 1 := by decide +kernel
theorem d21_362 : D13 362 (.iload_n 3) 1 := by decide +kernel
theorem d21_363 : D13 363 (.iload 4) 2 := by decide +kernel
theorem d21_365 : D13 365 (.iadd) 1 := by decide +kernel
theorem d21_366 : D13 366 (.invokestatic 54) 3 := by decide +kernel
theorem d21_369 : D13 369 (.putfield 9) 3 := by decide +kernel
theorem d21_372 : D13 372 (.aload_n 0) 1 := by decide +kernel
theorem d21_373 : D13 373 (.iconst 0) 1 := by decide +kernel
theorem d21_374 : D13 374 (.putfield 15) 3 := by decide +kernel
theorem d21_377 : D13 377 (.goto 502) 3 := by decide +kernel
theorem d21_879 : D13 879 (.return_) 1 := by decide +kernel
theorem ef_21 (m : MethodId) (x0 : Addr) (x1 : Addr) (x2 : Addr) (x3 : Int32) (x4 : Int32) : entryFrame m #[(.ref x0), (.ref x1), (.ref x2), (.int x3), (.int x4)] 11 = mkF m 0 #[.val (.ref x0), .val (.ref x1), .val (.ref x2), .val (.int x3), .val (.int x4), .unset, .unset, .unset, .unset, .unset, .unset] [] := by first | (simp [entryFrame, mkF, argsToLocals, Value.category]; done) | rfl
def Q21 (Z : State) (so : Addr) (ob : Addr) (kk : ClassId) (ns : Nat) (nl : Nat) (qa : Int32) (qb : Int32) (qv : Int32) (ya : Int32) (yb : Int32) (yc : Int32) (cs : Int32) (fm : Value) (och : Addr) (ou : Addr) (h0 : Heap) (n0 : Nat) (v : Option Value) (h : Heap) (L : List Loc) : Prop := ∃ (oc : Addr) (kc : ClassId) (us : List Value), v = none ∧ Fr n0 L ∧ Keep h0 h [so] ∧ h0.size ≤ oc ∧ Exa Z h so STn ∧ Fld Z h so STn VLn DBn (.ref oc) ∧ Fld Z h so STn CDn "B" (.int 0) ∧ Arv Z h oc kc .byte (nl.toInt32) us (.int 0)
theorem rm21 (l : Launch) (Z : State) (a0 : Array Value) (hw : HW a0 Z) (ws : List Jvm.Cond) (so : Addr) (ob : Addr) (kk : ClassId) (ns : Nat) (nl : Nat) (qa : Int32) (qb : Int32) (qv : Int32) (ya : Int32) (yb : Int32) (yc : Int32) (cs : Int32) (fm : Value) (och : Addr) (ou : Addr) (h0 : Heap) (n0 : Nat) (Z0 : n0 ≤ h0.size) (O0 : Old Z n0 h0) (P1 : Sta Z Z.heap STn CSn "Z" (.int cs)) (hcs : ¬ cs = (0 : Int32)) (P3 : Sta Z Z.heap PRn SIn BFn fm) (rfm : fm.isRef = true) (P5 : Sta Z Z.heap SCn ISn DChn (.ref och)) (P6 : Exa Z Z.heap och STIn) (P7 : Sta Z Z.heap STIn INSn DSIn (.ref och)) (P8 : Sta Z Z.heap STUn INSn DSUn (.ref ou)) (nou : och ≠ ou) (P10 : Exa Z h0 so STn) (P11 : Fld Z h0 so STn VLn DBn .null) (P12 : Fld Z h0 so STn CDn "B" (.int 0)) (P13 : Arv Z h0 ob kk .byte (26 : Int32) (bll qa qb qv ya yb yc) (.int 0)) (hsl : ns + nl ≤ 26) (hn1 : 1 ≤ ns) (hl1 : 1 ≤ nl) (gso : n0 ≤ so) :
    MetFree l (⟨STn, "<init>", "(Ljava/nio/charset/Charset;[BII)V"⟩ : MethodName) (head1 (Jvm.Cond.codeWith (⟨STn, "<init>", "(Ljava/nio/charset/Charset;[BII)V"⟩ : MethodName) jdk_42_method_11_code 11 none [(800, 813, 816, 202)] :: ws) (Rm 3 1 26 49)) (fun a U => a = #[(.ref so), (.ref och), (.ref ob), (.int (ns.toInt32)), (.int (nl.toInt32))] ∧ Z.Warmed39 U.vm ∧ U.heap = h0) (fun _ _ _ _ _ => True) (fun _ U o U' => ∃ v L, o = .returned v ∧ Q21 Z so ob kk ns nl qa qb qv ya yb yc cs fm och ou h0 n0 v U'.heap L ∧ FrameEnd U o U' L (Rm 3 1 26 49).cells (Rm 3 1 26 49).slots) := by
  refine MetFree.of_bodySF (plainFor_of_name own_pn3) hisWith ?_
  intro p e s m args below meth c s₁ Bd hml0 hP hK
  obtain ⟨rfl, hZ, hh⟩ := hP
  have hx := Bd.exec
  have hby := Bd.bytes
  have hml : c.maxLocals = 11 := hml0
  have hown : s.vm.findClass STn = some m.cls := findClass_of_methodNamed Bd.named
  have hnm := (name_of_methodNamed Bd.named Bd.method).1
  have X0 : Stand p l e (Rm 3 1 26 49) s m #[(.ref so), (.ref och), (.ref ob), (.int (ns.toInt32)), (.int (nl.toInt32))] below meth c s₁ [] 0 0 := Stand.of_body Bd
  have e0 : s₁.heap = h0 := by rw [← hh, Bd.state]; rfl
  have N0 := Fr.nil n0
  have K0 : Keep h0 h0 [so] := Keep.refl _ _
  suffices GO : ∀ P : Outcome → State → Prop, (∀ o U', (∃ v L, o = .returned v ∧ Q21 Z so ob kk ns nl qa qb qv ya yb yc cs fm och ou h0 n0 v U'.heap L ∧ FrameEnd s o U' L (Rm 3 1 26 49).cells (Rm 3 1 26 49).slots) → P o U') → Go p.tables e below P s₁ (mkF m 0 #[.val (.ref so), .val (.ref och), .val (.ref ob), .val (.int (ns.toInt32)), .val (.int (nl.toInt32)), .unset, .unset, .unset, .unset, .unset, .unset] []) by
    obtain ⟨s2, o, st, r⟩ := GO _ (fun _ _ q => q)
    exact ⟨s2, o, castTop (ef_21 m so och ob (ns.toInt32) (nl.toInt32)) st, r⟩
  clear hh
  have H : HX p c jdk_42_method_11_code := ⟨hx, hby⟩
  intro P hP
  show Go p.tables e below P s₁ (mkF m 0 #[vr so, vr och, vr ob, vi (ns.toInt32), vi (nl.toInt32), vu, vu, vu, vu, vu, vu] [])
  refine g_aloadN X0 H d21_0 rfl rfl ?_
  obtain ⟨T1, X1, e1, st1⟩ := initO X0 hx hZ hown (own_g hw 110 rfl) (own_g hw 52 rfl) (own_g hw 53 rfl) e0 (g := (mkF m 1 #[vr so, vr och, vr ob, vi (ns.toInt32), vi (nl.toInt32), vu, vu, vu, vu, vu, vu] [(.ref so)])) rfl (by rw [hml]; rfl) rfl (hb hby d21_1) (by decide) (W := 0) (by show 2 * 0 + _ ≤ _; exact Nat.le_of_eq rfl) (by decide)
  refine gv st1 ?_
  show Go p.tables e below P T1 (mkF m 4 #[vr so, vr och, vr ob, vi (ns.toInt32), vi (nl.toInt32), vu, vu, vu, vu, vu, vu] [])
  refine g_iload X1 H d21_4 rfl ?_
  refine g_ifYes X1 H d21_6 30 ((if0 _ _).trans (feq (fun q => absurd (congrArg Int32.toInt q) (by rw [own_nat (by omega)]; show ¬ (nl : Int) = 0; omega))).2) (by decide) ?_
  refine g_aloadN X1 H d21_30 rfl rfl ?_
  refine g_getS X1 H hZ hown (host := "") (Or.inl (own_g hw 111 rfl)) Via.refl e1 (P8.ext O0.2) d21_31 ?_
  intro T2 X2 e2
  show Go p.tables e below P T2 (mkF m 34 #[vr so, vr och, vr ob, vi (ns.toInt32), vi (nl.toInt32), vu, vu, vu, vu, vu, vu] [(.ref ou), (.ref och)])
  refine gv (fun t k => Jvm.RoadKit.acmp (g := (mkF m 34 #[vr so, vr och, vr ob, vi (ns.toInt32), vi (nl.toInt32), vu, vu, vu, vu, vu, vu] [(.ref ou), (.ref och)])) X2 hx rfl rfl rfl (pc0 := 34) (pc' := 346) (same := false) rfl (hb hby d21_34) rfl (decide_eq_false fun q => nou (Value.ref.inj q)) (by decide) (by decide) k) ?_
  show Go p.tables e below P T2 (mkF m 346 #[vr so, vr och, vr ob, vi (ns.toInt32), vi (nl.toInt32), vu, vu, vu, vu, vu, vu] [])
  refine g_aloadN X2 H d21_346 rfl rfl ?_
  refine g_getS X2 H hZ hown (host := "") (Or.inl (own_g hw 113 rfl)) Via.refl e2 (P7.ext O0.2) d21_347 ?_
  intro T3 X3 e3
  show Go p.tables e below P T3 (mkF m 350 #[vr so, vr och, vr ob, vi (ns.toInt32), vi (nl.toInt32), vu, vu, vu, vu, vu, vu] [(.ref och), (.ref och)])
  refine gv (fun t k => Jvm.RoadKit.acmp (g := (mkF m 350 #[vr so, vr och, vr ob, vi (ns.toInt32), vi (nl.toInt32), vu, vu, vu, vu, vu, vu] [(.ref och), (.ref och)])) X3 hx rfl rfl rfl (pc0 := 350) (pc' := 353) (same := true) rfl (hb hby d21_350) rfl (decide_eq_true rfl) (by decide) (by decide) k) ?_
  show Go p.tables e below P T3 (mkF m 353 #[vr so, vr och, vr ob, vi (ns.toInt32), vi (nl.toInt32), vu, vu, vu, vu, vu, vu] [])
  refine g_getS X3 H hZ hown (host := "") (Or.inl (own_g hw 115 rfl)) Via.refl e3 (P1.ext O0.2) d21_353 ?_
  intro T4 X4 e4
  refine g_ifNo X4 H d21_356 ((if0 _ _).trans (feq hcs).1) ?_
  refine g_aloadN X4 H d21_359 rfl rfl ?_
  refine g_aloadN X4 H d21_360 rfl rfl ?_
  refine g_iloadN X4 H d21_361 rfl ?_
  refine g_iloadN X4 H d21_362 rfl ?_
  refine g_iload X4 H d21_363 rfl ?_
  refine g_iadd X4 H d21_365 ?_
  show Go p.tables e below P T4 (mkF m 366 #[vr so, vr och, vr ob, vi (ns.toInt32), vi (nl.toInt32), vu, vu, vu, vu, vu, vu] [(.int ((ns.toInt32) + (nl.toInt32))), (.int (ns.toInt32)), (.ref ob), (.ref so)])
  rw [show ns.toInt32 + nl.toInt32 = (ns + nl).toInt32 from (Int32.ofNat_add ns nl).symm]
  refine g_cS X4 H hZ hml rfl hown e4 (rm5 l Z a0 hw [] ob kk ns nl qa qb qv ya yb yc h0 n0 Z0 P13 hsl hn1) (own_g hw 116 rfl) (own_g hw 18 rfl) (own_g hw 19 rfl) (own_g hw 20 rfl) (by decide) own_pd7 d21_366 rfl rfl rfl (W := 1) rfl (by decide) ?_
  intro _ T5 Lc5 X5 hQ5
  obtain ⟨oc_5, kc_5, us_5, rfl, Nq5, K5, fr5_oc, u5_0⟩ := hQ5
  obtain ⟨lc5, Xh5, N5⟩ := own_hide X5 (Fr.app N0 Nq5)
  clear X5
  have g6 := Nat.le_trans Z0 fr5_oc
  have sz7 := Nat.le_trans K0.1 fr5_oc
  have Z8 := Nat.le_trans Z0 K5.1
  have K9 := K0.trans K5 own_all0
  have O10 : Old Z n0 T5.heap := O0.keep K5 own_all0
  have F11 := (P10.keep K5)
  have F12 := (P11.keep K5 own_nin0)
  obtain ⟨T13, h13, X13, e13, W13, st13⟩ := putF Xh5 hx hZ hown (host := "") (Or.inl (own_g hw 130 rfl)) Via.refl rfl F12 F11 (Or.inr ⟨(own_g hw 131 rfl), rfl, hnm⟩) (own_g hw 84 rfl) (ty := (.array .byte)) (by decide) rfl rfl (g := (mkF m 369 #[vr so, vr och, vr ob, vi (ns.toInt32), vi (nl.toInt32), vu, vu, vu, vu, vu, vu] [(.ref oc_5), (.ref so)])) rfl rfl (hb hby d21_369)
  refine gv st13 ?_
  have Z14 := Nat.le_trans Z8 (Nat.le_of_eq W13.size.symm)
  have K15 := K9.wr W13 (Or.inl (List.mem_of_getElem? (i := 0) rfl))
  obtain ⟨lc13, Xh13, N16⟩ := own_hide X13 (Fr.snoc X13 N5 gso)
  clear X13
  have O17 : Old Z n0 h13 := O10.wr W13 gso
  have Fw13 := F12.same W13
  show Go p.tables e below P T13 (mkF m 372 #[vr so, vr och, vr ob, vi (ns.toInt32), vi (nl.toInt32), vu, vu, vu, vu, vu, vu] [])
  refine g_aloadN Xh13 H d21_372 rfl rfl ?_
  refine g_iconst Xh13 H d21_373 0 rfl ?_
  have F18 := (F11.wr W13)
  have F19 := ((P12.keep K5 own_nin0).other W13 (Or.inr (own_sn12 hw)))
  obtain ⟨T20, h20, X20, e20, W20, st20⟩ := putF Xh13 hx hZ hown (host := "") (Or.inl (own_g hw 132 rfl)) Via.refl e13 F19 F18 (Or.inr ⟨(own_g hw 133 rfl), rfl, hnm⟩) (own_g hw 84 rfl) (ty := .byte) (by decide) rfl rfl (g := (mkF m 374 #[vr so, vr och, vr ob, vi (ns.toInt32), vi (nl.toInt32), vu, vu, vu, vu, vu, vu] [(.int 0), (.ref so)])) rfl rfl (hb hby d21_374)
  refine gv st20 ?_
  have Z21 := Nat.le_trans Z14 (Nat.le_of_eq W20.size.symm)
  have K22 := K15.wr W20 (Or.inl (List.mem_of_getElem? (i := 0) rfl))
  obtain ⟨lc20, Xh20, N23⟩ := own_hide X20 (Fr.snoc X20 N16 gso)
  clear X20
  have O24 : Old Z n0 h20 := O17.wr W20 gso
  have Fw20 := F19.same W20
  show Go p.tables e below P T20 (mkF m 377 #[vr so, vr och, vr ob, vi (ns.toInt32), vi (nl.toInt32), vu, vu, vu, vu, vu, vu] [])
  refine g_goto Xh20 H d21_377 879 (by decide) ?_
  show Go p.tables e below P T20 (mkF m 879 #[vr so, vr och, vr ob, vi (ns.toInt32), vi (nl.toInt32), vu, vu, vu, vu, vu, vu] [])
  obtain ⟨fs, hr, hrun, hended, hW, hsame⟩ := Xh20.leave (v := none) (fun _ => rfl)
  have F26 := (F18.wr W20)
  have F27 := (Fw13.other W20 (Or.inr (own_sn13 hw)))
  have F28 := ((u5_0.other W13 (Ne.symm (Nat.ne_of_lt (Nat.lt_of_lt_of_le P10.lt sz7)))).other W20 (Ne.symm (Nat.ne_of_lt (Nat.lt_of_lt_of_le P10.lt sz7))))
  refine ⟨_, _, Xh20.returnOut hx Bd.returns (hb hby d21_879) hr, hrun, hended, hP _ _ ⟨_, _, rfl, ?_, ⟨_, rfl⟩, hW, hsame.mono (by decide) (by decide)⟩⟩
  show Q21 Z so ob kk ns nl qa qb qv ya yb yc cs fm och ou h0 n0 _ T20.heap _
  rw [e20]
  exact ⟨oc_5, kc_5, us_5, rfl, N23, K22, sz7, F26, F27, Fw20, F28⟩
theorem own_pd8 : parseMethodDescriptor "(Ljava/lang/Object;)Ljava/lang/Object;" = some ⟨[(.object "java/lang/Object")], some (.object "java/lang/Object")⟩ := by decide +kernel
theorem own_pd9 : parseMethodDescriptor "(III)I" = some ⟨[.int, .int, .int], some .int⟩ := by decide +kernel
theorem own_pd10 : parseMethodDescriptor "(Ljava/nio/charset/Charset;[BII)V" = some ⟨[(.object "java/nio/charset/Charset"), (.array .byte), .int, .int], none⟩ := by decide +kernel
theorem d18_0 : D14 0 (.aload_n 0) 1 := by decide +kernel
theorem d18_1 : D14 1 (.aload 4) 2 := by decide +kernel
theorem d18_3 : D14 3 (.invokestatic 78) 3 := by decide +kernel
theorem d18_6 : D14 6 (.checkcast 84) 3 := by decide +kernel
theorem d18_9 : D14 9 (.aload_n 1) 1 := by decide +kernel
theorem d18_10 : D14 10 (.iload_n 2) 1 := by decide +kernel
theorem d18_11 : D14 11 (.iload_n 3) 1 := by decide +kernel
theorem d18_12 : D14 12 (.aload_n 1) 1 := by decide +kernel
theorem d18_13 : D14 13 (.arraylength) 1 := by decide +kernel
theorem d18_14 : D14 14 (.invokestatic 34) 3 := by decide +kernel
theorem d18_17 : D14 17 (.iload_n 3) 1 := by decide +kernel
theorem d18_18 : D14 18 (.invokespecial 75) 3 := by decide +kernel
theorem d18_21 : D14 21 (.return_) 1 := by decide +kernel
theorem ef_18 (m : MethodId) (x0 : Addr) (x1 : Addr) (x2 : Int32) (x3 : Int32) (x4 : Addr) : entryFrame m #[(.ref x0), (.ref x1), (.int x2), (.int x3), (.ref x4)] 5 = mkF m 0 #[.val (.ref x0), .val (.ref x1), .val (.int x2), .val (.int x3), .val (.ref x4)] [] := by first | (simp [entryFrame, mkF, argsToLocals, Value.category]; done) | rfl
def Q18 (Z : State) (so : Addr) (ob : Addr) (kk : ClassId) (ns : Nat) (nl : Nat) (qa : Int32) (qb : Int32) (qv : Int32) (ya : Int32) (yb : Int32) (yc : Int32) (cs : Int32) (fm : Value) (och : Addr) (ou : Addr) (h0 : Heap) (n0 : Nat) (v : Option Value) (h : Heap) (L : List Loc) : Prop := ∃ (oc : Addr) (kc : ClassId) (us : List Value), v = none ∧ Fr n0 L ∧ Keep h0 h [so] ∧ h0.size ≤ oc ∧ Exa Z h so STn ∧ Fld Z h so STn VLn DBn (.ref oc) ∧ Fld Z h so STn CDn "B" (.int 0) ∧ Arv Z h oc kc .byte (nl.toInt32) us (.int 0)
theorem rm18 (l : Launch) (Z : State) (a0 : Array Value) (hw : HW a0 Z) (ws : List Jvm.Cond) (so : Addr) (ob : Addr) (kk : ClassId) (ns : Nat) (nl : Nat) (qa : Int32) (qb : Int32) (qv : Int32) (ya : Int32) (yb : Int32) (yc : Int32) (cs : Int32) (fm : Value) (och : Addr) (ou : Addr) (h0 : Heap) (n0 : Nat) (Z0 : n0 ≤ h0.size) (O0 : Old Z n0 h0) (P1 : Sta Z Z.heap STn CSn "Z" (.int cs)) (hcs : ¬ cs = (0 : Int32)) (P3 : Sta Z Z.heap PRn SIn BFn fm) (rfm : fm.isRef = true) (P5 : Sta Z Z.heap SCn ISn DChn (.ref och)) (P6 : Exa Z Z.heap och STIn) (P7 : Sta Z Z.heap STIn INSn DSIn (.ref och)) (P8 : Sta Z Z.heap STUn INSn DSUn (.ref ou)) (nou : och ≠ ou) (P10 : Exa Z h0 so STn) (P11 : Fld Z h0 so STn VLn DBn .null) (P12 : Fld Z h0 so STn CDn "B" (.int 0)) (P13 : Arv Z h0 ob kk .byte (26 : Int32) (bll qa qb qv ya yb yc) (.int 0)) (hsl : ns + nl ≤ 26) (hn1 : 1 ≤ ns) (hl1 : 1 ≤ nl) (gso : n0 ≤ so) :
    MFr l Z (⟨STn, "<init>", "([BIILjava/nio/charset/Charset;)V"⟩ : MethodName) jdk_42_method_10_code 5 none ws (Rm 4 1 26 71) #[(.ref so), (.ref ob), (.int (ns.toInt32)), (.int (nl.toInt32)), (.ref och)] h0 (Q18 Z so ob kk ns nl qa qb qv ya yb yc cs fm och ou h0 n0) := by
  refine own_body (own := STn) (plainFor_of_name own_pn3) rfl (fun m => ef_18 m so ob (ns.toInt32) (nl.toInt32) och) ?_
  intro p e s m below meth c s₁ Bd H hml hZ hown X0 e0 P hP
  have hx := H.1
  have hby := H.2
  have N0 := Fr.nil n0
  have K0 : Keep h0 h0 [so] := Keep.refl _ _
  refine g_aloadN X0 H d18_0 rfl rfl ?_
  refine g_aload X0 H d18_1 rfl rfl ?_
  refine g_cS X0 H hZ hml rfl hown e0 (rm19 l Z a0 hw [] och h0 n0 Z0 ) (own_g hw 96 rfl) (own_g hw 97 rfl) (own_g hw 11 rfl) (own_g hw 98 rfl) (by decide) own_pd8 d18_3 rfl rfl rfl (W := 1) rfl (by decide) ?_
  intro _ T1 Lc1 X1 hQ1
  obtain ⟨rfl, Nq1, hh1⟩ := hQ1
  obtain ⟨lc1, Xh1, N1⟩ := own_hide X1 (Fr.app N0 Nq1)
  clear X1
  obtain ⟨T2, X2, e2, st2⟩ := castY Xh1 hx hZ hown (own_g hw 99 rfl) hh1 (Ins.of_exa (P6.ext O0.2) (own_g hw 100 rfl)) (g := (mkF m 6 #[vr so, vr ob, vi (ns.toInt32), vi (nl.toInt32), vr och] [(.ref och), (.ref so)])) rfl rfl (hb hby d18_6)
  refine gv st2 ?_
  show Go p.tables e below P T2 (mkF m 9 #[vr so, vr ob, vi (ns.toInt32), vi (nl.toInt32), vr och] [(.ref och), (.ref so)])
  refine g_aloadN X2 H d18_9 rfl rfl ?_
  refine g_iloadN X2 H d18_10 rfl ?_
  refine g_iloadN X2 H d18_11 rfl ?_
  refine g_aloadN X2 H d18_12 rfl rfl ?_
  refine g_len X2 H hZ e2 P13 d18_13 ?_
  refine g_cS X2 H hZ hml rfl hown e2 (rm20 l Z a0 hw [] ns nl fm h0 n0 Z0 O0 P3 rfm hsl) (own_g hw 101 rfl) (own_g hw 102 rfl) (own_g hw 85 rfl) (own_g hw 103 rfl) (by decide) own_pd9 d18_14 rfl rfl rfl (W := 3) rfl (by decide) ?_
  intro _ T4 Lc4 X4 hQ4
  obtain ⟨rfl, Nq4, hh4⟩ := hQ4
  obtain ⟨lc4, Xh4, N4⟩ := own_hide X4 (Fr.app N1 Nq4)
  clear X4
  refine g_iloadN Xh4 H d18_17 rfl ?_
  show Go p.tables e below P T4 (mkF m 18 #[vr so, vr ob, vi (ns.toInt32), vi (nl.toInt32), vr och] [(.int (nl.toInt32)), (.int (ns.toInt32)), (.ref ob), (.ref och), (.ref so)])
  obtain ⟨_, _, ⟨T5, L5, k5, n5⟩, -, X5, ⟨Lc5, hQ5, l5, y5, z5⟩, st5⟩ := Xh4.specialBackH hx (y := (⟨STn, "<init>", "(Ljava/nio/charset/Charset;[BII)V"⟩ : MethodName)) rfl hown (mvT hZ (own_g hw 106 rfl)) (mvT hZ (own_g hw 107 rfl)) (mv hZ (own_g hw 109 rfl)) (by decide) (backOfWith (W := 0) (rm21 l Z a0 hw [] so ob kk ns nl qa qb qv ya yb yc cs fm och ou h0 n0 Z0 O0 P1 hcs P3 rfm P5 P6 P7 P8 nou P10 P11 P12 P13 hsl hn1 hl1 gso) hZ (own_g hw 109 rfl) (own_g hw 85 rfl) (by decide) (by decide)) (g := (mkF m 18 #[vr so, vr ob, vi (ns.toInt32), vi (nl.toInt32), vr och] [(.int (nl.toInt32)), (.int (ns.toInt32)), (.ref ob), (.ref och), (.ref so)])) rfl (by rw [hml]; rfl) (Steps.refl _) (a := so) (argsL := [(.ref och), (.ref ob), (.int (ns.toInt32)), (.int (nl.toInt32))]) (rest := []) (lenOf own_pd10 rfl) rfl (by show 2 * 0 + _ ≤ _; exact Nat.le_of_eq rfl) (hb hby d18_18) (fun _ _ => ⟨rfl, hh4, (by decide : 0 + 1 ≤ _), (by decide : 0 + 26 ≤ _)⟩)
  dsimp only [Pt.U, Pt.locs, Pt.cells, Pt.slots] at X5 l5 y5 z5 st5 hQ5
  subst l5 y5 z5
  obtain ⟨oc_5, kc_5, us_5, rfl, Nq5, K5, fr5_oc, u5_0, u5_1, u5_2, u5_3⟩ := hQ5
  obtain ⟨lc5, Xh5, N5⟩ := own_hide X5 (Fr.app N4 Nq5)
  clear X5
  refine Go.hop st5 ?_
  have g6 := Nat.le_trans Z0 fr5_oc
  have sz7 := Nat.le_trans K0.1 fr5_oc
  have Z8 := Nat.le_trans Z0 K5.1
  have K9 := K0.trans K5 (own_allC (Or.inl (List.mem_of_getElem? (i := 0) rfl)) own_all0)
  have O10 : Old Z n0 T5.heap := O0.keep K5 (own_allC gso own_all0)
  show Go p.tables e below P T5 (mkF m 21 #[vr so, vr ob, vi (ns.toInt32), vi (nl.toInt32), vr och] [])
  refine g_retV Xh5 H Bd.notSynchronized hP (by decide) Bd.returns d18_21 ?_
  exact ⟨oc_5, kc_5, us_5, rfl, N5, K9, sz7, u5_0, u5_1, u5_2, u5_3⟩
def own_ns (i : Nat) : Nat := [2, 6, 12, 17, 22].getD i 0
def own_nl (i : Nat) : Nat := [1, 2, 1, 1, 3].getD i 0
theorem own_nsl : ∀ i, i < 5 → own_ns i + own_nl i ≤ 26 ∧ 1 ≤ own_ns i ∧ 1 ≤ own_nl i := by decide
theorem own_vsg {i : Nat} (h : i < 5) : (lvs : List Value).getD i (.int 0) = .int (own_ns i).toInt32 := by rcases (by omega : i = 0 ∨ i = 1 ∨ i = 2 ∨ i = 3 ∨ i = 4) with rfl | rfl | rfl | rfl | rfl <;> rfl
theorem own_veg {i : Nat} (h : i < 5) : (lve : List Value).getD i (.int 0) = .int (own_ns i + own_nl i).toInt32 := by rcases (by omega : i = 0 ∨ i = 1 ∨ i = 2 ∨ i = 3 ∨ i = 4) with rfl | rfl | rfl | rfl | rfl <;> rfl
theorem d17_0 : D15 0 (.aload_n 0) 1 := by decide +kernel
theorem d17_1 : D15 1 (.getfield 22) 3 := by decide +kernel
theorem d17_4 : D15 4 (.iload_n 1) 1 := by decide +kernel
theorem d17_5 : D15 5 (.iaload) 1 := by decide +kernel
theorem d17_6 : D15 6 (.aload_n 0) 1 := by decide +kernel
theorem d17_7 : D15 7 (.getfield 19) 3 := by decide +kernel
theorem d17_10 : D15 10 (.iload_n 1) 1 := by decide +kernel
theorem d17_11 : D15 11 (.iaload) 1 := by decide +kernel
theorem d17_12 : D15 12 (.isub) 1 := by decide +kernel
theorem d17_13 : D15 13 (.ireturn) 1 := by decide +kernel
theorem ef_17 (m : MethodId) (x0 : Addr) (x1 : Int32) : entryFrame m #[(.ref x0), (.int x1)] 2 = mkF m 0 #[.val (.ref x0), .val (.int x1)] [] := by first | (simp [entryFrame, mkF, argsToLocals, Value.category]; done) | rfl
def Q17 (Z : State) (om : Addr) (os : Addr) (oe : Addr) (ks : ClassId) (ke : ClassId) (ii : Nat) (h0 : Heap) (n0 : Nat) (v : Option Value) (h : Heap) (L : List Loc) : Prop := v = some (.int ((own_nl ii).toInt32)) ∧ Fr n0 L ∧ h = h0
theorem rm17 (l : Launch) (Z : State) (a0 : Array Value) (hw : HW a0 Z) (ws : List Jvm.Cond) (om : Addr) (os : Addr) (oe : Addr) (ks : ClassId) (ke : ClassId) (ii : Nat) (h0 : Heap) (n0 : Nat) (Z0 : n0 ≤ h0.size) (P0 : Fld Z h0 om TVn VSn "[I" (.ref os)) (P1 : Fld Z h0 om TVn VEn "[I" (.ref oe)) (P2 : Arv Z h0 os ks .int (5 : Int32) lvs (.int 0)) (P3 : Arv Z h0 oe ke .int (5 : Int32) lve (.int 0)) (hii : ii < 5) :
    MFr l Z (⟨TVn, "valueLength", "(I)I"⟩ : MethodName) prog_39_method_15_code 2 (some .int) ws (Rm 0 0 0 0) #[(.ref om), (.int (ii.toInt32))] h0 (Q17 Z om os oe ks ke ii h0 n0) := by
  refine own_body (own := TVn) (plainFor_of_name own_pn0) rfl (fun m => ef_17 m om (ii.toInt32)) ?_
  intro p e s m below meth c s₁ Bd H hml hZ hown X0 e0 P hP
  have N0 := Fr.nil n0
  refine g_aloadN X0 H d17_0 rfl rfl ?_
  refine g_getF X0 H hZ hown (host := "") (Or.inl (own_g hw 60 rfl)) Via.refl e0 P1 d17_1 ?_
  intro T1 X1 e1
  refine g_iloadN X1 H d17_4 rfl ?_
  refine g_iaload X1 H hZ e1 P3 (.int ((own_ns ii + own_nl ii).toInt32)) d17_5 ⟨own_nneg (by omega), (own_ltN (n := 5) (by omega) (by omega)).mpr hii⟩ (by rw [own_clamp (by omega)]; exact own_veg hii) ?_
  refine g_aloadN X1 H d17_6 rfl rfl ?_
  refine g_getF X1 H hZ hown (host := "") (Or.inl (own_g hw 58 rfl)) Via.refl e1 P0 d17_7 ?_
  intro T3 X3 e3
  refine g_iloadN X3 H d17_10 rfl ?_
  refine g_iaload X3 H hZ e3 P2 (.int ((own_ns ii).toInt32)) d17_11 ⟨own_nneg (by omega), (own_ltN (n := 5) (by omega) (by omega)).mpr hii⟩ (by rw [own_clamp (by omega)]; exact own_vsg hii) ?_
  refine g_isub X3 H d17_12 ?_
  refine g_retI X3 H Bd.notSynchronized hP (by decide) Bd.returns d17_13 (r := ((own_nl ii).toInt32)) (show (((own_ns ii + own_nl ii).toInt32) - ((own_ns ii).toInt32)) = (own_nl ii).toInt32 from own_subN rfl) ?_
  rw [e3]
  exact ⟨rfl, N0, rfl⟩
theorem own_pd11 : parseMethodDescriptor "(I)I" = some ⟨[.int], some .int⟩ := by decide +kernel
theorem own_pd12 : parseMethodDescriptor "([BIILjava/nio/charset/Charset;)V" = some ⟨[(.array .byte), .int, .int, (.object "java/nio/charset/Charset")], none⟩ := by decide +kernel
theorem d16_0 : D16 0 (.new 86) 3 := by decide +kernel
theorem d16_3 : D16 3 (.dup) 1 := by decide +kernel
theorem d16_4 : D16 4 (.aload_n 0) 1 := by decide +kernel
theorem d16_5 : D16 5 (.getfield 9) 3 := by decide +kernel
theorem d16_8 : D16 8 (.aload_n 0) 1 := by decide +kernel
theorem d16_9 : D16 9 (.getfield 19) 3 := by decide +kernel
theorem d16_12 : D16 12 (.iload_n 1) 1 := by decide +kernel
theorem d16_13 : D16 13 (.iaload) 1 := by decide +kernel
theorem d16_14 : D16 14 (.aload_n 0) 1 := by decide +kernel
theorem d16_15 : D16 15 (.iload_n 1) 1 := by decide +kernel
theorem d16_16 : D16 16 (.invokevirtual 186) 3 := by decide +kernel
theorem d16_19 : D16 19 (.getstatic 88) 3 := by decide +kernel
theorem d16_22 : D16 22 (.invokespecial 94) 3 := by decide +kernel
theorem d16_25 : D16 25 (.areturn) 1 := by decide +kernel
theorem ef_16 (m : MethodId) (x0 : Addr) (x1 : Int32) : entryFrame m #[(.ref x0), (.int x1)] 2 = mkF m 0 #[.val (.ref x0), .val (.int x1)] [] := by first | (simp [entryFrame, mkF, argsToLocals, Value.category]; done) | rfl
def Q16 (Z : State) (om : Addr) (ob : Addr) (os : Addr) (oe : Addr) (kk : ClassId) (ks : ClassId) (ke : ClassId) (ii : Nat) (qa : Int32) (qb : Int32) (qv : Int32) (ya : Int32) (yb : Int32) (yc : Int32) (cs : Int32) (fm : Value) (och : Addr) (ou : Addr) (h0 : Heap) (n0 : Nat) (v : Option Value) (h : Heap) (L : List Loc) : Prop := ∃ (r : Addr) (oc : Addr) (kc : ClassId) (us : List Value), v = some (.ref r) ∧ Fr n0 L ∧ Keep h0 h [] ∧ h0.size ≤ r ∧ h0.size ≤ oc ∧ Exa Z h r STn ∧ Fld Z h r STn VLn DBn (.ref oc) ∧ Fld Z h r STn CDn "B" (.int 0) ∧ Arv Z h oc kc .byte ((own_nl ii).toInt32) us (.int 0)
theorem rm16 (l : Launch) (Z : State) (a0 : Array Value) (hw : HW a0 Z) (ws : List Jvm.Cond) (om : Addr) (ob : Addr) (os : Addr) (oe : Addr) (kk : ClassId) (ks : ClassId) (ke : ClassId) (ii : Nat) (qa : Int32) (qb : Int32) (qv : Int32) (ya : Int32) (yb : Int32) (yc : Int32) (cs : Int32) (fm : Value) (och : Addr) (ou : Addr) (h0 : Heap) (n0 : Nat) (Z0 : n0 ≤ h0.size) (O0 : Old Z n0 h0) (P1 : Sta Z Z.heap STn CSn "Z" (.int cs)) (hcs : ¬ cs = (0 : Int32)) (P3 : Sta Z Z.heap PRn SIn BFn fm) (rfm : fm.isRef = true) (P5 : Sta Z Z.heap SCn ISn DChn (.ref och)) (P6 : Exa Z Z.heap och STIn) (P7 : Sta Z Z.heap STIn INSn DSIn (.ref och)) (P8 : Sta Z Z.heap STUn INSn DSUn (.ref ou)) (nou : och ≠ ou) (P10 : Exa Z h0 om TVn) (P11 : Fld Z h0 om TVn "bytes" DBn (.ref ob)) (P12 : Fld Z h0 om TVn VSn "[I" (.ref os)) (P13 : Fld Z h0 om TVn VEn "[I" (.ref oe)) (P14 : Arv Z h0 ob kk .byte (26 : Int32) (bll qa qb qv ya yb yc) (.int 0)) (P15 : Arv Z h0 os ks .int (5 : Int32) lvs (.int 0)) (P16 : Arv Z h0 oe ke .int (5 : Int32) lve (.int 0)) (hii : ii < 5) :
    MFr l Z (⟨TVn, VLn, "(I)Ljava/lang/String;"⟩ : MethodName) prog_39_method_14_code 2 (some (.object STn)) ws (Rm 5 2 30 88) #[(.ref om), (.int (ii.toInt32))] h0 (Q16 Z om ob os oe kk ks ke ii qa qb qv ya yb yc cs fm och ou h0 n0) := by
  refine own_body (own := TVn) (plainFor_of_name own_pn0) rfl (fun m => ef_16 m om (ii.toInt32)) ?_
  intro p e s m below meth c s₁ Bd H hml hZ hown X0 e0 P hP
  have hx := H.1
  have hby := H.2
  have N0 := Fr.nil n0
  have K0 : Keep h0 h0 [] := Keep.refl _ _
  obtain ⟨T1, h1, X1, e1, E1, A1, D1, -, st1⟩ := newO X0 hx hZ hown (own_g hw 83 rfl) (own_g hw 84 rfl) (own_g hw 85 rfl) e0 (g := (mkF m 0 #[vr om, vi (ii.toInt32)] [])) rfl (hb hby d16_0) (by decide) (by decide)
  obtain ⟨b1, g1⟩ : ∃ z, z = h0.size := ⟨_, rfl⟩
  rw [← g1] at A1 D1 st1
  refine gv st1 ?_
  have g2 := Nat.le_trans Z0 (Nat.le_of_eq g1.symm)
  have sz3 := Nat.le_trans K0.1 (Nat.le_of_eq g1.symm)
  have Z4 := Nat.le_trans Z0 E1.1
  have K5 := K0.ext E1
  have O6 : Old Z n0 h1 := O0.ext E1
  show Go p.tables e below P T1 (mkF m 3 #[vr om, vi (ii.toInt32)] [(.ref b1)])
  refine g_dup X1 H d16_3 rfl ?_
  refine g_aloadN X1 H d16_4 rfl rfl ?_
  have F7 := (P11.ext E1)
  refine g_getF X1 H hZ hown (host := "") (Or.inl (own_g hw 54 rfl)) Via.refl e1 F7 d16_5 ?_
  intro T8 X8 e8
  refine g_aloadN X8 H d16_8 rfl rfl ?_
  have F9 := (P12.ext E1)
  refine g_getF X8 H hZ hown (host := "") (Or.inl (own_g hw 58 rfl)) Via.refl e8 F9 d16_9 ?_
  intro T10 X10 e10
  refine g_iloadN X10 H d16_12 rfl ?_
  have F11 := (P15.ext E1)
  refine g_iaload X10 H hZ e10 F11 (.int ((own_ns ii).toInt32)) d16_13 ⟨own_nneg (by omega), (own_ltN (n := 5) (by omega) (by omega)).mpr hii⟩ (by rw [own_clamp (by omega)]; exact own_vsg hii) ?_
  refine g_aloadN X10 H d16_14 rfl rfl ?_
  refine g_iloadN X10 H d16_15 rfl ?_
  have F13 := (P13.ext E1)
  have F14 := (P16.ext E1)
  have F16 := (P10.ext E1)
  refine g_cV X10 H hZ hml rfl hown e10 F16 (rm17 l Z a0 hw [] om os oe ks ke ii h1 n0 Z4 F9 F13 F11 F14 hii) (own_g hw 86 rfl) (own_g hw 87 rfl) (notFace_of_selects (args := #[]) (mvT hZ (own_g hw 89 rfl))) (own_g hw 89 rfl) (own_g hw 88 rfl) (own_g hw 4 rfl) (own_g hw 90 rfl) (by decide) own_pd11 d16_16 rfl rfl rfl (W := 4) rfl (by decide) ?_
  intro _ T15 Lc15 X15 hQ15
  obtain ⟨rfl, Nq15, hh15⟩ := hQ15
  obtain ⟨lc15, Xh15, N15⟩ := own_hide X15 (Fr.app N0 Nq15)
  clear X15
  refine g_getS Xh15 H hZ hown (host := "") (Or.inl (own_g hw 91 rfl)) Via.refl hh15 (P5.ext O6.2) d16_19 ?_
  intro T17 X17 e17
  have F18 := (P14.ext E1)
  refine g_cI X17 H hZ hml rfl hown e17 (rm18 l Z a0 hw [] b1 ob kk (own_ns ii) (own_nl ii) qa qb qv ya yb yc cs fm och ou h1 n0 Z4 O6 P1 hcs P3 rfm P5 P6 P7 P8 nou A1 (D1 (Or.inr (own_g hw 131 rfl)) (ty := (.array .byte)) (by decide) : Fld Z h1 b1 STn VLn DBn .null) (D1 (Or.inr (own_g hw 133 rfl)) (ty := .byte) (by decide) : Fld Z h1 b1 STn CDn "B" (.int 0)) F18 (own_nsl ii hii).1 (own_nsl ii hii).2.1 (own_nsl ii hii).2.2 g2) (own_g hw 93 rfl) (own_g hw 94 rfl) (own_g hw 85 rfl) (own_g hw 95 rfl) (by decide) own_pd12 d16_22 rfl rfl rfl rfl (W := 1) rfl (by decide) ?_
  intro _ T19 Lc19 X19 hQ19
  obtain ⟨oc_19, kc_19, us_19, rfl, Nq19, K19, fr19_oc, u19_0, u19_1, u19_2, u19_3⟩ := hQ19
  obtain ⟨lc19, Xh19, N19⟩ := own_hide X19 (Fr.app N15 Nq19)
  clear X19
  have ne20 := Nat.ne_of_lt (Nat.lt_of_lt_of_le A1.lt fr19_oc)
  have g21 := Nat.le_trans Z4 fr19_oc
  have sz22 := Nat.le_trans K5.1 fr19_oc
  have Z23 := Nat.le_trans Z4 K19.1
  have K24 := K5.trans K19 (own_allC (Or.inr sz3) own_all0)
  have O25 : Old Z n0 T19.heap := O6.keep K19 (own_allC g2 own_all0)
  refine g_retA Xh19 H Bd.notSynchronized hP (by decide) Bd.returns rfl rfl rfl d16_25 ?_
  exact ⟨b1, oc_19, kc_19, us_19, rfl, N19, K24, sz3, sz22, u19_0, u19_1, u19_2, u19_3⟩
theorem d13_0 : D17 0 (.iload_n 1) 1 := by decide +kernel
theorem d13_1 : D17 1 (.ifCond .ne 7) 3 := by decide +kernel
theorem d13_8 : D17 8 (.aload_n 0) 1 := by decide +kernel
theorem d13_9 : D17 9 (.getfield 22) 3 := by decide +kernel
theorem d13_12 : D17 12 (.iload_n 1) 1 := by decide +kernel
theorem d13_13 : D17 13 (.iconst 1) 1 := by decide +kernel
theorem d13_14 : D17 14 (.isub) 1 := by decide +kernel
theorem d13_15 : D17 15 (.iaload) 1 := by decide +kernel
theorem d13_16 : D17 16 (.iconst 1) 1 := by decide +kernel
theorem d13_17 : D17 17 (.iadd) 1 := by decide +kernel
theorem d13_18 : D17 18 (.ireturn) 1 := by decide +kernel
theorem ef_13f (m : MethodId) (x0 : Addr) : entryFrame m #[(.ref x0), (.int 4)] 2 = mkF m 0 #[.val (.ref x0), .val (.int 4)] [] := by first | (simp [entryFrame, mkF, argsToLocals, Value.category]; done) | rfl
def Q13f (Z : State) (om : Addr) (oe : Addr) (ke : ClassId) (h0 : Heap) (n0 : Nat) (v : Option Value) (h : Heap) (L : List Loc) : Prop := v = some (.int 19) ∧ Fr n0 L ∧ h = h0
theorem rm13f (l : Launch) (Z : State) (a0 : Array Value) (hw : HW a0 Z) (ws : List Jvm.Cond) (om : Addr) (oe : Addr) (ke : ClassId) (h0 : Heap) (n0 : Nat) (Z0 : n0 ≤ h0.size) (P0 : Fld Z h0 om TVn VEn "[I" (.ref oe)) (P1 : Arv Z h0 oe ke .int (5 : Int32) lve (.int 0)) :
    MFr l Z (⟨TVn, "fieldStart", "(I)I"⟩ : MethodName) prog_39_method_10_code 2 (some .int) ws (Rm 0 0 0 0) #[(.ref om), (.int 4)] h0 (Q13f Z om oe ke h0 n0) := by
  refine own_body (own := TVn) (plainFor_of_name own_pn0) rfl (fun m => ef_13f m om) ?_
  intro p e s m below meth c s₁ Bd H hml hZ hown X0 e0 P hP
  have N0 := Fr.nil n0
  show Go p.tables e below P s₁ (mkF m 0 #[vr om, vi 4] [])
  refine g_iloadN X0 H d13_0 rfl ?_
  refine g_ifYes X0 H d13_1 8 ((if0 _ _).trans (feq (by decide : ¬ ((4 : Int32) = (0 : Int32)))).2) (by decide) ?_
  refine g_aloadN X0 H d13_8 rfl rfl ?_
  refine g_getF X0 H hZ hown (host := "") (Or.inl (own_g hw 60 rfl)) Via.refl e0 P0 d13_9 ?_
  intro T1 X1 e1
  refine g_iloadN X1 H d13_12 rfl ?_
  refine g_iconst X1 H d13_13 1 rfl ?_
  refine g_isub X1 H d13_14 ?_
  refine g_iaload X1 H hZ e1 P1 (.int 18) d13_15 ⟨by decide, by decide⟩ rfl ?_
  refine g_iconst X1 H d13_16 1 rfl ?_
  refine g_iadd X1 H d13_17 ?_
  refine g_retI X1 H Bd.notSynchronized hP (by decide) Bd.returns d13_18 (r := (19 : Int32)) (show ((18 : Int32) + (1 : Int32)) = (19 : Int32) from by decide) ?_
  rw [e1]
  exact ⟨rfl, N0, rfl⟩
theorem ef_13t (m : MethodId) (x0 : Addr) : entryFrame m #[(.ref x0), (.int 2)] 2 = mkF m 0 #[.val (.ref x0), .val (.int 2)] [] := by first | (simp [entryFrame, mkF, argsToLocals, Value.category]; done) | rfl
def Q13t (Z : State) (om : Addr) (oe : Addr) (ke : ClassId) (h0 : Heap) (n0 : Nat) (v : Option Value) (h : Heap) (L : List Loc) : Prop := v = some (.int 9) ∧ Fr n0 L ∧ h = h0
theorem rm13t (l : Launch) (Z : State) (a0 : Array Value) (hw : HW a0 Z) (ws : List Jvm.Cond) (om : Addr) (oe : Addr) (ke : ClassId) (h0 : Heap) (n0 : Nat) (Z0 : n0 ≤ h0.size) (P0 : Fld Z h0 om TVn VEn "[I" (.ref oe)) (P1 : Arv Z h0 oe ke .int (5 : Int32) lve (.int 0)) :
    MFr l Z (⟨TVn, "fieldStart", "(I)I"⟩ : MethodName) prog_39_method_10_code 2 (some .int) ws (Rm 0 0 0 0) #[(.ref om), (.int 2)] h0 (Q13t Z om oe ke h0 n0) := by
  refine own_body (own := TVn) (plainFor_of_name own_pn0) rfl (fun m => ef_13t m om) ?_
  intro p e s m below meth c s₁ Bd H hml hZ hown X0 e0 P hP
  have N0 := Fr.nil n0
  refine g_iloadN X0 H d13_0 rfl ?_
  refine g_ifYes X0 H d13_1 8 ((if0 _ _).trans (feq (by decide : ¬ ((2 : Int32) = (0 : Int32)))).2) (by decide) ?_
  show Go p.tables e below P s₁ (mkF m 8 #[vr om, vi 2] [])
  refine g_aloadN X0 H d13_8 rfl rfl ?_
  refine g_getF X0 H hZ hown (host := "") (Or.inl (own_g hw 60 rfl)) Via.refl e0 P0 d13_9 ?_
  intro T1 X1 e1
  refine g_iloadN X1 H d13_12 rfl ?_
  refine g_iconst X1 H d13_13 1 rfl ?_
  refine g_isub X1 H d13_14 ?_
  refine g_iaload X1 H hZ e1 P1 (.int 8) d13_15 ⟨by decide, by decide⟩ rfl ?_
  refine g_iconst X1 H d13_16 1 rfl ?_
  refine g_iadd X1 H d13_17 ?_
  refine g_retI X1 H Bd.notSynchronized hP (by decide) Bd.returns d13_18 (r := (9 : Int32)) (show ((8 : Int32) + (1 : Int32)) = (9 : Int32) from by decide) ?_
  rw [e1]
  exact ⟨rfl, N0, rfl⟩
theorem d14_0 : D18 0 (.aload_n 0) 1 := by decide +kernel
theorem d14_1 : D18 1 (.getfield 9) 3 := by decide +kernel
theorem d14_4 : D18 4 (.aload_n 0) 1 := by decide +kernel
theorem d14_5 : D18 5 (.getfield 19) 3 := by decide +kernel
theorem d14_8 : D18 8 (.iload_n 1) 1 := by decide +kernel
theorem d14_9 : D18 9 (.iaload) 1 := by decide +kernel
theorem d14_10 : D18 10 (.aload_n 0) 1 := by decide +kernel
theorem d14_11 : D18 11 (.getfield 22) 3 := by decide +kernel
theorem d14_14 : D18 14 (.iload_n 1) 1 := by decide +kernel
theorem d14_15 : D18 15 (.iaload) 1 := by decide +kernel
theorem d14_16 : D18 16 (.invokestatic 80) 3 := by decide +kernel
theorem d14_19 : D18 19 (.lreturn) 1 := by decide +kernel
theorem ef_14o (m : MethodId) (x0 : Addr) : entryFrame m #[(.ref x0), (.int 1)] 2 = mkF m 0 #[.val (.ref x0), .val (.int 1)] [] := by first | (simp [entryFrame, mkF, argsToLocals, Value.category]; done) | rfl
def Q14o (Z : State) (om : Addr) (ob : Addr) (os : Addr) (oe : Addr) (kk : ClassId) (ks : ClassId) (ke : ClassId) (qa : Int32) (qb : Int32) (qv : Int32) (ya : Int32) (yb : Int32) (yc : Int32) (h0 : Heap) (n0 : Nat) (v : Option Value) (h : Heap) (L : List Loc) : Prop := v = some (.long 10) ∧ Fr n0 L ∧ h = h0
theorem rm14o (l : Launch) (Z : State) (a0 : Array Value) (hw : HW a0 Z) (ws : List Jvm.Cond) (om : Addr) (ob : Addr) (os : Addr) (oe : Addr) (kk : ClassId) (ks : ClassId) (ke : ClassId) (qa : Int32) (qb : Int32) (qv : Int32) (ya : Int32) (yb : Int32) (yc : Int32) (h0 : Heap) (n0 : Nat) (Z0 : n0 ≤ h0.size) (P0 : Fld Z h0 om TVn "bytes" DBn (.ref ob)) (P1 : Fld Z h0 om TVn VSn "[I" (.ref os)) (P2 : Fld Z h0 om TVn VEn "[I" (.ref oe)) (P3 : Arv Z h0 ob kk .byte (26 : Int32) (bll qa qb qv ya yb yc) (.int 0)) (P4 : Arv Z h0 os ks .int (5 : Int32) lvs (.int 0)) (P5 : Arv Z h0 oe ke .int (5 : Int32) lve (.int 0)) :
    MFr l Z (⟨TVn, "wholeNumber", "(I)J"⟩ : MethodName) prog_39_method_8_code 2 (some .long) ws (Rm 2 0 0 32) #[(.ref om), (.int 1)] h0 (Q14o Z om ob os oe kk ks ke qa qb qv ya yb yc h0 n0) := by
  refine own_body (own := TVn) (plainFor_of_name own_pn0) rfl (fun m => ef_14o m om) ?_
  intro p e s m below meth c s₁ Bd H hml hZ hown X0 e0 P hP
  have N0 := Fr.nil n0
  refine g_aloadN X0 H d14_0 rfl rfl ?_
  refine g_getF X0 H hZ hown (host := "") (Or.inl (own_g hw 54 rfl)) Via.refl e0 P0 d14_1 ?_
  intro T1 X1 e1
  refine g_aloadN X1 H d14_4 rfl rfl ?_
  refine g_getF X1 H hZ hown (host := "") (Or.inl (own_g hw 58 rfl)) Via.refl e1 P1 d14_5 ?_
  intro T2 X2 e2
  show Go p.tables e below P T2 (mkF m 8 #[vr om, vi 1] [(.ref os), (.ref ob)])
  refine g_iloadN X2 H d14_8 rfl ?_
  refine g_iaload X2 H hZ e2 P4 (.int 6) d14_9 ⟨by decide, by decide⟩ rfl ?_
  refine g_aloadN X2 H d14_10 rfl rfl ?_
  refine g_getF X2 H hZ hown (host := "") (Or.inl (own_g hw 60 rfl)) Via.refl e2 P2 d14_11 ?_
  intro T4 X4 e4
  refine g_iloadN X4 H d14_14 rfl ?_
  refine g_iaload X4 H hZ e4 P5 (.int 8) d14_15 ⟨by decide, by decide⟩ rfl ?_
  refine g_cS X4 H hZ hml rfl hown e4 (rm8v6 l Z a0 hw [] ob kk qa qb qv ya yb yc h0 n0 Z0 P3) (own_g hw 37 rfl) (own_g hw 38 rfl) (own_g hw 4 rfl) (own_g hw 39 rfl) (by decide) own_pd2 d14_16 rfl rfl rfl (W := 0) rfl (by decide) ?_
  intro _ T6 Lc6 X6 hQ6
  obtain ⟨rfl, Nq6, hh6⟩ := hQ6
  obtain ⟨lc6, Xh6, N6⟩ := own_hide X6 (Fr.app N0 Nq6)
  clear X6
  refine g_retJ Xh6 H Bd.notSynchronized hP (by decide) Bd.returns d14_19 (r := (10 : Int64)) rfl ?_
  rw [hh6]
  exact ⟨rfl, N6, rfl⟩
theorem ef_14f (m : MethodId) (x0 : Addr) : entryFrame m #[(.ref x0), (.int 4)] 2 = mkF m 0 #[.val (.ref x0), .val (.int 4)] [] := by first | (simp [entryFrame, mkF, argsToLocals, Value.category]; done) | rfl
def Q14f (Z : State) (om : Addr) (ob : Addr) (os : Addr) (oe : Addr) (kk : ClassId) (ks : ClassId) (ke : ClassId) (qa : Int32) (qb : Int32) (qv : Int32) (ya : Int32) (yb : Int32) (yc : Int32) (h0 : Heap) (n0 : Nat) (v : Option Value) (h : Heap) (L : List Loc) : Prop := v = some (.long (own_d (own_d (own_d (0 : Int64) ya) yb) yc)) ∧ Fr n0 L ∧ h = h0
theorem rm14f (l : Launch) (Z : State) (a0 : Array Value) (hw : HW a0 Z) (ws : List Jvm.Cond) (om : Addr) (ob : Addr) (os : Addr) (oe : Addr) (kk : ClassId) (ks : ClassId) (ke : ClassId) (qa : Int32) (qb : Int32) (qv : Int32) (ya : Int32) (yb : Int32) (yc : Int32) (h0 : Heap) (n0 : Nat) (Z0 : n0 ≤ h0.size) (P0 : Fld Z h0 om TVn "bytes" DBn (.ref ob)) (P1 : Fld Z h0 om TVn VSn "[I" (.ref os)) (P2 : Fld Z h0 om TVn VEn "[I" (.ref oe)) (P3 : Arv Z h0 ob kk .byte (26 : Int32) (bll qa qb qv ya yb yc) (.int 0)) (P4 : Arv Z h0 os ks .int (5 : Int32) lvs (.int 0)) (P5 : Arv Z h0 oe ke .int (5 : Int32) lve (.int 0)) (d_ya : own_dg ya) (d_yb : own_dg yb) (d_yc : own_dg yc) :
    MFr l Z (⟨TVn, "wholeNumber", "(I)J"⟩ : MethodName) prog_39_method_8_code 2 (some .long) ws (Rm 2 0 0 32) #[(.ref om), (.int 4)] h0 (Q14f Z om ob os oe kk ks ke qa qb qv ya yb yc h0 n0) := by
  refine own_body (own := TVn) (plainFor_of_name own_pn0) rfl (fun m => ef_14f m om) ?_
  intro p e s m below meth c s₁ Bd H hml hZ hown X0 e0 P hP
  have N0 := Fr.nil n0
  refine g_aloadN X0 H d14_0 rfl rfl ?_
  refine g_getF X0 H hZ hown (host := "") (Or.inl (own_g hw 54 rfl)) Via.refl e0 P0 d14_1 ?_
  intro T1 X1 e1
  refine g_aloadN X1 H d14_4 rfl rfl ?_
  refine g_getF X1 H hZ hown (host := "") (Or.inl (own_g hw 58 rfl)) Via.refl e1 P1 d14_5 ?_
  intro T2 X2 e2
  refine g_iloadN X2 H d14_8 rfl ?_
  show Go p.tables e below P T2 (mkF m 9 #[vr om, vi 4] [(.int 4), (.ref os), (.ref ob)])
  refine g_iaload X2 H hZ e2 P4 (.int 22) d14_9 ⟨by decide, by decide⟩ rfl ?_
  refine g_aloadN X2 H d14_10 rfl rfl ?_
  refine g_getF X2 H hZ hown (host := "") (Or.inl (own_g hw 60 rfl)) Via.refl e2 P2 d14_11 ?_
  intro T4 X4 e4
  refine g_iloadN X4 H d14_14 rfl ?_
  refine g_iaload X4 H hZ e4 P5 (.int 25) d14_15 ⟨by decide, by decide⟩ rfl ?_
  refine g_cS X4 H hZ hml rfl hown e4 (rm8v22 l Z a0 hw [] ob kk qa qb qv ya yb yc h0 n0 Z0 P3 d_ya d_yb d_yc) (own_g hw 37 rfl) (own_g hw 38 rfl) (own_g hw 4 rfl) (own_g hw 39 rfl) (by decide) own_pd2 d14_16 rfl rfl rfl (W := 0) rfl (by decide) ?_
  intro _ T6 Lc6 X6 hQ6
  obtain ⟨rfl, Nq6, hh6⟩ := hQ6
  obtain ⟨lc6, Xh6, N6⟩ := own_hide X6 (Fr.app N0 Nq6)
  clear X6
  refine g_retJ Xh6 H Bd.notSynchronized hP (by decide) Bd.returns d14_19 (r := (own_d (own_d (own_d (0 : Int64) ya) yb) yc)) rfl ?_
  rw [hh6]
  exact ⟨rfl, N6, rfl⟩
def own_cs (bl : List Int32) : Nat → Int64
  | 0 => 0
  | i + 1 => own_cs bl i + ((bl.getD i 0) &&& (255 : Int32)).toInt64
theorem d15_0 : D19 0 (.lconst 0) 1 := by decide +kernel
theorem d15_1 : D19 1 (.lstore_n 2) 1 := by decide +kernel
theorem d15_2 : D19 2 (.iconst 0) 1 := by decide +kernel
theorem d15_3 : D19 3 (.istore 4) 2 := by decide +kernel
theorem d15_5 : D19 5 (.iload 4) 2 := by decide +kernel
theorem d15_7 : D19 7 (.iload_n 1) 1 := by decide +kernel
theorem d15_8 : D19 8 (.if_icmp .ge 21) 3 := by decide +kernel
theorem d15_11 : D19 11 (.lload_n 2) 1 := by decide +kernel
theorem d15_12 : D19 12 (.aload_n 0) 1 := by decide +kernel
theorem d15_13 : D19 13 (.iload 4) 2 := by decide +kernel
theorem d15_15 : D19 15 (.baload) 1 := by decide +kernel
theorem d15_16 : D19 16 (.sipush 255) 3 := by decide +kernel
theorem d15_19 : D19 19 (.iand) 1 := by decide +kernel
theorem d15_20 : D19 20 (.i2l) 1 := by decide +kernel
theorem d15_21 : D19 21 (.ladd) 1 := by decide +kernel
theorem d15_22 : D19 22 (.lstore_n 2) 1 := by decide +kernel
theorem d15_23 : D19 23 (.iinc 4 1) 3 := by decide +kernel
theorem d15_26 : D19 26 (.goto (-21)) 3 := by decide +kernel
theorem d15_29 : D19 29 (.lload_n 2) 1 := by decide +kernel
theorem d15_30 : D19 30 (.ldc2_w 158) 3 := by decide +kernel
theorem d15_33 : D19 33 (.lrem) 1 := by decide +kernel
theorem d15_34 : D19 34 (.l2i) 1 := by decide +kernel
theorem d15_35 : D19 35 (.ireturn) 1 := by decide +kernel
theorem ef_15 (m : MethodId) (x0 : Addr) : entryFrame m #[(.ref x0), (.int 19)] 5 = mkF m 0 #[.val (.ref x0), .val (.int 19), .unset, .unset, .unset] [] := by first | (simp [entryFrame, mkF, argsToLocals, Value.category]; done) | rfl
def Q15 (Z : State) (ob : Addr) (kk : ClassId) (qa : Int32) (qb : Int32) (qv : Int32) (ya : Int32) (yb : Int32) (yc : Int32) (h0 : Heap) (n0 : Nat) (v : Option Value) (h : Heap) (L : List Loc) : Prop := v = some (.int (((own_cs (own_bl qa qb qv ya yb yc) 19) % (256 : Int64)).toInt32)) ∧ Fr n0 L ∧ h = h0
theorem rm15 (l : Launch) (Z : State) (a0 : Array Value) (hw : HW a0 Z) (ws : List Jvm.Cond) (ob : Addr) (kk : ClassId) (qa : Int32) (qb : Int32) (qv : Int32) (ya : Int32) (yb : Int32) (yc : Int32) (h0 : Heap) (n0 : Nat) (Z0 : n0 ≤ h0.size) (P0 : Arv Z h0 ob kk .byte (26 : Int32) (bll qa qb qv ya yb yc) (.int 0)) :
    MFr l Z (⟨TVn, "checkSum", "([BI)I"⟩ : MethodName) prog_39_method_6_code 5 (some .int) ws (Rm 0 0 0 0) #[(.ref ob), (.int 19)] h0 (Q15 Z ob kk qa qb qv ya yb yc h0 n0) := by
  refine own_body (own := TVn) (plainFor_of_name own_pn0) rfl (fun m => ef_15 m ob) ?_
  intro p e s m below meth c s₁ Bd H hml hZ hown X0 e0 P hP
  have hx := H.1
  have hby := H.2
  have N0 := Fr.nil n0
  refine g_lconst X0 H d15_0 0 rfl ?_
  refine g_lstoreN X0 H d15_1 #[vr ob, vi 19, vj 0, v2, vu] rfl ?_
  refine g_iconst X0 H d15_2 0 rfl ?_
  refine g_istore X0 H d15_3 #[vr ob, vi 19, vj 0, v2, vi 0] rfl ?_
  have LP1 : ∀ (k1 : Nat) (T1 : State) (locs1 : List Loc) (i : Nat) (x4 : Int32) (sm : Int64), Stand p l e (Rm 0 0 0 0) s m #[(.ref ob), (.int 19)] below meth c T1 locs1 0 0 → T1.heap = h0 → Fr n0 locs1 → i ≤ 19 → x4 = i.toInt32 → sm = own_cs (own_bl qa qb qv ya yb yc) i → 19 - i < k1 → Go p.tables e below P T1 (mkF m 5 #[.val (.ref ob), .val (.int 19), .val (.long sm), .second, .val (.int x4)] []) := by
    intro k1
    induction k1 with
    | zero => intros; rename_i hk; exact absurd hk (Nat.not_lt_zero _)
    | succ k1 ih1 =>
      intro T1 locs1 i x4 sm X1 e1 N1 hi hx4 hsm hk
      refine g_iload X1 H d15_5 rfl ?_
      refine g_iloadN X1 H d15_7 rfl ?_
      show Go p.tables e below P T1 (mkF m 8 #[vr ob, vi 19, vj sm, v2, vi x4] [(.int 19), (.int x4)])
      by_cases hc2 : x4 < (19 : Int32)
      · refine g_icmpNo X1 H d15_8 (tlt hc2).2.1 ?_
        have hlt : i < 19 := (own_ltN (n := 19) (by omega) (by omega)).mp (by rw [← hx4]; exact hc2)
        refine g_lloadN X1 H d15_11 rfl ?_
        refine g_aloadN X1 H d15_12 rfl rfl ?_
        refine g_iload X1 H d15_13 rfl ?_
        refine g_baload X1 H hZ e1 P0 (.int ((own_bl qa qb qv ya yb yc).getD i 0)) d15_15 ⟨by rw [hx4]; exact own_nneg (by omega), by rw [hx4]; exact (own_ltN (n := 26) (by omega) (by omega)).mpr (by omega)⟩ (by rw [hx4, own_clamp (by omega)]; exact own_getDI (own_bl qa qb qv ya yb yc) i) ?_
        refine g_sipush X1 H d15_16 255 rfl ?_
        refine g_iand X1 H d15_19 ?_
        refine g_i2l X1 H d15_20 ?_
        refine g_ladd X1 H d15_21 ?_
        refine g_lstoreN X1 H d15_22 #[vr ob, vi 19, vj (sm + ((((own_bl qa qb qv ya yb yc).getD i 0) &&& (255 : Int32)).toInt64)), v2, vi x4] rfl ?_
        refine g_iinc X1 H d15_23 rfl #[vr ob, vi 19, vj (sm + ((((own_bl qa qb qv ya yb yc).getD i 0) &&& (255 : Int32)).toInt64)), v2, vi (x4 + (1 : Int32))] rfl ?_
        refine g_goto X1 H d15_26 5 (by decide) ?_
        exact ih1 T1 _ (i + 1) (x4 + (1 : Int32)) (sm + ((((own_bl qa qb qv ya yb yc).getD i 0) &&& (255 : Int32)).toInt64)) X1 e1 N1 hlt (by rw [hx4]; exact own_succ i) (by rw [hsm]; rfl) (by omega)
      · refine g_icmpYes X1 H d15_8 29 (flt hc2).2.1 (by decide) ?_
        refine g_lloadN X1 H d15_29 rfl ?_
        show Go p.tables e below P T1 (mkF m 30 #[vr ob, vi 19, vj sm, v2, vi x4] [(.long sm)])
        refine g_ldcJ X1 H hZ hown (own_g hw 77 rfl) d15_30 ?_
        show Go p.tables e below P T1 (mkF m 33 #[vr ob, vi 19, vj sm, v2, vi x4] [(.long 256), (.long sm)])
        refine gv (fun t k => XS.lrem X1.here hx rfl (hb hby d15_33) rfl (by decide) (by rw [lrem_mod]; exact k)) ?_
        show Go p.tables e below P T1 (mkF m 34 #[vr ob, vi 19, vj sm, v2, vi x4] [(.long (sm % (256 : Int64)))])
        refine gv (fun t k => XS.l2i X1.here hx rfl (hb hby d15_34) rfl k) ?_
        show Go p.tables e below P T1 (mkF m 35 #[vr ob, vi 19, vj sm, v2, vi x4] [(.int ((sm % (256 : Int64)).toInt32))])
        refine g_retI X1 H Bd.notSynchronized hP (by decide) Bd.returns d15_35 (r := (((own_cs (own_bl qa qb qv ya yb yc) 19) % (256 : Int64)).toInt32)) (show ((sm % (256 : Int64)).toInt32) = (((own_cs (own_bl qa qb qv ya yb yc) 19) % (256 : Int64)).toInt32) from by rw [hsm, show i = 19 from by have q := hc2; rw [hx4, show (19 : Int32) = (19 : Nat).toInt32 from rfl, own_ltN (by omega) (by omega)] at q; omega]) ?_
        rw [e1]
        exact ⟨rfl, N1, rfl⟩
  exact LP1 _ s₁ _ 0 (0 : Int32) (0 : Int64) X0 e0 N0 (Nat.zero_le _) rfl rfl (Nat.lt_succ_self _)
theorem d26_0 : D20 0 (.getstatic 38) 3 := by decide +kernel
theorem d26_3 : D20 3 (.ifCond .eq 10) 3 := by decide +kernel
theorem d26_6 : D20 6 (.aload_n 0) 1 := by decide +kernel
theorem d26_7 : D20 7 (.getfield 15) 3 := by decide +kernel
theorem d26_10 : D20 10 (.goto 4) 3 := by decide +kernel
theorem d26_14 : D20 14 (.ireturn) 1 := by decide +kernel
theorem ef_26 (m : MethodId) (x0 : Addr) : entryFrame m #[(.ref x0)] 1 = mkF m 0 #[.val (.ref x0)] [] := by first | (simp [entryFrame, mkF, argsToLocals, Value.category]; done) | rfl
def Q26 (Z : State) (so : Addr) (cs : Int32) (h0 : Heap) (n0 : Nat) (v : Option Value) (h : Heap) (L : List Loc) : Prop := v = some (.int 0) ∧ Fr n0 L ∧ h = h0
theorem rm26 (l : Launch) (Z : State) (a0 : Array Value) (hw : HW a0 Z) (ws : List Jvm.Cond) (so : Addr) (cs : Int32) (h0 : Heap) (n0 : Nat) (Z0 : n0 ≤ h0.size) (O0 : Old Z n0 h0) (P1 : Sta Z Z.heap STn CSn "Z" (.int cs)) (hcs : ¬ cs = (0 : Int32)) (P3 : Fld Z h0 so STn CDn "B" (.int 0)) :
    MFr l Z (⟨STn, CDn, "()B"⟩ : MethodName) jdk_42_method_152_code 1 (some .byte) ws (Rm 0 0 0 0) #[(.ref so)] h0 (Q26 Z so cs h0 n0) := by
  refine own_body (own := STn) (plainFor_of_name own_pn3) rfl (fun m => ef_26 m so) ?_
  intro p e s m below meth c s₁ Bd H hml hZ hown X0 e0 P hP
  have N0 := Fr.nil n0
  refine g_getS X0 H hZ hown (host := "") (Or.inl (own_g hw 115 rfl)) Via.refl e0 (P1.ext O0.2) d26_0 ?_
  intro T1 X1 e1
  refine g_ifNo X1 H d26_3 ((if0 _ _).trans (feq hcs).1) ?_
  refine g_aloadN X1 H d26_6 rfl rfl ?_
  refine g_getF X1 H hZ hown (host := "") (Or.inl (own_g hw 132 rfl)) Via.refl e1 P3 d26_7 ?_
  intro T2 X2 e2
  refine g_goto X2 H d26_10 14 (by decide) ?_
  refine g_retZ X2 H Bd.notSynchronized hP (by decide) Bd.returns (by simp) d26_14 (r := (0 : Int32)) rfl ?_
  rw [e2]
  exact ⟨rfl, N0, rfl⟩
theorem own_pd13 : parseMethodDescriptor "()B" = some ⟨[], some .byte⟩ := by decide +kernel
theorem d25_0 : D21 0 (.aload_n 0) 1 := by decide +kernel
theorem d25_1 : D21 1 (.getfield 9) 3 := by decide +kernel
theorem d25_4 : D21 4 (.arraylength) 1 := by decide +kernel
theorem d25_5 : D21 5 (.aload_n 0) 1 := by decide +kernel
theorem d25_6 : D21 6 (.invokevirtual 335) 3 := by decide +kernel
theorem d25_9 : D21 9 (.ishr) 1 := by decide +kernel
theorem d25_10 : D21 10 (.ireturn) 1 := by decide +kernel
theorem ef_25 (m : MethodId) (x0 : Addr) : entryFrame m #[(.ref x0)] 1 = mkF m 0 #[.val (.ref x0)] [] := by first | (simp [entryFrame, mkF, argsToLocals, Value.category]; done) | rfl
def Q25 (Z : State) (so : Addr) (cs : Int32) (tb : Addr) (kk : ClassId) (nz : Int32) (us : List Value) (h0 : Heap) (n0 : Nat) (v : Option Value) (h : Heap) (L : List Loc) : Prop := v = some (.int (nz >>> ((0 : Int32) &&& 31))) ∧ Fr n0 L ∧ h = h0
theorem rm25 (l : Launch) (Z : State) (a0 : Array Value) (hw : HW a0 Z) (ws : List Jvm.Cond) (so : Addr) (cs : Int32) (tb : Addr) (kk : ClassId) (nz : Int32) (us : List Value) (h0 : Heap) (n0 : Nat) (Z0 : n0 ≤ h0.size) (O0 : Old Z n0 h0) (P1 : Sta Z Z.heap STn CSn "Z" (.int cs)) (hcs : ¬ cs = (0 : Int32)) (P3 : Exa Z h0 so STn) (P4 : Fld Z h0 so STn VLn DBn (.ref tb)) (P5 : Fld Z h0 so STn CDn "B" (.int 0)) (P6 : Arv Z h0 tb kk .byte nz us (.int 0)) :
    MFr l Z (⟨STn, "length", "()I"⟩ : MethodName) jdk_42_method_54_code 1 (some .int) ws (Rm 1 0 0 13) #[(.ref so)] h0 (Q25 Z so cs tb kk nz us h0 n0) := by
  refine own_body (own := STn) (plainFor_of_name own_pn3) rfl (fun m => ef_25 m so) ?_
  intro p e s m below meth c s₁ Bd H hml hZ hown X0 e0 P hP
  have hx := H.1
  have hby := H.2
  have N0 := Fr.nil n0
  refine g_aloadN X0 H d25_0 rfl rfl ?_
  refine g_getF X0 H hZ hown (host := "") (Or.inl (own_g hw 130 rfl)) Via.refl e0 P4 d25_1 ?_
  intro T1 X1 e1
  refine g_len X1 H hZ e1 P6 d25_4 ?_
  refine g_aloadN X1 H d25_5 rfl rfl ?_
  refine g_cV X1 H hZ hml rfl hown e1 P3 (rm26 l Z a0 hw [] so cs h0 n0 Z0 O0 P1 hcs P5) (own_g hw 139 rfl) (own_g hw 140 rfl) (notFace_of_selects (args := #[]) (mvT hZ (own_g hw 142 rfl))) (own_g hw 142 rfl) (own_g hw 141 rfl) (own_g hw 85 rfl) (own_g hw 143 rfl) (by decide) own_pd13 d25_6 rfl rfl rfl (W := 1) rfl (by decide) ?_
  intro _ T3 Lc3 X3 hQ3
  obtain ⟨rfl, Nq3, hh3⟩ := hQ3
  obtain ⟨lc3, Xh3, N3⟩ := own_hide X3 (Fr.app N0 Nq3)
  clear X3
  show Go p.tables e below P T3 (mkF m 9 #[vr so] [(.int 0), (.int nz)])
  refine gv (fun t k => XS.ishr Xh3.here hx rfl (hb hby d25_9) rfl k) ?_
  show Go p.tables e below P T3 (mkF m 10 #[vr so] [(.int (nz >>> ((0 : Int32) &&& 31)))])
  refine g_retI Xh3 H Bd.notSynchronized hP (by decide) Bd.returns d25_10 (r := (nz >>> ((0 : Int32) &&& 31))) rfl ?_
  rw [hh3]
  exact ⟨rfl, N3, rfl⟩
theorem own_pd14 : parseMethodDescriptor "(I)J" = some ⟨[.int], some .long⟩ := by decide +kernel
theorem own_pd15 : parseMethodDescriptor "([BI)I" = some ⟨[(.array .byte), .int], some .int⟩ := by decide +kernel
theorem own_pd16 : parseMethodDescriptor "(I)Ljava/lang/String;" = some ⟨[.int], some (.object STn)⟩ := by decide +kernel
theorem own_pd17 : parseMethodDescriptor "()I" = some ⟨[], some .int⟩ := by decide +kernel
theorem d12_0 : D22 0 (.aload_n 0) 1 := by decide +kernel
theorem d12_1 : D22 1 (.getfield 15) 3 := by decide +kernel
theorem d12_4 : D22 4 (.arraylength) 1 := by decide +kernel
theorem d12_5 : D22 5 (.iconst 1) 1 := by decide +kernel
theorem d12_6 : D22 6 (.isub) 1 := by decide +kernel
theorem d12_7 : D22 7 (.istore_n 1) 1 := by decide +kernel
theorem d12_8 : D22 8 (.aload_n 0) 1 := by decide +kernel
theorem d12_9 : D22 9 (.getfield 15) 3 := by decide +kernel
theorem d12_12 : D22 12 (.iconst 0) 1 := by decide +kernel
theorem d12_13 : D22 13 (.iaload) 1 := by decide +kernel
theorem d12_14 : D22 14 (.bipush 8) 2 := by decide +kernel
theorem d12_16 : D22 16 (.if_icmp .eq 13) 3 := by decide +kernel
theorem d12_29 : D22 29 (.aload_n 0) 1 := by decide +kernel
theorem d12_30 : D22 30 (.getfield 15) 3 := by decide +kernel
theorem d12_33 : D22 33 (.arraylength) 1 := by decide +kernel
theorem d12_34 : D22 34 (.iconst 2) 1 := by decide +kernel
theorem d12_35 : D22 35 (.if_icmp .lt 14) 3 := by decide +kernel
theorem d12_38 : D22 38 (.aload_n 0) 1 := by decide +kernel
theorem d12_39 : D22 39 (.getfield 15) 3 := by decide +kernel
theorem d12_42 : D22 42 (.iconst 1) 1 := by decide +kernel
theorem d12_43 : D22 43 (.iaload) 1 := by decide +kernel
theorem d12_44 : D22 44 (.bipush 9) 2 := by decide +kernel
theorem d12_46 : D22 46 (.if_icmp .eq 13) 3 := by decide +kernel
theorem d12_59 : D22 59 (.aload_n 0) 1 := by decide +kernel
theorem d12_60 : D22 60 (.getfield 15) 3 := by decide +kernel
theorem d12_63 : D22 63 (.arraylength) 1 := by decide +kernel
theorem d12_64 : D22 64 (.iconst 3) 1 := by decide +kernel
theorem d12_65 : D22 65 (.if_icmp .lt 14) 3 := by decide +kernel
theorem d12_68 : D22 68 (.aload_n 0) 1 := by decide +kernel
theorem d12_69 : D22 69 (.getfield 15) 3 := by decide +kernel
theorem d12_72 : D22 72 (.iconst 2) 1 := by decide +kernel
theorem d12_73 : D22 73 (.iaload) 1 := by decide +kernel
theorem d12_74 : D22 74 (.bipush 35) 2 := by decide +kernel
theorem d12_76 : D22 76 (.if_icmp .eq 13) 3 := by decide +kernel
theorem d12_89 : D22 89 (.aload_n 0) 1 := by decide +kernel
theorem d12_90 : D22 90 (.getfield 15) 3 := by decide +kernel
theorem d12_93 : D22 93 (.iload_n 1) 1 := by decide +kernel
theorem d12_94 : D22 94 (.iaload) 1 := by decide +kernel
theorem d12_95 : D22 95 (.bipush 10) 2 := by decide +kernel
theorem d12_97 : D22 97 (.if_icmp .eq 13) 3 := by decide +kernel
theorem d12_110 : D22 110 (.aload_n 0) 1 := by decide +kernel
theorem d12_111 : D22 111 (.iload_n 1) 1 := by decide +kernel
theorem d12_112 : D22 112 (.invokevirtual 114) 3 := by decide +kernel
theorem d12_115 : D22 115 (.istore_n 2) 1 := by decide +kernel
theorem d12_116 : D22 116 (.iload_n 2) 1 := by decide +kernel
theorem d12_117 : D22 117 (.aload_n 0) 1 := by decide +kernel
theorem d12_118 : D22 118 (.iconst 2) 1 := by decide +kernel
theorem d12_119 : D22 119 (.invokevirtual 114) 3 := by decide +kernel
theorem d12_122 : D22 122 (.isub) 1 := by decide +kernel
theorem d12_123 : D22 123 (.i2l) 1 := by decide +kernel
theorem d12_124 : D22 124 (.lstore_n 3) 1 := by decide +kernel
theorem d12_125 : D22 125 (.aload_n 0) 1 := by decide +kernel
theorem d12_126 : D22 126 (.iconst 1) 1 := by decide +kernel
theorem d12_127 : D22 127 (.invokevirtual 118) 3 := by decide +kernel
theorem d12_130 : D22 130 (.lstore 5) 2 := by decide +kernel
theorem d12_132 : D22 132 (.lload 5) 2 := by decide +kernel
theorem d12_134 : D22 134 (.lconst 0) 1 := by decide +kernel
theorem d12_135 : D22 135 (.lcmp) 1 := by decide +kernel
theorem d12_136 : D22 136 (.ifCond .ge 39) 3 := by decide +kernel
theorem d12_175 : D22 175 (.lload 5) 2 := by decide +kernel
theorem d12_177 : D22 177 (.lload_n 3) 1 := by decide +kernel
theorem d12_178 : D22 178 (.lcmp) 1 := by decide +kernel
theorem d12_179 : D22 179 (.ifCond .eq 48) 3 := by decide +kernel
theorem d12_227 : D22 227 (.aload_n 0) 1 := by decide +kernel
theorem d12_228 : D22 228 (.getfield 9) 3 := by decide +kernel
theorem d12_231 : D22 231 (.iload_n 2) 1 := by decide +kernel
theorem d12_232 : D22 232 (.invokestatic 139) 3 := by decide +kernel
theorem d12_235 : D22 235 (.istore 7) 2 := by decide +kernel
theorem d12_237 : D22 237 (.aload_n 0) 1 := by decide +kernel
theorem d12_238 : D22 238 (.iload_n 1) 1 := by decide +kernel
theorem d12_239 : D22 239 (.invokevirtual 124) 3 := by decide +kernel
theorem d12_242 : D22 242 (.astore 8) 2 := by decide +kernel
theorem d12_244 : D22 244 (.aload_n 0) 1 := by decide +kernel
theorem d12_245 : D22 245 (.iload_n 1) 1 := by decide +kernel
theorem d12_246 : D22 246 (.invokevirtual 118) 3 := by decide +kernel
theorem d12_249 : D22 249 (.lstore 9) 2 := by decide +kernel
theorem d12_251 : D22 251 (.aload 8) 2 := by decide +kernel
theorem d12_253 : D22 253 (.invokevirtual 143) 3 := by decide +kernel
theorem d12_256 : D22 256 (.iconst 3) 1 := by decide +kernel
theorem d12_257 : D22 257 (.if_icmp .ne 10) 3 := by decide +kernel
theorem d12_260 : D22 260 (.lload 9) 2 := by decide +kernel
theorem d12_262 : D22 262 (.lconst 0) 1 := by decide +kernel
theorem d12_263 : D22 263 (.lcmp) 1 := by decide +kernel
theorem d12_264 : D22 264 (.ifCond .ge 36) 3 := by decide +kernel
theorem d12_300 : D22 300 (.lload 9) 2 := by decide +kernel
theorem d12_302 : D22 302 (.iload 7) 2 := by decide +kernel
theorem d12_304 : D22 304 (.i2l) 1 := by decide +kernel
theorem d12_305 : D22 305 (.lcmp) 1 := by decide +kernel
theorem d12_306 : D22 306 (.ifCond .eq 49) 3 := by decide +kernel
theorem d12_355 : D22 355 (.return_) 1 := by decide +kernel
theorem ef_12 (m : MethodId) (x0 : Addr) : entryFrame m #[(.ref x0)] 11 = mkF m 0 #[.val (.ref x0), .unset, .unset, .unset, .unset, .unset, .unset, .unset, .unset, .unset, .unset] [] := by first | (simp [entryFrame, mkF, argsToLocals, Value.category]; done) | rfl
def Q12 (Z : State) (om : Addr) (ob : Addr) (os : Addr) (oe : Addr) (kk : ClassId) (ks : ClassId) (ke : ClassId) (ot : Addr) (kt : ClassId) (qa : Int32) (qb : Int32) (qv : Int32) (ya : Int32) (yb : Int32) (yc : Int32) (cs : Int32) (fm : Value) (och : Addr) (ou : Addr) (h0 : Heap) (n0 : Nat) (v : Option Value) (h : Heap) (L : List Loc) : Prop := v = none ∧ Fr n0 L ∧ Keep h0 h []
theorem rm12 (l : Launch) (Z : State) (a0 : Array Value) (hw : HW a0 Z) (ws : List Jvm.Cond) (om : Addr) (ob : Addr) (os : Addr) (oe : Addr) (kk : ClassId) (ks : ClassId) (ke : ClassId) (ot : Addr) (kt : ClassId) (qa : Int32) (qb : Int32) (qv : Int32) (ya : Int32) (yb : Int32) (yc : Int32) (cs : Int32) (fm : Value) (och : Addr) (ou : Addr) (h0 : Heap) (n0 : Nat) (Z0 : n0 ≤ h0.size) (O0 : Old Z n0 h0) (P1 : Sta Z Z.heap STn CSn "Z" (.int cs)) (hcs : ¬ cs = (0 : Int32)) (P3 : Sta Z Z.heap PRn SIn BFn fm) (rfm : fm.isRef = true) (P5 : Sta Z Z.heap SCn ISn DChn (.ref och)) (P6 : Exa Z Z.heap och STIn) (P7 : Sta Z Z.heap STIn INSn DSIn (.ref och)) (P8 : Sta Z Z.heap STUn INSn DSUn (.ref ou)) (nou : och ≠ ou) (P10 : Exa Z h0 om TVn) (P11 : Fld Z h0 om TVn "bytes" DBn (.ref ob)) (P12 : Fld Z h0 om TVn "tags" "[I" (.ref ot)) (P13 : Fld Z h0 om TVn VSn "[I" (.ref os)) (P14 : Fld Z h0 om TVn VEn "[I" (.ref oe)) (P15 : Arv Z h0 ot kt .int (5 : Int32) (tgs qa qb) (.int 0)) (P16 : Arv Z h0 os ks .int (5 : Int32) lvs (.int 0)) (P17 : Arv Z h0 oe ke .int (5 : Int32) lve (.int 0)) (P18 : Arv Z h0 ob kk .byte (26 : Int32) (bll qa qb qv ya yb yc) (.int 0)) (d_ya : own_dg ya) (d_yb : own_dg yb) (d_yc : own_dg yc) (hk0 : ¬ (lcmpW (own_d (own_d (own_d (0 : Int64) ya) yb) yc) (0 : Int64)) < (0 : Int32)) (hk1 : (lcmpW (own_d (own_d (own_d (0 : Int64) ya) yb) yc) ((((own_cs (own_bl qa qb qv ya yb yc) 19) % (256 : Int64)).toInt32).toInt64)) = (0 : Int32)) :
    MFr l Z (⟨TVn, "checkFrame", "()V"⟩ : MethodName) prog_39_method_5_code 11 none ws (Rm 6 2 30 101) #[(.ref om)] h0 (Q12 Z om ob os oe kk ks ke ot kt qa qb qv ya yb yc cs fm och ou h0 n0) := by
  refine own_body (own := TVn) (plainFor_of_name own_pn0) rfl (fun m => ef_12 m om) ?_
  intro p e s m below meth c s₁ Bd H hml hZ hown X0 e0 P hP
  have hx := H.1
  have hby := H.2
  have N0 := Fr.nil n0
  have K0 : Keep h0 h0 [] := Keep.refl _ _
  refine g_aloadN X0 H d12_0 rfl rfl ?_
  refine g_getF X0 H hZ hown (host := "") (Or.inl (own_g hw 56 rfl)) Via.refl e0 P12 d12_1 ?_
  intro T1 X1 e1
  refine g_len X1 H hZ e1 P15 d12_4 ?_
  refine g_iconst X1 H d12_5 1 rfl ?_
  refine g_isub X1 H d12_6 ?_
  show Go p.tables e below P T1 (mkF m 7 #[vr om, vu, vu, vu, vu, vu, vu, vu, vu, vu, vu] [(.int ((5 : Int32) - (1 : Int32)))])
  rw [show (5 : Int32) - (1 : Int32) = (4 : Int32) from by decide]
  refine g_istoreN X1 H d12_7 #[vr om, vi 4, vu, vu, vu, vu, vu, vu, vu, vu, vu] rfl ?_
  refine g_aloadN X1 H d12_8 rfl rfl ?_
  refine g_getF X1 H hZ hown (host := "") (Or.inl (own_g hw 56 rfl)) Via.refl e1 P12 d12_9 ?_
  intro T3 X3 e3
  refine g_iconst X3 H d12_12 0 rfl ?_
  refine g_iaload X3 H hZ e3 P15 (.int 8) d12_13 ⟨by decide, by decide⟩ rfl ?_
  refine g_bipush X3 H d12_14 8 rfl ?_
  refine g_icmpYes X3 H d12_16 29 (teq (rfl : (8 : Int32) = (8 : Int32))).1 (by decide) ?_
  refine g_aloadN X3 H d12_29 rfl rfl ?_
  refine g_getF X3 H hZ hown (host := "") (Or.inl (own_g hw 56 rfl)) Via.refl e3 P12 d12_30 ?_
  intro T5 X5 e5
  refine g_len X5 H hZ e5 P15 d12_33 ?_
  refine g_iconst X5 H d12_34 2 rfl ?_
  refine g_icmpNo X5 H d12_35 (flt (by decide : ¬ ((5 : Int32) < (2 : Int32)))).1 ?_
  refine g_aloadN X5 H d12_38 rfl rfl ?_
  show Go p.tables e below P T5 (mkF m 39 #[vr om, vi 4, vu, vu, vu, vu, vu, vu, vu, vu, vu] [(.ref om)])
  refine g_getF X5 H hZ hown (host := "") (Or.inl (own_g hw 56 rfl)) Via.refl e5 P12 d12_39 ?_
  intro T7 X7 e7
  refine g_iconst X7 H d12_42 1 rfl ?_
  refine g_iaload X7 H hZ e7 P15 (.int 9) d12_43 ⟨by decide, by decide⟩ rfl ?_
  refine g_bipush X7 H d12_44 9 rfl ?_
  refine g_icmpYes X7 H d12_46 59 (teq (rfl : (9 : Int32) = (9 : Int32))).1 (by decide) ?_
  refine g_aloadN X7 H d12_59 rfl rfl ?_
  refine g_getF X7 H hZ hown (host := "") (Or.inl (own_g hw 56 rfl)) Via.refl e7 P12 d12_60 ?_
  intro T9 X9 e9
  refine g_len X9 H hZ e9 P15 d12_63 ?_
  refine g_iconst X9 H d12_64 3 rfl ?_
  refine g_icmpNo X9 H d12_65 (flt (by decide : ¬ ((5 : Int32) < (3 : Int32)))).1 ?_
  refine g_aloadN X9 H d12_68 rfl rfl ?_
  refine g_getF X9 H hZ hown (host := "") (Or.inl (own_g hw 56 rfl)) Via.refl e9 P12 d12_69 ?_
  intro T11 X11 e11
  refine g_iconst X11 H d12_72 2 rfl ?_
  show Go p.tables e below P T11 (mkF m 73 #[vr om, vi 4, vu, vu, vu, vu, vu, vu, vu, vu, vu] [(.int 2), (.ref ot)])
  refine g_iaload X11 H hZ e11 P15 (.int 35) d12_73 ⟨by decide, by decide⟩ rfl ?_
  refine g_bipush X11 H d12_74 35 rfl ?_
  refine g_icmpYes X11 H d12_76 89 (teq (rfl : (35 : Int32) = (35 : Int32))).1 (by decide) ?_
  refine g_aloadN X11 H d12_89 rfl rfl ?_
  refine g_getF X11 H hZ hown (host := "") (Or.inl (own_g hw 56 rfl)) Via.refl e11 P12 d12_90 ?_
  intro T13 X13 e13
  refine g_iloadN X13 H d12_93 rfl ?_
  refine g_iaload X13 H hZ e13 P15 (.int 10) d12_94 ⟨by decide, by decide⟩ rfl ?_
  refine g_bipush X13 H d12_95 10 rfl ?_
  refine g_icmpYes X13 H d12_97 110 (teq (rfl : (10 : Int32) = (10 : Int32))).1 (by decide) ?_
  refine g_aloadN X13 H d12_110 rfl rfl ?_
  refine g_iloadN X13 H d12_111 rfl ?_
  show Go p.tables e below P T13 (mkF m 112 #[vr om, vi 4, vu, vu, vu, vu, vu, vu, vu, vu, vu] [(.int 4), (.ref om)])
  obtain ⟨cq15, q15, q15'⟩ := P10.cell
  obtain ⟨_, _, ⟨T15, L15, k15, n15⟩, -, X15, ⟨Lc15, hQ15, l15, y15, z15⟩, st15⟩ := X13.privateBack hx (y := (⟨TVn, "fieldStart", "(I)I"⟩ : MethodName)) hown (mvT hZ (own_g hw 66 rfl)) (mvT hZ (own_g hw 67 rfl)) (mvT hZ (own_selp (y := ({ cls := TVn, name := "fieldStart", desc := "(I)I" } : Jvm.MethodName)) (own_g hw 68 rfl) (own_g hw 67 rfl) (own_g hw 47 rfl) ⟨by decide, by decide⟩)) (Cond.privateMethod_at (mvP hZ (own_g hw 68 rfl) (args := #[]))) (mvT hZ (own_g hw 69 rfl)) (by decide) (backOf (W := 0) (rm13f l Z a0 hw [] om oe ke h0 n0 Z0 P14 P17) hZ (own_g hw 69 rfl) (own_g hw 4 rfl) (by decide) (by decide)) (g := (mkF m 112 #[vr om, vi 4, vu, vu, vu, vu, vu, vu, vu, vu, vu] [(.int 4), (.ref om)])) rfl (by rw [hml]; rfl) (Steps.refl _) (a := om) (by rw [e13]; exact q15) q15' (argsL := [(.int 4)]) (rest := []) (lenOf own_pd11 rfl) rfl (by show 2 * 0 + _ ≤ _; exact Nat.le_of_eq rfl) (hb hby d12_112) (fun _ _ => ⟨rfl, e13, (by decide : 0 + 0 ≤ _), (by decide : 0 + 0 ≤ _)⟩)
  dsimp only [Pt.U, Pt.locs, Pt.cells, Pt.slots] at X15 l15 y15 z15 st15 hQ15
  subst l15 y15 z15
  obtain ⟨rfl, Nq15, hh15⟩ := hQ15
  obtain ⟨lc15, Xh15, N15⟩ := own_hide X15 (Fr.app N0 Nq15)
  clear X15
  refine Go.hop st15 ?_
  show Go p.tables e below P T15 (mkF m 115 #[vr om, vi 4, vu, vu, vu, vu, vu, vu, vu, vu, vu] [(.int 19)])
  refine g_istoreN Xh15 H d12_115 #[vr om, vi 4, vi 19, vu, vu, vu, vu, vu, vu, vu, vu] rfl ?_
  refine g_iloadN Xh15 H d12_116 rfl ?_
  refine g_aloadN Xh15 H d12_117 rfl rfl ?_
  refine g_iconst Xh15 H d12_118 2 rfl ?_
  show Go p.tables e below P T15 (mkF m 119 #[vr om, vi 4, vi 19, vu, vu, vu, vu, vu, vu, vu, vu] [(.int 2), (.ref om), (.int 19)])
  obtain ⟨cq16, q16, q16'⟩ := P10.cell
  obtain ⟨_, _, ⟨T16, L16, k16, n16⟩, -, X16, ⟨Lc16, hQ16, l16, y16, z16⟩, st16⟩ := Xh15.privateBack hx (y := (⟨TVn, "fieldStart", "(I)I"⟩ : MethodName)) hown (mvT hZ (own_g hw 66 rfl)) (mvT hZ (own_g hw 67 rfl)) (mvT hZ (own_selp (y := ({ cls := TVn, name := "fieldStart", desc := "(I)I" } : Jvm.MethodName)) (own_g hw 68 rfl) (own_g hw 67 rfl) (own_g hw 47 rfl) ⟨by decide, by decide⟩)) (Cond.privateMethod_at (mvP hZ (own_g hw 68 rfl) (args := #[]))) (mvT hZ (own_g hw 69 rfl)) (by decide) (backOf (W := 1) (rm13t l Z a0 hw [] om oe ke h0 n0 Z0 P14 P17) hZ (own_g hw 69 rfl) (own_g hw 4 rfl) (by decide) (by decide)) (g := (mkF m 119 #[vr om, vi 4, vi 19, vu, vu, vu, vu, vu, vu, vu, vu] [(.int 2), (.ref om), (.int 19)])) rfl (by rw [hml]; rfl) (Steps.refl _) (a := om) (by rw [hh15]; exact q16) q16' (argsL := [(.int 2)]) (rest := [(.int 19)]) (lenOf own_pd11 rfl) rfl (by show 2 * 0 + _ ≤ _; exact Nat.le_of_eq rfl) (hb hby d12_119) (fun _ _ => ⟨rfl, hh15, (by decide : 0 + 0 ≤ _), (by decide : 0 + 0 ≤ _)⟩)
  dsimp only [Pt.U, Pt.locs, Pt.cells, Pt.slots] at X16 l16 y16 z16 st16 hQ16
  subst l16 y16 z16
  obtain ⟨rfl, Nq16, hh16⟩ := hQ16
  obtain ⟨lc16, Xh16, N16⟩ := own_hide X16 (Fr.app N15 Nq16)
  clear X16
  refine Go.hop st16 ?_
  show Go p.tables e below P T16 (mkF m 122 #[vr om, vi 4, vi 19, vu, vu, vu, vu, vu, vu, vu, vu] [(.int 9), (.int 19)])
  refine g_isub Xh16 H d12_122 ?_
  refine g_i2l Xh16 H d12_123 ?_
  refine g_lstoreN Xh16 H d12_124 #[vr om, vi 4, vi 19, vj (((19 : Int32) - (9 : Int32)).toInt64), v2, vu, vu, vu, vu, vu, vu] rfl ?_
  refine g_aloadN Xh16 H d12_125 rfl rfl ?_
  refine g_iconst Xh16 H d12_126 1 rfl ?_
  show Go p.tables e below P T16 (mkF m 127 #[vr om, vi 4, vi 19, vj (((19 : Int32) - (9 : Int32)).toInt64), v2, vu, vu, vu, vu, vu, vu] [(.int 1), (.ref om)])
  obtain ⟨cq17, q17, q17'⟩ := P10.cell
  obtain ⟨_, _, ⟨T17, L17, k17, n17⟩, -, X17, ⟨Lc17, hQ17, l17, y17, z17⟩, st17⟩ := Xh16.privateBack hx (y := (⟨TVn, "wholeNumber", "(I)J"⟩ : MethodName)) hown (mvT hZ (own_g hw 70 rfl)) (mvT hZ (own_g hw 71 rfl)) (mvT hZ (own_selp (y := ({ cls := TVn, name := "wholeNumber", desc := "(I)J" } : Jvm.MethodName)) (own_g hw 72 rfl) (own_g hw 71 rfl) (own_g hw 47 rfl) ⟨by decide, by decide⟩)) (Cond.privateMethod_at (mvP hZ (own_g hw 72 rfl) (args := #[]))) (mvT hZ (own_g hw 73 rfl)) (by decide) (backOf (W := 0) (rm14o l Z a0 hw [] om ob os oe kk ks ke qa qb qv ya yb yc h0 n0 Z0 P11 P13 P14 P18 P16 P17) hZ (own_g hw 73 rfl) (own_g hw 4 rfl) (by decide) (by decide)) (g := (mkF m 127 #[vr om, vi 4, vi 19, vj (((19 : Int32) - (9 : Int32)).toInt64), v2, vu, vu, vu, vu, vu, vu] [(.int 1), (.ref om)])) rfl (by rw [hml]; rfl) (Steps.refl _) (a := om) (by rw [hh16]; exact q17) q17' (argsL := [(.int 1)]) (rest := []) (lenOf own_pd14 rfl) rfl (by show 2 * 0 + _ ≤ _; exact Nat.le_of_eq rfl) (hb hby d12_127) (fun _ _ => ⟨rfl, hh16, (by decide : 0 + 0 ≤ _), (by decide : 0 + 0 ≤ _)⟩)
  dsimp only [Pt.U, Pt.locs, Pt.cells, Pt.slots] at X17 l17 y17 z17 st17 hQ17
  subst l17 y17 z17
  obtain ⟨rfl, Nq17, hh17⟩ := hQ17
  obtain ⟨lc17, Xh17, N17⟩ := own_hide X17 (Fr.app N16 Nq17)
  clear X17
  refine Go.hop st17 ?_
  show Go p.tables e below P T17 (mkF m 130 #[vr om, vi 4, vi 19, vj (((19 : Int32) - (9 : Int32)).toInt64), v2, vu, vu, vu, vu, vu, vu] [(.long 10)])
  refine g_lstore Xh17 H d12_130 #[vr om, vi 4, vi 19, vj (((19 : Int32) - (9 : Int32)).toInt64), v2, vj 10, v2, vu, vu, vu, vu] rfl ?_
  refine g_lload Xh17 H d12_132 rfl ?_
  refine g_lconst Xh17 H d12_134 0 rfl ?_
  refine g_lcmp Xh17 H d12_135 ?_
  refine g_ifYes Xh17 H d12_136 175 ((if0 _ _).trans (flt (by decide)).2.1) (by decide) ?_
  refine g_lload Xh17 H d12_175 rfl ?_
  refine g_lloadN Xh17 H d12_177 rfl ?_
  refine g_lcmp Xh17 H d12_178 ?_
  refine g_ifYes Xh17 H d12_179 227 ((if0 _ _).trans (teq (by decide)).1) (by decide) ?_
  refine g_aloadN Xh17 H d12_227 rfl rfl ?_
  refine g_getF Xh17 H hZ hown (host := "") (Or.inl (own_g hw 54 rfl)) Via.refl hh17 P11 d12_228 ?_
  intro T18 X18 e18
  refine g_iloadN X18 H d12_231 rfl ?_
  refine g_cS X18 H hZ hml rfl hown e18 (rm15 l Z a0 hw [] ob kk qa qb qv ya yb yc h0 n0 Z0 P18) (own_g hw 74 rfl) (own_g hw 75 rfl) (own_g hw 4 rfl) (own_g hw 76 rfl) (by decide) own_pd15 d12_232 rfl rfl rfl (W := 0) rfl (by decide) ?_
  intro _ T19 Lc19 X19 hQ19
  obtain ⟨rfl, Nq19, hh19⟩ := hQ19
  obtain ⟨lc19, Xh19, N19⟩ := own_hide X19 (Fr.app N17 Nq19)
  clear X19
  show Go p.tables e below P T19 (mkF m 235 #[vr om, vi 4, vi 19, vj (((19 : Int32) - (9 : Int32)).toInt64), v2, vj 10, v2, vu, vu, vu, vu] [(.int (((own_cs (own_bl qa qb qv ya yb yc) 19) % (256 : Int64)).toInt32))])
  refine g_istore Xh19 H d12_235 #[vr om, vi 4, vi 19, vj (((19 : Int32) - (9 : Int32)).toInt64), v2, vj 10, v2, vi (((own_cs (own_bl qa qb qv ya yb yc) 19) % (256 : Int64)).toInt32), vu, vu, vu] rfl ?_
  refine g_aloadN Xh19 H d12_237 rfl rfl ?_
  refine g_iloadN Xh19 H d12_238 rfl ?_
  refine g_cV Xh19 H hZ hml rfl hown hh19 P10 (rm16 l Z a0 hw [] om ob os oe kk ks ke 4 qa qb qv ya yb yc cs fm och ou h0 n0 Z0 O0 P1 hcs P3 rfm P5 P6 P7 P8 nou P10 P11 P13 P14 P18 P16 P17 (by decide)) (own_g hw 78 rfl) (own_g hw 79 rfl) (notFace_of_selects (args := #[]) (mvT hZ (own_g hw 81 rfl))) (own_g hw 81 rfl) (own_g hw 80 rfl) (own_g hw 4 rfl) (own_g hw 82 rfl) (by decide) own_pd16 d12_239 rfl rfl rfl (W := 0) rfl (by decide) ?_
  intro _ T20 Lc20 X20 hQ20
  obtain ⟨r_20, oc_20, kc_20, us_20, rfl, Nq20, K20, fr20_r, fr20_oc, u20_0, u20_1, u20_2, u20_3⟩ := hQ20
  obtain ⟨lc20, Xh20, N20⟩ := own_hide X20 (Fr.app N19 Nq20)
  clear X20
  have g21 := Nat.le_trans Z0 fr20_r
  have sz22 := Nat.le_trans K0.1 fr20_r
  have g23 := Nat.le_trans Z0 fr20_oc
  have sz24 := Nat.le_trans K0.1 fr20_oc
  have Z25 := Nat.le_trans Z0 K20.1
  have K26 := K0.trans K20 own_all0
  have O27 : Old Z n0 T20.heap := O0.keep K20 own_all0
  refine g_astore Xh20 H d12_242 rfl #[vr om, vi 4, vi 19, vj (((19 : Int32) - (9 : Int32)).toInt64), v2, vj 10, v2, vi (((own_cs (own_bl qa qb qv ya yb yc) 19) % (256 : Int64)).toInt32), vr r_20, vu, vu] rfl ?_
  refine g_aloadN Xh20 H d12_244 rfl rfl ?_
  refine g_iloadN Xh20 H d12_245 rfl ?_
  show Go p.tables e below P T20 (mkF m 246 #[vr om, vi 4, vi 19, vj (((19 : Int32) - (9 : Int32)).toInt64), v2, vj 10, v2, vi (((own_cs (own_bl qa qb qv ya yb yc) 19) % (256 : Int64)).toInt32), vr r_20, vu, vu] [(.int 4), (.ref om)])
  have F28 := (P11.keep K20 own_nin0)
  have F29 := (P13.keep K20 own_nin0)
  have F30 := (P14.keep K20 own_nin0)
  have F31 := (P18.keep K20 own_nin0)
  have F32 := (P16.keep K20 own_nin0)
  have F33 := (P17.keep K20 own_nin0)
  have F35 := (P10.keep K20)
  obtain ⟨cq34, q34, q34'⟩ := F35.cell
  obtain ⟨_, _, ⟨T34, L34, k34, n34⟩, -, X34, ⟨Lc34, hQ34, l34, y34, z34⟩, st34⟩ := Xh20.privateBack hx (y := (⟨TVn, "wholeNumber", "(I)J"⟩ : MethodName)) hown (mvT hZ (own_g hw 70 rfl)) (mvT hZ (own_g hw 71 rfl)) (mvT hZ (own_selp (y := ({ cls := TVn, name := "wholeNumber", desc := "(I)J" } : Jvm.MethodName)) (own_g hw 72 rfl) (own_g hw 71 rfl) (own_g hw 47 rfl) ⟨by decide, by decide⟩)) (Cond.privateMethod_at (mvP hZ (own_g hw 72 rfl) (args := #[]))) (mvT hZ (own_g hw 73 rfl)) (by decide) (backOf (W := 0) (rm14f l Z a0 hw [] om ob os oe kk ks ke qa qb qv ya yb yc T20.heap n0 Z25 F28 F29 F30 F31 F32 F33 d_ya d_yb d_yc) hZ (own_g hw 73 rfl) (own_g hw 4 rfl) (by decide) (by decide)) (g := (mkF m 246 #[vr om, vi 4, vi 19, vj (((19 : Int32) - (9 : Int32)).toInt64), v2, vj 10, v2, vi (((own_cs (own_bl qa qb qv ya yb yc) 19) % (256 : Int64)).toInt32), vr r_20, vu, vu] [(.int 4), (.ref om)])) rfl (by rw [hml]; rfl) (Steps.refl _) (a := om) q34 q34' (argsL := [(.int 4)]) (rest := []) (lenOf own_pd14 rfl) rfl (by show 2 * 0 + _ ≤ _; exact Nat.le_of_eq rfl) (hb hby d12_246) (fun _ _ => ⟨rfl, rfl, (by decide : 2 + 0 ≤ _), (by decide : 30 + 0 ≤ _)⟩)
  dsimp only [Pt.U, Pt.locs, Pt.cells, Pt.slots] at X34 l34 y34 z34 st34 hQ34
  subst l34 y34 z34
  obtain ⟨rfl, Nq34, hh34⟩ := hQ34
  obtain ⟨lc34, Xh34, N34⟩ := own_hide X34 (Fr.app N20 Nq34)
  clear X34
  refine Go.hop st34 ?_
  show Go p.tables e below P T34 (mkF m 249 #[vr om, vi 4, vi 19, vj (((19 : Int32) - (9 : Int32)).toInt64), v2, vj 10, v2, vi (((own_cs (own_bl qa qb qv ya yb yc) 19) % (256 : Int64)).toInt32), vr r_20, vu, vu] [(.long (own_d (own_d (own_d (0 : Int64) ya) yb) yc))])
  refine g_lstore Xh34 H d12_249 #[vr om, vi 4, vi 19, vj (((19 : Int32) - (9 : Int32)).toInt64), v2, vj 10, v2, vi (((own_cs (own_bl qa qb qv ya yb yc) 19) % (256 : Int64)).toInt32), vr r_20, vj (own_d (own_d (own_d (0 : Int64) ya) yb) yc), v2] rfl ?_
  refine g_aload Xh34 H d12_251 rfl rfl ?_
  refine g_cV Xh34 H hZ hml rfl hown hh34 u20_0 (rm25 l Z a0 hw [] r_20 cs oc_20 kc_20 ((own_nl 4).toInt32) us_20 T20.heap n0 Z25 O27 P1 hcs u20_0 u20_1 u20_2 u20_3) (own_g hw 134 rfl) (own_g hw 135 rfl) (notFace_of_selects (args := #[]) (mvT hZ (own_g hw 137 rfl))) (own_g hw 137 rfl) (own_g hw 136 rfl) (own_g hw 85 rfl) (own_g hw 138 rfl) (by decide) own_pd17 d12_253 rfl rfl rfl (W := 0) rfl (by decide) ?_
  intro _ T36 Lc36 X36 hQ36
  obtain ⟨rfl, Nq36, hh36⟩ := hQ36
  obtain ⟨lc36, Xh36, N36⟩ := own_hide X36 (Fr.app N34 Nq36)
  clear X36
  show Go p.tables e below P T36 (mkF m 256 #[vr om, vi 4, vi 19, vj (((19 : Int32) - (9 : Int32)).toInt64), v2, vj 10, v2, vi (((own_cs (own_bl qa qb qv ya yb yc) 19) % (256 : Int64)).toInt32), vr r_20, vj (own_d (own_d (own_d (0 : Int64) ya) yb) yc), v2] [(.int (((own_nl 4).toInt32) >>> ((0 : Int32) &&& 31)))])
  rw [show (((own_nl 4).toInt32) >>> ((0 : Int32) &&& 31)) = (3 : Int32) from by decide]
  refine g_iconst Xh36 H d12_256 3 rfl ?_
  refine g_icmpNo Xh36 H d12_257 (teq (rfl : (3 : Int32) = (3 : Int32))).2 ?_
  refine g_lload Xh36 H d12_260 rfl ?_
  refine g_lconst Xh36 H d12_262 0 rfl ?_
  refine g_lcmp Xh36 H d12_263 ?_
  refine g_ifYes Xh36 H d12_264 300 ((if0 _ _).trans (flt hk0).2.1) (by decide) ?_
  refine g_lload Xh36 H d12_300 rfl ?_
  refine g_iload Xh36 H d12_302 rfl ?_
  refine g_i2l Xh36 H d12_304 ?_
  refine g_lcmp Xh36 H d12_305 ?_
  refine g_ifYes Xh36 H d12_306 355 ((if0 _ _).trans (teq hk1).1) (by decide) ?_
  refine g_retV Xh36 H Bd.notSynchronized hP (by decide) Bd.returns d12_355 ?_
  rw [hh36]
  exact ⟨rfl, N36, K26⟩
theorem own_pd18 : parseMethodDescriptor "([B)Lcom/example/splitbook/splitbook/tagvalue/TagValueMessage;" = some ⟨[(.array .byte)], some (.object TVn)⟩ := by decide +kernel
theorem own_pd19 : parseMethodDescriptor "()V" = some ⟨[], none⟩ := by decide +kernel
theorem d2_0 : D23 0 (.aload_n 0) 1 := by decide +kernel
theorem d2_1 : D23 1 (.ifnonnull 11) 3 := by decide +kernel
theorem d2_12 : D23 12 (.iload_n 1) 1 := by decide +kernel
theorem d2_13 : D23 13 (.iload_n 2) 1 := by decide +kernel
theorem d2_14 : D23 14 (.aload_n 0) 1 := by decide +kernel
theorem d2_15 : D23 15 (.arraylength) 1 := by decide +kernel
theorem d2_16 : D23 16 (.invokestatic 32) 3 := by decide +kernel
theorem d2_19 : D23 19 (.pop) 1 := by decide +kernel
theorem d2_20 : D23 20 (.iload_n 2) 1 := by decide +kernel
theorem d2_21 : D23 21 (.ifCond .ne 13) 3 := by decide +kernel
theorem d2_34 : D23 34 (.aload_n 0) 1 := by decide +kernel
theorem d2_35 : D23 35 (.iload_n 1) 1 := by decide +kernel
theorem d2_36 : D23 36 (.iload_n 1) 1 := by decide +kernel
theorem d2_37 : D23 37 (.iload_n 2) 1 := by decide +kernel
theorem d2_38 : D23 38 (.iadd) 1 := by decide +kernel
theorem d2_39 : D23 39 (.invokestatic 45) 3 := by decide +kernel
theorem d2_42 : D23 42 (.astore_n 3) 1 := by decide +kernel
theorem d2_43 : D23 43 (.aload_n 3) 1 := by decide +kernel
theorem d2_44 : D23 44 (.invokestatic 51) 3 := by decide +kernel
theorem d2_47 : D23 47 (.astore 4) 2 := by decide +kernel
theorem d2_49 : D23 49 (.aload 4) 2 := by decide +kernel
theorem d2_51 : D23 51 (.invokevirtual 55) 3 := by decide +kernel
theorem d2_54 : D23 54 (.aload 4) 2 := by decide +kernel
theorem d2_56 : D23 56 (.areturn) 1 := by decide +kernel
theorem ef_2 (m : MethodId) (x0 : Addr) : entryFrame m #[(.ref x0), (.int 0), (.int 26)] 5 = mkF m 0 #[.val (.ref x0), .val (.int 0), .val (.int 26), .unset, .unset] [] := by first | (simp [entryFrame, mkF, argsToLocals, Value.category]; done) | rfl
def Q2 (Z : State) (ob : Addr) (kk : ClassId) (qa : Int32) (qb : Int32) (qv : Int32) (ya : Int32) (yb : Int32) (yc : Int32) (cs : Int32) (fm : Value) (och : Addr) (ou : Addr) (h0 : Heap) (n0 : Nat) (v : Option Value) (h : Heap) (L : List Loc) : Prop := ∃ (om : Addr) (ot : Addr) (os : Addr) (oe : Addr) (o2 : Addr) (kt : ClassId) (ks : ClassId) (ke : ClassId) (k2 : ClassId), v = some (.ref om) ∧ Fr n0 L ∧ Keep h0 h [] ∧ h0.size ≤ om ∧ h0.size ≤ ot ∧ h0.size ≤ os ∧ h0.size ≤ oe ∧ h0.size ≤ o2 ∧ Exa Z h om TVn ∧ Fld Z h om TVn "bytes" DBn (.ref o2) ∧ Fld Z h om TVn "tags" "[I" (.ref ot) ∧ Fld Z h om TVn VSn "[I" (.ref os) ∧ Fld Z h om TVn VEn "[I" (.ref oe) ∧ Arv Z h ot kt .int (5 : Int32) (tgs qa qb) (.int 0) ∧ Arv Z h os ks .int (5 : Int32) lvs (.int 0) ∧ Arv Z h oe ke .int (5 : Int32) lve (.int 0) ∧ Arv Z h o2 k2 .byte (26 : Int32) (bll qa qb qv ya yb yc) (.int 0)
theorem rm2 (l : Launch) (Z : State) (a0 : Array Value) (hw : HW a0 Z) (ws : List Jvm.Cond) (ob : Addr) (kk : ClassId) (qa : Int32) (qb : Int32) (qv : Int32) (ya : Int32) (yb : Int32) (yc : Int32) (cs : Int32) (fm : Value) (och : Addr) (ou : Addr) (h0 : Heap) (n0 : Nat) (Z0 : n0 ≤ h0.size) (O0 : Old Z n0 h0) (P1 : Sta Z Z.heap STn CSn "Z" (.int cs)) (hcs : ¬ cs = (0 : Int32)) (P3 : Sta Z Z.heap PRn SIn BFn fm) (rfm : fm.isRef = true) (P5 : Sta Z Z.heap SCn ISn DChn (.ref och)) (P6 : Exa Z Z.heap och STIn) (P7 : Sta Z Z.heap STIn INSn DSIn (.ref och)) (P8 : Sta Z Z.heap STUn INSn DSUn (.ref ou)) (nou : och ≠ ou) (P10 : Arv Z h0 ob kk .byte (26 : Int32) (bll qa qb qv ya yb yc) (.int 0)) (P11 : Exa Z h0 ob DBn) (d_qa : own_dg qa) (d_qb : own_dg qb) (d_ya : own_dg ya) (d_yb : own_dg yb) (d_yc : own_dg yc) (hq0 : ¬ (lcmpW (own_d (own_d (0 : Int64) qa) qb) (0 : Int64)) = (0 : Int32)) (hq1 : ¬ (lcmpW (own_d (own_d (0 : Int64) qa) qb) (2147483648 : Int64)) = (0 : Int32)) (nv1 : ¬ qv = (1 : Int32)) (hk0 : ¬ (lcmpW (own_d (own_d (own_d (0 : Int64) ya) yb) yc) (0 : Int64)) < (0 : Int32)) (hk1 : (lcmpW (own_d (own_d (own_d (0 : Int64) ya) yb) yc) ((((own_cs (own_bl qa qb qv ya yb yc) 19) % (256 : Int64)).toInt32).toInt64)) = (0 : Int32)) :
    MFr l Z (⟨TVn, "read", "([BII)Lcom/example/splitbook/splitbook/tagvalue/TagValueMessage;"⟩ : MethodName) prog_39_method_3_code 5 (some (.object TVn)) ws (Rm 7 7 75 123) #[(.ref ob), (.int 0), (.int 26)] h0 (Q2 Z ob kk qa qb qv ya yb yc cs fm och ou h0 n0) := by
  refine own_body (own := TVn) (plainFor_of_name own_pn0) rfl (fun m => ef_2 m ob) ?_
  intro p e s m below meth c s₁ Bd H hml hZ hown X0 e0 P hP
  have hx := H.1
  have hby := H.2
  have N0 := Fr.nil n0
  have K0 : Keep h0 h0 [] := Keep.refl _ _
  refine g_aloadN X0 H d2_0 rfl rfl ?_
  show Go p.tables e below P s₁ (mkF m 1 #[vr ob, vi 0, vi 26, vu, vu] [(.ref ob)])
  refine gv (fun t k => XS.ifnonnullYes X0.here hx rfl (pc0 := 1) (pc' := 12) rfl (hb hby d2_1) rfl (by decide) (by decide) k) ?_
  show Go p.tables e below P s₁ (mkF m 12 #[vr ob, vi 0, vi 26, vu, vu] [])
  refine g_iloadN X0 H d2_12 rfl ?_
  refine g_iloadN X0 H d2_13 rfl ?_
  refine g_aloadN X0 H d2_14 rfl rfl ?_
  refine g_len X0 H hZ e0 P10 d2_15 ?_
  refine g_cS X0 H hZ hml rfl hown e0 (rm3 l Z a0 hw [] (0 : Nat) (26 : Nat) h0 n0 Z0 (by first | assumption | decide | omega : (0 : Nat) + (26 : Nat) ≤ 26)) (own_g hw 9 rfl) (own_g hw 10 rfl) (own_g hw 11 rfl) (own_g hw 12 rfl) (by decide) own_pd9 d2_16 rfl rfl rfl (W := 0) rfl (by decide) ?_
  intro _ T2 Lc2 X2 hQ2
  obtain ⟨rfl, Nq2, hh2⟩ := hQ2
  obtain ⟨lc2, Xh2, N2⟩ := own_hide X2 (Fr.app N0 Nq2)
  clear X2
  show Go p.tables e below P T2 (mkF m 19 #[vr ob, vi 0, vi 26, vu, vu] [(.int ((0 : Nat).toInt32))])
  refine gv (fun t k => XS.pop Xh2.here hx rfl (hb hby d2_19) rfl rfl k) ?_
  show Go p.tables e below P T2 (mkF m 20 #[vr ob, vi 0, vi 26, vu, vu] [])
  refine g_iloadN Xh2 H d2_20 rfl ?_
  refine g_ifYes Xh2 H d2_21 34 ((if0 _ _).trans (feq (by decide : ¬ ((26 : Int32) = (0 : Int32)))).2) (by decide) ?_
  refine g_aloadN Xh2 H d2_34 rfl rfl ?_
  refine g_iloadN Xh2 H d2_35 rfl ?_
  refine g_iloadN Xh2 H d2_36 rfl ?_
  refine g_iloadN Xh2 H d2_37 rfl ?_
  refine g_iadd Xh2 H d2_38 ?_
  show Go p.tables e below P T2 (mkF m 39 #[vr ob, vi 0, vi 26, vu, vu] [(.int ((0 : Int32) + (26 : Int32))), (.int 0), (.ref ob)])
  rw [show (0 : Int32) + (26 : Int32) = (26 : Int32) from by decide]
  refine g_cS Xh2 H hZ hml rfl hown hh2 (rm5w l Z a0 hw [] ob kk qa qb qv ya yb yc h0 n0 Z0 P10 P11) (own_g hw 17 rfl) (own_g hw 18 rfl) (own_g hw 19 rfl) (own_g hw 20 rfl) (by decide) own_pd7 d2_39 rfl rfl rfl (W := 0) rfl (by decide) ?_
  intro _ T3 Lc3 X3 hQ3
  obtain ⟨oc_3, kc_3, rfl, Nq3, K3, fr3_oc, u3_0, u3_1⟩ := hQ3
  obtain ⟨lc3, Xh3, N3⟩ := own_hide X3 (Fr.app N2 Nq3)
  clear X3
  have g4 := Nat.le_trans Z0 fr3_oc
  have sz5 := Nat.le_trans K0.1 fr3_oc
  have Z6 := Nat.le_trans Z0 K3.1
  have K7 := K0.trans K3 own_all0
  have O8 : Old Z n0 T3.heap := O0.keep K3 own_all0
  refine g_astoreN Xh3 H d2_42 rfl #[vr ob, vi 0, vi 26, vr oc_3, vu] rfl ?_
  refine g_aloadN Xh3 H d2_43 rfl rfl ?_
  refine g_cS Xh3 H hZ hml rfl hown rfl (rm6 l Z a0 hw [] oc_3 kc_3 qa qb qv ya yb yc T3.heap n0 Z6 u3_0 d_qa d_qb d_ya d_yb d_yc hq0 hq1 nv1) (own_g hw 30 rfl) (own_g hw 31 rfl) (own_g hw 4 rfl) (own_g hw 32 rfl) (by decide) own_pd18 d2_44 rfl rfl rfl (W := 0) rfl (by decide) ?_
  intro _ T9 Lc9 X9 hQ9
  obtain ⟨om_9, ot_9, os_9, oe_9, kt_9, ks_9, ke_9, rfl, Nq9, K9, fr9_om, fr9_ot, fr9_os, fr9_oe, u9_0, u9_1, u9_2, u9_3, u9_4, u9_5, u9_6, u9_7⟩ := hQ9
  obtain ⟨lc9, Xh9, N9⟩ := own_hide X9 (Fr.app N3 Nq9)
  clear X9
  have ne10 := Nat.ne_of_lt (Nat.lt_of_lt_of_le u3_0.lt fr9_om)
  have g11 := Nat.le_trans Z6 fr9_om
  have sz12 := Nat.le_trans K7.1 fr9_om
  have ne13 := Nat.ne_of_lt (Nat.lt_of_lt_of_le u3_0.lt fr9_ot)
  have g14 := Nat.le_trans Z6 fr9_ot
  have sz15 := Nat.le_trans K7.1 fr9_ot
  have ne16 := Nat.ne_of_lt (Nat.lt_of_lt_of_le u3_0.lt fr9_os)
  have g17 := Nat.le_trans Z6 fr9_os
  have sz18 := Nat.le_trans K7.1 fr9_os
  have ne19 := Nat.ne_of_lt (Nat.lt_of_lt_of_le u3_0.lt fr9_oe)
  have g20 := Nat.le_trans Z6 fr9_oe
  have sz21 := Nat.le_trans K7.1 fr9_oe
  have Z22 := Nat.le_trans Z6 K9.1
  have K23 := K7.trans K9 own_all0
  have O24 : Old Z n0 T9.heap := O8.keep K9 own_all0
  refine g_astore Xh9 H d2_47 rfl #[vr ob, vi 0, vi 26, vr oc_3, vr om_9] rfl ?_
  refine g_aload Xh9 H d2_49 rfl rfl ?_
  show Go p.tables e below P T9 (mkF m 51 #[vr ob, vi 0, vi 26, vr oc_3, vr om_9] [(.ref om_9)])
  have F25 := (u3_0.keep K9 own_nin0)
  obtain ⟨cq26, q26, q26'⟩ := u9_0.cell
  obtain ⟨_, _, ⟨T26, L26, k26, n26⟩, -, X26, ⟨Lc26, hQ26, l26, y26, z26⟩, st26⟩ := Xh9.privateBack hx (y := (⟨TVn, "checkFrame", "()V"⟩ : MethodName)) hown (mvT hZ (own_g hw 62 rfl)) (mvT hZ (own_g hw 63 rfl)) (mvT hZ (own_selp (y := ({ cls := TVn, name := "checkFrame", desc := "()V" } : Jvm.MethodName)) (own_g hw 64 rfl) (own_g hw 63 rfl) (own_g hw 47 rfl) ⟨by decide, by decide⟩)) (Cond.privateMethod_at (mvP hZ (own_g hw 64 rfl) (args := #[]))) (mvT hZ (own_g hw 65 rfl)) (by decide) (backOf (W := 0) (rm12 l Z a0 hw [] om_9 oc_3 os_9 oe_9 kc_3 ks_9 ke_9 ot_9 kt_9 qa qb qv ya yb yc cs fm och ou T9.heap n0 Z22 O24 P1 hcs P3 rfm P5 P6 P7 P8 nou u9_0 u9_1 u9_2 u9_3 u9_4 u9_5 u9_6 u9_7 F25 d_ya d_yb d_yc hk0 hk1) hZ (own_g hw 65 rfl) (own_g hw 4 rfl) (by decide) (by decide)) (g := (mkF m 51 #[vr ob, vi 0, vi 26, vr oc_3, vr om_9] [(.ref om_9)])) rfl (by rw [hml]; rfl) (Steps.refl _) (a := om_9) q26 q26' (argsL := []) (rest := []) (lenOf own_pd19 rfl) rfl (by show 2 * 0 + _ ≤ _; exact Nat.le_of_eq rfl) (hb hby d2_51) (fun _ _ => ⟨rfl, rfl, (by decide : 5 + 2 ≤ _), (by decide : 45 + 30 ≤ _)⟩)
  dsimp only [Pt.U, Pt.locs, Pt.cells, Pt.slots] at X26 l26 y26 z26 st26 hQ26
  subst l26 y26 z26
  obtain ⟨rfl, Nq26, K26⟩ := hQ26
  obtain ⟨lc26, Xh26, N26⟩ := own_hide X26 (Fr.app N9 Nq26)
  clear X26
  refine Go.hop st26 ?_
  have Z27 := Nat.le_trans Z22 K26.1
  have K28 := K23.trans K26 own_all0
  have O29 : Old Z n0 T26.heap := O24.keep K26 own_all0
  show Go p.tables e below P T26 (mkF m 54 #[vr ob, vi 0, vi 26, vr oc_3, vr om_9] [])
  refine g_aload Xh26 H d2_54 rfl rfl ?_
  have F31 := (u9_0.keep K26)
  have F32 := (u9_1.keep K26 own_nin0)
  have F33 := (u9_2.keep K26 own_nin0)
  have F34 := (u9_3.keep K26 own_nin0)
  have F35 := (u9_4.keep K26 own_nin0)
  have F36 := (u9_5.keep K26 own_nin0)
  have F37 := (u9_6.keep K26 own_nin0)
  have F38 := (u9_7.keep K26 own_nin0)
  have F39 := (F25.keep K26 own_nin0)
  refine g_retA Xh26 H Bd.notSynchronized hP (by decide) Bd.returns rfl rfl rfl d2_56 ?_
  exact ⟨om_9, ot_9, os_9, oe_9, oc_3, kt_9, ks_9, ke_9, kc_3, rfl, N26, K28, sz12, sz15, sz18, sz21, sz5, F31, F32, F33, F34, F35, F36, F37, F38, F39⟩
theorem own_pd20 : parseMethodDescriptor "([BII)Lcom/example/splitbook/splitbook/tagvalue/TagValueMessage;" = some ⟨[(.array .byte), .int, .int], some (.object TVn)⟩ := by decide +kernel
theorem d1_0 : D24 0 (.aload_n 0) 1 := by decide +kernel
theorem d1_1 : D24 1 (.ifnonnull 11) 3 := by decide +kernel
theorem d1_12 : D24 12 (.aload_n 0) 1 := by decide +kernel
theorem d1_13 : D24 13 (.iconst 0) 1 := by decide +kernel
theorem d1_14 : D24 14 (.aload_n 0) 1 := by decide +kernel
theorem d1_15 : D24 15 (.arraylength) 1 := by decide +kernel
theorem d1_16 : D24 16 (.invokestatic 28) 3 := by decide +kernel
theorem d1_19 : D24 19 (.areturn) 1 := by decide +kernel
theorem ef_1 (m : MethodId) (x0 : Addr) : entryFrame m #[(.ref x0)] 1 = mkF m 0 #[.val (.ref x0)] [] := by first | (simp [entryFrame, mkF, argsToLocals, Value.category]; done) | rfl
def Q1 (Z : State) (ob : Addr) (kk : ClassId) (qa : Int32) (qb : Int32) (qv : Int32) (ya : Int32) (yb : Int32) (yc : Int32) (cs : Int32) (fm : Value) (och : Addr) (ou : Addr) (h0 : Heap) (n0 : Nat) (v : Option Value) (h : Heap) (L : List Loc) : Prop := ∃ (om : Addr) (ot : Addr) (os : Addr) (oe : Addr) (o2 : Addr) (kt : ClassId) (ks : ClassId) (ke : ClassId) (k2 : ClassId), v = some (.ref om) ∧ Fr n0 L ∧ Keep h0 h [] ∧ h0.size ≤ om ∧ h0.size ≤ ot ∧ h0.size ≤ os ∧ h0.size ≤ oe ∧ h0.size ≤ o2 ∧ Exa Z h om TVn ∧ Fld Z h om TVn "bytes" DBn (.ref o2) ∧ Fld Z h om TVn "tags" "[I" (.ref ot) ∧ Fld Z h om TVn VSn "[I" (.ref os) ∧ Fld Z h om TVn VEn "[I" (.ref oe) ∧ Arv Z h ot kt .int (5 : Int32) (tgs qa qb) (.int 0) ∧ Arv Z h os ks .int (5 : Int32) lvs (.int 0) ∧ Arv Z h oe ke .int (5 : Int32) lve (.int 0) ∧ Arv Z h o2 k2 .byte (26 : Int32) (bll qa qb qv ya yb yc) (.int 0)
theorem rm1 (l : Launch) (Z : State) (a0 : Array Value) (hw : HW a0 Z) (ws : List Jvm.Cond) (ob : Addr) (kk : ClassId) (qa : Int32) (qb : Int32) (qv : Int32) (ya : Int32) (yb : Int32) (yc : Int32) (cs : Int32) (fm : Value) (och : Addr) (ou : Addr) (h0 : Heap) (n0 : Nat) (Z0 : n0 ≤ h0.size) (O0 : Old Z n0 h0) (P1 : Sta Z Z.heap STn CSn "Z" (.int cs)) (hcs : ¬ cs = (0 : Int32)) (P3 : Sta Z Z.heap PRn SIn BFn fm) (rfm : fm.isRef = true) (P5 : Sta Z Z.heap SCn ISn DChn (.ref och)) (P6 : Exa Z Z.heap och STIn) (P7 : Sta Z Z.heap STIn INSn DSIn (.ref och)) (P8 : Sta Z Z.heap STUn INSn DSUn (.ref ou)) (nou : och ≠ ou) (P10 : Arv Z h0 ob kk .byte (26 : Int32) (bll qa qb qv ya yb yc) (.int 0)) (P11 : Exa Z h0 ob DBn) (d_qa : own_dg qa) (d_qb : own_dg qb) (d_ya : own_dg ya) (d_yb : own_dg yb) (d_yc : own_dg yc) (hq0 : ¬ (lcmpW (own_d (own_d (0 : Int64) qa) qb) (0 : Int64)) = (0 : Int32)) (hq1 : ¬ (lcmpW (own_d (own_d (0 : Int64) qa) qb) (2147483648 : Int64)) = (0 : Int32)) (nv1 : ¬ qv = (1 : Int32)) (hk0 : ¬ (lcmpW (own_d (own_d (own_d (0 : Int64) ya) yb) yc) (0 : Int64)) < (0 : Int32)) (hk1 : (lcmpW (own_d (own_d (own_d (0 : Int64) ya) yb) yc) ((((own_cs (own_bl qa qb qv ya yb yc) 19) % (256 : Int64)).toInt32).toInt64)) = (0 : Int32)) :
    MFr l Z (⟨TVn, "read", "([B)Lcom/example/splitbook/splitbook/tagvalue/TagValueMessage;"⟩ : MethodName) prog_39_method_2_code 1 (some (.object TVn)) ws (Rm 8 7 75 139) #[(.ref ob)] h0 (Q1 Z ob kk qa qb qv ya yb yc cs fm och ou h0 n0) := by
  refine own_body (own := TVn) (plainFor_of_name own_pn0) rfl (fun m => ef_1 m ob) ?_
  intro p e s m below meth c s₁ Bd H hml hZ hown X0 e0 P hP
  have hx := H.1
  have hby := H.2
  have N0 := Fr.nil n0
  have K0 : Keep h0 h0 [] := Keep.refl _ _
  refine g_aloadN X0 H d1_0 rfl rfl ?_
  show Go p.tables e below P s₁ (mkF m 1 #[vr ob] [(.ref ob)])
  refine gv (fun t k => XS.ifnonnullYes X0.here hx rfl (pc0 := 1) (pc' := 12) rfl (hb hby d1_1) rfl (by decide) (by decide) k) ?_
  show Go p.tables e below P s₁ (mkF m 12 #[vr ob] [])
  refine g_aloadN X0 H d1_12 rfl rfl ?_
  refine g_iconst X0 H d1_13 0 rfl ?_
  refine g_aloadN X0 H d1_14 rfl rfl ?_
  refine g_len X0 H hZ e0 P10 d1_15 ?_
  refine g_cS X0 H hZ hml rfl hown e0 (rm2 l Z a0 hw [] ob kk qa qb qv ya yb yc cs fm och ou h0 n0 Z0 O0 P1 hcs P3 rfm P5 P6 P7 P8 nou P10 P11 d_qa d_qb d_ya d_yb d_yc hq0 hq1 nv1 hk0 hk1) (own_g hw 6 rfl) (own_g hw 7 rfl) (own_g hw 4 rfl) (own_g hw 8 rfl) (by decide) own_pd20 d1_16 rfl rfl rfl (W := 0) rfl (by decide) ?_
  intro _ T2 Lc2 X2 hQ2
  obtain ⟨om_2, ot_2, os_2, oe_2, o2_2, kt_2, ks_2, ke_2, k2_2, rfl, Nq2, K2, fr2_om, fr2_ot, fr2_os, fr2_oe, fr2_o2, u2_0, u2_1, u2_2, u2_3, u2_4, u2_5, u2_6, u2_7, u2_8⟩ := hQ2
  obtain ⟨lc2, Xh2, N2⟩ := own_hide X2 (Fr.app N0 Nq2)
  clear X2
  have g3 := Nat.le_trans Z0 fr2_om
  have sz4 := Nat.le_trans K0.1 fr2_om
  have g5 := Nat.le_trans Z0 fr2_ot
  have sz6 := Nat.le_trans K0.1 fr2_ot
  have g7 := Nat.le_trans Z0 fr2_os
  have sz8 := Nat.le_trans K0.1 fr2_os
  have g9 := Nat.le_trans Z0 fr2_oe
  have sz10 := Nat.le_trans K0.1 fr2_oe
  have g11 := Nat.le_trans Z0 fr2_o2
  have sz12 := Nat.le_trans K0.1 fr2_o2
  have Z13 := Nat.le_trans Z0 K2.1
  have K14 := K0.trans K2 own_all0
  have O15 : Old Z n0 T2.heap := O0.keep K2 own_all0
  refine g_retA Xh2 H Bd.notSynchronized hP (by decide) Bd.returns rfl rfl rfl d1_19 ?_
  exact ⟨om_2, ot_2, os_2, oe_2, o2_2, kt_2, ks_2, ke_2, k2_2, rfl, N2, K14, sz4, sz6, sz8, sz10, sz12, u2_0, u2_1, u2_2, u2_3, u2_4, u2_5, u2_6, u2_7, u2_8⟩
theorem own_nfc {s : State} {args : Array Value} {K : String} {x z y : MethodName} (w : (Cond.selects K x z).before args s = true) (hz : z.cls = y.cls) : NotFace s y := fun r0 h0 => by
  obtain ⟨c, r, m', h1, h2, h3, h4, k, hk, hi⟩ := Cond.selects_spec w
  have a1 := findClass_of_methodNamed h0
  have a2 := findClass_of_methodNamed h3
  rw [hz] at a2
  have e : r0.cls = m'.cls := Option.some.inj (a1.symm.trans a2)
  exact ⟨k, by rw [e]; exact hk, hi⟩
theorem own_same {Z : State} {a0 : Array Value} {K : String} {x z y : MethodName} (wi : (Cond.instanceMethod y).before a0 Z = true) (w : (Cond.selects K x z).before a0 Z = true) (hz : z.cls = y.cls) (hy : y.cls ≠ "java/lang/invoke/MethodHandle" ∧ y.cls ≠ "java/lang/invoke/VarHandle") : (Cond.sameMethod y.cls y.cls y.name y.desc).before a0 Z = true := by
  obtain ⟨m, meth, hn, hm, -, -⟩ := Cond.instanceMethod_spec wi
  obtain ⟨k, hk, hi⟩ := own_nfc w hz m hn
  have hc := findClass_of_methodNamed hn
  simp [Cond.before, Cond.holds, Cond.value, hc, State.methodFound?_of_named hn hy, hn, hk, hi]
theorem own_selp2 {Z : State} {a0 : Array Value} {K : String} {x z y : MethodName} (w1 : (Cond.privateMethod y).before a0 Z = true) (w2 : (Cond.instanceMethod y).before a0 Z = true) (w : (Cond.selects K x z).before a0 Z = true) (hz : z.cls = y.cls) (hy : y.cls ≠ "java/lang/invoke/MethodHandle" ∧ y.cls ≠ "java/lang/invoke/VarHandle") : (Cond.selects y.cls y y).before a0 Z = true := by
  obtain ⟨m, meth, hn, hm, -, -⟩ := Cond.instanceMethod_spec w2
  obtain ⟨k, hk, hi⟩ := own_nfc w hz m hn
  have hf := State.methodFound?_of_named hn hy
  have hp := Cond.privateMethod_at w1 m meth hn hm
  have hc := findClass_of_methodNamed hn
  simp [Cond.before, Cond.holds, Cond.value, hc, hf, hn, selectMethod_private hm hp, hk, hi]
def own_lg (bl : List Int32) : Int32 := bl.length.toInt32
theorem own_sh0 (x : Int32) : x >>> ((0 : Int32) &&& 31) = x := by
  rw [← Int32.toInt_inj, c_ishr x 0 0 rfl]; simp
theorem own_sl0 (x : Int32) : x <<< ((0 : Int32) &&& 31) = x := by
  rw [← Int32.toBitVec_inj]; show x.toBitVec <<< _ = _; simp
def own_put (vl : List Int32) (n : Nat) (bl : List Int32) : List Int32 := vl.take n ++ bl ++ vl.drop (n + bl.length)
theorem own_put_len {vl bl : List Int32} {n : Nat} (h : vl.length = 16) (hn : n + bl.length ≤ 16) : (own_put vl n bl).length = 16 := by
  unfold own_put; simp only [List.length_append, List.length_take, List.length_drop]; omega
theorem own_rgm (bl : List Int32) (d : Value) : (List.range bl.length).map (fun i => (bl.map Value.int).getD (0 + i) d) = bl.map Value.int := by
  apply List.ext_getElem
  · simp
  · intro i h1 h2
    simp at h1 h2
    simp [List.getD_eq_getElem?_getD, h1]
theorem own_cpb (vl bl : List Int32) (n : Nat) (d : Value) : ((vl.map Value.int).take n ++ (List.range bl.length).map (fun i => (bl.map Value.int).getD (0 + i) d) ++ (vl.map Value.int).drop (n + bl.length)) = (own_put vl n bl).map Value.int := by
  rw [own_rgm]; unfold own_put; simp [List.map_append, List.map_take, List.map_drop]
theorem own_sn14 {Z : State} {a0 : Array Value} (hw : ∀ d ∈ tables_1, d.before a0 Z = true) : Jvm.RoadKit.slotOf Z ASn CDn "B" ≠ Jvm.RoadKit.slotOf Z ASn VLn DBn := slot_ne (Or.inl (own_g hw 246 rfl)) (Or.inl (own_g hw 244 rfl)) (by decide) (t := .byte) (t' := (.array .byte)) (by decide) (by decide)
theorem own_sn15 {Z : State} {a0 : Array Value} (hw : ∀ d ∈ tables_1, d.before a0 Z = true) : Jvm.RoadKit.slotOf Z ASn VLn DBn ≠ Jvm.RoadKit.slotOf Z ASn CDn "B" := slot_ne (Or.inl (own_g hw 244 rfl)) (Or.inl (own_g hw 246 rfl)) (by decide) (t := (.array .byte)) (t' := .byte) (by decide) (by decide)
theorem own_sn16 {Z : State} {a0 : Array Value} (hw : ∀ d ∈ tables_1, d.before a0 Z = true) : Jvm.RoadKit.slotOf Z ASn "count" "I" ≠ Jvm.RoadKit.slotOf Z ASn VLn DBn := slot_ne (Or.inl (own_g hw 275 rfl)) (Or.inl (own_g hw 244 rfl)) (by decide) (t := .int) (t' := (.array .byte)) (by decide) (by decide)
theorem own_sn17 {Z : State} {a0 : Array Value} (hw : ∀ d ∈ tables_1, d.before a0 Z = true) : Jvm.RoadKit.slotOf Z ASn "count" "I" ≠ Jvm.RoadKit.slotOf Z ASn CDn "B" := slot_ne (Or.inl (own_g hw 275 rfl)) (Or.inl (own_g hw 246 rfl)) (by decide) (t := .int) (t' := .byte) (by decide) (by decide)
theorem own_pn5 : plainName ASn = true := by first | (simp [plainName, overriddenIn]; done) | decide +kernel
theorem d41_0 : D25 0 (.aload_n 0) 1 := by decide +kernel
theorem d41_1 : D25 1 (.invokespecial 3) 3 := by decide +kernel
theorem d41_4 : D25 4 (.getstatic 18) 3 := by decide +kernel
theorem d41_7 : D25 7 (.ifCond .eq 18) 3 := by decide +kernel
theorem d41_10 : D25 10 (.aload_n 0) 1 := by decide +kernel
theorem d41_11 : D25 11 (.iload_n 1) 1 := by decide +kernel
theorem d41_12 : D25 12 (.newarray .byte) 2 := by decide +kernel
theorem d41_14 : D25 14 (.putfield 15) 3 := by decide +kernel
theorem d41_17 : D25 17 (.aload_n 0) 1 := by decide +kernel
theorem d41_18 : D25 18 (.iconst 0) 1 := by decide +kernel
theorem d41_19 : D25 19 (.putfield 22) 3 := by decide +kernel
theorem d41_22 : D25 22 (.goto 16) 3 := by decide +kernel
theorem d41_38 : D25 38 (.return_) 1 := by decide +kernel
theorem ef_41 (m : MethodId) (x0 : Addr) : entryFrame m #[(.ref x0), (.int 16)] 2 = mkF m 0 #[.val (.ref x0), .val (.int 16)] [] := by first | (simp [entryFrame, mkF, argsToLocals, Value.category]; done) | rfl
def Q41 (Z : State) (sb : Addr) (cs : Int32) (h0 : Heap) (n0 : Nat) (v : Option Value) (h : Heap) (L : List Loc) : Prop := ∃ (ov : Addr) (ko : ClassId), v = none ∧ Fr n0 L ∧ Keep h0 h [sb] ∧ h0.size ≤ ov ∧ Exa Z h sb SBn ∧ Fld Z h sb ASn VLn DBn (.ref ov) ∧ Fld Z h sb ASn CDn "B" (.int 0) ∧ Fld Z h sb ASn "count" "I" (.int 0) ∧ Arv Z h ov ko .byte (16 : Int32) ((List.replicate 16 (0 : Int32)).map Value.int) (.int 0) ∧ Exa Z h ov DBn
theorem rm41 (l : Launch) (Z : State) (a0 : Array Value) (hw : HW a0 Z) (ws : List Jvm.Cond) (sb : Addr) (cs : Int32) (h0 : Heap) (n0 : Nat) (Z0 : n0 ≤ h0.size) (O0 : Old Z n0 h0) (P1 : Sta Z Z.heap STn CSn "Z" (.int cs)) (hcs : ¬ cs = (0 : Int32)) (P3 : Exa Z h0 sb SBn) (P4 : Fld Z h0 sb ASn VLn DBn .null) (P5 : Fld Z h0 sb ASn CDn "B" (.int 0)) (P6 : Fld Z h0 sb ASn "count" "I" (.int 0)) (gsb : n0 ≤ sb) :
    MFr l Z (⟨ASn, "<init>", "(I)V"⟩ : MethodName) jdk_68_method_2_code 2 none ws (Rm 1 1 16 12) #[(.ref sb), (.int 16)] h0 (Q41 Z sb cs h0 n0) := by
  refine own_body (own := ASn) (plainFor_of_name own_pn5) rfl (fun m => ef_41 m sb) ?_
  intro p e s m below meth c s₁ Bd H hml hZ hown X0 e0 P hP
  have hx := H.1
  have hby := H.2
  have N0 := Fr.nil n0
  have K0 : Keep h0 h0 [sb] := Keep.refl _ _
  refine g_aloadN X0 H d41_0 rfl rfl ?_
  obtain ⟨T1, X1, e1, st1⟩ := initO X0 hx hZ hown (own_g hw 241 rfl) (own_g hw 52 rfl) (own_g hw 53 rfl) e0 (g := (mkF m 1 #[vr sb, vi 16] [(.ref sb)])) rfl (by rw [hml]; rfl) rfl (hb hby d41_1) (by decide) (W := 0) (by show 2 * 0 + _ ≤ _; exact Nat.le_of_eq rfl) (by decide)
  refine gv st1 ?_
  show Go p.tables e below P T1 (mkF m 4 #[vr sb, vi 16] [])
  refine g_getS X1 H hZ hown (host := "") (Or.inl (own_g hw 242 rfl)) Via.refl e1 (P1.ext O0.2) d41_4 ?_
  intro T2 X2 e2
  refine g_ifNo X2 H d41_7 ((if0 _ _).trans (feq hcs).1) ?_
  refine g_aloadN X2 H d41_10 rfl rfl ?_
  refine g_iloadN X2 H d41_11 rfl ?_
  obtain ⟨T3, h3, k3, X3, e3, E3, A3, B3, st3⟩ := newPE X2 hx hZ (own_g hw 1 rfl) e2 (g := (mkF m 12 #[vr sb, vi 16] [(.int 16), (.ref sb)])) rfl (hb hby d41_12) rfl (by decide) (cap := 16) (by decide) (by decide) (by decide) (by decide) (ad := DBn) (by decide)
  obtain ⟨b3, g3⟩ : ∃ z, z = h0.size := ⟨_, rfl⟩
  rw [← g3] at A3 B3 st3
  refine gv st3 ?_
  have g4 := Nat.le_trans Z0 (Nat.le_of_eq g3.symm)
  have sz5 := Nat.le_trans K0.1 (Nat.le_of_eq g3.symm)
  have Z6 := Nat.le_trans Z0 E3.1
  have K7 := K0.ext E3
  have O8 : Old Z n0 h3 := O0.ext E3
  have V3 : Arv Z h3 b3 k3 .byte (16 : Int32) (List.replicate 16 (.int 0)) (.int 0) := (Arv.new A3 (by decide)).pad (pad_rep [] (.int 0) 16)
  show Go p.tables e below P T3 (mkF m 14 #[vr sb, vi 16] [(.ref b3), (.ref sb)])
  have F9 := (P3.ext E3)
  have F10 := (P4.ext E3)
  obtain ⟨T11, h11, X11, e11, W11, st11⟩ := putF X3 hx hZ hown (host := "") (Or.inl (own_g hw 243 rfl)) Via.refl e3 F10 F9 (Or.inl (own_g hw 244 rfl)) (own_g hw 230 rfl) (ty := (.array .byte)) (by decide) rfl rfl (g := (mkF m 14 #[vr sb, vi 16] [(.ref b3), (.ref sb)])) rfl rfl (hb hby d41_14)
  refine gv st11 ?_
  have Z12 := Nat.le_trans Z6 (Nat.le_of_eq W11.size.symm)
  have K13 := K7.wr W11 (Or.inl (List.mem_of_getElem? (i := 0) rfl))
  obtain ⟨lc11, Xh11, N14⟩ := own_hide X11 (Fr.snoc X11 N0 gsb)
  clear X11
  have O15 : Old Z n0 h11 := O8.wr W11 gsb
  have Fw11 := F10.same W11
  show Go p.tables e below P T11 (mkF m 17 #[vr sb, vi 16] [])
  refine g_aloadN Xh11 H d41_17 rfl rfl ?_
  refine g_iconst Xh11 H d41_18 0 rfl ?_
  have F16 := (F9.wr W11)
  have F17 := ((P5.ext E3).other W11 (Or.inr (own_sn14 hw)))
  obtain ⟨T18, h18, X18, e18, W18, st18⟩ := putF Xh11 hx hZ hown (host := "") (Or.inl (own_g hw 245 rfl)) Via.refl e11 F17 F16 (Or.inl (own_g hw 246 rfl)) (own_g hw 230 rfl) (ty := .byte) (by decide) rfl rfl (g := (mkF m 19 #[vr sb, vi 16] [(.int 0), (.ref sb)])) rfl rfl (hb hby d41_19)
  refine gv st18 ?_
  have Z19 := Nat.le_trans Z12 (Nat.le_of_eq W18.size.symm)
  have K20 := K13.wr W18 (Or.inl (List.mem_of_getElem? (i := 0) rfl))
  obtain ⟨lc18, Xh18, N21⟩ := own_hide X18 (Fr.snoc X18 N14 gsb)
  clear X18
  have O22 : Old Z n0 h18 := O15.wr W18 gsb
  have Fw18 := F17.same W18
  show Go p.tables e below P T18 (mkF m 22 #[vr sb, vi 16] [])
  refine g_goto Xh18 H d41_22 38 (by decide) ?_
  have F24 := ((V3.other W11 (Ne.symm (Nat.ne_of_lt (Nat.lt_of_lt_of_le P3.lt sz5)))).other W18 (Ne.symm (Nat.ne_of_lt (Nat.lt_of_lt_of_le P3.lt sz5))))
  have F25 := (F16.wr W18)
  have F26 := (Fw11.other W18 (Or.inr (own_sn15 hw)))
  have F27 := (((P6.ext E3).other W11 (Or.inr (own_sn16 hw))).other W18 (Or.inr (own_sn17 hw)))
  have F28 := ((B3.wr W11).wr W18)
  refine g_retV Xh18 H Bd.notSynchronized hP (by decide) Bd.returns d41_38 ?_
  rw [e18]
  exact ⟨b3, k3, rfl, N21, K20, sz5, F25, F26, Fw18, F27, (by rw [List.map_replicate]; exact F24), F28⟩
theorem own_pd21 : parseMethodDescriptor "(I)V" = some ⟨[.int], none⟩ := by decide +kernel
theorem own_pn6 : plainName SBn = true := by first | (simp [plainName, overriddenIn]; done) | decide +kernel
theorem d40_0 : D26 0 (.aload_n 0) 1 := by decide +kernel
theorem d40_1 : D26 1 (.bipush 16) 2 := by decide +kernel
theorem d40_3 : D26 3 (.invokespecial 1) 3 := by decide +kernel
theorem d40_6 : D26 6 (.return_) 1 := by decide +kernel
theorem ef_40 (m : MethodId) (x0 : Addr) : entryFrame m #[(.ref x0)] 1 = mkF m 0 #[.val (.ref x0)] [] := by first | (simp [entryFrame, mkF, argsToLocals, Value.category]; done) | rfl
def Q40 (Z : State) (sb : Addr) (cs : Int32) (h0 : Heap) (n0 : Nat) (v : Option Value) (h : Heap) (L : List Loc) : Prop := ∃ (ov : Addr) (ko : ClassId), v = none ∧ Fr n0 L ∧ Keep h0 h [sb] ∧ h0.size ≤ ov ∧ Exa Z h sb SBn ∧ Fld Z h sb ASn VLn DBn (.ref ov) ∧ Fld Z h sb ASn CDn "B" (.int 0) ∧ Fld Z h sb ASn "count" "I" (.int 0) ∧ Arv Z h ov ko .byte (16 : Int32) ((List.replicate 16 (0 : Int32)).map Value.int) (.int 0) ∧ Exa Z h ov DBn
theorem rm40 (l : Launch) (Z : State) (a0 : Array Value) (hw : HW a0 Z) (ws : List Jvm.Cond) (sb : Addr) (cs : Int32) (h0 : Heap) (n0 : Nat) (Z0 : n0 ≤ h0.size) (O0 : Old Z n0 h0) (P1 : Sta Z Z.heap STn CSn "Z" (.int cs)) (hcs : ¬ cs = (0 : Int32)) (P3 : Exa Z h0 sb SBn) (P4 : Fld Z h0 sb ASn VLn DBn .null) (P5 : Fld Z h0 sb ASn CDn "B" (.int 0)) (P6 : Fld Z h0 sb ASn "count" "I" (.int 0)) (gsb : n0 ≤ sb) :
    MFr l Z (⟨SBn, "<init>", "()V"⟩ : MethodName) jdk_67_method_1_code 1 none ws (Rm 2 1 16 25) #[(.ref sb)] h0 (Q40 Z sb cs h0 n0) := by
  refine own_body (own := SBn) (plainFor_of_name own_pn6) rfl (fun m => ef_40 m sb) ?_
  intro p e s m below meth c s₁ Bd H hml hZ hown X0 e0 P hP
  have N0 := Fr.nil n0
  have K0 : Keep h0 h0 [sb] := Keep.refl _ _
  refine g_aloadN X0 H d40_0 rfl rfl ?_
  refine g_bipush X0 H d40_1 16 rfl ?_
  refine g_cI X0 H hZ hml rfl hown e0 (rm41 l Z a0 hw [] sb cs h0 n0 Z0 O0 P1 hcs P3 P4 P5 P6 gsb) (own_g hw 235 rfl) (own_g hw 236 rfl) (own_g hw 239 rfl) (own_g hw 240 rfl) (by decide) own_pd21 d40_3 rfl rfl rfl rfl (W := 0) rfl (by decide) ?_
  intro _ T1 Lc1 X1 hQ1
  obtain ⟨ov_1, ko_1, rfl, Nq1, K1, fr1_ov, u1_0, u1_1, u1_2, u1_3, u1_4, u1_5⟩ := hQ1
  obtain ⟨lc1, Xh1, N1⟩ := own_hide X1 (Fr.app N0 Nq1)
  clear X1
  have g2 := Nat.le_trans Z0 fr1_ov
  have sz3 := Nat.le_trans K0.1 fr1_ov
  have Z4 := Nat.le_trans Z0 K1.1
  have K5 := K0.trans K1 (own_allC (Or.inl (List.mem_of_getElem? (i := 0) rfl)) own_all0)
  have O6 : Old Z n0 T1.heap := O0.keep K1 (own_allC gsb own_all0)
  refine g_retV Xh1 H Bd.notSynchronized hP (by decide) Bd.returns d40_6 ?_
  exact ⟨ov_1, ko_1, rfl, N1, K5, sz3, u1_0, u1_1, u1_2, u1_3, u1_4, u1_5⟩
theorem d47_0 : D27 0 (.aload_n 0) 1 := by decide +kernel
theorem d47_1 : D27 1 (.getfield 15) 3 := by decide +kernel
theorem d47_4 : D27 4 (.arraylength) 1 := by decide +kernel
theorem d47_5 : D27 5 (.aload_n 0) 1 := by decide +kernel
theorem d47_6 : D27 6 (.getfield 22) 3 := by decide +kernel
theorem d47_9 : D27 9 (.ishr) 1 := by decide +kernel
theorem d47_10 : D27 10 (.istore_n 2) 1 := by decide +kernel
theorem d47_11 : D27 11 (.iload_n 1) 1 := by decide +kernel
theorem d47_12 : D27 12 (.iload_n 2) 1 := by decide +kernel
theorem d47_13 : D27 13 (.isub) 1 := by decide +kernel
theorem d47_14 : D27 14 (.ifCond .le 24) 3 := by decide +kernel
theorem d47_38 : D27 38 (.return_) 1 := by decide +kernel
theorem ef_47 (m : MethodId) (x0 : Addr) (x1 : Int32) : entryFrame m #[(.ref x0), (.int x1)] 3 = mkF m 0 #[.val (.ref x0), .val (.int x1), .unset] [] := by first | (simp [entryFrame, mkF, argsToLocals, Value.category]; done) | rfl
def Q47 (Z : State) (sb : Addr) (ov : Addr) (ko : ClassId) (vs : List Value) (nm : Nat) (h0 : Heap) (n0 : Nat) (v : Option Value) (h : Heap) (L : List Loc) : Prop := v = none ∧ Fr n0 L ∧ h = h0
theorem rm47 (l : Launch) (Z : State) (a0 : Array Value) (hw : HW a0 Z) (ws : List Jvm.Cond) (sb : Addr) (ov : Addr) (ko : ClassId) (vs : List Value) (nm : Nat) (h0 : Heap) (n0 : Nat) (Z0 : n0 ≤ h0.size) (P0 : Fld Z h0 sb ASn VLn DBn (.ref ov)) (P1 : Fld Z h0 sb ASn CDn "B" (.int 0)) (P2 : Arv Z h0 ov ko .byte (16 : Int32) vs (.int 0)) (hnm : nm ≤ 16) :
    MFr l Z (⟨ASn, "ensureCapacityInternal", "(I)V"⟩ : MethodName) jdk_68_method_9_code 3 none ws (Rm 0 0 0 0) #[(.ref sb), (.int (nm.toInt32))] h0 (Q47 Z sb ov ko vs nm h0 n0) := by
  refine own_body (own := ASn) (plainFor_of_name own_pn5) rfl (fun m => ef_47 m sb (nm.toInt32)) ?_
  intro p e s m below meth c s₁ Bd H hml hZ hown X0 e0 P hP
  have hx := H.1
  have hby := H.2
  have N0 := Fr.nil n0
  refine g_aloadN X0 H d47_0 rfl rfl ?_
  refine g_getF X0 H hZ hown (host := "") (Or.inl (own_g hw 243 rfl)) Via.refl e0 P0 d47_1 ?_
  intro T1 X1 e1
  refine g_len X1 H hZ e1 P2 d47_4 ?_
  refine g_aloadN X1 H d47_5 rfl rfl ?_
  refine g_getF X1 H hZ hown (host := "") (Or.inl (own_g hw 245 rfl)) Via.refl e1 P1 d47_6 ?_
  intro T3 X3 e3
  show Go p.tables e below P T3 (mkF m 9 #[vr sb, vi (nm.toInt32), vu] [(.int 0), (.int 16)])
  refine gv (fun t k => XS.ishr X3.here hx rfl (hb hby d47_9) rfl k) ?_
  show Go p.tables e below P T3 (mkF m 10 #[vr sb, vi (nm.toInt32), vu] [(.int ((16 : Int32) >>> ((0 : Int32) &&& 31)))])
  refine g_istoreN X3 H d47_10 #[vr sb, vi (nm.toInt32), vi ((16 : Int32) >>> ((0 : Int32) &&& 31))] rfl ?_
  refine g_iloadN X3 H d47_11 rfl ?_
  refine g_iloadN X3 H d47_12 rfl ?_
  refine g_isub X3 H d47_13 ?_
  refine g_ifYes X3 H d47_14 38 ((if0 _ _).trans (flt (by rw [own_sh0, Int32.lt_iff_toInt_lt]; have q := c_isub (nm.toInt32) (16 : Int32); have e1 : (16 : Int32).toInt = 16 := rfl; have e0 : (0 : Int32).toInt = 0 := rfl; have r := rng32 (nm.toInt32 - 16); rw [own_nat (by omega), e1] at q; omega)).2.2.2) (by decide) ?_
  refine g_retV X3 H Bd.notSynchronized hP (by decide) Bd.returns d47_38 ?_
  rw [e3]
  exact ⟨rfl, N0, rfl⟩
theorem d49_0 : D28 0 (.getstatic 18) 3 := by decide +kernel
theorem d49_3 : D28 3 (.ifCond .eq 18) 3 := by decide +kernel
theorem d49_6 : D28 6 (.aload_n 0) 1 := by decide +kernel
theorem d49_7 : D28 7 (.getfield 22) 3 := by decide +kernel
theorem d49_10 : D28 10 (.aload_n 1) 1 := by decide +kernel
theorem d49_11 : D28 11 (.invokevirtual 40) 3 := by decide +kernel
theorem d49_14 : D28 14 (.if_icmp .eq 7) 3 := by decide +kernel
theorem d49_21 : D28 21 (.return_) 1 := by decide +kernel
theorem ef_49 (m : MethodId) (x0 : Addr) (x1 : Addr) : entryFrame m #[(.ref x0), (.ref x1)] 2 = mkF m 0 #[.val (.ref x0), .val (.ref x1)] [] := by first | (simp [entryFrame, mkF, argsToLocals, Value.category]; done) | rfl
def Q49 (Z : State) (sb : Addr) (so : Addr) (cs : Int32) (h0 : Heap) (n0 : Nat) (v : Option Value) (h : Heap) (L : List Loc) : Prop := v = none ∧ Fr n0 L ∧ h = h0
theorem rm49 (l : Launch) (Z : State) (a0 : Array Value) (hw : HW a0 Z) (ws : List Jvm.Cond) (sb : Addr) (so : Addr) (cs : Int32) (h0 : Heap) (n0 : Nat) (Z0 : n0 ≤ h0.size) (O0 : Old Z n0 h0) (P1 : Sta Z Z.heap STn CSn "Z" (.int cs)) (hcs : ¬ cs = (0 : Int32)) (P3 : Fld Z h0 sb ASn CDn "B" (.int 0)) (P4 : Exa Z h0 so STn) (P5 : Fld Z h0 so STn CDn "B" (.int 0)) :
    MFr l Z (⟨ASn, "inflateIfNeededFor", "(Ljava/lang/String;)V"⟩ : MethodName) jdk_68_method_71_code 2 none ws (Rm 1 0 0 13) #[(.ref sb), (.ref so)] h0 (Q49 Z sb so cs h0 n0) := by
  refine own_body (own := ASn) (plainFor_of_name own_pn5) rfl (fun m => ef_49 m sb so) ?_
  intro p e s m below meth c s₁ Bd H hml hZ hown X0 e0 P hP
  have N0 := Fr.nil n0
  refine g_getS X0 H hZ hown (host := "") (Or.inl (own_g hw 242 rfl)) Via.refl e0 (P1.ext O0.2) d49_0 ?_
  intro T1 X1 e1
  refine g_ifNo X1 H d49_3 ((if0 _ _).trans (feq hcs).1) ?_
  refine g_aloadN X1 H d49_6 rfl rfl ?_
  refine g_getF X1 H hZ hown (host := "") (Or.inl (own_g hw 245 rfl)) Via.refl e1 P3 d49_7 ?_
  intro T2 X2 e2
  refine g_aloadN X2 H d49_10 rfl rfl ?_
  refine g_cV X2 H hZ hml rfl hown e2 P4 (rm26 l Z a0 hw [] so cs h0 n0 Z0 O0 P1 hcs P5) (own_g hw 291 rfl) (own_g hw 140 rfl) (notFace_of_selects (args := #[]) (mvT hZ (own_g hw 142 rfl))) (own_g hw 142 rfl) (own_g hw 141 rfl) (own_g hw 85 rfl) (own_g hw 143 rfl) (by decide) own_pd13 d49_11 rfl rfl rfl (W := 1) rfl (by decide) ?_
  intro _ T3 Lc3 X3 hQ3
  obtain ⟨rfl, Nq3, hh3⟩ := hQ3
  obtain ⟨lc3, Xh3, N3⟩ := own_hide X3 (Fr.app N0 Nq3)
  clear X3
  refine g_icmpYes Xh3 H d49_14 21 (teq (rfl : (0 : Int32) = (0 : Int32))).1 (by decide) ?_
  show Go p.tables e below P T3 (mkF m 21 #[vr sb, vr so] [])
  refine g_retV Xh3 H Bd.notSynchronized hP (by decide) Bd.returns d49_21 ?_
  rw [hh3]
  exact ⟨rfl, N3, rfl⟩
theorem d50_0 : D29 0 (.aload_n 0) 1 := by decide +kernel
theorem d50_1 : D29 1 (.invokevirtual 335) 3 := by decide +kernel
theorem d50_4 : D29 4 (.iload_n 3) 1 := by decide +kernel
theorem d50_5 : D29 5 (.if_icmp .ne 23) 3 := by decide +kernel
theorem d50_8 : D29 8 (.aload_n 0) 1 := by decide +kernel
theorem d50_9 : D29 9 (.getfield 9) 3 := by decide +kernel
theorem d50_12 : D29 12 (.iconst 0) 1 := by decide +kernel
theorem d50_13 : D29 13 (.aload_n 1) 1 := by decide +kernel
theorem d50_14 : D29 14 (.iload_n 2) 1 := by decide +kernel
theorem d50_15 : D29 15 (.iload_n 3) 1 := by decide +kernel
theorem d50_16 : D29 16 (.ishl) 1 := by decide +kernel
theorem d50_17 : D29 17 (.aload_n 0) 1 := by decide +kernel
theorem d50_18 : D29 18 (.getfield 9) 3 := by decide +kernel
theorem d50_21 : D29 21 (.arraylength) 1 := by decide +kernel
theorem d50_22 : D29 22 (.invokestatic 212) 3 := by decide +kernel
theorem d50_25 : D29 25 (.goto 18) 3 := by decide +kernel
theorem d50_43 : D29 43 (.return_) 1 := by decide +kernel
theorem ef_50 (m : MethodId) (x0 : Addr) (x1 : Addr) (x2 : Int32) : entryFrame m #[(.ref x0), (.ref x1), (.int x2), (.int 0)] 4 = mkF m 0 #[.val (.ref x0), .val (.ref x1), .val (.int x2), .val (.int 0)] [] := by first | (simp [entryFrame, mkF, argsToLocals, Value.category]; done) | rfl
def Q50 (Z : State) (ov : Addr) (ko : ClassId) (cn : Nat) (vl : List Int32) (cs : Int32) (so : Addr) (tb : Addr) (kb : ClassId) (bl : List Int32) (h0 : Heap) (n0 : Nat) (v : Option Value) (h : Heap) (L : List Loc) : Prop := v = none ∧ Fr n0 L ∧ Keep h0 h [ov] ∧ Arv Z h ov ko .byte (16 : Int32) ((own_put vl cn bl).map Value.int) (.int 0)
theorem rm50 (l : Launch) (Z : State) (a0 : Array Value) (hw : HW a0 Z) (ws : List Jvm.Cond) (ov : Addr) (ko : ClassId) (cn : Nat) (vl : List Int32) (cs : Int32) (so : Addr) (tb : Addr) (kb : ClassId) (bl : List Int32) (h0 : Heap) (n0 : Nat) (Z0 : n0 ≤ h0.size) (O0 : Old Z n0 h0) (P1 : Sta Z Z.heap STn CSn "Z" (.int cs)) (hcs : ¬ cs = (0 : Int32)) (P3 : Exa Z h0 so STn) (P4 : Fld Z h0 so STn VLn DBn (.ref tb)) (P5 : Fld Z h0 so STn CDn "B" (.int 0)) (P6 : Arv Z h0 tb kb .byte (own_lg bl) (bl.map Value.int) (.int 0)) (P7 : Arv Z h0 ov ko .byte (16 : Int32) (vl.map Value.int) (.int 0)) (hcn : cn + bl.length ≤ 16) (hvl : vl.length = 16) (gov : n0 ≤ ov) (nto : tb ≠ ov) :
    MFr l Z (⟨STn, "getBytes", "([BIB)V"⟩ : MethodName) jdk_42_method_147_code 4 none ws (Rm 1 0 0 18) #[(.ref so), (.ref ov), (.int (cn.toInt32)), (.int 0)] h0 (Q50 Z ov ko cn vl cs so tb kb bl h0 n0) := by
  refine own_body (own := STn) (plainFor_of_name own_pn3) rfl (fun m => ef_50 m so ov (cn.toInt32)) ?_
  intro p e s m below meth c s₁ Bd H hml hZ hown X0 e0 P hP
  have hx := H.1
  have hby := H.2
  have N0 := Fr.nil n0
  have K0 : Keep h0 h0 [ov] := Keep.refl _ _
  refine g_aloadN X0 H d50_0 rfl rfl ?_
  refine g_cV X0 H hZ hml rfl hown e0 P3 (rm26 l Z a0 hw [] so cs h0 n0 Z0 O0 P1 hcs P5) (own_g hw 139 rfl) (own_g hw 140 rfl) (notFace_of_selects (args := #[]) (mvT hZ (own_g hw 142 rfl))) (own_g hw 142 rfl) (own_g hw 141 rfl) (own_g hw 85 rfl) (own_g hw 143 rfl) (by decide) own_pd13 d50_1 rfl rfl rfl (W := 0) rfl (by decide) ?_
  intro _ T1 Lc1 X1 hQ1
  obtain ⟨rfl, Nq1, hh1⟩ := hQ1
  obtain ⟨lc1, Xh1, N1⟩ := own_hide X1 (Fr.app N0 Nq1)
  clear X1
  refine g_iloadN Xh1 H d50_4 rfl ?_
  refine g_icmpNo Xh1 H d50_5 (teq (rfl : (0 : Int32) = (0 : Int32))).2 ?_
  refine g_aloadN Xh1 H d50_8 rfl rfl ?_
  refine g_getF Xh1 H hZ hown (host := "") (Or.inl (own_g hw 130 rfl)) Via.refl hh1 P4 d50_9 ?_
  intro T2 X2 e2
  refine g_iconst X2 H d50_12 0 rfl ?_
  refine g_aloadN X2 H d50_13 rfl rfl ?_
  refine g_iloadN X2 H d50_14 rfl ?_
  refine g_iloadN X2 H d50_15 rfl ?_
  show Go p.tables e below P T2 (mkF m 16 #[vr so, vr ov, vi (cn.toInt32), vi 0] [(.int 0), (.int (cn.toInt32)), (.ref ov), (.int 0), (.ref tb)])
  refine gv (fun t k => XS.ishl X2.here hx rfl (hb hby d50_16) rfl k) ?_
  show Go p.tables e below P T2 (mkF m 17 #[vr so, vr ov, vi (cn.toInt32), vi 0] [(.int ((cn.toInt32) <<< ((0 : Int32) &&& 31))), (.ref ov), (.int 0), (.ref tb)])
  refine g_aloadN X2 H d50_17 rfl rfl ?_
  refine g_getF X2 H hZ hown (host := "") (Or.inl (own_g hw 130 rfl)) Via.refl e2 P4 d50_18 ?_
  intro T3 X3 e3
  refine g_len X3 H hZ e3 P6 d50_21 ?_
  show Go p.tables e below P T3 (mkF m 22 #[vr so, vr ov, vi (cn.toInt32), vi 0] [(.int (own_lg bl)), (.int ((cn.toInt32) <<< ((0 : Int32) &&& 31))), (.ref ov), (.int 0), (.ref tb)])
  rw [own_sl0]
  have hbl : bl.length < 2147483648 := by omega
  have hcc : cn < 2147483648 := by omega
  obtain ⟨T5, h5, L5, X5, e5, N5, K5, V5, st5⟩ := cpA X3 hx hZ hown (own_g hw 297 rfl) (own_g hw 129 rfl) (own_g hw 127 rfl) (own_g hw 128 rfl) e3 P6 P7 (Or.inl ⟨rfl, rfl⟩) (sp := (0 : Int32)) (dp := (cn.toInt32)) (nn := (own_lg bl)) (by decide) (own_nneg hcc) (own_nneg hbl) (by show (0 : Int32).toNatClampNeg + (own_lg bl).toNatClampNeg ≤ (own_lg bl).toNatClampNeg; show 0 + _ ≤ _; omega) (by show (cn.toInt32).toNatClampNeg + (bl.length.toInt32).toNatClampNeg ≤ 16; rw [own_clamp hcc, own_clamp hbl]; exact hcn) rfl (by show (cn.toInt32).toNatClampNeg + (bl.length.toInt32).toNatClampNeg ≤ _; rw [own_clamp hcc, own_clamp hbl, List.length_map, hvl]; exact hcn) N1 gov (g := (mkF m 22 #[vr so, vr ov, vi (cn.toInt32), vi 0] [(.int (own_lg bl)), (.int (cn.toInt32)), (.ref ov), (.int 0), (.ref tb)])) rfl (by rw [hml]; rfl) rfl (hb hby d50_22) (by decide) (W := 0) (by show 2 * 0 + _ ≤ _; exact Nat.le_of_eq rfl) (by decide)
  subst e5
  have Vc5 : Arv Z T5.heap ov ko .byte (16 : Int32) ((own_put vl cn bl).map Value.int) (.int 0) := by
    rw [show (own_lg bl).toNatClampNeg = bl.length from own_clamp hbl, own_clamp hcc] at V5
    rw [← own_cpb vl bl cn (.int 0)]; exact V5
  refine gv st5 ?_
  have Z6 := Nat.le_trans Z0 K5.1
  have K7 := K0.trans K5 (own_allC (Or.inl (List.mem_of_getElem? (i := 0) rfl)) own_all0)
  have O8 : Old Z n0 T5.heap := O0.keep K5 (own_allC gov own_all0)
  show Go p.tables e below P T5 (mkF m 25 #[vr so, vr ov, vi (cn.toInt32), vi 0] [])
  refine g_goto X5 H d50_25 43 (by decide) ?_
  refine g_retV X5 H Bd.notSynchronized hP (by decide) Bd.returns d50_43 ?_
  exact ⟨rfl, N5, K7, Vc5⟩
theorem own_pd22 : parseMethodDescriptor "(Ljava/lang/String;)V" = some ⟨[(.object STn)], none⟩ := by decide +kernel
theorem own_pd23 : parseMethodDescriptor "([BIB)V" = some ⟨[(.array .byte), .int, .byte], none⟩ := by decide +kernel
theorem d48_0 : D30 0 (.aload_n 0) 1 := by decide +kernel
theorem d48_1 : D30 1 (.aload_n 2) 1 := by decide +kernel
theorem d48_2 : D30 2 (.invokevirtual 397) 3 := by decide +kernel
theorem d48_5 : D30 5 (.aload_n 2) 1 := by decide +kernel
theorem d48_6 : D30 6 (.aload_n 0) 1 := by decide +kernel
theorem d48_7 : D30 7 (.getfield 15) 3 := by decide +kernel
theorem d48_10 : D30 10 (.iload_n 1) 1 := by decide +kernel
theorem d48_11 : D30 11 (.aload_n 0) 1 := by decide +kernel
theorem d48_12 : D30 12 (.getfield 22) 3 := by decide +kernel
theorem d48_15 : D30 15 (.invokevirtual 399) 3 := by decide +kernel
theorem d48_18 : D30 18 (.return_) 1 := by decide +kernel
theorem ef_48 (m : MethodId) (x0 : Addr) (x1 : Int32) (x2 : Addr) : entryFrame m #[(.ref x0), (.int x1), (.ref x2)] 3 = mkF m 0 #[.val (.ref x0), .val (.int x1), .val (.ref x2)] [] := by first | (simp [entryFrame, mkF, argsToLocals, Value.category]; done) | rfl
def Q48 (Z : State) (sb : Addr) (ov : Addr) (ko : ClassId) (cn : Nat) (vl : List Int32) (so : Addr) (tb : Addr) (kb : ClassId) (bl : List Int32) (cs : Int32) (h0 : Heap) (n0 : Nat) (v : Option Value) (h : Heap) (L : List Loc) : Prop := v = none ∧ Fr n0 L ∧ Keep h0 h [ov] ∧ Arv Z h ov ko .byte (16 : Int32) ((own_put vl cn bl).map Value.int) (.int 0)
theorem rm48 (l : Launch) (Z : State) (a0 : Array Value) (hw : HW a0 Z) (ws : List Jvm.Cond) (sb : Addr) (ov : Addr) (ko : ClassId) (cn : Nat) (vl : List Int32) (so : Addr) (tb : Addr) (kb : ClassId) (bl : List Int32) (cs : Int32) (h0 : Heap) (n0 : Nat) (Z0 : n0 ≤ h0.size) (O0 : Old Z n0 h0) (P1 : Sta Z Z.heap STn CSn "Z" (.int cs)) (hcs : ¬ cs = (0 : Int32)) (P3 : Exa Z h0 sb SBn) (P4 : Fld Z h0 sb ASn VLn DBn (.ref ov)) (P5 : Fld Z h0 sb ASn CDn "B" (.int 0)) (P6 : Exa Z h0 so STn) (P7 : Fld Z h0 so STn VLn DBn (.ref tb)) (P8 : Fld Z h0 so STn CDn "B" (.int 0)) (P9 : Arv Z h0 tb kb .byte (own_lg bl) (bl.map Value.int) (.int 0)) (P10 : Arv Z h0 ov ko .byte (16 : Int32) (vl.map Value.int) (.int 0)) (hcn : cn + bl.length ≤ 16) (hvl : vl.length = 16) (gov : n0 ≤ ov) (nto : tb ≠ ov) :
    MFr l Z (⟨ASn, "putStringAt", "(ILjava/lang/String;)V"⟩ : MethodName) jdk_68_method_73_code 3 none ws (Rm 2 0 0 33) #[(.ref sb), (.int (cn.toInt32)), (.ref so)] h0 (Q48 Z sb ov ko cn vl so tb kb bl cs h0 n0) := by
  refine own_body (own := ASn) (plainFor_of_name own_pn5) rfl (fun m => ef_48 m sb (cn.toInt32) so) ?_
  intro p e s m below meth c s₁ Bd H hml hZ hown X0 e0 P hP
  have hx := H.1
  have hby := H.2
  have N0 := Fr.nil n0
  have K0 : Keep h0 h0 [ov] := Keep.refl _ _
  refine g_aloadN X0 H d48_0 rfl rfl ?_
  refine g_aloadN X0 H d48_1 rfl rfl ?_
  show Go p.tables e below P s₁ (mkF m 2 #[vr sb, vi (cn.toInt32), vr so] [(.ref so), (.ref sb)])
  obtain ⟨cq1, q1, q1'⟩ := P3.cell
  obtain ⟨_, _, ⟨T1, L1, k1, n1⟩, -, X1, ⟨Lc1, hQ1, l1, y1, z1⟩, st1⟩ := X0.privateBack hx (y := (⟨ASn, "inflateIfNeededFor", "(Ljava/lang/String;)V"⟩ : MethodName)) hown (mvT hZ (own_g hw 286 rfl)) (mvT hZ (own_g hw 287 rfl)) (mvT hZ (own_selp2 (y := ({ cls := ASn, name := "inflateIfNeededFor", desc := "(Ljava/lang/String;)V" } : Jvm.MethodName)) (own_g hw 288 rfl) (own_g hw 287 rfl) (own_g hw 279 rfl) rfl ⟨by decide, by decide⟩)) (Cond.privateMethod_at (mvP hZ (own_g hw 288 rfl) (args := #[]))) (mvT hZ (own_g hw 290 rfl)) (by decide) (backOf (W := 0) (rm49 l Z a0 hw [] sb so cs h0 n0 Z0 O0 P1 hcs P5 P6 P8) hZ (own_g hw 290 rfl) (own_g hw 239 rfl) (by decide) (by decide)) (g := (mkF m 2 #[vr sb, vi (cn.toInt32), vr so] [(.ref so), (.ref sb)])) rfl (by rw [hml]; rfl) (Steps.refl _) (a := sb) (by rw [e0]; exact q1) q1' (argsL := [(.ref so)]) (rest := []) (lenOf own_pd22 rfl) rfl (by show 2 * 0 + _ ≤ _; exact Nat.le_of_eq rfl) (hb hby d48_2) (fun _ _ => ⟨rfl, e0, (by decide : 0 + 0 ≤ _), (by decide : 0 + 0 ≤ _)⟩)
  dsimp only [Pt.U, Pt.locs, Pt.cells, Pt.slots] at X1 l1 y1 z1 st1 hQ1
  subst l1 y1 z1
  obtain ⟨rfl, Nq1, hh1⟩ := hQ1
  obtain ⟨lc1, Xh1, N1⟩ := own_hide X1 (Fr.app N0 Nq1)
  clear X1
  refine Go.hop st1 ?_
  show Go p.tables e below P T1 (mkF m 5 #[vr sb, vi (cn.toInt32), vr so] [])
  refine g_aloadN Xh1 H d48_5 rfl rfl ?_
  refine g_aloadN Xh1 H d48_6 rfl rfl ?_
  refine g_getF Xh1 H hZ hown (host := "") (Or.inl (own_g hw 243 rfl)) Via.refl hh1 P4 d48_7 ?_
  intro T2 X2 e2
  refine g_iloadN X2 H d48_10 rfl ?_
  refine g_aloadN X2 H d48_11 rfl rfl ?_
  refine g_getF X2 H hZ hown (host := "") (Or.inl (own_g hw 245 rfl)) Via.refl e2 P5 d48_12 ?_
  intro T3 X3 e3
  refine g_cV X3 H hZ hml rfl hown e3 P6 (rm50 l Z a0 hw [] ov ko cn vl cs so tb kb bl h0 n0 Z0 O0 P1 hcs P6 P7 P8 P9 P10 hcn hvl gov nto) (own_g hw 292 rfl) (own_g hw 293 rfl) (notFace_of_selects (args := #[]) (mvT hZ (own_g hw 295 rfl))) (own_g hw 295 rfl) (own_g hw 294 rfl) (own_g hw 85 rfl) (own_g hw 296 rfl) (by decide) own_pd23 d48_15 rfl rfl rfl (W := 0) rfl (by decide) ?_
  intro _ T4 Lc4 X4 hQ4
  obtain ⟨rfl, Nq4, K4, u4_0⟩ := hQ4
  obtain ⟨lc4, Xh4, N4⟩ := own_hide X4 (Fr.app N1 Nq4)
  clear X4
  have Z5 := Nat.le_trans Z0 K4.1
  have K6 := K0.trans K4 (own_allC (Or.inl (List.mem_of_getElem? (i := 0) rfl)) own_all0)
  have O7 : Old Z n0 T4.heap := O0.keep K4 (own_allC gov own_all0)
  refine g_retV Xh4 H Bd.notSynchronized hP (by decide) Bd.returns d48_18 ?_
  exact ⟨rfl, N4, K6, u4_0⟩
theorem own_pd24 : parseMethodDescriptor "(ILjava/lang/String;)V" = some ⟨[.int, (.object STn)], none⟩ := by decide +kernel
theorem own_sn18 {Z : State} {a0 : Array Value} (hw : ∀ d ∈ tables_1, d.before a0 Z = true) : Jvm.RoadKit.slotOf Z ASn VLn DBn ≠ Jvm.RoadKit.slotOf Z ASn "count" "I" := slot_ne (Or.inl (own_g hw 244 rfl)) (Or.inl (own_g hw 275 rfl)) (by decide) (t := (.array .byte)) (t' := .int) (by decide) (by decide)
theorem own_sn19 {Z : State} {a0 : Array Value} (hw : ∀ d ∈ tables_1, d.before a0 Z = true) : Jvm.RoadKit.slotOf Z ASn CDn "B" ≠ Jvm.RoadKit.slotOf Z ASn "count" "I" := slot_ne (Or.inl (own_g hw 246 rfl)) (Or.inl (own_g hw 275 rfl)) (by decide) (t := .byte) (t' := .int) (by decide) (by decide)
theorem d46_0 : D31 0 (.aload_n 1) 1 := by decide +kernel
theorem d46_1 : D31 1 (.ifnonnull 8) 3 := by decide +kernel
theorem d46_9 : D31 9 (.aload_n 1) 1 := by decide +kernel
theorem d46_10 : D31 10 (.invokevirtual 32) 3 := by decide +kernel
theorem d46_13 : D31 13 (.istore_n 2) 1 := by decide +kernel
theorem d46_14 : D31 14 (.aload_n 0) 1 := by decide +kernel
theorem d46_15 : D31 15 (.aload_n 0) 1 := by decide +kernel
theorem d46_16 : D31 16 (.getfield 79) 3 := by decide +kernel
theorem d46_19 : D31 19 (.iload_n 2) 1 := by decide +kernel
theorem d46_20 : D31 20 (.iadd) 1 := by decide +kernel
theorem d46_21 : D31 21 (.invokevirtual 100) 3 := by decide +kernel
theorem d46_24 : D31 24 (.aload_n 0) 1 := by decide +kernel
theorem d46_25 : D31 25 (.aload_n 0) 1 := by decide +kernel
theorem d46_26 : D31 26 (.getfield 79) 3 := by decide +kernel
theorem d46_29 : D31 29 (.aload_n 1) 1 := by decide +kernel
theorem d46_30 : D31 30 (.invokevirtual 208) 3 := by decide +kernel
theorem d46_33 : D31 33 (.aload_n 0) 1 := by decide +kernel
theorem d46_34 : D31 34 (.dup) 1 := by decide +kernel
theorem d46_35 : D31 35 (.getfield 79) 3 := by decide +kernel
theorem d46_38 : D31 38 (.iload_n 2) 1 := by decide +kernel
theorem d46_39 : D31 39 (.iadd) 1 := by decide +kernel
theorem d46_40 : D31 40 (.putfield 79) 3 := by decide +kernel
theorem d46_43 : D31 43 (.aload_n 0) 1 := by decide +kernel
theorem d46_44 : D31 44 (.areturn) 1 := by decide +kernel
theorem ef_46 (m : MethodId) (x0 : Addr) (x1 : Addr) : entryFrame m #[(.ref x0), (.ref x1)] 3 = mkF m 0 #[.val (.ref x0), .val (.ref x1), .unset] [] := by first | (simp [entryFrame, mkF, argsToLocals, Value.category]; done) | rfl
def Q46 (Z : State) (sb : Addr) (ov : Addr) (ko : ClassId) (cn : Nat) (vl : List Int32) (so : Addr) (tb : Addr) (kb : ClassId) (bl : List Int32) (cs : Int32) (h0 : Heap) (n0 : Nat) (v : Option Value) (h : Heap) (L : List Loc) : Prop := v = some (.ref sb) ∧ Fr n0 L ∧ Keep h0 h [sb, ov] ∧ Exa Z h sb SBn ∧ Fld Z h sb ASn VLn DBn (.ref ov) ∧ Fld Z h sb ASn CDn "B" (.int 0) ∧ Fld Z h sb ASn "count" "I" (.int ((cn + bl.length).toInt32)) ∧ Arv Z h ov ko .byte (16 : Int32) ((own_put vl cn bl).map Value.int) (.int 0)
theorem rm46 (l : Launch) (Z : State) (a0 : Array Value) (hw : HW a0 Z) (ws : List Jvm.Cond) (sb : Addr) (ov : Addr) (ko : ClassId) (cn : Nat) (vl : List Int32) (so : Addr) (tb : Addr) (kb : ClassId) (bl : List Int32) (cs : Int32) (h0 : Heap) (n0 : Nat) (Z0 : n0 ≤ h0.size) (O0 : Old Z n0 h0) (P1 : Sta Z Z.heap STn CSn "Z" (.int cs)) (hcs : ¬ cs = (0 : Int32)) (P3 : Exa Z h0 sb SBn) (P4 : Fld Z h0 sb ASn VLn DBn (.ref ov)) (P5 : Fld Z h0 sb ASn CDn "B" (.int 0)) (P6 : Fld Z h0 sb ASn "count" "I" (.int (cn.toInt32))) (P7 : Exa Z h0 so STn) (P8 : Fld Z h0 so STn VLn DBn (.ref tb)) (P9 : Fld Z h0 so STn CDn "B" (.int 0)) (P10 : Arv Z h0 tb kb .byte (own_lg bl) (bl.map Value.int) (.int 0)) (P11 : Arv Z h0 ov ko .byte (16 : Int32) (vl.map Value.int) (.int 0)) (hcn : cn + bl.length ≤ 16) (hvl : vl.length = 16) (gov : n0 ≤ ov) (gsb : n0 ≤ sb) (nto : tb ≠ ov) (nso : sb ≠ ov) (nss : so ≠ ov) (nsb : sb ≠ so) (nbt : sb ≠ tb) :
    MFr l Z (⟨ASn, "append", "(Ljava/lang/String;)Ljava/lang/AbstractStringBuilder;"⟩ : MethodName) jdk_68_method_22_code 3 (some (.object ASn)) ws (Rm 3 0 0 47) #[(.ref sb), (.ref so)] h0 (Q46 Z sb ov ko cn vl so tb kb bl cs h0 n0) := by
  refine own_body (own := ASn) (plainFor_of_name own_pn5) rfl (fun m => ef_46 m sb so) ?_
  intro p e s m below meth c s₁ Bd H hml hZ hown X0 e0 P hP
  have hx := H.1
  have hby := H.2
  have N0 := Fr.nil n0
  have K0 : Keep h0 h0 [sb, ov] := Keep.refl _ _
  refine g_aloadN X0 H d46_0 rfl rfl ?_
  show Go p.tables e below P s₁ (mkF m 1 #[vr sb, vr so, vu] [(.ref so)])
  refine gv (fun t k => XS.ifnonnullYes X0.here hx rfl (pc0 := 1) (pc' := 9) rfl (hb hby d46_1) rfl (by decide) (by decide) k) ?_
  show Go p.tables e below P s₁ (mkF m 9 #[vr sb, vr so, vu] [])
  refine g_aloadN X0 H d46_9 rfl rfl ?_
  refine g_cV X0 H hZ hml rfl hown e0 P7 (rm25 l Z a0 hw [] so cs tb kb (own_lg bl) (bl.map Value.int) h0 n0 Z0 O0 P1 hcs P7 P8 P9 P10) (own_g hw 273 rfl) (own_g hw 135 rfl) (notFace_of_selects (args := #[]) (mvT hZ (own_g hw 137 rfl))) (own_g hw 137 rfl) (own_g hw 136 rfl) (own_g hw 85 rfl) (own_g hw 138 rfl) (by decide) own_pd17 d46_10 rfl rfl rfl (W := 0) rfl (by decide) ?_
  intro _ T1 Lc1 X1 hQ1
  obtain ⟨rfl, Nq1, hh1⟩ := hQ1
  obtain ⟨lc1, Xh1, N1⟩ := own_hide X1 (Fr.app N0 Nq1)
  clear X1
  show Go p.tables e below P T1 (mkF m 13 #[vr sb, vr so, vu] [(.int ((own_lg bl) >>> ((0 : Int32) &&& 31)))])
  rw [own_sh0]
  refine g_istoreN Xh1 H d46_13 #[vr sb, vr so, vi (own_lg bl)] rfl ?_
  refine g_aloadN Xh1 H d46_14 rfl rfl ?_
  refine g_aloadN Xh1 H d46_15 rfl rfl ?_
  refine g_getF Xh1 H hZ hown (host := "") (Or.inl (own_g hw 274 rfl)) Via.refl hh1 P6 d46_16 ?_
  intro T2 X2 e2
  refine g_iloadN X2 H d46_19 rfl ?_
  refine g_iadd X2 H d46_20 ?_
  show Go p.tables e below P T2 (mkF m 21 #[vr sb, vr so, vi (own_lg bl)] [(.int ((cn.toInt32) + (own_lg bl))), (.ref sb)])
  rw [show cn.toInt32 + own_lg bl = (cn + bl.length).toInt32 from (Int32.ofNat_add cn bl.length).symm]
  obtain ⟨cq3, q3, q3'⟩ := P3.cell
  obtain ⟨_, _, ⟨T3, L3, k3, n3⟩, -, X3, ⟨Lc3, hQ3, l3, y3, z3⟩, st3⟩ := X2.privateBack hx (y := (⟨ASn, "ensureCapacityInternal", "(I)V"⟩ : MethodName)) hown (mvT hZ (own_g hw 276 rfl)) (mvT hZ (own_g hw 277 rfl)) (mvT hZ (own_selp2 (y := ({ cls := ASn, name := "ensureCapacityInternal", desc := "(I)V" } : Jvm.MethodName)) (own_g hw 278 rfl) (own_g hw 277 rfl) (own_g hw 279 rfl) rfl ⟨by decide, by decide⟩)) (Cond.privateMethod_at (mvP hZ (own_g hw 278 rfl) (args := #[]))) (mvT hZ (own_g hw 280 rfl)) (by decide) (backOf (W := 0) (rm47 l Z a0 hw [] sb ov ko (vl.map Value.int) (cn + bl.length) h0 n0 Z0 P4 P5 P11 hcn) hZ (own_g hw 280 rfl) (own_g hw 239 rfl) (by decide) (by decide)) (g := (mkF m 21 #[vr sb, vr so, vi (own_lg bl)] [(.int ((cn + bl.length).toInt32)), (.ref sb)])) rfl (by rw [hml]; rfl) (Steps.refl _) (a := sb) (by rw [e2]; exact q3) q3' (argsL := [(.int ((cn + bl.length).toInt32))]) (rest := []) (lenOf own_pd21 rfl) rfl (by show 2 * 0 + _ ≤ _; exact Nat.le_of_eq rfl) (hb hby d46_21) (fun _ _ => ⟨rfl, e2, (by decide : 0 + 0 ≤ _), (by decide : 0 + 0 ≤ _)⟩)
  dsimp only [Pt.U, Pt.locs, Pt.cells, Pt.slots] at X3 l3 y3 z3 st3 hQ3
  subst l3 y3 z3
  obtain ⟨rfl, Nq3, hh3⟩ := hQ3
  obtain ⟨lc3, Xh3, N3⟩ := own_hide X3 (Fr.app N1 Nq3)
  clear X3
  refine Go.hop st3 ?_
  show Go p.tables e below P T3 (mkF m 24 #[vr sb, vr so, vi (own_lg bl)] [])
  refine g_aloadN Xh3 H d46_24 rfl rfl ?_
  refine g_aloadN Xh3 H d46_25 rfl rfl ?_
  refine g_getF Xh3 H hZ hown (host := "") (Or.inl (own_g hw 274 rfl)) Via.refl hh3 P6 d46_26 ?_
  intro T4 X4 e4
  refine g_aloadN X4 H d46_29 rfl rfl ?_
  show Go p.tables e below P T4 (mkF m 30 #[vr sb, vr so, vi (own_lg bl)] [(.ref so), (.int (cn.toInt32)), (.ref sb)])
  obtain ⟨cq5, q5, q5'⟩ := P3.cell
  obtain ⟨_, _, ⟨T5, L5, k5, n5⟩, -, X5, ⟨Lc5, hQ5, l5, y5, z5⟩, st5⟩ := X4.privateBack hx (y := (⟨ASn, "putStringAt", "(ILjava/lang/String;)V"⟩ : MethodName)) hown (mvT hZ (own_g hw 281 rfl)) (mvT hZ (own_g hw 282 rfl)) (mvT hZ (own_selp2 (y := ({ cls := ASn, name := "putStringAt", desc := "(ILjava/lang/String;)V" } : Jvm.MethodName)) (own_g hw 283 rfl) (own_g hw 282 rfl) (own_g hw 279 rfl) rfl ⟨by decide, by decide⟩)) (Cond.privateMethod_at (mvP hZ (own_g hw 283 rfl) (args := #[]))) (mvT hZ (own_g hw 285 rfl)) (by decide) (backOf (W := 0) (rm48 l Z a0 hw [] sb ov ko cn vl so tb kb bl cs h0 n0 Z0 O0 P1 hcs P3 P4 P5 P7 P8 P9 P10 P11 hcn hvl gov nto) hZ (own_g hw 285 rfl) (own_g hw 239 rfl) (by decide) (by decide)) (g := (mkF m 30 #[vr sb, vr so, vi (own_lg bl)] [(.ref so), (.int (cn.toInt32)), (.ref sb)])) rfl (by rw [hml]; rfl) (Steps.refl _) (a := sb) (by rw [e4]; exact q5) q5' (argsL := [(.int (cn.toInt32)), (.ref so)]) (rest := []) (lenOf own_pd24 rfl) rfl (by show 2 * 0 + _ ≤ _; exact Nat.le_of_eq rfl) (hb hby d46_30) (fun _ _ => ⟨rfl, e4, (by decide : 0 + 0 ≤ _), (by decide : 0 + 0 ≤ _)⟩)
  dsimp only [Pt.U, Pt.locs, Pt.cells, Pt.slots] at X5 l5 y5 z5 st5 hQ5
  subst l5 y5 z5
  obtain ⟨rfl, Nq5, K5, u5_0⟩ := hQ5
  obtain ⟨lc5, Xh5, N5⟩ := own_hide X5 (Fr.app N3 Nq5)
  clear X5
  refine Go.hop st5 ?_
  have Z6 := Nat.le_trans Z0 K5.1
  have K7 := K0.trans K5 (own_allC (Or.inl (List.mem_of_getElem? (i := 1) rfl)) own_all0)
  have O8 : Old Z n0 T5.heap := O0.keep K5 (own_allC gov own_all0)
  show Go p.tables e below P T5 (mkF m 33 #[vr sb, vr so, vi (own_lg bl)] [])
  refine g_aloadN Xh5 H d46_33 rfl rfl ?_
  refine g_dup Xh5 H d46_34 rfl ?_
  have F9 := (P6.keep K5 (own_ninC nso own_nin0))
  refine g_getF Xh5 H hZ hown (host := "") (Or.inl (own_g hw 274 rfl)) Via.refl rfl F9 d46_35 ?_
  intro T10 X10 e10
  refine g_iloadN X10 H d46_38 rfl ?_
  refine g_iadd X10 H d46_39 ?_
  show Go p.tables e below P T10 (mkF m 40 #[vr sb, vr so, vi (own_lg bl)] [(.int ((cn.toInt32) + (own_lg bl))), (.ref sb)])
  rw [show cn.toInt32 + own_lg bl = (cn + bl.length).toInt32 from (Int32.ofNat_add cn bl.length).symm]
  have F11 := (P3.keep K5)
  obtain ⟨T12, h12, X12, e12, W12, st12⟩ := putF X10 hx hZ hown (host := "") (Or.inl (own_g hw 274 rfl)) Via.refl e10 F9 F11 (Or.inl (own_g hw 275 rfl)) (own_g hw 230 rfl) (ty := .int) (by decide) rfl rfl (g := (mkF m 40 #[vr sb, vr so, vi (own_lg bl)] [(.int ((cn + bl.length).toInt32)), (.ref sb)])) rfl rfl (hb hby d46_40)
  refine gv st12 ?_
  have Z13 := Nat.le_trans Z6 (Nat.le_of_eq W12.size.symm)
  have K14 := K7.wr W12 (Or.inl (List.mem_of_getElem? (i := 0) rfl))
  obtain ⟨lc12, Xh12, N15⟩ := own_hide X12 (Fr.snoc X12 N5 gsb)
  clear X12
  have O16 : Old Z n0 h12 := O8.wr W12 gsb
  have Fw12 := F9.same W12
  show Go p.tables e below P T12 (mkF m 43 #[vr sb, vr so, vi (own_lg bl)] [])
  refine g_aloadN Xh12 H d46_43 rfl rfl ?_
  have F18 := (F11.wr W12)
  have F19 := ((P4.keep K5 (own_ninC nso own_nin0)).other W12 (Or.inr (own_sn18 hw)))
  have F20 := ((P5.keep K5 (own_ninC nso own_nin0)).other W12 (Or.inr (own_sn19 hw)))
  have F21 := (u5_0.other W12 (Ne.symm nso))
  refine g_retA Xh12 H Bd.notSynchronized hP (by decide) Bd.returns rfl rfl rfl d46_44 ?_
  rw [e12]
  exact ⟨rfl, N15, K14, F18, F19, F20, Fw12, F21⟩
theorem own_pd25 : parseMethodDescriptor "(Ljava/lang/String;)Ljava/lang/AbstractStringBuilder;" = some ⟨[(.object STn)], some (.object ASn)⟩ := by decide +kernel
theorem d45_0 : D32 0 (.aload_n 0) 1 := by decide +kernel
theorem d45_1 : D32 1 (.aload_n 1) 1 := by decide +kernel
theorem d45_2 : D32 2 (.invokespecial 29) 3 := by decide +kernel
theorem d45_5 : D32 5 (.pop) 1 := by decide +kernel
theorem d45_6 : D32 6 (.aload_n 0) 1 := by decide +kernel
theorem d45_7 : D32 7 (.areturn) 1 := by decide +kernel
theorem ef_45 (m : MethodId) (x0 : Addr) (x1 : Addr) : entryFrame m #[(.ref x0), (.ref x1)] 2 = mkF m 0 #[.val (.ref x0), .val (.ref x1)] [] := by first | (simp [entryFrame, mkF, argsToLocals, Value.category]; done) | rfl
def Q45 (Z : State) (sb : Addr) (ov : Addr) (ko : ClassId) (cn : Nat) (vl : List Int32) (so : Addr) (tb : Addr) (kb : ClassId) (bl : List Int32) (cs : Int32) (h0 : Heap) (n0 : Nat) (v : Option Value) (h : Heap) (L : List Loc) : Prop := v = some (.ref sb) ∧ Fr n0 L ∧ Keep h0 h [sb, ov] ∧ Exa Z h sb SBn ∧ Fld Z h sb ASn VLn DBn (.ref ov) ∧ Fld Z h sb ASn CDn "B" (.int 0) ∧ Fld Z h sb ASn "count" "I" (.int ((cn + bl.length).toInt32)) ∧ Arv Z h ov ko .byte (16 : Int32) ((own_put vl cn bl).map Value.int) (.int 0)
theorem rm45 (l : Launch) (Z : State) (a0 : Array Value) (hw : HW a0 Z) (ws : List Jvm.Cond) (sb : Addr) (ov : Addr) (ko : ClassId) (cn : Nat) (vl : List Int32) (so : Addr) (tb : Addr) (kb : ClassId) (bl : List Int32) (cs : Int32) (h0 : Heap) (n0 : Nat) (Z0 : n0 ≤ h0.size) (O0 : Old Z n0 h0) (P1 : Sta Z Z.heap STn CSn "Z" (.int cs)) (hcs : ¬ cs = (0 : Int32)) (P3 : Exa Z h0 sb SBn) (P4 : Fld Z h0 sb ASn VLn DBn (.ref ov)) (P5 : Fld Z h0 sb ASn CDn "B" (.int 0)) (P6 : Fld Z h0 sb ASn "count" "I" (.int (cn.toInt32))) (P7 : Exa Z h0 so STn) (P8 : Fld Z h0 so STn VLn DBn (.ref tb)) (P9 : Fld Z h0 so STn CDn "B" (.int 0)) (P10 : Arv Z h0 tb kb .byte (own_lg bl) (bl.map Value.int) (.int 0)) (P11 : Arv Z h0 ov ko .byte (16 : Int32) (vl.map Value.int) (.int 0)) (hcn : cn + bl.length ≤ 16) (hvl : vl.length = 16) (gov : n0 ≤ ov) (gsb : n0 ≤ sb) (nto : tb ≠ ov) (nso : sb ≠ ov) (nss : so ≠ ov) (nsb : sb ≠ so) (nbt : sb ≠ tb) :
    MFr l Z (⟨SBn, "append", "(Ljava/lang/String;)Ljava/lang/StringBuilder;"⟩ : MethodName) jdk_67_method_7_code 2 (some (.object SBn)) ws (Rm 4 0 0 61) #[(.ref sb), (.ref so)] h0 (Q45 Z sb ov ko cn vl so tb kb bl cs h0 n0) := by
  refine own_body (own := SBn) (plainFor_of_name own_pn6) rfl (fun m => ef_45 m sb so) ?_
  intro p e s m below meth c s₁ Bd H hml hZ hown X0 e0 P hP
  have hx := H.1
  have hby := H.2
  have N0 := Fr.nil n0
  have K0 : Keep h0 h0 [sb, ov] := Keep.refl _ _
  refine g_aloadN X0 H d45_0 rfl rfl ?_
  refine g_aloadN X0 H d45_1 rfl rfl ?_
  show Go p.tables e below P s₁ (mkF m 2 #[vr sb, vr so] [(.ref so), (.ref sb)])
  obtain ⟨_, _, ⟨T1, L1, k1, n1⟩, -, X1, ⟨Lc1, hQ1, l1, y1, z1⟩, st1⟩ := superBack X0 hx hZ (y := (⟨ASn, "append", "(Ljava/lang/String;)Ljava/lang/AbstractStringBuilder;"⟩ : MethodName)) hown (own_g hw 268 rfl) (own_same (y := ({ cls := ASn, name := "append", desc := "(Ljava/lang/String;)Ljava/lang/AbstractStringBuilder;" } : Jvm.MethodName)) (own_g hw 269 rfl) (own_g hw 279 rfl) rfl ⟨by decide, by decide⟩) (own_g hw 269 rfl) (own_g hw 270 rfl) (by decide) (backOf (W := 0) (rm46 l Z a0 hw [] sb ov ko cn vl so tb kb bl cs h0 n0 Z0 O0 P1 hcs P3 P4 P5 P6 P7 P8 P9 P10 P11 hcn hvl gov gsb nto nso nss nsb nbt) hZ (own_g hw 272 rfl) (own_g hw 239 rfl) (by decide) (by decide)) e0 (Ins.self P3) (g := (mkF m 2 #[vr sb, vr so] [(.ref so), (.ref sb)])) rfl (by rw [hml]; rfl) (own_g hw 272 rfl) (argsL := [(.ref so)]) (rest := []) (lenOf own_pd25 rfl) rfl (by show 2 * 0 + _ ≤ _; exact Nat.le_of_eq rfl) (hb hby d45_2) (fun _ _ => ⟨rfl, e0, (by decide : 0 + 0 ≤ _), (by decide : 0 + 0 ≤ _)⟩)
  dsimp only [Pt.U, Pt.locs, Pt.cells, Pt.slots] at X1 l1 y1 z1 st1 hQ1
  subst l1 y1 z1
  obtain ⟨rfl, Nq1, K1, u1_0, u1_1, u1_2, u1_3, u1_4⟩ := hQ1
  obtain ⟨lc1, Xh1, N1⟩ := own_hide X1 (Fr.app N0 Nq1)
  clear X1
  refine Go.hop st1 ?_
  have Z2 := Nat.le_trans Z0 K1.1
  have K3 := K0.trans K1 (own_allC (Or.inl (List.mem_of_getElem? (i := 0) rfl)) (own_allC (Or.inl (List.mem_of_getElem? (i := 1) rfl)) own_all0))
  have O4 : Old Z n0 T1.heap := O0.keep K1 (own_allC gsb (own_allC gov own_all0))
  show Go p.tables e below P T1 (mkF m 5 #[vr sb, vr so] [(.ref sb)])
  refine gv (fun t k => XS.pop Xh1.here hx rfl (hb hby d45_5) rfl rfl k) ?_
  show Go p.tables e below P T1 (mkF m 6 #[vr sb, vr so] [])
  refine g_aloadN Xh1 H d45_6 rfl rfl ?_
  refine g_retA Xh1 H Bd.notSynchronized hP (by decide) Bd.returns rfl rfl rfl d45_7 ?_
  exact ⟨rfl, N1, K3, u1_0, u1_1, u1_2, u1_3, u1_4⟩
def own_ss (n : Nat) : Nat := if n < 10 then 1 else 2
def own_on : List Int32 := (List.range 100).map (fun i => (48 + i % 10).toInt32)
def own_tn : List Int32 := (List.range 100).map (fun i => (48 + i / 10).toInt32)
def own_ds (n : Nat) : List Int32 := if n < 10 then [(48 + n % 10).toInt32] else [(48 + n / 10).toInt32, (48 + n % 10).toInt32]
theorem own_ds_len (n : Nat) : (own_ds n).length = own_ss n := by unfold own_ds own_ss; split <;> rfl
theorem own_negn {n : Nat} (h : n < 2147483648) : (-(n.toInt32)).toInt = -(n : Int) := by
  have q := c_ineg n.toInt32; have r := rng32 (-(n.toInt32)); rw [own_nat h] at q; omega
theorem own_ong {n : Nat} (h : n < 100) : own_on.getD n 0 = (48 + n % 10).toInt32 := by
  unfold own_on; simp [List.getD_eq_getElem?_getD, h]
theorem own_tng {n : Nat} (h : n < 100) : own_tn.getD n 0 = (48 + n / 10).toInt32 := by
  unfold own_tn; simp [List.getD_eq_getElem?_getD, h]
theorem own_nard : ∀ k, k < 10 → nar .byte ((48 + k).toInt32) = (48 + k).toInt32 := by decide
theorem own_set1 {vl : List Int32} {n : Nat} {d : Int32} (h : n < vl.length) : vl.set n d = own_put vl n [d] := by
  unfold own_put; rw [List.set_eq_take_append_cons_drop, if_pos h]; simp
theorem own_set2 {vl : List Int32} {n : Nat} {d e : Int32} (h : n + 1 < vl.length) : (vl.set (n + 1) e).set n d = own_put vl n [d, e] := by
  unfold own_put
  apply List.ext_getElem?
  intro i
  simp only [List.getElem?_set, List.length_set, List.getElem?_append, List.length_append, List.length_take, List.getElem?_take, List.getElem?_drop, List.length_cons, List.length_nil]
  rcases (by omega : i < n ∨ i = n ∨ i = n + 1 ∨ n + 1 < i) with c | c | c | c
  · have e1 : ¬ n = i := by omega
    have e2 : ¬ n + 1 = i := by omega
    simp [e1, e2, c, show i < min n vl.length + 2 by omega, show i < min n vl.length by omega]
  · subst c; simp [show i < vl.length by omega, show min i vl.length = i by omega]
  · subst c; simp [show n + 1 < vl.length by omega, show min n vl.length = n by omega]; intro q; omega
  · have e1 : ¬ n = i := by omega
    have e2 : ¬ n + 1 = i := by omega
    simp [e1, e2, show min n vl.length = n by omega, show ¬ i < n + 2 by omega]; congr 1; omega
theorem own_pn7 : plainName INn = true := by first | (simp [plainName, overriddenIn]; done) | decide +kernel
theorem d53_0 : D33 0 (.iconst 1) 1 := by decide +kernel
theorem d53_1 : D33 1 (.istore_n 1) 1 := by decide +kernel
theorem d53_2 : D33 2 (.iload_n 0) 1 := by decide +kernel
theorem d53_3 : D33 3 (.ifCond .lt 8) 3 := by decide +kernel
theorem d53_6 : D33 6 (.iconst 0) 1 := by decide +kernel
theorem d53_7 : D33 7 (.istore_n 1) 1 := by decide +kernel
theorem d53_8 : D33 8 (.iload_n 0) 1 := by decide +kernel
theorem d53_9 : D33 9 (.ineg) 1 := by decide +kernel
theorem d53_10 : D33 10 (.istore_n 0) 1 := by decide +kernel
theorem d53_11 : D33 11 (.bipush (-10)) 2 := by decide +kernel
theorem d53_13 : D33 13 (.istore_n 2) 1 := by decide +kernel
theorem d53_14 : D33 14 (.iconst 1) 1 := by decide +kernel
theorem d53_15 : D33 15 (.istore_n 3) 1 := by decide +kernel
theorem d53_16 : D33 16 (.iload_n 3) 1 := by decide +kernel
theorem d53_17 : D33 17 (.bipush 10) 2 := by decide +kernel
theorem d53_19 : D33 19 (.if_icmp .ge 23) 3 := by decide +kernel
theorem d53_22 : D33 22 (.iload_n 0) 1 := by decide +kernel
theorem d53_23 : D33 23 (.iload_n 2) 1 := by decide +kernel
theorem d53_24 : D33 24 (.if_icmp .le 7) 3 := by decide +kernel
theorem d53_27 : D33 27 (.iload_n 3) 1 := by decide +kernel
theorem d53_28 : D33 28 (.iload_n 1) 1 := by decide +kernel
theorem d53_29 : D33 29 (.iadd) 1 := by decide +kernel
theorem d53_30 : D33 30 (.ireturn) 1 := by decide +kernel
theorem d53_31 : D33 31 (.bipush 10) 2 := by decide +kernel
theorem d53_33 : D33 33 (.iload_n 2) 1 := by decide +kernel
theorem d53_34 : D33 34 (.imul) 1 := by decide +kernel
theorem d53_35 : D33 35 (.istore_n 2) 1 := by decide +kernel
theorem d53_36 : D33 36 (.iinc 3 1) 3 := by decide +kernel
theorem d53_39 : D33 39 (.goto (-23)) 3 := by decide +kernel
theorem ef_53 (m : MethodId) (x0 : Int32) : entryFrame m #[(.int x0)] 4 = mkF m 0 #[.val (.int x0), .unset, .unset, .unset] [] := by first | (simp [entryFrame, mkF, argsToLocals, Value.category]; done) | rfl
def Q53 (Z : State) (nt : Nat) (h0 : Heap) (n0 : Nat) (v : Option Value) (h : Heap) (L : List Loc) : Prop := v = some (.int ((own_ss nt).toInt32)) ∧ Fr n0 L ∧ h = h0
theorem rm53 (l : Launch) (Z : State) (a0 : Array Value) (hw : HW a0 Z) (ws : List Jvm.Cond) (nt : Nat) (h0 : Heap) (n0 : Nat) (Z0 : n0 ≤ h0.size) (hnt : nt < 100) :
    MFr l Z (⟨INn, "stringSize", "(I)I"⟩ : MethodName) jdk_33_method_13_code 4 (some .int) ws (Rm 0 0 0 0) #[(.int (nt.toInt32))] h0 (Q53 Z nt h0 n0) := by
  refine own_body (own := INn) (plainFor_of_name own_pn7) rfl (fun m => ef_53 m (nt.toInt32)) ?_
  intro p e s m below meth c s₁ Bd H hml hZ hown X0 e0 P hP
  have hx := H.1
  have hby := H.2
  have N0 := Fr.nil n0
  refine g_iconst X0 H d53_0 1 rfl ?_
  refine g_istoreN X0 H d53_1 #[vi (nt.toInt32), vi 1, vu, vu] rfl ?_
  refine g_iloadN X0 H d53_2 rfl ?_
  refine g_ifNo X0 H d53_3 ((if0 _ _).trans (flt (own_nneg (by omega))).1) ?_
  refine g_iconst X0 H d53_6 0 rfl ?_
  refine g_istoreN X0 H d53_7 #[vi (nt.toInt32), vi 0, vu, vu] rfl ?_
  refine g_iloadN X0 H d53_8 rfl ?_
  show Go p.tables e below P s₁ (mkF m 9 #[vi (nt.toInt32), vi 0, vu, vu] [(.int (nt.toInt32))])
  refine gv (fun t k => XS.ineg X0.here hx rfl (hb hby d53_9) rfl k) ?_
  show Go p.tables e below P s₁ (mkF m 10 #[vi (nt.toInt32), vi 0, vu, vu] [(.int (-(nt.toInt32)))])
  refine g_istoreN X0 H d53_10 #[vi (-(nt.toInt32)), vi 0, vu, vu] rfl ?_
  refine g_bipush X0 H d53_11 (-10) rfl ?_
  refine g_istoreN X0 H d53_13 #[vi (-(nt.toInt32)), vi 0, vi (-10), vu] rfl ?_
  refine g_iconst X0 H d53_14 1 rfl ?_
  refine g_istoreN X0 H d53_15 #[vi (-(nt.toInt32)), vi 0, vi (-10), vi 1] rfl ?_
  refine g_iloadN X0 H d53_16 rfl ?_
  refine g_bipush X0 H d53_17 10 rfl ?_
  refine g_icmpNo X0 H d53_19 (tlt (by decide : (1 : Int32) < (10 : Int32))).2.1 ?_
  refine g_iloadN X0 H d53_22 rfl ?_
  refine g_iloadN X0 H d53_23 rfl ?_
  by_cases hc1 : (-10 : Int32) < (-(nt.toInt32))
  · refine g_icmpNo X0 H d53_24 (tlt hc1).2.2.2 ?_
    refine g_iloadN X0 H d53_27 rfl ?_
    refine g_iloadN X0 H d53_28 rfl ?_
    show Go p.tables e below P s₁ (mkF m 29 #[vi (-(nt.toInt32)), vi 0, vi (-10), vi 1] [(.int 0), (.int 1)])
    refine g_iadd X0 H d53_29 ?_
    have hlt : nt < 10 := by have q := hc1; rw [Int32.lt_iff_toInt_lt, own_negn (by omega)] at q; have e1 : (-10 : Int32).toInt = -10 := rfl; omega
    refine g_retI X0 H Bd.notSynchronized hP (by decide) Bd.returns d53_30 (r := ((own_ss nt).toInt32)) (show ((1 : Int32) + (0 : Int32)) = (own_ss nt).toInt32 from by rw [own_ss, if_pos hlt]; decide) ?_
    rw [e0]
    exact ⟨rfl, N0, rfl⟩
  · refine g_icmpYes X0 H d53_24 31 (flt hc1).2.2.2 (by decide) ?_
    refine g_bipush X0 H d53_31 10 rfl ?_
    refine g_iloadN X0 H d53_33 rfl ?_
    refine g_imul X0 H d53_34 ?_
    refine g_istoreN X0 H d53_35 #[vi (-(nt.toInt32)), vi 0, vi ((10 : Int32) * (-10 : Int32)), vi 1] rfl ?_
    refine g_iinc X0 H d53_36 rfl #[vi (-(nt.toInt32)), vi 0, vi ((10 : Int32) * (-10 : Int32)), vi 2] rfl ?_
    refine g_goto X0 H d53_39 16 (by decide) ?_
    refine g_iloadN X0 H d53_16 rfl ?_
    refine g_bipush X0 H d53_17 10 rfl ?_
    refine g_icmpNo X0 H d53_19 (tlt (by decide : (2 : Int32) < (10 : Int32))).2.1 ?_
    refine g_iloadN X0 H d53_22 rfl ?_
    refine g_iloadN X0 H d53_23 rfl ?_
    show Go p.tables e below P s₁ (mkF m 24 #[vi (-(nt.toInt32)), vi 0, vi ((10 : Int32) * (-10 : Int32)), vi 2] [(.int ((10 : Int32) * (-10 : Int32))), (.int (-(nt.toInt32)))])
    refine g_icmpNo X0 H d53_24 (tlt (by rw [show (10 : Int32) * (-10 : Int32) = (-100 : Int32) from by decide, Int32.lt_iff_toInt_lt, own_negn (by omega)]; have e1 : (-100 : Int32).toInt = -100 := rfl; omega)).2.2.2 ?_
    refine g_iloadN X0 H d53_27 rfl ?_
    refine g_iloadN X0 H d53_28 rfl ?_
    refine g_iadd X0 H d53_29 ?_
    have hlt : ¬ nt < 10 := by have q := hc1; rw [Int32.lt_iff_toInt_lt, own_negn (by omega)] at q; have e1 : (-10 : Int32).toInt = -10 := rfl; omega
    refine g_retI X0 H Bd.notSynchronized hP (by decide) Bd.returns d53_30 (r := ((own_ss nt).toInt32)) (show ((2 : Int32) + (0 : Int32)) = (own_ss nt).toInt32 from by rw [own_ss, if_neg hlt]; decide) ?_
    rw [e0]
    exact ⟨rfl, N0, rfl⟩
theorem d54_0 : D34 0 (.getstatic 18) 3 := by decide +kernel
theorem d54_3 : D34 3 (.ifCond .eq 14) 3 := by decide +kernel
theorem d54_6 : D34 6 (.aload_n 0) 1 := by decide +kernel
theorem d54_7 : D34 7 (.getfield 22) 3 := by decide +kernel
theorem d54_10 : D34 10 (.ifCond .ne 7) 3 := by decide +kernel
theorem d54_13 : D34 13 (.iconst 1) 1 := by decide +kernel
theorem d54_14 : D34 14 (.goto 4) 3 := by decide +kernel
theorem d54_18 : D34 18 (.ireturn) 1 := by decide +kernel
theorem ef_54 (m : MethodId) (x0 : Addr) : entryFrame m #[(.ref x0)] 1 = mkF m 0 #[.val (.ref x0)] [] := by first | (simp [entryFrame, mkF, argsToLocals, Value.category]; done) | rfl
def Q54 (Z : State) (sb : Addr) (cs : Int32) (h0 : Heap) (n0 : Nat) (v : Option Value) (h : Heap) (L : List Loc) : Prop := v = some (.int 1) ∧ Fr n0 L ∧ h = h0
theorem rm54 (l : Launch) (Z : State) (a0 : Array Value) (hw : HW a0 Z) (ws : List Jvm.Cond) (sb : Addr) (cs : Int32) (h0 : Heap) (n0 : Nat) (Z0 : n0 ≤ h0.size) (O0 : Old Z n0 h0) (P1 : Sta Z Z.heap STn CSn "Z" (.int cs)) (hcs : ¬ cs = (0 : Int32)) (P3 : Fld Z h0 sb ASn CDn "B" (.int 0)) :
    MFr l Z (⟨ASn, "isLatin1", "()Z"⟩ : MethodName) jdk_68_method_68_code 1 (some .boolean) ws (Rm 0 0 0 0) #[(.ref sb)] h0 (Q54 Z sb cs h0 n0) := by
  refine own_body (own := ASn) (plainFor_of_name own_pn5) rfl (fun m => ef_54 m sb) ?_
  intro p e s m below meth c s₁ Bd H hml hZ hown X0 e0 P hP
  have N0 := Fr.nil n0
  refine g_getS X0 H hZ hown (host := "") (Or.inl (own_g hw 242 rfl)) Via.refl e0 (P1.ext O0.2) d54_0 ?_
  intro T1 X1 e1
  refine g_ifNo X1 H d54_3 ((if0 _ _).trans (feq hcs).1) ?_
  refine g_aloadN X1 H d54_6 rfl rfl ?_
  refine g_getF X1 H hZ hown (host := "") (Or.inl (own_g hw 245 rfl)) Via.refl e1 P3 d54_7 ?_
  intro T2 X2 e2
  refine g_ifNo X2 H d54_10 ((if0 _ _).trans (teq (rfl : (0 : Int32) = (0 : Int32))).2) ?_
  refine g_iconst X2 H d54_13 1 rfl ?_
  refine g_goto X2 H d54_14 18 (by decide) ?_
  refine g_retZ X2 H Bd.notSynchronized hP (by decide) Bd.returns (by simp) d54_18 (r := (1 : Int32)) rfl ?_
  rw [e2]
  exact ⟨rfl, N0, rfl⟩
theorem own_m1 {j : Nat} (h : 0 < j) : j.toInt32 - (1 : Int32) = (j - 1).toInt32 := by
  obtain ⟨q, rfl⟩ : ∃ q, j = q + 1 := ⟨j - 1, by omega⟩
  rw [← own_succ q, Nat.add_sub_cancel]; exact Int32.add_sub_cancel _ _
theorem own_m1' {j : Nat} (h : 0 < j) : j.toInt32 + (-1 : Int32) = (j - 1).toInt32 := by rw [← Int32.sub_eq_add_neg, own_m1 h]
theorem d55_0 : D35 0 (.iload_n 1) 1 := by decide +kernel
theorem d55_1 : D35 1 (.istore 5) 2 := by decide +kernel
theorem d55_3 : D35 3 (.iload_n 0) 1 := by decide +kernel
theorem d55_4 : D35 4 (.ifCond .ge 7) 3 := by decide +kernel
theorem d55_11 : D35 11 (.iconst 0) 1 := by decide +kernel
theorem d55_12 : D35 12 (.istore 6) 2 := by decide +kernel
theorem d55_14 : D35 14 (.iload 6) 2 := by decide +kernel
theorem d55_16 : D35 16 (.ifCond .ne 6) 3 := by decide +kernel
theorem d55_19 : D35 19 (.iload_n 0) 1 := by decide +kernel
theorem d55_20 : D35 20 (.ineg) 1 := by decide +kernel
theorem d55_21 : D35 21 (.istore_n 0) 1 := by decide +kernel
theorem d55_22 : D35 22 (.iload_n 0) 1 := by decide +kernel
theorem d55_23 : D35 23 (.bipush (-100)) 2 := by decide +kernel
theorem d55_25 : D35 25 (.if_icmp .gt 47) 3 := by decide +kernel
theorem d55_72 : D35 72 (.aload_n 2) 1 := by decide +kernel
theorem d55_73 : D35 73 (.iinc 5 (-1)) 3 := by decide +kernel
theorem d55_76 : D35 76 (.iload 5) 2 := by decide +kernel
theorem d55_78 : D35 78 (.getstatic 83) 3 := by decide +kernel
theorem d55_81 : D35 81 (.iload_n 0) 1 := by decide +kernel
theorem d55_82 : D35 82 (.ineg) 1 := by decide +kernel
theorem d55_83 : D35 83 (.baload) 1 := by decide +kernel
theorem d55_84 : D35 84 (.bastore) 1 := by decide +kernel
theorem d55_85 : D35 85 (.iload_n 0) 1 := by decide +kernel
theorem d55_86 : D35 86 (.bipush (-9)) 2 := by decide +kernel
theorem d55_88 : D35 88 (.if_icmp .ge 16) 3 := by decide +kernel
theorem d55_91 : D35 91 (.aload_n 2) 1 := by decide +kernel
theorem d55_92 : D35 92 (.iinc 5 (-1)) 3 := by decide +kernel
theorem d55_95 : D35 95 (.iload 5) 2 := by decide +kernel
theorem d55_97 : D35 97 (.getstatic 87) 3 := by decide +kernel
theorem d55_100 : D35 100 (.iload_n 0) 1 := by decide +kernel
theorem d55_101 : D35 101 (.ineg) 1 := by decide +kernel
theorem d55_102 : D35 102 (.baload) 1 := by decide +kernel
theorem d55_103 : D35 103 (.bastore) 1 := by decide +kernel
theorem d55_104 : D35 104 (.iload 6) 2 := by decide +kernel
theorem d55_106 : D35 106 (.ifCond .eq 12) 3 := by decide +kernel
theorem d55_118 : D35 118 (.iload 5) 2 := by decide +kernel
theorem d55_120 : D35 120 (.ireturn) 1 := by decide +kernel
theorem ef_55 (m : MethodId) (x0 : Int32) (x1 : Int32) (x2 : Addr) : entryFrame m #[(.int x0), (.int x1), (.ref x2)] 7 = mkF m 0 #[.val (.int x0), .val (.int x1), .val (.ref x2), .unset, .unset, .unset, .unset] [] := by first | (simp [entryFrame, mkF, argsToLocals, Value.category]; done) | rfl
def Q55 (Z : State) (nt : Nat) (cn : Nat) (ov : Addr) (ko : ClassId) (vl : List Int32) (o1 : Addr) (o2 : Addr) (k1d : ClassId) (k2d : ClassId) (h0 : Heap) (n0 : Nat) (v : Option Value) (h : Heap) (L : List Loc) : Prop := ∃ (qr : Int32), v = some (.int qr) ∧ Fr n0 L ∧ Keep h0 h [ov] ∧ Arv Z h ov ko .byte (16 : Int32) ((own_put vl cn (own_ds nt)).map Value.int) (.int 0)
theorem rm55 (l : Launch) (Z : State) (a0 : Array Value) (hw : HW a0 Z) (ws : List Jvm.Cond) (nt : Nat) (cn : Nat) (ov : Addr) (ko : ClassId) (vl : List Int32) (o1 : Addr) (o2 : Addr) (k1d : ClassId) (k2d : ClassId) (h0 : Heap) (n0 : Nat) (Z0 : n0 ≤ h0.size) (O0 : Old Z n0 h0) (P1 : Sta Z Z.heap INn "DigitOnes" DBn (.ref o1)) (P2 : Sta Z Z.heap INn "DigitTens" DBn (.ref o2)) (P3 : Arv Z Z.heap o1 k1d .byte (100 : Int32) (own_on.map Value.int) (.int 0)) (P4 : Arv Z Z.heap o2 k2d .byte (100 : Int32) (own_tn.map Value.int) (.int 0)) (P5 : Arv Z h0 ov ko .byte (16 : Int32) (vl.map Value.int) (.int 0)) (hnt : nt < 100) (hcs16 : cn + own_ss nt ≤ 16) (hvl : vl.length = 16) (gov : n0 ≤ ov) :
    MFr l Z (⟨INn, "getChars", "(II[B)I"⟩ : MethodName) jdk_33_method_12_code 7 (some .int) ws (Rm 0 0 0 0) #[(.int (nt.toInt32)), (.int ((cn + own_ss nt).toInt32)), (.ref ov)] h0 (Q55 Z nt cn ov ko vl o1 o2 k1d k2d h0 n0) := by
  refine own_body (own := INn) (plainFor_of_name own_pn7) rfl (fun m => ef_55 m (nt.toInt32) ((cn + own_ss nt).toInt32) ov) ?_
  intro p e s m below meth c s₁ Bd H hml hZ hown X0 e0 P hP
  have hx := H.1
  have hby := H.2
  have N0 := Fr.nil n0
  have K0 : Keep h0 h0 [ov] := Keep.refl _ _
  have hss : 1 ≤ own_ss nt ∧ own_ss nt ≤ 2 := by unfold own_ss; split <;> omega
  have hn31 : nt < 2147483648 := by omega
  show Go p.tables e below P s₁ (mkF m 0 #[vi (nt.toInt32), vi ((cn + own_ss nt).toInt32), vr ov, vu, vu, vu, vu] [])
  refine g_iloadN X0 H d55_0 rfl ?_
  refine g_istore X0 H d55_1 #[vi (nt.toInt32), vi ((cn + own_ss nt).toInt32), vr ov, vu, vu, vi ((cn + own_ss nt).toInt32), vu] rfl ?_
  refine g_iloadN X0 H d55_3 rfl ?_
  refine g_ifYes X0 H d55_4 11 ((if0 _ _).trans (flt (own_nneg hn31)).2.1) (by decide) ?_
  refine g_iconst X0 H d55_11 0 rfl ?_
  refine g_istore X0 H d55_12 #[vi (nt.toInt32), vi ((cn + own_ss nt).toInt32), vr ov, vu, vu, vi ((cn + own_ss nt).toInt32), vi 0] rfl ?_
  refine g_iload X0 H d55_14 rfl ?_
  refine g_ifNo X0 H d55_16 ((if0 _ _).trans (teq (rfl : (0 : Int32) = (0 : Int32))).2) ?_
  refine g_iloadN X0 H d55_19 rfl ?_
  show Go p.tables e below P s₁ (mkF m 20 #[vi (nt.toInt32), vi ((cn + own_ss nt).toInt32), vr ov, vu, vu, vi ((cn + own_ss nt).toInt32), vi 0] [(.int (nt.toInt32))])
  refine gv (fun t k => XS.ineg X0.here hx rfl (hb hby d55_20) rfl k) ?_
  show Go p.tables e below P s₁ (mkF m 21 #[vi (nt.toInt32), vi ((cn + own_ss nt).toInt32), vr ov, vu, vu, vi ((cn + own_ss nt).toInt32), vi 0] [(.int (-(nt.toInt32)))])
  refine g_istoreN X0 H d55_21 #[vi (-(nt.toInt32)), vi ((cn + own_ss nt).toInt32), vr ov, vu, vu, vi ((cn + own_ss nt).toInt32), vi 0] rfl ?_
  refine g_iloadN X0 H d55_22 rfl ?_
  refine g_bipush X0 H d55_23 (-100) rfl ?_
  refine g_icmpYes X0 H d55_25 72 (tlt (show (-100 : Int32) < (-(nt.toInt32)) from by rw [Int32.lt_iff_toInt_lt, own_negn hn31]; have e1 : (-100 : Int32).toInt = -100 := rfl; omega)).2.2.1 (by decide) ?_
  refine g_aloadN X0 H d55_72 rfl rfl ?_
  refine g_iinc X0 H d55_73 rfl #[vi (-(nt.toInt32)), vi ((cn + own_ss nt).toInt32), vr ov, vu, vu, vi (((cn + own_ss nt).toInt32) + (-1 : Int32)), vi 0] rfl ?_
  show Go p.tables e below P s₁ (mkF m 76 #[vi (-(nt.toInt32)), vi ((cn + own_ss nt).toInt32), vr ov, vu, vu, vi (((cn + own_ss nt).toInt32) + (-1 : Int32)), vi 0] [(.ref ov)])
  rw [show (((cn + own_ss nt).toInt32) + (-1 : Int32)) = (cn + own_ss nt - 1).toInt32 from by rw [own_m1' (by omega)]]
  refine g_iload X0 H d55_76 rfl ?_
  refine g_getS X0 H hZ hown (host := "") (Or.inl (own_g hw 320 rfl)) Via.refl e0 (P1.ext O0.2) d55_78 ?_
  intro T1 X1 e1
  refine g_iloadN X1 H d55_81 rfl ?_
  show Go p.tables e below P T1 (mkF m 82 #[vi (-(nt.toInt32)), vi ((cn + own_ss nt).toInt32), vr ov, vu, vu, vi ((cn + own_ss nt - 1).toInt32), vi 0] [(.int (-(nt.toInt32))), (.ref o1), (.int ((cn + own_ss nt - 1).toInt32)), (.ref ov)])
  refine gv (fun t k => XS.ineg X1.here hx rfl (hb hby d55_82) rfl k) ?_
  show Go p.tables e below P T1 (mkF m 83 #[vi (-(nt.toInt32)), vi ((cn + own_ss nt).toInt32), vr ov, vu, vu, vi ((cn + own_ss nt - 1).toInt32), vi 0] [(.int (-(-(nt.toInt32)))), (.ref o1), (.int ((cn + own_ss nt - 1).toInt32)), (.ref ov)])
  refine g_baload X1 H hZ e1 (P3.ext O0.2) (.int (own_on.getD nt 0)) d55_83 ⟨by rw [Int32.neg_neg]; exact own_nneg hn31, by rw [Int32.neg_neg]; exact (own_ltN (n := 100) hn31 (by omega)).mpr hnt⟩ (by rw [Int32.neg_neg, own_clamp hn31]; exact own_getDI own_on nt) ?_
  show Go p.tables e below P T1 (mkF m 84 #[vi (-(nt.toInt32)), vi ((cn + own_ss nt).toInt32), vr ov, vu, vu, vi ((cn + own_ss nt - 1).toInt32), vi 0] [(.int (own_on.getD nt 0)), (.int ((cn + own_ss nt - 1).toInt32)), (.ref ov)])
  obtain ⟨c3, A3, q3, S3, N3, H3, G3⟩ := id P5
  have hin3 : ¬ (((cn + own_ss nt - 1).toInt32) < 0 ∨ c3.slots.size ≤ (((cn + own_ss nt - 1).toInt32)).toNatClampNeg) := inb_of S3 ⟨own_nneg (by omega), (own_ltN (n := 16) (by omega) (by omega)).mpr (by omega)⟩
  obtain ⟨T3, h3, X3, e3, W3, st3⟩ := stB X1 hx hZ e1 A3 (j := ((cn + own_ss nt - 1).toInt32)) hin3 (g := (mkF m 84 #[vi (-(nt.toInt32)), vi ((cn + own_ss nt).toInt32), vr ov, vu, vu, vi ((cn + own_ss nt - 1).toInt32), vi 0] [(.int (own_on.getD nt 0)), (.int ((cn + own_ss nt - 1).toInt32)), (.ref ov)])) rfl rfl (hb hby d55_84)
  refine gv st3 ?_
  have Z4 := Nat.le_trans Z0 (Nat.le_of_eq W3.size.symm)
  have K5 := K0.wr W3 (Or.inl (List.mem_of_getElem? (i := 0) rfl))
  obtain ⟨lc3, Xh3, N6⟩ := own_hide X3 (Fr.snoc X3 N0 gov)
  clear X3
  have O7 : Old Z n0 h3 := O0.wr W3 gov
  have V3 : Arv Z h3 ov ko .byte (16 : Int32) ((vl.map Value.int).set (cn + own_ss nt - 1) (.int (nar .byte (own_on.getD nt 0)))) (.int 0) := Arv.set A3 q3 S3 N3 H3 G3 (fits_nar_byte _) W3 (cn + own_ss nt - 1) (own_clamp (by omega)) (by rw [List.length_map, hvl]; omega)
  show Go p.tables e below P T3 (mkF m 85 #[vi (-(nt.toInt32)), vi ((cn + own_ss nt).toInt32), vr ov, vu, vu, vi ((cn + own_ss nt - 1).toInt32), vi 0] [])
  refine g_iloadN Xh3 H d55_85 rfl ?_
  refine g_bipush Xh3 H d55_86 (-9) rfl ?_
  by_cases hc8 : (-(nt.toInt32)) < (-9 : Int32)
  · refine g_icmpNo Xh3 H d55_88 (tlt hc8).2.1 ?_
    refine g_aloadN Xh3 H d55_91 rfl rfl ?_
    refine g_iinc Xh3 H d55_92 rfl #[vi (-(nt.toInt32)), vi ((cn + own_ss nt).toInt32), vr ov, vu, vu, vi (((cn + own_ss nt - 1).toInt32) + (-1 : Int32)), vi 0] rfl ?_
    show Go p.tables e below P T3 (mkF m 95 #[vi (-(nt.toInt32)), vi ((cn + own_ss nt).toInt32), vr ov, vu, vu, vi (((cn + own_ss nt - 1).toInt32) + (-1 : Int32)), vi 0] [(.ref ov)])
    have hge : ¬ nt < 10 := by have q := hc8; rw [Int32.lt_iff_toInt_lt, own_negn hn31] at q; have e1 : (-9 : Int32).toInt = -9 := rfl; omega
    have hs2 : own_ss nt = 2 := by unfold own_ss; rw [if_neg hge]
    rw [show (((cn + own_ss nt - 1).toInt32) + (-1 : Int32)) = (cn + own_ss nt - 2).toInt32 from by rw [own_m1' (by omega)]; congr 1]
    refine g_iload Xh3 H d55_95 rfl ?_
    refine g_getS Xh3 H hZ hown (host := "") (Or.inl (own_g hw 321 rfl)) Via.refl e3 (P2.ext O7.2) d55_97 ?_
    intro T9 X9 e9
    refine g_iloadN X9 H d55_100 rfl ?_
    show Go p.tables e below P T9 (mkF m 101 #[vi (-(nt.toInt32)), vi ((cn + own_ss nt).toInt32), vr ov, vu, vu, vi ((cn + own_ss nt - 2).toInt32), vi 0] [(.int (-(nt.toInt32))), (.ref o2), (.int ((cn + own_ss nt - 2).toInt32)), (.ref ov)])
    refine gv (fun t k => XS.ineg X9.here hx rfl (hb hby d55_101) rfl k) ?_
    show Go p.tables e below P T9 (mkF m 102 #[vi (-(nt.toInt32)), vi ((cn + own_ss nt).toInt32), vr ov, vu, vu, vi ((cn + own_ss nt - 2).toInt32), vi 0] [(.int (-(-(nt.toInt32)))), (.ref o2), (.int ((cn + own_ss nt - 2).toInt32)), (.ref ov)])
    refine g_baload X9 H hZ e9 (P4.ext O7.2) (.int (own_tn.getD nt 0)) d55_102 ⟨by rw [Int32.neg_neg]; exact own_nneg hn31, by rw [Int32.neg_neg]; exact (own_ltN (n := 100) hn31 (by omega)).mpr hnt⟩ (by rw [Int32.neg_neg, own_clamp hn31]; exact own_getDI own_tn nt) ?_
    show Go p.tables e below P T9 (mkF m 103 #[vi (-(nt.toInt32)), vi ((cn + own_ss nt).toInt32), vr ov, vu, vu, vi ((cn + own_ss nt - 2).toInt32), vi 0] [(.int (own_tn.getD nt 0)), (.int ((cn + own_ss nt - 2).toInt32)), (.ref ov)])
    obtain ⟨c11, A11, q11, S11, N11, H11, G11⟩ := id V3
    have hin11 : ¬ (((cn + own_ss nt - 2).toInt32) < 0 ∨ c11.slots.size ≤ (((cn + own_ss nt - 2).toInt32)).toNatClampNeg) := inb_of S11 ⟨own_nneg (by omega), (own_ltN (n := 16) (by omega) (by omega)).mpr (by omega)⟩
    obtain ⟨T11, h11, X11, e11, W11, st11⟩ := stB X9 hx hZ e9 A11 (j := ((cn + own_ss nt - 2).toInt32)) hin11 (g := (mkF m 103 #[vi (-(nt.toInt32)), vi ((cn + own_ss nt).toInt32), vr ov, vu, vu, vi ((cn + own_ss nt - 2).toInt32), vi 0] [(.int (own_tn.getD nt 0)), (.int ((cn + own_ss nt - 2).toInt32)), (.ref ov)])) rfl rfl (hb hby d55_103)
    refine gv st11 ?_
    have Z12 := Nat.le_trans Z4 (Nat.le_of_eq W11.size.symm)
    have K13 := K5.wr W11 (Or.inl (List.mem_of_getElem? (i := 0) rfl))
    obtain ⟨lc11, Xh11, N14⟩ := own_hide X11 (Fr.snoc X11 N6 gov)
    clear X11
    have O15 : Old Z n0 h11 := O7.wr W11 gov
    have V11 : Arv Z h11 ov ko .byte (16 : Int32) (((vl.map Value.int).set (cn + own_ss nt - 1) (.int (nar .byte (own_on.getD nt 0)))).set (cn + own_ss nt - 2) (.int (nar .byte (own_tn.getD nt 0)))) (.int 0) := Arv.set A11 q11 S11 N11 H11 G11 (fits_nar_byte _) W11 (cn + own_ss nt - 2) (own_clamp (by omega)) (by rw [List.length_set, List.length_map, hvl]; omega)
    show Go p.tables e below P T11 (mkF m 104 #[vi (-(nt.toInt32)), vi ((cn + own_ss nt).toInt32), vr ov, vu, vu, vi ((cn + own_ss nt - 2).toInt32), vi 0] [])
    refine g_iload Xh11 H d55_104 rfl ?_
    refine g_ifYes Xh11 H d55_106 118 ((if0 _ _).trans (teq (rfl : (0 : Int32) = (0 : Int32))).1) (by decide) ?_
    refine g_iload Xh11 H d55_118 rfl ?_
    have o1e : nar .byte (own_on.getD nt 0) = (48 + nt % 10).toInt32 := by rw [own_ong hnt]; exact own_nard _ (by omega)
    have o2e : nar .byte (own_tn.getD nt 0) = (48 + nt / 10).toInt32 := by rw [own_tng hnt]; exact own_nard _ (by omega)
    refine g_retI Xh11 H Bd.notSynchronized hP (by decide) Bd.returns d55_120 (r := ((cn + own_ss nt - 2).toInt32)) rfl ?_
    rw [e11]
    exact ⟨((cn + own_ss nt - 2).toInt32), rfl, N14, K13, (by have q := V11; rw [o1e, o2e, ← List.map_set, ← List.map_set, show cn + own_ss nt - 1 = cn + 1 from by omega, show cn + own_ss nt - 2 = cn from by omega, own_set2 (by omega)] at q; rw [own_ds, if_neg hge]; exact q)⟩
  · refine g_icmpYes Xh3 H d55_88 104 (flt hc8).2.1 (by decide) ?_
    refine g_iload Xh3 H d55_104 rfl ?_
    refine g_ifYes Xh3 H d55_106 118 ((if0 _ _).trans (teq (rfl : (0 : Int32) = (0 : Int32))).1) (by decide) ?_
    refine g_iload Xh3 H d55_118 rfl ?_
    have hlt : nt < 10 := by have q := hc8; rw [Int32.lt_iff_toInt_lt, own_negn hn31] at q; have e1 : (-9 : Int32).toInt = -9 := rfl; omega
    have hs1 : own_ss nt = 1 := by unfold own_ss; rw [if_pos hlt]
    have o1e : nar .byte (own_on.getD nt 0) = (48 + nt % 10).toInt32 := by rw [own_ong hnt]; exact own_nard _ (by omega)
    refine g_retI Xh3 H Bd.notSynchronized hP (by decide) Bd.returns d55_120 (r := ((cn + own_ss nt - 1).toInt32)) rfl ?_
    rw [e3]
    exact ⟨((cn + own_ss nt - 1).toInt32), rfl, N6, K5, (by have q := V3; rw [o1e, ← List.map_set, show cn + own_ss nt - 1 = cn from by omega, own_set1 (by omega)] at q; rw [own_ds, if_pos hlt]; exact q)⟩
theorem own_pd26 : parseMethodDescriptor "()Z" = some ⟨[], some .boolean⟩ := by decide +kernel
theorem own_pd27 : parseMethodDescriptor "(II[B)I" = some ⟨[.int, .int, (.array .byte)], some .int⟩ := by decide +kernel
theorem d52_0 : D36 0 (.aload_n 0) 1 := by decide +kernel
theorem d52_1 : D36 1 (.getfield 79) 3 := by decide +kernel
theorem d52_4 : D36 4 (.istore_n 2) 1 := by decide +kernel
theorem d52_5 : D36 5 (.iload_n 2) 1 := by decide +kernel
theorem d52_6 : D36 6 (.iload_n 1) 1 := by decide +kernel
theorem d52_7 : D36 7 (.invokestatic 245) 3 := by decide +kernel
theorem d52_10 : D36 10 (.iadd) 1 := by decide +kernel
theorem d52_11 : D36 11 (.istore_n 3) 1 := by decide +kernel
theorem d52_12 : D36 12 (.aload_n 0) 1 := by decide +kernel
theorem d52_13 : D36 13 (.iload_n 3) 1 := by decide +kernel
theorem d52_14 : D36 14 (.invokevirtual 100) 3 := by decide +kernel
theorem d52_17 : D36 17 (.aload_n 0) 1 := by decide +kernel
theorem d52_18 : D36 18 (.invokevirtual 83) 3 := by decide +kernel
theorem d52_21 : D36 21 (.ifCond .eq 16) 3 := by decide +kernel
theorem d52_24 : D36 24 (.iload_n 1) 1 := by decide +kernel
theorem d52_25 : D36 25 (.iload_n 3) 1 := by decide +kernel
theorem d52_26 : D36 26 (.aload_n 0) 1 := by decide +kernel
theorem d52_27 : D36 27 (.getfield 15) 3 := by decide +kernel
theorem d52_30 : D36 30 (.invokestatic 248) 3 := by decide +kernel
theorem d52_33 : D36 33 (.pop) 1 := by decide +kernel
theorem d52_34 : D36 34 (.goto 14) 3 := by decide +kernel
theorem d52_48 : D36 48 (.aload_n 0) 1 := by decide +kernel
theorem d52_49 : D36 49 (.iload_n 3) 1 := by decide +kernel
theorem d52_50 : D36 50 (.putfield 79) 3 := by decide +kernel
theorem d52_53 : D36 53 (.aload_n 0) 1 := by decide +kernel
theorem d52_54 : D36 54 (.areturn) 1 := by decide +kernel
theorem ef_52 (m : MethodId) (x0 : Addr) (x1 : Int32) : entryFrame m #[(.ref x0), (.int x1)] 4 = mkF m 0 #[.val (.ref x0), .val (.int x1), .unset, .unset] [] := by first | (simp [entryFrame, mkF, argsToLocals, Value.category]; done) | rfl
def Q52 (Z : State) (sb : Addr) (ov : Addr) (ko : ClassId) (cn : Nat) (vl : List Int32) (nt : Nat) (cs : Int32) (o1 : Addr) (o2 : Addr) (k1d : ClassId) (k2d : ClassId) (h0 : Heap) (n0 : Nat) (v : Option Value) (h : Heap) (L : List Loc) : Prop := v = some (.ref sb) ∧ Fr n0 L ∧ Keep h0 h [sb, ov] ∧ Exa Z h sb SBn ∧ Fld Z h sb ASn VLn DBn (.ref ov) ∧ Fld Z h sb ASn CDn "B" (.int 0) ∧ Fld Z h sb ASn "count" "I" (.int ((cn + own_ss nt).toInt32)) ∧ Arv Z h ov ko .byte (16 : Int32) ((own_put vl cn (own_ds nt)).map Value.int) (.int 0)
theorem rm52 (l : Launch) (Z : State) (a0 : Array Value) (hw : HW a0 Z) (ws : List Jvm.Cond) (sb : Addr) (ov : Addr) (ko : ClassId) (cn : Nat) (vl : List Int32) (nt : Nat) (cs : Int32) (o1 : Addr) (o2 : Addr) (k1d : ClassId) (k2d : ClassId) (h0 : Heap) (n0 : Nat) (Z0 : n0 ≤ h0.size) (O0 : Old Z n0 h0) (P1 : Sta Z Z.heap STn CSn "Z" (.int cs)) (hcs : ¬ cs = (0 : Int32)) (P3 : Sta Z Z.heap INn "DigitOnes" DBn (.ref o1)) (P4 : Sta Z Z.heap INn "DigitTens" DBn (.ref o2)) (P5 : Arv Z Z.heap o1 k1d .byte (100 : Int32) (own_on.map Value.int) (.int 0)) (P6 : Arv Z Z.heap o2 k2d .byte (100 : Int32) (own_tn.map Value.int) (.int 0)) (P7 : Exa Z h0 sb SBn) (P8 : Fld Z h0 sb ASn VLn DBn (.ref ov)) (P9 : Fld Z h0 sb ASn CDn "B" (.int 0)) (P10 : Fld Z h0 sb ASn "count" "I" (.int (cn.toInt32))) (P11 : Arv Z h0 ov ko .byte (16 : Int32) (vl.map Value.int) (.int 0)) (hnt : nt < 100) (hcs16 : cn + own_ss nt ≤ 16) (hvl : vl.length = 16) (gov : n0 ≤ ov) (gsb : n0 ≤ sb) (nso : sb ≠ ov) :
    MFr l Z (⟨ASn, "append", "(I)Ljava/lang/AbstractStringBuilder;"⟩ : MethodName) jdk_68_method_32_code 4 (some (.object ASn)) ws (Rm 1 0 0 18) #[(.ref sb), (.int (nt.toInt32))] h0 (Q52 Z sb ov ko cn vl nt cs o1 o2 k1d k2d h0 n0) := by
  refine own_body (own := ASn) (plainFor_of_name own_pn5) rfl (fun m => ef_52 m sb (nt.toInt32)) ?_
  intro p e s m below meth c s₁ Bd H hml hZ hown X0 e0 P hP
  have hx := H.1
  have hby := H.2
  have N0 := Fr.nil n0
  have K0 : Keep h0 h0 [sb, ov] := Keep.refl _ _
  refine g_aloadN X0 H d52_0 rfl rfl ?_
  refine g_getF X0 H hZ hown (host := "") (Or.inl (own_g hw 274 rfl)) Via.refl e0 P10 d52_1 ?_
  intro T1 X1 e1
  refine g_istoreN X1 H d52_4 #[vr sb, vi (nt.toInt32), vi (cn.toInt32), vu] rfl ?_
  refine g_iloadN X1 H d52_5 rfl ?_
  refine g_iloadN X1 H d52_6 rfl ?_
  show Go p.tables e below P T1 (mkF m 7 #[vr sb, vi (nt.toInt32), vi (cn.toInt32), vu] [(.int (nt.toInt32)), (.int (cn.toInt32))])
  refine g_cS X1 H hZ hml rfl hown e1 (rm53 l Z a0 hw [] nt h0 n0 Z0 hnt) (own_g hw 308 rfl) (own_g hw 309 rfl) (own_g hw 310 rfl) (own_g hw 311 rfl) (by decide) own_pd11 d52_7 rfl rfl rfl (W := 1) rfl (by decide) ?_
  intro _ T2 Lc2 X2 hQ2
  obtain ⟨rfl, Nq2, hh2⟩ := hQ2
  obtain ⟨lc2, Xh2, N2⟩ := own_hide X2 (Fr.app N0 Nq2)
  clear X2
  refine g_iadd Xh2 H d52_10 ?_
  show Go p.tables e below P T2 (mkF m 11 #[vr sb, vi (nt.toInt32), vi (cn.toInt32), vu] [(.int ((cn.toInt32) + ((own_ss nt).toInt32)))])
  rw [show cn.toInt32 + (own_ss nt).toInt32 = (cn + own_ss nt).toInt32 from (Int32.ofNat_add cn (own_ss nt)).symm]
  refine g_istoreN Xh2 H d52_11 #[vr sb, vi (nt.toInt32), vi (cn.toInt32), vi ((cn + own_ss nt).toInt32)] rfl ?_
  refine g_aloadN Xh2 H d52_12 rfl rfl ?_
  refine g_iloadN Xh2 H d52_13 rfl ?_
  show Go p.tables e below P T2 (mkF m 14 #[vr sb, vi (nt.toInt32), vi (cn.toInt32), vi ((cn + own_ss nt).toInt32)] [(.int ((cn + own_ss nt).toInt32)), (.ref sb)])
  obtain ⟨cq3, q3, q3'⟩ := P7.cell
  obtain ⟨_, _, ⟨T3, L3, k3, n3⟩, -, X3, ⟨Lc3, hQ3, l3, y3, z3⟩, st3⟩ := Xh2.privateBack hx (y := (⟨ASn, "ensureCapacityInternal", "(I)V"⟩ : MethodName)) hown (mvT hZ (own_g hw 276 rfl)) (mvT hZ (own_g hw 277 rfl)) (mvT hZ (own_selp2 (y := ({ cls := ASn, name := "ensureCapacityInternal", desc := "(I)V" } : Jvm.MethodName)) (own_g hw 278 rfl) (own_g hw 277 rfl) (own_g hw 279 rfl) rfl ⟨by decide, by decide⟩)) (Cond.privateMethod_at (mvP hZ (own_g hw 278 rfl) (args := #[]))) (mvT hZ (own_g hw 280 rfl)) (by decide) (backOf (W := 0) (rm47 l Z a0 hw [] sb ov ko (vl.map Value.int) (cn + own_ss nt) h0 n0 Z0 P8 P9 P11 hcs16) hZ (own_g hw 280 rfl) (own_g hw 239 rfl) (by decide) (by decide)) (g := (mkF m 14 #[vr sb, vi (nt.toInt32), vi (cn.toInt32), vi ((cn + own_ss nt).toInt32)] [(.int ((cn + own_ss nt).toInt32)), (.ref sb)])) rfl (by rw [hml]; rfl) (Steps.refl _) (a := sb) (by rw [hh2]; exact q3) q3' (argsL := [(.int ((cn + own_ss nt).toInt32))]) (rest := []) (lenOf own_pd21 rfl) rfl (by show 2 * 0 + _ ≤ _; exact Nat.le_of_eq rfl) (hb hby d52_14) (fun _ _ => ⟨rfl, hh2, (by decide : 0 + 0 ≤ _), (by decide : 0 + 0 ≤ _)⟩)
  dsimp only [Pt.U, Pt.locs, Pt.cells, Pt.slots] at X3 l3 y3 z3 st3 hQ3
  subst l3 y3 z3
  obtain ⟨rfl, Nq3, hh3⟩ := hQ3
  obtain ⟨lc3, Xh3, N3⟩ := own_hide X3 (Fr.app N2 Nq3)
  clear X3
  refine Go.hop st3 ?_
  show Go p.tables e below P T3 (mkF m 17 #[vr sb, vi (nt.toInt32), vi (cn.toInt32), vi ((cn + own_ss nt).toInt32)] [])
  refine g_aloadN Xh3 H d52_17 rfl rfl ?_
  refine g_cV Xh3 H hZ hml rfl hown hh3 P7 (rm54 l Z a0 hw [] sb cs h0 n0 Z0 O0 P1 hcs P9) (own_g hw 312 rfl) (own_g hw 313 rfl) (notFace_of_selects (args := #[]) (mvT hZ (own_g hw 315 rfl))) (own_g hw 315 rfl) (own_g hw 314 rfl) (own_g hw 239 rfl) (own_g hw 316 rfl) (by decide) own_pd26 d52_18 rfl rfl rfl (W := 0) rfl (by decide) ?_
  intro _ T4 Lc4 X4 hQ4
  obtain ⟨rfl, Nq4, hh4⟩ := hQ4
  obtain ⟨lc4, Xh4, N4⟩ := own_hide X4 (Fr.app N3 Nq4)
  clear X4
  refine g_ifNo Xh4 H d52_21 ((if0 _ _).trans (feq (by decide : ¬ ((1 : Int32) = (0 : Int32)))).1) ?_
  refine g_iloadN Xh4 H d52_24 rfl ?_
  refine g_iloadN Xh4 H d52_25 rfl ?_
  refine g_aloadN Xh4 H d52_26 rfl rfl ?_
  refine g_getF Xh4 H hZ hown (host := "") (Or.inl (own_g hw 243 rfl)) Via.refl hh4 P8 d52_27 ?_
  intro T5 X5 e5
  refine g_cS X5 H hZ hml rfl hown e5 (rm55 l Z a0 hw [] nt cn ov ko vl o1 o2 k1d k2d h0 n0 Z0 O0 P3 P4 P5 P6 P11 hnt hcs16 hvl gov) (own_g hw 317 rfl) (own_g hw 318 rfl) (own_g hw 310 rfl) (own_g hw 319 rfl) (by decide) own_pd27 d52_30 rfl rfl rfl (W := 0) rfl (by decide) ?_
  intro _ T6 Lc6 X6 hQ6
  obtain ⟨qr_6, rfl, Nq6, K6, u6_0⟩ := hQ6
  obtain ⟨lc6, Xh6, N6⟩ := own_hide X6 (Fr.app N4 Nq6)
  clear X6
  have Z7 := Nat.le_trans Z0 K6.1
  have K8 := K0.trans K6 (own_allC (Or.inl (List.mem_of_getElem? (i := 1) rfl)) own_all0)
  have O9 : Old Z n0 T6.heap := O0.keep K6 (own_allC gov own_all0)
  show Go p.tables e below P T6 (mkF m 33 #[vr sb, vi (nt.toInt32), vi (cn.toInt32), vi ((cn + own_ss nt).toInt32)] [(.int qr_6)])
  refine gv (fun t k => XS.pop Xh6.here hx rfl (hb hby d52_33) rfl rfl k) ?_
  show Go p.tables e below P T6 (mkF m 34 #[vr sb, vi (nt.toInt32), vi (cn.toInt32), vi ((cn + own_ss nt).toInt32)] [])
  refine g_goto Xh6 H d52_34 48 (by decide) ?_
  refine g_aloadN Xh6 H d52_48 rfl rfl ?_
  refine g_iloadN Xh6 H d52_49 rfl ?_
  have F10 := (P7.keep K6)
  have F11 := (P10.keep K6 (own_ninC nso own_nin0))
  obtain ⟨T12, h12, X12, e12, W12, st12⟩ := putF Xh6 hx hZ hown (host := "") (Or.inl (own_g hw 274 rfl)) Via.refl rfl F11 F10 (Or.inl (own_g hw 275 rfl)) (own_g hw 230 rfl) (ty := .int) (by decide) rfl rfl (g := (mkF m 50 #[vr sb, vi (nt.toInt32), vi (cn.toInt32), vi ((cn + own_ss nt).toInt32)] [(.int ((cn + own_ss nt).toInt32)), (.ref sb)])) rfl rfl (hb hby d52_50)
  refine gv st12 ?_
  have Z13 := Nat.le_trans Z7 (Nat.le_of_eq W12.size.symm)
  have K14 := K8.wr W12 (Or.inl (List.mem_of_getElem? (i := 0) rfl))
  obtain ⟨lc12, Xh12, N15⟩ := own_hide X12 (Fr.snoc X12 N6 gsb)
  clear X12
  have O16 : Old Z n0 h12 := O9.wr W12 gsb
  have Fw12 := F11.same W12
  show Go p.tables e below P T12 (mkF m 53 #[vr sb, vi (nt.toInt32), vi (cn.toInt32), vi ((cn + own_ss nt).toInt32)] [])
  refine g_aloadN Xh12 H d52_53 rfl rfl ?_
  have F18 := (F10.wr W12)
  have F19 := ((P8.keep K6 (own_ninC nso own_nin0)).other W12 (Or.inr (own_sn18 hw)))
  have F20 := ((P9.keep K6 (own_ninC nso own_nin0)).other W12 (Or.inr (own_sn19 hw)))
  have F21 := (u6_0.other W12 (Ne.symm nso))
  refine g_retA Xh12 H Bd.notSynchronized hP (by decide) Bd.returns rfl rfl rfl d52_54 ?_
  rw [e12]
  exact ⟨rfl, N15, K14, F18, F19, F20, Fw12, F21⟩
theorem own_pd28 : parseMethodDescriptor "(I)Ljava/lang/AbstractStringBuilder;" = some ⟨[.int], some (.object ASn)⟩ := by decide +kernel
theorem d51_0 : D37 0 (.aload_n 0) 1 := by decide +kernel
theorem d51_1 : D37 1 (.iload_n 1) 1 := by decide +kernel
theorem d51_2 : D37 2 (.invokespecial 53) 3 := by decide +kernel
theorem d51_5 : D37 5 (.pop) 1 := by decide +kernel
theorem d51_6 : D37 6 (.aload_n 0) 1 := by decide +kernel
theorem d51_7 : D37 7 (.areturn) 1 := by decide +kernel
theorem ef_51 (m : MethodId) (x0 : Addr) (x1 : Int32) : entryFrame m #[(.ref x0), (.int x1)] 2 = mkF m 0 #[.val (.ref x0), .val (.int x1)] [] := by first | (simp [entryFrame, mkF, argsToLocals, Value.category]; done) | rfl
def Q51 (Z : State) (sb : Addr) (ov : Addr) (ko : ClassId) (cn : Nat) (vl : List Int32) (nt : Nat) (cs : Int32) (o1 : Addr) (o2 : Addr) (k1d : ClassId) (k2d : ClassId) (h0 : Heap) (n0 : Nat) (v : Option Value) (h : Heap) (L : List Loc) : Prop := v = some (.ref sb) ∧ Fr n0 L ∧ Keep h0 h [sb, ov] ∧ Exa Z h sb SBn ∧ Fld Z h sb ASn VLn DBn (.ref ov) ∧ Fld Z h sb ASn CDn "B" (.int 0) ∧ Fld Z h sb ASn "count" "I" (.int ((cn + own_ss nt).toInt32)) ∧ Arv Z h ov ko .byte (16 : Int32) ((own_put vl cn (own_ds nt)).map Value.int) (.int 0)
theorem rm51 (l : Launch) (Z : State) (a0 : Array Value) (hw : HW a0 Z) (ws : List Jvm.Cond) (sb : Addr) (ov : Addr) (ko : ClassId) (cn : Nat) (vl : List Int32) (nt : Nat) (cs : Int32) (o1 : Addr) (o2 : Addr) (k1d : ClassId) (k2d : ClassId) (h0 : Heap) (n0 : Nat) (Z0 : n0 ≤ h0.size) (O0 : Old Z n0 h0) (P1 : Sta Z Z.heap STn CSn "Z" (.int cs)) (hcs : ¬ cs = (0 : Int32)) (P3 : Sta Z Z.heap INn "DigitOnes" DBn (.ref o1)) (P4 : Sta Z Z.heap INn "DigitTens" DBn (.ref o2)) (P5 : Arv Z Z.heap o1 k1d .byte (100 : Int32) (own_on.map Value.int) (.int 0)) (P6 : Arv Z Z.heap o2 k2d .byte (100 : Int32) (own_tn.map Value.int) (.int 0)) (P7 : Exa Z h0 sb SBn) (P8 : Fld Z h0 sb ASn VLn DBn (.ref ov)) (P9 : Fld Z h0 sb ASn CDn "B" (.int 0)) (P10 : Fld Z h0 sb ASn "count" "I" (.int (cn.toInt32))) (P11 : Arv Z h0 ov ko .byte (16 : Int32) (vl.map Value.int) (.int 0)) (hnt : nt < 100) (hcs16 : cn + own_ss nt ≤ 16) (hvl : vl.length = 16) (gov : n0 ≤ ov) (gsb : n0 ≤ sb) (nso : sb ≠ ov) :
    MFr l Z (⟨SBn, "append", "(I)Ljava/lang/StringBuilder;"⟩ : MethodName) jdk_67_method_15_code 2 (some (.object SBn)) ws (Rm 2 0 0 33) #[(.ref sb), (.int (nt.toInt32))] h0 (Q51 Z sb ov ko cn vl nt cs o1 o2 k1d k2d h0 n0) := by
  refine own_body (own := SBn) (plainFor_of_name own_pn6) rfl (fun m => ef_51 m sb (nt.toInt32)) ?_
  intro p e s m below meth c s₁ Bd H hml hZ hown X0 e0 P hP
  have hx := H.1
  have hby := H.2
  have N0 := Fr.nil n0
  have K0 : Keep h0 h0 [sb, ov] := Keep.refl _ _
  refine g_aloadN X0 H d51_0 rfl rfl ?_
  refine g_iloadN X0 H d51_1 rfl ?_
  show Go p.tables e below P s₁ (mkF m 2 #[vr sb, vi (nt.toInt32)] [(.int (nt.toInt32)), (.ref sb)])
  obtain ⟨_, _, ⟨T1, L1, k1, n1⟩, -, X1, ⟨Lc1, hQ1, l1, y1, z1⟩, st1⟩ := superBack X0 hx hZ (y := (⟨ASn, "append", "(I)Ljava/lang/AbstractStringBuilder;"⟩ : MethodName)) hown (own_g hw 304 rfl) (own_same (y := ({ cls := ASn, name := "append", desc := "(I)Ljava/lang/AbstractStringBuilder;" } : Jvm.MethodName)) (own_g hw 305 rfl) (own_g hw 279 rfl) rfl ⟨by decide, by decide⟩) (own_g hw 305 rfl) (own_g hw 270 rfl) (by decide) (backOf (W := 0) (rm52 l Z a0 hw [] sb ov ko cn vl nt cs o1 o2 k1d k2d h0 n0 Z0 O0 P1 hcs P3 P4 P5 P6 P7 P8 P9 P10 P11 hnt hcs16 hvl gov gsb nso) hZ (own_g hw 307 rfl) (own_g hw 239 rfl) (by decide) (by decide)) e0 (Ins.self P7) (g := (mkF m 2 #[vr sb, vi (nt.toInt32)] [(.int (nt.toInt32)), (.ref sb)])) rfl (by rw [hml]; rfl) (own_g hw 307 rfl) (argsL := [(.int (nt.toInt32))]) (rest := []) (lenOf own_pd28 rfl) rfl (by show 2 * 0 + _ ≤ _; exact Nat.le_of_eq rfl) (hb hby d51_2) (fun _ _ => ⟨rfl, e0, (by decide : 0 + 0 ≤ _), (by decide : 0 + 0 ≤ _)⟩)
  dsimp only [Pt.U, Pt.locs, Pt.cells, Pt.slots] at X1 l1 y1 z1 st1 hQ1
  subst l1 y1 z1
  obtain ⟨rfl, Nq1, K1, u1_0, u1_1, u1_2, u1_3, u1_4⟩ := hQ1
  obtain ⟨lc1, Xh1, N1⟩ := own_hide X1 (Fr.app N0 Nq1)
  clear X1
  refine Go.hop st1 ?_
  have Z2 := Nat.le_trans Z0 K1.1
  have K3 := K0.trans K1 (own_allC (Or.inl (List.mem_of_getElem? (i := 0) rfl)) (own_allC (Or.inl (List.mem_of_getElem? (i := 1) rfl)) own_all0))
  have O4 : Old Z n0 T1.heap := O0.keep K1 (own_allC gsb (own_allC gov own_all0))
  show Go p.tables e below P T1 (mkF m 5 #[vr sb, vi (nt.toInt32)] [(.ref sb)])
  refine gv (fun t k => XS.pop Xh1.here hx rfl (hb hby d51_5) rfl rfl k) ?_
  show Go p.tables e below P T1 (mkF m 6 #[vr sb, vi (nt.toInt32)] [])
  refine g_aloadN Xh1 H d51_6 rfl rfl ?_
  refine g_retA Xh1 H Bd.notSynchronized hP (by decide) Bd.returns rfl rfl rfl d51_7 ?_
  exact ⟨rfl, N1, K3, u1_0, u1_1, u1_2, u1_3, u1_4⟩
theorem d59_0 : D38 0 (.aload_n 0) 1 := by decide +kernel
theorem d59_1 : D38 1 (.getfield 15) 3 := by decide +kernel
theorem d59_4 : D38 4 (.areturn) 1 := by decide +kernel
theorem ef_59 (m : MethodId) (x0 : Addr) : entryFrame m #[(.ref x0)] 1 = mkF m 0 #[.val (.ref x0)] [] := by first | (simp [entryFrame, mkF, argsToLocals, Value.category]; done) | rfl
def Q59 (Z : State) (sb : Addr) (ov : Addr) (h0 : Heap) (n0 : Nat) (v : Option Value) (h : Heap) (L : List Loc) : Prop := v = some (.ref ov) ∧ Fr n0 L ∧ h = h0
theorem rm59 (l : Launch) (Z : State) (a0 : Array Value) (hw : HW a0 Z) (ws : List Jvm.Cond) (sb : Addr) (ov : Addr) (h0 : Heap) (n0 : Nat) (Z0 : n0 ≤ h0.size) (P0 : Fld Z h0 sb ASn VLn DBn (.ref ov)) :
    MFr l Z (⟨ASn, "getValue", "()[B"⟩ : MethodName) jdk_68_method_64_code 1 (some (.array .byte)) ws (Rm 0 0 0 0) #[(.ref sb)] h0 (Q59 Z sb ov h0 n0) := by
  refine own_body (own := ASn) (plainFor_of_name own_pn5) rfl (fun m => ef_59 m sb) ?_
  intro p e s m below meth c s₁ Bd H hml hZ hown X0 e0 P hP
  have N0 := Fr.nil n0
  refine g_aloadN X0 H d59_0 rfl rfl ?_
  refine g_getF X0 H hZ hown (host := "") (Or.inl (own_g hw 243 rfl)) Via.refl e0 P0 d59_1 ?_
  intro T1 X1 e1
  refine g_retA X1 H Bd.notSynchronized hP (by decide) Bd.returns rfl rfl rfl d59_4 ?_
  rw [e1]
  exact ⟨rfl, N0, rfl⟩
theorem d61_0 : D39 0 (.aload_n 0) 1 := by decide +kernel
theorem d61_1 : D39 1 (.getfield 79) 3 := by decide +kernel
theorem d61_4 : D39 4 (.ireturn) 1 := by decide +kernel
theorem ef_61 (m : MethodId) (x0 : Addr) : entryFrame m #[(.ref x0)] 1 = mkF m 0 #[.val (.ref x0)] [] := by first | (simp [entryFrame, mkF, argsToLocals, Value.category]; done) | rfl
def Q61 (Z : State) (sb : Addr) (nn : Int32) (h0 : Heap) (n0 : Nat) (v : Option Value) (h : Heap) (L : List Loc) : Prop := v = some (.int nn) ∧ Fr n0 L ∧ h = h0
theorem rm61 (l : Launch) (Z : State) (a0 : Array Value) (hw : HW a0 Z) (ws : List Jvm.Cond) (sb : Addr) (nn : Int32) (h0 : Heap) (n0 : Nat) (Z0 : n0 ≤ h0.size) (P0 : Fld Z h0 sb ASn "count" "I" (.int nn)) :
    MFr l Z (⟨ASn, "length", "()I"⟩ : MethodName) jdk_68_method_6_code 1 (some .int) ws (Rm 0 0 0 0) #[(.ref sb)] h0 (Q61 Z sb nn h0 n0) := by
  refine own_body (own := ASn) (plainFor_of_name own_pn5) rfl (fun m => ef_61 m sb) ?_
  intro p e s m below meth c s₁ Bd H hml hZ hown X0 e0 P hP
  have N0 := Fr.nil n0
  refine g_aloadN X0 H d61_0 rfl rfl ?_
  refine g_getF X0 H hZ hown (host := "") (Or.inl (own_g hw 274 rfl)) Via.refl e0 P0 d61_1 ?_
  intro T1 X1 e1
  refine g_retI X1 H Bd.notSynchronized hP (by decide) Bd.returns d61_4 (r := nn) rfl ?_
  rw [e1]
  exact ⟨rfl, N0, rfl⟩
theorem d60_0 : D40 0 (.aload_n 0) 1 := by decide +kernel
theorem d60_1 : D40 1 (.invokespecial 343) 3 := by decide +kernel
theorem d60_4 : D40 4 (.ireturn) 1 := by decide +kernel
theorem ef_60 (m : MethodId) (x0 : Addr) : entryFrame m #[(.ref x0)] 1 = mkF m 0 #[.val (.ref x0)] [] := by first | (simp [entryFrame, mkF, argsToLocals, Value.category]; done) | rfl
def Q60 (Z : State) (sb : Addr) (nn : Int32) (h0 : Heap) (n0 : Nat) (v : Option Value) (h : Heap) (L : List Loc) : Prop := v = some (.int nn) ∧ Fr n0 L ∧ h = h0
theorem rm60 (l : Launch) (Z : State) (a0 : Array Value) (hw : HW a0 Z) (ws : List Jvm.Cond) (sb : Addr) (nn : Int32) (h0 : Heap) (n0 : Nat) (Z0 : n0 ≤ h0.size) (P0 : Exa Z h0 sb SBn) (P1 : Fld Z h0 sb ASn "count" "I" (.int nn)) :
    MFr l Z (⟨SBn, "length", "()I"⟩ : MethodName) jdk_67_method_93_code 1 (some .int) ws (Rm 1 0 0 12) #[(.ref sb)] h0 (Q60 Z sb nn h0 n0) := by
  refine own_body (own := SBn) (plainFor_of_name own_pn6) rfl (fun m => ef_60 m sb) ?_
  intro p e s m below meth c s₁ Bd H hml hZ hown X0 e0 P hP
  have hx := H.1
  have hby := H.2
  have N0 := Fr.nil n0
  refine g_aloadN X0 H d60_0 rfl rfl ?_
  show Go p.tables e below P s₁ (mkF m 1 #[vr sb] [(.ref sb)])
  obtain ⟨_, _, ⟨T1, L1, k1, n1⟩, -, X1, ⟨Lc1, hQ1, l1, y1, z1⟩, st1⟩ := superBack X0 hx hZ (y := (⟨ASn, "length", "()I"⟩ : MethodName)) hown (own_g hw 346 rfl) (own_same (y := ({ cls := ASn, name := "length", desc := "()I" } : Jvm.MethodName)) (own_g hw 342 rfl) (own_g hw 279 rfl) rfl ⟨by decide, by decide⟩) (own_g hw 342 rfl) (own_g hw 270 rfl) (by decide) (backOf (W := 0) (rm61 l Z a0 hw [] sb nn h0 n0 Z0 P1) hZ (own_g hw 347 rfl) (own_g hw 239 rfl) (by decide) (by decide)) e0 (Ins.self P0) (g := (mkF m 1 #[vr sb] [(.ref sb)])) rfl (by rw [hml]; rfl) (own_g hw 347 rfl) (argsL := []) (rest := []) (lenOf own_pd17 rfl) rfl (by show 2 * 0 + _ ≤ _; exact Nat.le_of_eq rfl) (hb hby d60_1) (fun _ _ => ⟨rfl, e0, (by decide : 0 + 0 ≤ _), (by decide : 0 + 0 ≤ _)⟩)
  dsimp only [Pt.U, Pt.locs, Pt.cells, Pt.slots] at X1 l1 y1 z1 st1 hQ1
  subst l1 y1 z1
  obtain ⟨rfl, Nq1, hh1⟩ := hQ1
  obtain ⟨lc1, Xh1, N1⟩ := own_hide X1 (Fr.app N0 Nq1)
  clear X1
  refine Go.hop st1 ?_
  show Go p.tables e below P T1 (mkF m 4 #[vr sb] [(.int nn)])
  refine g_retI Xh1 H Bd.notSynchronized hP (by decide) Bd.returns d60_4 (r := nn) rfl ?_
  rw [hh1]
  exact ⟨rfl, N1, rfl⟩
theorem ef_23s (m : MethodId) (x0 : Int32) : entryFrame m #[(.int 0), (.int x0)] 2 = mkF m 0 #[.val (.int 0), .val (.int x0)] [] := by first | (simp [entryFrame, mkF, argsToLocals, Value.category]; done) | rfl
def Q23s (Z : State) (cn : Nat) (h0 : Heap) (n0 : Nat) (v : Option Value) (h : Heap) (L : List Loc) : Prop := v = none ∧ Fr n0 L ∧ h = h0
theorem rm23s (l : Launch) (Z : State) (a0 : Array Value) (hw : HW a0 Z) (ws : List Jvm.Cond) (cn : Nat) (h0 : Heap) (n0 : Nat) (Z0 : n0 ≤ h0.size) (hc16 : cn ≤ 16) :
    MFr l Z (⟨ARn, "checkLength", "(II)V"⟩ : MethodName) jdk_65_method_131_code 2 none ws (Rm 0 0 0 0) #[(.int 0), (.int (cn.toInt32))] h0 (Q23s Z cn h0 n0) := by
  refine own_body (own := ARn) (plainFor_of_name own_pn4) rfl (fun m => ef_23s m (cn.toInt32)) ?_
  intro p e s m below meth c s₁ Bd H hml hZ hown X0 e0 P hP
  have N0 := Fr.nil n0
  refine g_iloadN X0 H d23_0 rfl ?_
  refine g_iloadN X0 H d23_1 rfl ?_
  refine g_icmpYes X0 H d23_2 37 (flt (own_nneg (by omega))).2.1 (by decide) ?_
  refine g_retV X0 H Bd.notSynchronized hP (by decide) Bd.returns d23_37 ?_
  rw [e0]
  exact ⟨rfl, N0, rfl⟩
theorem own_cong {Z : State} {h : Heap} {a : Addr} {k : ClassId} {ty : FieldType} {z : Int32} {vs vs' : List Value} {dv : Value} (F : Arv Z h a k ty z vs dv) (q : ∀ i, i < z.toNatClampNeg → vs'.getD i dv = vs.getD i dv) : Arv Z h a k ty z vs' dv := by
  obtain ⟨c, A, r1, r2, r3, H, G⟩ := F
  exact ⟨c, A, r1, r2, r3, fun i hi => (H i hi).trans (congrArg some (q i (r2 ▸ hi)).symm), fun i hi => by rw [q i (r2 ▸ hi)]; exact G i hi⟩
theorem own_cp (vs vd : List Value) (dv : Value) (n r i : Nat) (hi : i < n) : vs.getD i dv = ((vd.take 0 ++ (List.range n).map (fun i => vs.getD (0 + i) dv)) ++ vd.drop r).getD i dv := by
  rw [List.take_zero, List.nil_append, List.getD_eq_getElem?_getD (l := (List.range n).map _ ++ _), List.getElem?_append_left (by simpa using hi)]
  simp [hi]
theorem own_tkg (vl : List Int32) (n i : Nat) (d : Value) (hi : i < n) : ((vl.take n).map Value.int).getD i d = (vl.map Value.int).getD i d := by
  simp [List.getD_eq_getElem?_getD, List.getElem?_map, List.getElem?_take, hi]
theorem own_mn16 {n : Nat} (h : n ≤ 16) : own_mn ((16 : Int32) - (0 : Int32)) (n.toInt32) = n.toInt32 := by
  unfold own_mn; rw [show (16 : Int32) - (0 : Int32) = (16 : Nat).toInt32 from by decide]; split
  · rfl
  · rename_i q; rw [own_ltN (by omega) (by omega)] at q; congr 1; omega
theorem ef_22s (m : MethodId) (x0 : Addr) (x1 : Int32) : entryFrame m #[(.ref x0), (.int 0), (.int x1)] 5 = mkF m 0 #[.val (.ref x0), .val (.int 0), .val (.int x1), .unset, .unset] [] := by first | (simp [entryFrame, mkF, argsToLocals, Value.category]; done) | rfl
def Q22s (Z : State) (ov : Addr) (ko : ClassId) (cn : Nat) (vl : List Int32) (h0 : Heap) (n0 : Nat) (v : Option Value) (h : Heap) (L : List Loc) : Prop := ∃ (oc : Addr) (kc : ClassId), v = some (.ref oc) ∧ Fr n0 L ∧ Keep h0 h [] ∧ h0.size ≤ oc ∧ Arv Z h oc kc .byte (cn.toInt32) ((vl.take cn).map Value.int) (.int 0)
theorem rm22s (l : Launch) (Z : State) (a0 : Array Value) (hw : HW a0 Z) (ws : List Jvm.Cond) (ov : Addr) (ko : ClassId) (cn : Nat) (vl : List Int32) (h0 : Heap) (n0 : Nat) (Z0 : n0 ≤ h0.size) (P0 : Arv Z h0 ov ko .byte (16 : Int32) (vl.map Value.int) (.int 0)) (P1 : Exa Z h0 ov DBn) (hc16 : cn ≤ 16) (hvl : vl.length = 16) :
    MFr l Z (⟨ARn, "copyOfRangeByte", "([BII)[B"⟩ : MethodName) jdk_65_method_133_code 5 (some (.array .byte)) ws (Rm 1 1 16 18) #[(.ref ov), (.int 0), (.int (cn.toInt32))] h0 (Q22s Z ov ko cn vl h0 n0) := by
  refine own_body (own := ARn) (plainFor_of_name own_pn4) rfl (fun m => ef_22s m ov (cn.toInt32)) ?_
  intro p e s m below meth c s₁ Bd H hml hZ hown X0 e0 P hP
  have hx := H.1
  have hby := H.2
  have N0 := Fr.nil n0
  have K0 : Keep h0 h0 [] := Keep.refl _ _
  refine g_iloadN X0 H d22_0 rfl ?_
  refine g_iloadN X0 H d22_1 rfl ?_
  refine g_cS X0 H hZ hml rfl hown e0 (rm23s l Z a0 hw [] cn h0 n0 Z0 hc16) (own_g hw 120 rfl) (own_g hw 121 rfl) (own_g hw 19 rfl) (own_g hw 122 rfl) (by decide) own_pd5 d22_2 rfl rfl rfl (W := 0) rfl (by decide) ?_
  intro _ T1 Lc1 X1 hQ1
  obtain ⟨rfl, Nq1, hh1⟩ := hQ1
  obtain ⟨lc1, Xh1, N1⟩ := own_hide X1 (Fr.app N0 Nq1)
  clear X1
  refine g_iloadN Xh1 H d22_5 rfl ?_
  refine g_iloadN Xh1 H d22_6 rfl ?_
  refine g_isub Xh1 H d22_7 ?_
  show Go p.tables e below P T1 (mkF m 8 #[vr ov, vi 0, vi (cn.toInt32), vu, vu] [(.int ((cn.toInt32) - (0 : Int32)))])
  rw [Int32.sub_zero]
  refine g_istoreN Xh1 H d22_8 #[vr ov, vi 0, vi (cn.toInt32), vi (cn.toInt32), vu] rfl ?_
  refine g_iloadN Xh1 H d22_9 rfl ?_
  obtain ⟨T2, h2, k2, X2, e2, E2, A2, B2, st2⟩ := newPE Xh1 hx hZ (own_g hw 1 rfl) hh1 (g := (mkF m 10 #[vr ov, vi 0, vi (cn.toInt32), vi (cn.toInt32), vu] [(.int (cn.toInt32))])) rfl (hb hby d22_10) rfl (own_nneg (by omega)) (cap := 16) (by rw [own_clamp (by omega)]; exact hc16) (by decide) (by decide) (by decide) (ad := DBn) (by decide)
  obtain ⟨b2, g2⟩ : ∃ z, z = h0.size := ⟨_, rfl⟩
  rw [← g2] at A2 B2 st2
  refine gv st2 ?_
  have g3 := Nat.le_trans Z0 (Nat.le_of_eq g2.symm)
  have sz4 := Nat.le_trans K0.1 (Nat.le_of_eq g2.symm)
  have Z5 := Nat.le_trans Z0 E2.1
  have K6 := K0.ext E2
  have V2 : Arv Z h2 b2 k2 .byte (cn.toInt32) (List.replicate 16 (.int 0)) (.int 0) := (Arv.new A2 (own_nneg (by omega))).pad (pad_rep [] (.int 0) 16)
  show Go p.tables e below P T2 (mkF m 12 #[vr ov, vi 0, vi (cn.toInt32), vi (cn.toInt32), vu] [(.ref b2)])
  refine g_astore X2 H d22_12 rfl #[vr ov, vi 0, vi (cn.toInt32), vi (cn.toInt32), vr b2] rfl ?_
  refine g_aloadN X2 H d22_14 rfl rfl ?_
  refine g_iloadN X2 H d22_15 rfl ?_
  refine g_aload X2 H d22_16 rfl rfl ?_
  refine g_iconst X2 H d22_18 0 rfl ?_
  refine g_aloadN X2 H d22_19 rfl rfl ?_
  have F7 := (P0.ext E2)
  refine g_len X2 H hZ e2 F7 d22_20 ?_
  refine g_iloadN X2 H d22_21 rfl ?_
  refine g_isub X2 H d22_22 ?_
  refine g_iloadN X2 H d22_23 rfl ?_
  refine g_cS X2 H hZ hml rfl hown e2 (rm24 l Z a0 hw [] ((16 : Int32) - (0 : Int32)) (cn.toInt32) h2 n0 Z5 ) (own_g hw 123 rfl) (own_g hw 124 rfl) (own_g hw 44 rfl) (own_g hw 125 rfl) (by decide) own_pd6 d22_24 rfl rfl rfl (W := 4) rfl (by decide) ?_
  intro _ T9 Lc9 X9 hQ9
  obtain ⟨rfl, Nq9, hh9⟩ := hQ9
  obtain ⟨lc9, Xh9, N9⟩ := own_hide X9 (Fr.app N1 Nq9)
  clear X9
  show Go p.tables e below P T9 (mkF m 27 #[vr ov, vi 0, vi (cn.toInt32), vi (cn.toInt32), vr b2] [(.int (own_mn ((16 : Int32) - (0 : Int32)) (cn.toInt32))), (.int 0), (.ref b2), (.int 0), (.ref ov)])
  rw [own_mn16 hc16]
  have hcc : cn < 2147483648 := by omega
  obtain ⟨T10, h10, L10, X10, e10, N10, K10, V10, st10⟩ := cpA Xh9 hx hZ hown (own_g hw 126 rfl) (own_g hw 129 rfl) (own_g hw 127 rfl) (own_g hw 128 rfl) hh9 F7 V2 (Or.inl ⟨rfl, rfl⟩) (sp := (0 : Int32)) (dp := (0 : Int32)) (nn := (cn.toInt32)) (by decide) (by decide) (own_nneg hcc) (by rw [own_clamp hcc]; show 0 + cn ≤ 16; omega) (by rw [own_clamp hcc]; show 0 + cn ≤ cn; omega) rfl (by rw [own_clamp hcc]; show 0 + cn ≤ (List.replicate 16 _).length; rw [List.length_replicate]; omega) N9 g3 (g := (mkF m 27 #[vr ov, vi 0, vi (cn.toInt32), vi (cn.toInt32), vr b2] [(.int (cn.toInt32)), (.int 0), (.ref b2), (.int 0), (.ref ov)])) rfl (by rw [hml]; rfl) rfl (hb hby d22_27) (by decide) (W := 0) (by show 2 * 0 + _ ≤ _; exact Nat.le_of_eq rfl) (by decide)
  subst e10
  have Vc10 : Arv Z T10.heap b2 k2 .byte (cn.toInt32) ((vl.take cn).map Value.int) (.int 0) := own_cong V10 (fun i hi => (own_tkg vl cn i _ (by rw [own_clamp hcc] at hi; exact hi)).trans (own_cp _ _ _ _ _ i hi))
  refine gv st10 ?_
  have Z11 := Nat.le_trans Z5 K10.1
  have K12 := K6.trans K10 (own_allC (Or.inr sz4) own_all0)
  show Go p.tables e below P T10 (mkF m 30 #[vr ov, vi 0, vi (cn.toInt32), vi (cn.toInt32), vr b2] [])
  refine g_aload X10 H d22_30 rfl rfl ?_
  refine g_retA X10 H Bd.notSynchronized hP (by decide) Bd.returns rfl rfl rfl d22_32 ?_
  exact ⟨b2, k2, rfl, N10, K12, sz4, Vc10⟩
theorem ef_5s (m : MethodId) (x0 : Addr) (x1 : Int32) : entryFrame m #[(.ref x0), (.int 0), (.int x1)] 3 = mkF m 0 #[.val (.ref x0), .val (.int 0), .val (.int x1)] [] := by first | (simp [entryFrame, mkF, argsToLocals, Value.category]; done) | rfl
def Q5s (Z : State) (ov : Addr) (ko : ClassId) (cn : Nat) (vl : List Int32) (h0 : Heap) (n0 : Nat) (v : Option Value) (h : Heap) (L : List Loc) : Prop := ∃ (oc : Addr) (kc : ClassId), v = some (.ref oc) ∧ Fr n0 L ∧ Keep h0 h [] ∧ h0.size ≤ oc ∧ Arv Z h oc kc .byte (cn.toInt32) ((vl.take cn).map Value.int) (.int 0)
theorem rm5s (l : Launch) (Z : State) (a0 : Array Value) (hw : HW a0 Z) (ws : List Jvm.Cond) (ov : Addr) (ko : ClassId) (cn : Nat) (vl : List Int32) (h0 : Heap) (n0 : Nat) (Z0 : n0 ≤ h0.size) (P0 : Arv Z h0 ov ko .byte (16 : Int32) (vl.map Value.int) (.int 0)) (P1 : Exa Z h0 ov DBn) (hc16 : cn ≤ 16) (hvl : vl.length = 16) :
    MFr l Z (⟨ARn, "copyOfRange", "([BII)[B"⟩ : MethodName) jdk_65_method_132_code 3 (some (.array .byte)) ws (Rm 2 1 16 34) #[(.ref ov), (.int 0), (.int (cn.toInt32))] h0 (Q5s Z ov ko cn vl h0 n0) := by
  refine own_body (own := ARn) (plainFor_of_name own_pn4) rfl (fun m => ef_5s m ov (cn.toInt32)) ?_
  intro p e s m below meth c s₁ Bd H hml hZ hown X0 e0 P hP
  have hx := H.1
  have hby := H.2
  have N0 := Fr.nil n0
  have K0 : Keep h0 h0 [] := Keep.refl _ _
  refine g_iloadN X0 H d5_0 rfl ?_
  refine g_ifNo X0 H d5_1 ((if0 _ _).trans (teq (rfl : (0 : Int32) = (0 : Int32))).2) ?_
  refine g_iloadN X0 H d5_4 rfl ?_
  refine g_aloadN X0 H d5_5 rfl rfl ?_
  refine g_len X0 H hZ e0 P0 d5_6 ?_
  by_cases hc2 : (cn.toInt32) = (16 : Int32)
  · refine g_icmpYes X0 H d5_7 17 (teq hc2).1 (by decide) ?_
    refine g_aloadN X0 H d5_17 rfl rfl ?_
    obtain ⟨T3, h3, X3, e3, E3, V3, B3, st3⟩ := cloneH X0 hx hZ hown (own_g hw 21 rfl) (own_g hw 22 rfl) (own_g hw 26 rfl) (own_g hw 24 rfl) (own_g hw 25 rfl) (own_g hw 27 rfl) e0 (Arv.arh P0) P1 (g := (mkF m 18 #[vr ov, vi 0, vi (cn.toInt32)] [(.ref ov)])) rfl (by rw [hml]; rfl) rfl (hb hby d5_18) (by decide) (W := 0) (by show 2 * 0 + _ ≤ _; exact Nat.le_of_eq rfl) (by decide) (cap := 16) (by decide) (by decide) (by decide)
    obtain ⟨b3, g3⟩ : ∃ z, z = h0.size := ⟨_, rfl⟩
    rw [← g3] at V3 B3 st3
    refine gv st3 ?_
    have g4 := Nat.le_trans Z0 (Nat.le_of_eq g3.symm)
    have sz5 := Nat.le_trans K0.1 (Nat.le_of_eq g3.symm)
    have Z6 := Nat.le_trans Z0 E3.1
    have K7 := K0.ext E3
    have Vc3 : Arv Z h3 b3 ko .byte (16 : Int32) (vl.map Value.int) (.int 0) := V3
    show Go p.tables e below P T3 (mkF m 21 #[vr ov, vi 0, vi (cn.toInt32)] [(.ref b3)])
    obtain ⟨T8, X8, e8, st8⟩ := castY X3 hx hZ hown (own_g hw 28 rfl) e3 (Ins.self B3) (g := (mkF m 21 #[vr ov, vi 0, vi (cn.toInt32)] [(.ref b3)])) rfl rfl (hb hby d5_21)
    refine gv st8 ?_
    show Go p.tables e below P T8 (mkF m 24 #[vr ov, vi 0, vi (cn.toInt32)] [(.ref b3)])
    have h16 : cn = 16 := by have q := congrArg Int32.toInt hc2; rw [own_nat (by omega)] at q; have e1 : (16 : Int32).toInt = 16 := rfl; omega
    refine g_retA X8 H Bd.notSynchronized hP (by decide) Bd.returns rfl rfl rfl d5_24 ?_
    rw [e8]
    exact ⟨b3, ko, rfl, N0, K7, sz5, (by rw [h16, show (vl.take 16) = vl from List.take_of_length_le (by omega)]; exact Vc3)⟩
  · refine g_icmpNo X0 H d5_7 (feq hc2).1 ?_
    refine g_aloadN X0 H d5_10 rfl rfl ?_
    refine g_iloadN X0 H d5_11 rfl ?_
    refine g_iloadN X0 H d5_12 rfl ?_
    refine g_cS X0 H hZ hml rfl hown e0 (rm22s l Z a0 hw [] ov ko cn vl h0 n0 Z0 P0 P1 hc16 hvl) (own_g hw 117 rfl) (own_g hw 118 rfl) (own_g hw 19 rfl) (own_g hw 119 rfl) (by decide) own_pd7 d5_13 rfl rfl rfl (W := 0) rfl (by decide) ?_
    intro _ T10 Lc10 X10 hQ10
    obtain ⟨oc_10, kc_10, rfl, Nq10, K10, fr10_oc, u10_0⟩ := hQ10
    obtain ⟨lc10, Xh10, N10⟩ := own_hide X10 (Fr.app N0 Nq10)
    clear X10
    have g11 := Nat.le_trans Z0 fr10_oc
    have sz12 := Nat.le_trans K0.1 fr10_oc
    have Z13 := Nat.le_trans Z0 K10.1
    have K14 := K0.trans K10 own_all0
    refine g_retA Xh10 H Bd.notSynchronized hP (by decide) Bd.returns rfl rfl rfl d5_16 ?_
    exact ⟨oc_10, kc_10, rfl, N10, K14, sz12, u10_0⟩
theorem own_pd29 : parseMethodDescriptor "()[B" = some ⟨[], some (.array .byte)⟩ := by decide +kernel
theorem d58_0 : D41 0 (.aload_n 0) 1 := by decide +kernel
theorem d58_1 : D41 1 (.invokespecial 1) 3 := by decide +kernel
theorem d58_4 : D41 4 (.aload_n 1) 1 := by decide +kernel
theorem d58_5 : D41 5 (.invokevirtual 552) 3 := by decide +kernel
theorem d58_8 : D41 8 (.astore_n 3) 1 := by decide +kernel
theorem d58_9 : D41 9 (.aload_n 1) 1 := by decide +kernel
theorem d58_10 : D41 10 (.invokevirtual 549) 3 := by decide +kernel
theorem d58_13 : D41 13 (.istore 4) 2 := by decide +kernel
theorem d58_15 : D41 15 (.aload_n 1) 1 := by decide +kernel
theorem d58_16 : D41 16 (.invokevirtual 1047) 3 := by decide +kernel
theorem d58_19 : D41 19 (.ifCond .eq 22) 3 := by decide +kernel
theorem d58_22 : D41 22 (.aload_n 0) 1 := by decide +kernel
theorem d58_23 : D41 23 (.iconst 0) 1 := by decide +kernel
theorem d58_24 : D41 24 (.putfield 15) 3 := by decide +kernel
theorem d58_27 : D41 27 (.aload_n 0) 1 := by decide +kernel
theorem d58_28 : D41 28 (.aload_n 3) 1 := by decide +kernel
theorem d58_29 : D41 29 (.iconst 0) 1 := by decide +kernel
theorem d58_30 : D41 30 (.iload 4) 2 := by decide +kernel
theorem d58_32 : D41 32 (.invokestatic 54) 3 := by decide +kernel
theorem d58_35 : D41 35 (.putfield 9) 3 := by decide +kernel
theorem d58_38 : D41 38 (.goto 59) 3 := by decide +kernel
theorem d58_97 : D41 97 (.return_) 1 := by decide +kernel
theorem ef_58 (m : MethodId) (x0 : Addr) (x1 : Addr) : entryFrame m #[(.ref x0), (.ref x1), .null] 5 = mkF m 0 #[.val (.ref x0), .val (.ref x1), .val .null, .unset, .unset] [] := by first | (simp [entryFrame, mkF, argsToLocals, Value.category]; done) | rfl
def Q58 (Z : State) (so : Addr) (sb : Addr) (ov : Addr) (ko : ClassId) (cn : Nat) (vl : List Int32) (cs : Int32) (h0 : Heap) (n0 : Nat) (v : Option Value) (h : Heap) (L : List Loc) : Prop := ∃ (oc : Addr) (kc : ClassId), v = none ∧ Fr n0 L ∧ Keep h0 h [so] ∧ h0.size ≤ oc ∧ Exa Z h so STn ∧ Fld Z h so STn VLn DBn (.ref oc) ∧ Fld Z h so STn CDn "B" (.int 0) ∧ Arv Z h oc kc .byte (cn.toInt32) ((vl.take cn).map Value.int) (.int 0)
theorem rm58 (l : Launch) (Z : State) (a0 : Array Value) (hw : HW a0 Z) (ws : List Jvm.Cond) (so : Addr) (sb : Addr) (ov : Addr) (ko : ClassId) (cn : Nat) (vl : List Int32) (cs : Int32) (h0 : Heap) (n0 : Nat) (Z0 : n0 ≤ h0.size) (O0 : Old Z n0 h0) (P1 : Sta Z Z.heap STn CSn "Z" (.int cs)) (hcs : ¬ cs = (0 : Int32)) (P3 : Exa Z h0 sb SBn) (P4 : Fld Z h0 sb ASn VLn DBn (.ref ov)) (P5 : Fld Z h0 sb ASn CDn "B" (.int 0)) (P6 : Fld Z h0 sb ASn "count" "I" (.int (cn.toInt32))) (P7 : Arv Z h0 ov ko .byte (16 : Int32) (vl.map Value.int) (.int 0)) (P8 : Exa Z h0 ov DBn) (hc16 : cn ≤ 16) (hvl : vl.length = 16) (P11 : Exa Z h0 so STn) (P12 : Fld Z h0 so STn VLn DBn .null) (P13 : Fld Z h0 so STn CDn "B" (.int 0)) (gso : n0 ≤ so) (nsx : so ≠ sb) (nsv : so ≠ ov) :
    MFr l Z (⟨STn, "<init>", "(Ljava/lang/AbstractStringBuilder;Ljava/lang/Void;)V"⟩ : MethodName) jdk_42_method_150_code 5 none ws (Rm 3 1 16 49) #[(.ref so), (.ref sb), .null] h0 (Q58 Z so sb ov ko cn vl cs h0 n0) := by
  refine own_body (own := STn) (plainFor_of_name own_pn3) rfl (fun m => ef_58 m so sb) ?_
  intro p e s m below meth c s₁ Bd H hml hZ hown X0 e0 P hP
  have hx := H.1
  have hby := H.2
  have hnm := (name_of_methodNamed Bd.named Bd.method).1
  have N0 := Fr.nil n0
  have K0 : Keep h0 h0 [so] := Keep.refl _ _
  refine g_aloadN X0 H d58_0 rfl rfl ?_
  obtain ⟨T1, X1, e1, st1⟩ := initO X0 hx hZ hown (own_g hw 110 rfl) (own_g hw 52 rfl) (own_g hw 53 rfl) e0 (g := (mkF m 1 #[vr so, vr sb, .val .null, vu, vu] [(.ref so)])) rfl (by rw [hml]; rfl) rfl (hb hby d58_1) (by decide) (W := 0) (by show 2 * 0 + _ ≤ _; exact Nat.le_of_eq rfl) (by decide)
  refine gv st1 ?_
  show Go p.tables e below P T1 (mkF m 4 #[vr so, vr sb, .val .null, vu, vu] [])
  refine g_aloadN X1 H d58_4 rfl rfl ?_
  refine g_cV X1 H hZ hml rfl hown e1 P3 (rm59 l Z a0 hw [] sb ov h0 n0 Z0 P4) (own_g hw 335 rfl) (own_g hw 336 rfl) (notFace_of_selects (args := #[]) (mvT hZ (own_g hw 338 rfl))) (own_g hw 338 rfl) (own_g hw 337 rfl) (own_g hw 239 rfl) (own_g hw 339 rfl) (by decide) own_pd29 d58_5 rfl rfl rfl (W := 0) rfl (by decide) ?_
  intro _ T2 Lc2 X2 hQ2
  obtain ⟨rfl, Nq2, hh2⟩ := hQ2
  obtain ⟨lc2, Xh2, N2⟩ := own_hide X2 (Fr.app N0 Nq2)
  clear X2
  refine g_astoreN Xh2 H d58_8 rfl #[vr so, vr sb, .val .null, vr ov, vu] rfl ?_
  refine g_aloadN Xh2 H d58_9 rfl rfl ?_
  refine g_cV Xh2 H hZ hml rfl hown hh2 P3 (rm60 l Z a0 hw [] sb (cn.toInt32) h0 n0 Z0 P3 P6) (own_g hw 340 rfl) (own_g hw 341 rfl) (own_nfc (args := #[]) (mvT hZ (own_g hw 279 rfl)) rfl) (own_g hw 343 rfl) (own_g hw 344 rfl) (own_g hw 231 rfl) (own_g hw 345 rfl) (by decide) own_pd17 d58_10 rfl rfl rfl (W := 0) rfl (by decide) ?_
  intro _ T3 Lc3 X3 hQ3
  obtain ⟨rfl, Nq3, hh3⟩ := hQ3
  obtain ⟨lc3, Xh3, N3⟩ := own_hide X3 (Fr.app N2 Nq3)
  clear X3
  refine g_istore Xh3 H d58_13 #[vr so, vr sb, .val .null, vr ov, vi (cn.toInt32)] rfl ?_
  refine g_aloadN Xh3 H d58_15 rfl rfl ?_
  refine g_cV Xh3 H hZ hml rfl hown hh3 P3 (rm54 l Z a0 hw [] sb cs h0 n0 Z0 O0 P1 hcs P5) (own_g hw 348 rfl) (own_g hw 313 rfl) (notFace_of_selects (args := #[]) (mvT hZ (own_g hw 315 rfl))) (own_g hw 315 rfl) (own_g hw 314 rfl) (own_g hw 239 rfl) (own_g hw 316 rfl) (by decide) own_pd26 d58_16 rfl rfl rfl (W := 0) rfl (by decide) ?_
  intro _ T4 Lc4 X4 hQ4
  obtain ⟨rfl, Nq4, hh4⟩ := hQ4
  obtain ⟨lc4, Xh4, N4⟩ := own_hide X4 (Fr.app N3 Nq4)
  clear X4
  refine g_ifNo Xh4 H d58_19 ((if0 _ _).trans (feq (by decide : ¬ ((1 : Int32) = (0 : Int32)))).1) ?_
  refine g_aloadN Xh4 H d58_22 rfl rfl ?_
  refine g_iconst Xh4 H d58_23 0 rfl ?_
  obtain ⟨T5, h5, X5, e5, W5, st5⟩ := putF Xh4 hx hZ hown (host := "") (Or.inl (own_g hw 132 rfl)) Via.refl hh4 P13 P11 (Or.inr ⟨(own_g hw 133 rfl), rfl, hnm⟩) (own_g hw 84 rfl) (ty := .byte) (by decide) rfl rfl (g := (mkF m 24 #[vr so, vr sb, .val .null, vr ov, vi (cn.toInt32)] [(.int 0), (.ref so)])) rfl rfl (hb hby d58_24)
  refine gv st5 ?_
  have Z6 := Nat.le_trans Z0 (Nat.le_of_eq W5.size.symm)
  have K7 := K0.wr W5 (Or.inl (List.mem_of_getElem? (i := 0) rfl))
  obtain ⟨lc5, Xh5, N8⟩ := own_hide X5 (Fr.snoc X5 N4 gso)
  clear X5
  have O9 : Old Z n0 h5 := O0.wr W5 gso
  have Fw5 := P13.same W5
  show Go p.tables e below P T5 (mkF m 27 #[vr so, vr sb, .val .null, vr ov, vi (cn.toInt32)] [])
  refine g_aloadN Xh5 H d58_27 rfl rfl ?_
  refine g_aloadN Xh5 H d58_28 rfl rfl ?_
  refine g_iconst Xh5 H d58_29 0 rfl ?_
  refine g_iload Xh5 H d58_30 rfl ?_
  have F10 := (P7.other W5 (Ne.symm nsv))
  have F11 := (P8.wr W5)
  refine g_cS Xh5 H hZ hml rfl hown e5 (rm5s l Z a0 hw [] ov ko cn vl h5 n0 Z6 F10 F11 hc16 hvl) (own_g hw 116 rfl) (own_g hw 18 rfl) (own_g hw 19 rfl) (own_g hw 20 rfl) (by decide) own_pd7 d58_32 rfl rfl rfl (W := 1) rfl (by decide) ?_
  intro _ T12 Lc12 X12 hQ12
  obtain ⟨oc_12, kc_12, rfl, Nq12, K12, fr12_oc, u12_0⟩ := hQ12
  obtain ⟨lc12, Xh12, N12⟩ := own_hide X12 (Fr.app N8 Nq12)
  clear X12
  have g13 := Nat.le_trans Z6 fr12_oc
  have sz14 := Nat.le_trans K7.1 fr12_oc
  have Z15 := Nat.le_trans Z6 K12.1
  have K16 := K7.trans K12 own_all0
  have O17 : Old Z n0 T12.heap := O9.keep K12 own_all0
  have F18 := ((P11.wr W5).keep K12)
  have F19 := ((P12.other W5 (Or.inr (own_sn13 hw))).keep K12 own_nin0)
  obtain ⟨T20, h20, X20, e20, W20, st20⟩ := putF Xh12 hx hZ hown (host := "") (Or.inl (own_g hw 130 rfl)) Via.refl rfl F19 F18 (Or.inr ⟨(own_g hw 131 rfl), rfl, hnm⟩) (own_g hw 84 rfl) (ty := (.array .byte)) (by decide) rfl rfl (g := (mkF m 35 #[vr so, vr sb, .val .null, vr ov, vi (cn.toInt32)] [(.ref oc_12), (.ref so)])) rfl rfl (hb hby d58_35)
  refine gv st20 ?_
  have Z21 := Nat.le_trans Z15 (Nat.le_of_eq W20.size.symm)
  have K22 := K16.wr W20 (Or.inl (List.mem_of_getElem? (i := 0) rfl))
  obtain ⟨lc20, Xh20, N23⟩ := own_hide X20 (Fr.snoc X20 N12 gso)
  clear X20
  have O24 : Old Z n0 h20 := O17.wr W20 gso
  have Fw20 := F19.same W20
  show Go p.tables e below P T20 (mkF m 38 #[vr so, vr sb, .val .null, vr ov, vi (cn.toInt32)] [])
  refine g_goto Xh20 H d58_38 97 (by decide) ?_
  have F26 := (F18.wr W20)
  have F27 := ((Fw5.keep K12 own_nin0).other W20 (Or.inr (own_sn12 hw)))
  have F28 := (u12_0.other W20 (Ne.symm (Nat.ne_of_lt (Nat.lt_of_lt_of_le P11.lt sz14))))
  refine g_retV Xh20 H Bd.notSynchronized hP (by decide) Bd.returns d58_97 ?_
  rw [e20]
  exact ⟨oc_12, kc_12, rfl, N23, K22, sz14, F26, Fw20, F27, F28⟩
theorem own_pd30 : parseMethodDescriptor "(Ljava/lang/AbstractStringBuilder;Ljava/lang/Void;)V" = some ⟨[(.object ASn), (.object "java/lang/Void")], none⟩ := by decide +kernel
theorem d57_0 : D42 0 (.aload_n 0) 1 := by decide +kernel
theorem d57_1 : D42 1 (.aload_n 1) 1 := by decide +kernel
theorem d57_2 : D42 2 (.aconst_null) 1 := by decide +kernel
theorem d57_3 : D42 3 (.invokespecial 489) 3 := by decide +kernel
theorem d57_6 : D42 6 (.return_) 1 := by decide +kernel
theorem ef_57 (m : MethodId) (x0 : Addr) (x1 : Addr) : entryFrame m #[(.ref x0), (.ref x1)] 2 = mkF m 0 #[.val (.ref x0), .val (.ref x1)] [] := by first | (simp [entryFrame, mkF, argsToLocals, Value.category]; done) | rfl
def Q57 (Z : State) (so : Addr) (sb : Addr) (ov : Addr) (ko : ClassId) (cn : Nat) (vl : List Int32) (cs : Int32) (h0 : Heap) (n0 : Nat) (v : Option Value) (h : Heap) (L : List Loc) : Prop := ∃ (oc : Addr) (kc : ClassId), v = none ∧ Fr n0 L ∧ Keep h0 h [so] ∧ h0.size ≤ oc ∧ Exa Z h so STn ∧ Fld Z h so STn VLn DBn (.ref oc) ∧ Fld Z h so STn CDn "B" (.int 0) ∧ Arv Z h oc kc .byte (cn.toInt32) ((vl.take cn).map Value.int) (.int 0)
theorem rm57 (l : Launch) (Z : State) (a0 : Array Value) (hw : HW a0 Z) (ws : List Jvm.Cond) (so : Addr) (sb : Addr) (ov : Addr) (ko : ClassId) (cn : Nat) (vl : List Int32) (cs : Int32) (h0 : Heap) (n0 : Nat) (Z0 : n0 ≤ h0.size) (O0 : Old Z n0 h0) (P1 : Sta Z Z.heap STn CSn "Z" (.int cs)) (hcs : ¬ cs = (0 : Int32)) (P3 : Exa Z h0 sb SBn) (P4 : Fld Z h0 sb ASn VLn DBn (.ref ov)) (P5 : Fld Z h0 sb ASn CDn "B" (.int 0)) (P6 : Fld Z h0 sb ASn "count" "I" (.int (cn.toInt32))) (P7 : Arv Z h0 ov ko .byte (16 : Int32) (vl.map Value.int) (.int 0)) (P8 : Exa Z h0 ov DBn) (hc16 : cn ≤ 16) (hvl : vl.length = 16) (P11 : Exa Z h0 so STn) (P12 : Fld Z h0 so STn VLn DBn .null) (P13 : Fld Z h0 so STn CDn "B" (.int 0)) (gso : n0 ≤ so) (nsx : so ≠ sb) (nsv : so ≠ ov) :
    MFr l Z (⟨STn, "<init>", "(Ljava/lang/StringBuilder;)V"⟩ : MethodName) jdk_42_method_53_code 2 none ws (Rm 4 1 16 65) #[(.ref so), (.ref sb)] h0 (Q57 Z so sb ov ko cn vl cs h0 n0) := by
  refine own_body (own := STn) (plainFor_of_name own_pn3) rfl (fun m => ef_57 m so sb) ?_
  intro p e s m below meth c s₁ Bd H hml hZ hown X0 e0 P hP
  have hx := H.1
  have hby := H.2
  have N0 := Fr.nil n0
  have K0 : Keep h0 h0 [so] := Keep.refl _ _
  refine g_aloadN X0 H d57_0 rfl rfl ?_
  refine g_aloadN X0 H d57_1 rfl rfl ?_
  show Go p.tables e below P s₁ (mkF m 2 #[vr so, vr sb] [(.ref sb), (.ref so)])
  refine gv (fun t k => XS.aconstNull X0.here hx rfl (hb hby d57_2) k) ?_
  show Go p.tables e below P s₁ (mkF m 3 #[vr so, vr sb] [.null, (.ref sb), (.ref so)])
  refine g_cI X0 H hZ hml rfl hown e0 (rm58 l Z a0 hw [] so sb ov ko cn vl cs h0 n0 Z0 O0 P1 hcs P3 P4 P5 P6 P7 P8 hc16 hvl P11 P12 P13 gso nsx nsv) (own_g hw 332 rfl) (own_g hw 333 rfl) (own_g hw 85 rfl) (own_g hw 334 rfl) (by decide) own_pd30 d57_3 rfl rfl rfl rfl (W := 0) rfl (by decide) ?_
  intro _ T1 Lc1 X1 hQ1
  obtain ⟨oc_1, kc_1, rfl, Nq1, K1, fr1_oc, u1_0, u1_1, u1_2, u1_3⟩ := hQ1
  obtain ⟨lc1, Xh1, N1⟩ := own_hide X1 (Fr.app N0 Nq1)
  clear X1
  have g2 := Nat.le_trans Z0 fr1_oc
  have sz3 := Nat.le_trans K0.1 fr1_oc
  have Z4 := Nat.le_trans Z0 K1.1
  have K5 := K0.trans K1 (own_allC (Or.inl (List.mem_of_getElem? (i := 0) rfl)) own_all0)
  have O6 : Old Z n0 T1.heap := O0.keep K1 (own_allC gso own_all0)
  refine g_retV Xh1 H Bd.notSynchronized hP (by decide) Bd.returns d57_6 ?_
  exact ⟨oc_1, kc_1, rfl, N1, K5, sz3, u1_0, u1_1, u1_2, u1_3⟩
theorem own_pd31 : parseMethodDescriptor "(Ljava/lang/StringBuilder;)V" = some ⟨[(.object SBn)], none⟩ := by decide +kernel
theorem d56_0 : D43 0 (.new 18) 3 := by decide +kernel
theorem d56_3 : D43 3 (.dup) 1 := by decide +kernel
theorem d56_4 : D43 4 (.aload_n 0) 1 := by decide +kernel
theorem d56_5 : D43 5 (.invokespecial 137) 3 := by decide +kernel
theorem d56_8 : D43 8 (.areturn) 1 := by decide +kernel
theorem ef_56 (m : MethodId) (x0 : Addr) : entryFrame m #[(.ref x0)] 1 = mkF m 0 #[.val (.ref x0)] [] := by first | (simp [entryFrame, mkF, argsToLocals, Value.category]; done) | rfl
def Q56 (Z : State) (sb : Addr) (ov : Addr) (ko : ClassId) (cn : Nat) (vl : List Int32) (cs : Int32) (h0 : Heap) (n0 : Nat) (v : Option Value) (h : Heap) (L : List Loc) : Prop := ∃ (r : Addr) (oc : Addr) (kc : ClassId), v = some (.ref r) ∧ Fr n0 L ∧ Keep h0 h [] ∧ h0.size ≤ r ∧ h0.size ≤ oc ∧ Exa Z h r STn ∧ Fld Z h r STn VLn DBn (.ref oc) ∧ Fld Z h r STn CDn "B" (.int 0) ∧ Arv Z h oc kc .byte (cn.toInt32) ((vl.take cn).map Value.int) (.int 0)
theorem rm56 (l : Launch) (Z : State) (a0 : Array Value) (hw : HW a0 Z) (ws : List Jvm.Cond) (sb : Addr) (ov : Addr) (ko : ClassId) (cn : Nat) (vl : List Int32) (cs : Int32) (h0 : Heap) (n0 : Nat) (Z0 : n0 ≤ h0.size) (O0 : Old Z n0 h0) (P1 : Sta Z Z.heap STn CSn "Z" (.int cs)) (hcs : ¬ cs = (0 : Int32)) (P3 : Exa Z h0 sb SBn) (P4 : Fld Z h0 sb ASn VLn DBn (.ref ov)) (P5 : Fld Z h0 sb ASn CDn "B" (.int 0)) (P6 : Fld Z h0 sb ASn "count" "I" (.int (cn.toInt32))) (P7 : Arv Z h0 ov ko .byte (16 : Int32) (vl.map Value.int) (.int 0)) (P8 : Exa Z h0 ov DBn) (hc16 : cn ≤ 16) (hvl : vl.length = 16) :
    MFr l Z (⟨SBn, "toString", "()Ljava/lang/String;"⟩ : MethodName) jdk_67_method_42_code 1 (some (.object STn)) ws (Rm 5 2 20 79) #[(.ref sb)] h0 (Q56 Z sb ov ko cn vl cs h0 n0) := by
  refine own_body (own := SBn) (plainFor_of_name own_pn6) rfl (fun m => ef_56 m sb) ?_
  intro p e s m below meth c s₁ Bd H hml hZ hown X0 e0 P hP
  have hx := H.1
  have hby := H.2
  have N0 := Fr.nil n0
  have K0 : Keep h0 h0 [] := Keep.refl _ _
  obtain ⟨T1, h1, X1, e1, E1, A1, D1, -, st1⟩ := newO X0 hx hZ hown (own_g hw 328 rfl) (own_g hw 84 rfl) (own_g hw 85 rfl) e0 (g := (mkF m 0 #[vr sb] [])) rfl (hb hby d56_0) (by decide) (by decide)
  obtain ⟨b1, g1⟩ : ∃ z, z = h0.size := ⟨_, rfl⟩
  rw [← g1] at A1 D1 st1
  refine gv st1 ?_
  have g2 := Nat.le_trans Z0 (Nat.le_of_eq g1.symm)
  have sz3 := Nat.le_trans K0.1 (Nat.le_of_eq g1.symm)
  have Z4 := Nat.le_trans Z0 E1.1
  have K5 := K0.ext E1
  have O6 : Old Z n0 h1 := O0.ext E1
  show Go p.tables e below P T1 (mkF m 3 #[vr sb] [(.ref b1)])
  refine g_dup X1 H d56_3 rfl ?_
  refine g_aloadN X1 H d56_4 rfl rfl ?_
  have F7 := (P3.ext E1)
  have F8 := (P4.ext E1)
  have F9 := (P5.ext E1)
  have F10 := (P6.ext E1)
  have F11 := (P7.ext E1)
  have F12 := (P8.ext E1)
  refine g_cI X1 H hZ hml rfl hown e1 (rm57 l Z a0 hw [] b1 sb ov ko cn vl cs h1 n0 Z4 O6 P1 hcs F7 F8 F9 F10 F11 F12 hc16 hvl A1 (D1 (Or.inr (own_g hw 131 rfl)) (ty := (.array .byte)) (by decide) : Fld Z h1 b1 STn VLn DBn .null) (D1 (Or.inr (own_g hw 133 rfl)) (ty := .byte) (by decide) : Fld Z h1 b1 STn CDn "B" (.int 0)) g2 (Ne.symm (Nat.ne_of_lt (Nat.lt_of_lt_of_le P3.lt sz3))) (Ne.symm (Nat.ne_of_lt (Nat.lt_of_lt_of_le P7.lt sz3)))) (own_g hw 329 rfl) (own_g hw 330 rfl) (own_g hw 85 rfl) (own_g hw 331 rfl) (by decide) own_pd31 d56_5 rfl rfl rfl rfl (W := 1) rfl (by decide) ?_
  intro _ T13 Lc13 X13 hQ13
  obtain ⟨oc_13, kc_13, rfl, Nq13, K13, fr13_oc, u13_0, u13_1, u13_2, u13_3⟩ := hQ13
  obtain ⟨lc13, Xh13, N13⟩ := own_hide X13 (Fr.app N0 Nq13)
  clear X13
  have ne14 := Nat.ne_of_lt (Nat.lt_of_lt_of_le A1.lt fr13_oc)
  have g15 := Nat.le_trans Z4 fr13_oc
  have sz16 := Nat.le_trans K5.1 fr13_oc
  have Z17 := Nat.le_trans Z4 K13.1
  have K18 := K5.trans K13 (own_allC (Or.inr sz3) own_all0)
  have O19 : Old Z n0 T13.heap := O6.keep K13 (own_allC g2 own_all0)
  refine g_retA Xh13 H Bd.notSynchronized hP (by decide) Bd.returns rfl rfl rfl d56_8 ?_
  exact ⟨b1, oc_13, kc_13, rfl, N13, K18, sz3, sz16, u13_0, u13_1, u13_2, u13_3⟩
theorem own_sn20 {Z : State} {a0 : Array Value} (hw : ∀ d ∈ tables_1, d.before a0 Z = true) : Jvm.RoadKit.slotOf Z FDn "name" "Ljava/lang/String;" ≠ Jvm.RoadKit.slotOf Z FDn "tag" "I" := slot_ne (Or.inr (own_g hw 157 rfl)) (Or.inr (own_g hw 155 rfl)) (by decide) (t := (.object STn)) (t' := .int) (by decide) (by decide)
theorem own_sn21 {Z : State} {a0 : Array Value} (hw : ∀ d ∈ tables_1, d.before a0 Z = true) : Jvm.RoadKit.slotOf Z FDn "tag" "I" ≠ Jvm.RoadKit.slotOf Z FDn "name" "Ljava/lang/String;" := slot_ne (Or.inr (own_g hw 155 rfl)) (Or.inr (own_g hw 157 rfl)) (by decide) (t := .int) (t' := (.object STn)) (by decide) (by decide)
theorem own_pn8 : plainName FDn = true := by first | (simp [plainName, overriddenIn]; done) | decide +kernel
theorem d27_0 : D44 0 (.aload_n 0) 1 := by decide +kernel
theorem d27_1 : D44 1 (.invokespecial 1) 3 := by decide +kernel
theorem d27_4 : D44 4 (.aload_n 0) 1 := by decide +kernel
theorem d27_5 : D44 5 (.iload_n 1) 1 := by decide +kernel
theorem d27_6 : D44 6 (.putfield 7) 3 := by decide +kernel
theorem d27_9 : D44 9 (.aload_n 0) 1 := by decide +kernel
theorem d27_10 : D44 10 (.aload_n 2) 1 := by decide +kernel
theorem d27_11 : D44 11 (.putfield 13) 3 := by decide +kernel
theorem d27_14 : D44 14 (.return_) 1 := by decide +kernel
theorem ef_27 (m : MethodId) (x0 : Addr) (x1 : Int32) (x2 : Addr) : entryFrame m #[(.ref x0), (.int x1), (.ref x2)] 3 = mkF m 0 #[.val (.ref x0), .val (.int x1), .val (.ref x2)] [] := by first | (simp [entryFrame, mkF, argsToLocals, Value.category]; done) | rfl
def Q27 (Z : State) (oa : Addr) (pt : Int32) (so : Addr) (h0 : Heap) (n0 : Nat) (v : Option Value) (h : Heap) (L : List Loc) : Prop := v = none ∧ Fr n0 L ∧ Keep h0 h [oa] ∧ Exa Z h oa FDn ∧ Fld Z h oa FDn "tag" "I" (.int pt) ∧ Fld Z h oa FDn "name" "Ljava/lang/String;" (.ref so)
theorem rm27 (l : Launch) (Z : State) (a0 : Array Value) (hw : HW a0 Z) (ws : List Jvm.Cond) (oa : Addr) (pt : Int32) (so : Addr) (h0 : Heap) (n0 : Nat) (Z0 : n0 ≤ h0.size) (P0 : Exa Z h0 oa FDn) (P1 : Fld Z h0 oa FDn "tag" "I" (.int 0)) (P2 : Fld Z h0 oa FDn "name" "Ljava/lang/String;" .null) (ga : n0 ≤ oa) :
    MFr l Z (⟨FDn, "<init>", "(ILjava/lang/String;)V"⟩ : MethodName) prog_14_method_1_code 3 none ws (Rm 1 0 0 12) #[(.ref oa), (.int pt), (.ref so)] h0 (Q27 Z oa pt so h0 n0) := by
  refine own_body (own := FDn) (plainFor_of_name own_pn8) rfl (fun m => ef_27 m oa pt so) ?_
  intro p e s m below meth c s₁ Bd H hml hZ hown X0 e0 P hP
  have hx := H.1
  have hby := H.2
  have hnm := (name_of_methodNamed Bd.named Bd.method).1
  have N0 := Fr.nil n0
  have K0 : Keep h0 h0 [oa] := Keep.refl _ _
  refine g_aloadN X0 H d27_0 rfl rfl ?_
  obtain ⟨T1, X1, e1, st1⟩ := initO X0 hx hZ hown (own_g hw 153 rfl) (own_g hw 52 rfl) (own_g hw 53 rfl) e0 (g := (mkF m 1 #[vr oa, vi pt, vr so] [(.ref oa)])) rfl (by rw [hml]; rfl) rfl (hb hby d27_1) (by decide) (W := 0) (by show 2 * 0 + _ ≤ _; exact Nat.le_of_eq rfl) (by decide)
  refine gv st1 ?_
  show Go p.tables e below P T1 (mkF m 4 #[vr oa, vi pt, vr so] [])
  refine g_aloadN X1 H d27_4 rfl rfl ?_
  refine g_iloadN X1 H d27_5 rfl ?_
  obtain ⟨T2, h2, X2, e2, W2, st2⟩ := putF X1 hx hZ hown (host := "") (Or.inl (own_g hw 154 rfl)) Via.refl e1 P1 P0 (Or.inr ⟨(own_g hw 155 rfl), rfl, hnm⟩) (own_g hw 145 rfl) (ty := .int) (by decide) rfl rfl (g := (mkF m 6 #[vr oa, vi pt, vr so] [(.int pt), (.ref oa)])) rfl rfl (hb hby d27_6)
  refine gv st2 ?_
  have Z3 := Nat.le_trans Z0 (Nat.le_of_eq W2.size.symm)
  have K4 := K0.wr W2 (Or.inl (List.mem_of_getElem? (i := 0) rfl))
  obtain ⟨lc2, Xh2, N5⟩ := own_hide X2 (Fr.snoc X2 N0 ga)
  clear X2
  have Fw2 := P1.same W2
  show Go p.tables e below P T2 (mkF m 9 #[vr oa, vi pt, vr so] [])
  refine g_aloadN Xh2 H d27_9 rfl rfl ?_
  refine g_aloadN Xh2 H d27_10 rfl rfl ?_
  have F6 := (P0.wr W2)
  have F7 := (P2.other W2 (Or.inr (own_sn20 hw)))
  obtain ⟨T8, h8, X8, e8, W8, st8⟩ := putF Xh2 hx hZ hown (host := "") (Or.inl (own_g hw 156 rfl)) Via.refl e2 F7 F6 (Or.inr ⟨(own_g hw 157 rfl), rfl, hnm⟩) (own_g hw 145 rfl) (ty := (.object STn)) (by decide) rfl rfl (g := (mkF m 11 #[vr oa, vi pt, vr so] [(.ref so), (.ref oa)])) rfl rfl (hb hby d27_11)
  refine gv st8 ?_
  have Z9 := Nat.le_trans Z3 (Nat.le_of_eq W8.size.symm)
  have K10 := K4.wr W8 (Or.inl (List.mem_of_getElem? (i := 0) rfl))
  obtain ⟨lc8, Xh8, N11⟩ := own_hide X8 (Fr.snoc X8 N5 ga)
  clear X8
  have Fw8 := F7.same W8
  show Go p.tables e below P T8 (mkF m 14 #[vr oa, vi pt, vr so] [])
  have F13 := (F6.wr W8)
  have F14 := (Fw2.other W8 (Or.inr (own_sn21 hw)))
  refine g_retV Xh8 H Bd.notSynchronized hP (by decide) Bd.returns d27_14 ?_
  rw [e8]
  exact ⟨rfl, N11, K10, F13, F14, Fw8⟩
theorem own_pn9 : plainName "java/util/Set" = true := by first | (simp [plainName, overriddenIn]; done) | decide +kernel
theorem d33_0 : D45 0 (.getstatic 9) 3 := by decide +kernel
theorem d33_3 : D45 3 (.areturn) 1 := by decide +kernel
theorem ef_33 (m : MethodId)  : entryFrame m #[] 0 = mkF m 0 #[] [] := by first | (simp [entryFrame, mkF, argsToLocals, Value.category]; done) | rfl
def Q33 (Z : State) (oz : Addr) (h0 : Heap) (n0 : Nat) (v : Option Value) (h : Heap) (L : List Loc) : Prop := v = some (.ref oz) ∧ Fr n0 L ∧ h = h0
theorem rm33 (l : Launch) (Z : State) (a0 : Array Value) (hw : HW a0 Z) (ws : List Jvm.Cond) (oz : Addr) (h0 : Heap) (n0 : Nat) (Z0 : n0 ≤ h0.size) (O0 : Old Z n0 h0) (P1 : Sta Z Z.heap "java/util/ImmutableCollections" "EMPTY_SET" "Ljava/util/ImmutableCollections$SetN;" (.ref oz)) :
    MFr l Z (⟨"java/util/Set", "of", "()Ljava/util/Set;"⟩ : MethodName) jdk_96_method_17_code 0 (some (.object "java/util/Set")) ws (Rm 0 0 0 0) #[] h0 (Q33 Z oz h0 n0) := by
  refine own_body (own := "java/util/Set") (plainFor_of_name own_pn9) rfl (fun m => ef_33 m ) ?_
  intro p e s m below meth c s₁ Bd H hml hZ hown X0 e0 P hP
  have N0 := Fr.nil n0
  refine g_getS X0 H hZ hown (host := "") (Or.inl (own_g hw 182 rfl)) Via.refl e0 (P1.ext O0.2) d33_0 ?_
  intro T1 X1 e1
  refine g_retA X1 H Bd.notSynchronized hP (by decide) Bd.returns rfl rfl rfl d33_3 ?_
  rw [e1]
  exact ⟨rfl, N0, rfl⟩
theorem own_sn22 {Z : State} {a0 : Array Value} (hw : ∀ d ∈ tables_1, d.before a0 Z = true) : Jvm.RoadKit.slotOf Z CFn "condition" "Lcom/example/splitbook/splitbook/allocation/Field;" ≠ Jvm.RoadKit.slotOf Z CFn "field" "Lcom/example/splitbook/splitbook/allocation/Field;" := slot_ne (Or.inr (own_g hw 191 rfl)) (Or.inr (own_g hw 189 rfl)) (by decide) (t := (.object FDn)) (t' := (.object FDn)) (by decide) (by decide)
theorem own_sn23 {Z : State} {a0 : Array Value} (hw : ∀ d ∈ tables_1, d.before a0 Z = true) : Jvm.RoadKit.slotOf Z CFn "codes" "Ljava/util/Set;" ≠ Jvm.RoadKit.slotOf Z CFn "field" "Lcom/example/splitbook/splitbook/allocation/Field;" := slot_ne (Or.inr (own_g hw 193 rfl)) (Or.inr (own_g hw 189 rfl)) (by decide) (t := (.object "java/util/Set")) (t' := (.object FDn)) (by decide) (by decide)
theorem own_sn24 {Z : State} {a0 : Array Value} (hw : ∀ d ∈ tables_1, d.before a0 Z = true) : Jvm.RoadKit.slotOf Z CFn "codes" "Ljava/util/Set;" ≠ Jvm.RoadKit.slotOf Z CFn "condition" "Lcom/example/splitbook/splitbook/allocation/Field;" := slot_ne (Or.inr (own_g hw 193 rfl)) (Or.inr (own_g hw 191 rfl)) (by decide) (t := (.object "java/util/Set")) (t' := (.object FDn)) (by decide) (by decide)
theorem own_sn25 {Z : State} {a0 : Array Value} (hw : ∀ d ∈ tables_1, d.before a0 Z = true) : Jvm.RoadKit.slotOf Z CFn "exempting" "Z" ≠ Jvm.RoadKit.slotOf Z CFn "field" "Lcom/example/splitbook/splitbook/allocation/Field;" := slot_ne (Or.inr (own_g hw 195 rfl)) (Or.inr (own_g hw 189 rfl)) (by decide) (t := .boolean) (t' := (.object FDn)) (by decide) (by decide)
theorem own_sn26 {Z : State} {a0 : Array Value} (hw : ∀ d ∈ tables_1, d.before a0 Z = true) : Jvm.RoadKit.slotOf Z CFn "exempting" "Z" ≠ Jvm.RoadKit.slotOf Z CFn "condition" "Lcom/example/splitbook/splitbook/allocation/Field;" := slot_ne (Or.inr (own_g hw 195 rfl)) (Or.inr (own_g hw 191 rfl)) (by decide) (t := .boolean) (t' := (.object FDn)) (by decide) (by decide)
theorem own_sn27 {Z : State} {a0 : Array Value} (hw : ∀ d ∈ tables_1, d.before a0 Z = true) : Jvm.RoadKit.slotOf Z CFn "exempting" "Z" ≠ Jvm.RoadKit.slotOf Z CFn "codes" "Ljava/util/Set;" := slot_ne (Or.inr (own_g hw 195 rfl)) (Or.inr (own_g hw 193 rfl)) (by decide) (t := .boolean) (t' := (.object "java/util/Set")) (by decide) (by decide)
theorem own_sn28 {Z : State} {a0 : Array Value} (hw : ∀ d ∈ tables_1, d.before a0 Z = true) : Jvm.RoadKit.slotOf Z CFn "field" "Lcom/example/splitbook/splitbook/allocation/Field;" ≠ Jvm.RoadKit.slotOf Z CFn "condition" "Lcom/example/splitbook/splitbook/allocation/Field;" := slot_ne (Or.inr (own_g hw 189 rfl)) (Or.inr (own_g hw 191 rfl)) (by decide) (t := (.object FDn)) (t' := (.object FDn)) (by decide) (by decide)
theorem own_sn29 {Z : State} {a0 : Array Value} (hw : ∀ d ∈ tables_1, d.before a0 Z = true) : Jvm.RoadKit.slotOf Z CFn "field" "Lcom/example/splitbook/splitbook/allocation/Field;" ≠ Jvm.RoadKit.slotOf Z CFn "codes" "Ljava/util/Set;" := slot_ne (Or.inr (own_g hw 189 rfl)) (Or.inr (own_g hw 193 rfl)) (by decide) (t := (.object FDn)) (t' := (.object "java/util/Set")) (by decide) (by decide)
theorem own_sn30 {Z : State} {a0 : Array Value} (hw : ∀ d ∈ tables_1, d.before a0 Z = true) : Jvm.RoadKit.slotOf Z CFn "field" "Lcom/example/splitbook/splitbook/allocation/Field;" ≠ Jvm.RoadKit.slotOf Z CFn "exempting" "Z" := slot_ne (Or.inr (own_g hw 189 rfl)) (Or.inr (own_g hw 195 rfl)) (by decide) (t := (.object FDn)) (t' := .boolean) (by decide) (by decide)
theorem own_sn31 {Z : State} {a0 : Array Value} (hw : ∀ d ∈ tables_1, d.before a0 Z = true) : Jvm.RoadKit.slotOf Z CFn "condition" "Lcom/example/splitbook/splitbook/allocation/Field;" ≠ Jvm.RoadKit.slotOf Z CFn "codes" "Ljava/util/Set;" := slot_ne (Or.inr (own_g hw 191 rfl)) (Or.inr (own_g hw 193 rfl)) (by decide) (t := (.object FDn)) (t' := (.object "java/util/Set")) (by decide) (by decide)
theorem own_sn32 {Z : State} {a0 : Array Value} (hw : ∀ d ∈ tables_1, d.before a0 Z = true) : Jvm.RoadKit.slotOf Z CFn "condition" "Lcom/example/splitbook/splitbook/allocation/Field;" ≠ Jvm.RoadKit.slotOf Z CFn "exempting" "Z" := slot_ne (Or.inr (own_g hw 191 rfl)) (Or.inr (own_g hw 195 rfl)) (by decide) (t := (.object FDn)) (t' := .boolean) (by decide) (by decide)
theorem own_sn33 {Z : State} {a0 : Array Value} (hw : ∀ d ∈ tables_1, d.before a0 Z = true) : Jvm.RoadKit.slotOf Z CFn "codes" "Ljava/util/Set;" ≠ Jvm.RoadKit.slotOf Z CFn "exempting" "Z" := slot_ne (Or.inr (own_g hw 193 rfl)) (Or.inr (own_g hw 195 rfl)) (by decide) (t := (.object "java/util/Set")) (t' := .boolean) (by decide) (by decide)
theorem own_pn10 : plainName CFn = true := by first | (simp [plainName, overriddenIn]; done) | decide +kernel
theorem d34_0 : D46 0 (.aload_n 0) 1 := by decide +kernel
theorem d34_1 : D46 1 (.invokespecial 1) 3 := by decide +kernel
theorem d34_4 : D46 4 (.aload_n 0) 1 := by decide +kernel
theorem d34_5 : D46 5 (.aload_n 1) 1 := by decide +kernel
theorem d34_6 : D46 6 (.putfield 7) 3 := by decide +kernel
theorem d34_9 : D46 9 (.aload_n 0) 1 := by decide +kernel
theorem d34_10 : D46 10 (.aload_n 2) 1 := by decide +kernel
theorem d34_11 : D46 11 (.putfield 13) 3 := by decide +kernel
theorem d34_14 : D46 14 (.aload_n 0) 1 := by decide +kernel
theorem d34_15 : D46 15 (.aload_n 3) 1 := by decide +kernel
theorem d34_16 : D46 16 (.putfield 16) 3 := by decide +kernel
theorem d34_19 : D46 19 (.aload_n 0) 1 := by decide +kernel
theorem d34_20 : D46 20 (.iload 4) 2 := by decide +kernel
theorem d34_22 : D46 22 (.putfield 20) 3 := by decide +kernel
theorem d34_25 : D46 25 (.return_) 1 := by decide +kernel
theorem ef_34 (m : MethodId) (x0 : Addr) (x1 : Addr) (x2 : Addr) (x3 : Addr) : entryFrame m #[(.ref x0), (.ref x1), (.ref x2), (.ref x3), (.int 1)] 5 = mkF m 0 #[.val (.ref x0), .val (.ref x1), .val (.ref x2), .val (.ref x3), .val (.int 1)] [] := by first | (simp [entryFrame, mkF, argsToLocals, Value.category]; done) | rfl
def Q34 (Z : State) (oa : Addr) (of : Addr) (og : Addr) (oz : Addr) (h0 : Heap) (n0 : Nat) (v : Option Value) (h : Heap) (L : List Loc) : Prop := v = none ∧ Fr n0 L ∧ Keep h0 h [oa] ∧ Exa Z h oa CFn ∧ Fld Z h oa CFn "field" "Lcom/example/splitbook/splitbook/allocation/Field;" (.ref of) ∧ Fld Z h oa CFn "condition" "Lcom/example/splitbook/splitbook/allocation/Field;" (.ref og) ∧ Fld Z h oa CFn "codes" "Ljava/util/Set;" (.ref oz) ∧ Fld Z h oa CFn "exempting" "Z" (.int 1)
theorem rm34 (l : Launch) (Z : State) (a0 : Array Value) (hw : HW a0 Z) (ws : List Jvm.Cond) (oa : Addr) (of : Addr) (og : Addr) (oz : Addr) (h0 : Heap) (n0 : Nat) (Z0 : n0 ≤ h0.size) (P0 : Exa Z h0 oa CFn) (P1 : Fld Z h0 oa CFn "field" "Lcom/example/splitbook/splitbook/allocation/Field;" .null) (P2 : Fld Z h0 oa CFn "condition" "Lcom/example/splitbook/splitbook/allocation/Field;" .null) (P3 : Fld Z h0 oa CFn "codes" "Ljava/util/Set;" .null) (P4 : Fld Z h0 oa CFn "exempting" "Z" (.int 0)) (ga : n0 ≤ oa) :
    MFr l Z (⟨CFn, "<init>", "(Lcom/example/splitbook/splitbook/allocation/Field;Lcom/example/splitbook/splitbook/allocation/Field;Ljava/util/Set;Z)V"⟩ : MethodName) prog_11_method_1_code 5 none ws (Rm 1 0 0 12) #[(.ref oa), (.ref of), (.ref og), (.ref oz), (.int 1)] h0 (Q34 Z oa of og oz h0 n0) := by
  refine own_body (own := CFn) (plainFor_of_name own_pn10) rfl (fun m => ef_34 m oa of og oz) ?_
  intro p e s m below meth c s₁ Bd H hml hZ hown X0 e0 P hP
  have hx := H.1
  have hby := H.2
  have hnm := (name_of_methodNamed Bd.named Bd.method).1
  have N0 := Fr.nil n0
  have K0 : Keep h0 h0 [oa] := Keep.refl _ _
  refine g_aloadN X0 H d34_0 rfl rfl ?_
  obtain ⟨T1, X1, e1, st1⟩ := initO X0 hx hZ hown (own_g hw 187 rfl) (own_g hw 52 rfl) (own_g hw 53 rfl) e0 (g := (mkF m 1 #[vr oa, vr of, vr og, vr oz, vi 1] [(.ref oa)])) rfl (by rw [hml]; rfl) rfl (hb hby d34_1) (by decide) (W := 0) (by show 2 * 0 + _ ≤ _; exact Nat.le_of_eq rfl) (by decide)
  refine gv st1 ?_
  show Go p.tables e below P T1 (mkF m 4 #[vr oa, vr of, vr og, vr oz, vi 1] [])
  refine g_aloadN X1 H d34_4 rfl rfl ?_
  refine g_aloadN X1 H d34_5 rfl rfl ?_
  obtain ⟨T2, h2, X2, e2, W2, st2⟩ := putF X1 hx hZ hown (host := "") (Or.inl (own_g hw 188 rfl)) Via.refl e1 P1 P0 (Or.inr ⟨(own_g hw 189 rfl), rfl, hnm⟩) (own_g hw 177 rfl) (ty := (.object FDn)) (by decide) rfl rfl (g := (mkF m 6 #[vr oa, vr of, vr og, vr oz, vi 1] [(.ref of), (.ref oa)])) rfl rfl (hb hby d34_6)
  refine gv st2 ?_
  have Z3 := Nat.le_trans Z0 (Nat.le_of_eq W2.size.symm)
  have K4 := K0.wr W2 (Or.inl (List.mem_of_getElem? (i := 0) rfl))
  obtain ⟨lc2, Xh2, N5⟩ := own_hide X2 (Fr.snoc X2 N0 ga)
  clear X2
  have Fw2 := P1.same W2
  show Go p.tables e below P T2 (mkF m 9 #[vr oa, vr of, vr og, vr oz, vi 1] [])
  refine g_aloadN Xh2 H d34_9 rfl rfl ?_
  refine g_aloadN Xh2 H d34_10 rfl rfl ?_
  have F6 := (P0.wr W2)
  have F7 := (P2.other W2 (Or.inr (own_sn22 hw)))
  obtain ⟨T8, h8, X8, e8, W8, st8⟩ := putF Xh2 hx hZ hown (host := "") (Or.inl (own_g hw 190 rfl)) Via.refl e2 F7 F6 (Or.inr ⟨(own_g hw 191 rfl), rfl, hnm⟩) (own_g hw 177 rfl) (ty := (.object FDn)) (by decide) rfl rfl (g := (mkF m 11 #[vr oa, vr of, vr og, vr oz, vi 1] [(.ref og), (.ref oa)])) rfl rfl (hb hby d34_11)
  refine gv st8 ?_
  have Z9 := Nat.le_trans Z3 (Nat.le_of_eq W8.size.symm)
  have K10 := K4.wr W8 (Or.inl (List.mem_of_getElem? (i := 0) rfl))
  obtain ⟨lc8, Xh8, N11⟩ := own_hide X8 (Fr.snoc X8 N5 ga)
  clear X8
  have Fw8 := F7.same W8
  show Go p.tables e below P T8 (mkF m 14 #[vr oa, vr of, vr og, vr oz, vi 1] [])
  refine g_aloadN Xh8 H d34_14 rfl rfl ?_
  refine g_aloadN Xh8 H d34_15 rfl rfl ?_
  have F12 := (F6.wr W8)
  have F13 := ((P3.other W2 (Or.inr (own_sn23 hw))).other W8 (Or.inr (own_sn24 hw)))
  obtain ⟨T14, h14, X14, e14, W14, st14⟩ := putF Xh8 hx hZ hown (host := "") (Or.inl (own_g hw 192 rfl)) Via.refl e8 F13 F12 (Or.inr ⟨(own_g hw 193 rfl), rfl, hnm⟩) (own_g hw 177 rfl) (ty := (.object "java/util/Set")) (by decide) rfl rfl (g := (mkF m 16 #[vr oa, vr of, vr og, vr oz, vi 1] [(.ref oz), (.ref oa)])) rfl rfl (hb hby d34_16)
  refine gv st14 ?_
  have Z15 := Nat.le_trans Z9 (Nat.le_of_eq W14.size.symm)
  have K16 := K10.wr W14 (Or.inl (List.mem_of_getElem? (i := 0) rfl))
  obtain ⟨lc14, Xh14, N17⟩ := own_hide X14 (Fr.snoc X14 N11 ga)
  clear X14
  have Fw14 := F13.same W14
  show Go p.tables e below P T14 (mkF m 19 #[vr oa, vr of, vr og, vr oz, vi 1] [])
  refine g_aloadN Xh14 H d34_19 rfl rfl ?_
  refine g_iload Xh14 H d34_20 rfl ?_
  have F18 := (F12.wr W14)
  have F19 := (((P4.other W2 (Or.inr (own_sn25 hw))).other W8 (Or.inr (own_sn26 hw))).other W14 (Or.inr (own_sn27 hw)))
  obtain ⟨T20, h20, X20, e20, W20, st20⟩ := putF Xh14 hx hZ hown (host := "") (Or.inl (own_g hw 194 rfl)) Via.refl e14 F19 F18 (Or.inr ⟨(own_g hw 195 rfl), rfl, hnm⟩) (own_g hw 177 rfl) (ty := .boolean) (by decide) rfl rfl (g := (mkF m 22 #[vr oa, vr of, vr og, vr oz, vi 1] [(.int 1), (.ref oa)])) rfl rfl (hb hby d34_22)
  refine gv st20 ?_
  have Z21 := Nat.le_trans Z15 (Nat.le_of_eq W20.size.symm)
  have K22 := K16.wr W20 (Or.inl (List.mem_of_getElem? (i := 0) rfl))
  obtain ⟨lc20, Xh20, N23⟩ := own_hide X20 (Fr.snoc X20 N17 ga)
  clear X20
  have Fw20 := F19.same W20
  show Go p.tables e below P T20 (mkF m 25 #[vr oa, vr of, vr og, vr oz, vi 1] [])
  have F25 := (F18.wr W20)
  have F26 := (((Fw2.other W8 (Or.inr (own_sn28 hw))).other W14 (Or.inr (own_sn29 hw))).other W20 (Or.inr (own_sn30 hw)))
  have F27 := ((Fw8.other W14 (Or.inr (own_sn31 hw))).other W20 (Or.inr (own_sn32 hw)))
  have F28 := (Fw14.other W20 (Or.inr (own_sn33 hw)))
  refine g_retV Xh20 H Bd.notSynchronized hP (by decide) Bd.returns d34_25 ?_
  rw [e20]
  exact ⟨rfl, N23, K22, F25, F26, F27, F28, Fw20⟩
theorem own_pd32 : parseMethodDescriptor "()Ljava/util/Set;" = some ⟨[], some (.object "java/util/Set")⟩ := by decide +kernel
theorem own_pd33 : parseMethodDescriptor "(Lcom/example/splitbook/splitbook/allocation/Field;Lcom/example/splitbook/splitbook/allocation/Field;Ljava/util/Set;Z)V" = some ⟨[(.object FDn), (.object FDn), (.object "java/util/Set"), .boolean], none⟩ := by decide +kernel
theorem d32_0 : D47 0 (.new 8) 3 := by decide +kernel
theorem d32_3 : D47 3 (.dup) 1 := by decide +kernel
theorem d32_4 : D47 4 (.aload_n 0) 1 := by decide +kernel
theorem d32_5 : D47 5 (.aload_n 1) 1 := by decide +kernel
theorem d32_6 : D47 6 (.invokestatic 24) 3 := by decide +kernel
theorem d32_9 : D47 9 (.iconst 1) 1 := by decide +kernel
theorem d32_10 : D47 10 (.invokespecial 30) 3 := by decide +kernel
theorem d32_13 : D47 13 (.areturn) 1 := by decide +kernel
theorem ef_32 (m : MethodId) (x0 : Addr) (x1 : Addr) : entryFrame m #[(.ref x0), (.ref x1)] 2 = mkF m 0 #[.val (.ref x0), .val (.ref x1)] [] := by first | (simp [entryFrame, mkF, argsToLocals, Value.category]; done) | rfl
def Q32 (Z : State) (of : Addr) (og : Addr) (oz : Addr) (h0 : Heap) (n0 : Nat) (v : Option Value) (h : Heap) (L : List Loc) : Prop := ∃ (oa : Addr), v = some (.ref oa) ∧ Fr n0 L ∧ Keep h0 h [] ∧ h0.size ≤ oa ∧ Exa Z h oa CFn ∧ Fld Z h oa CFn "field" "Lcom/example/splitbook/splitbook/allocation/Field;" (.ref of) ∧ Fld Z h oa CFn "condition" "Lcom/example/splitbook/splitbook/allocation/Field;" (.ref og) ∧ Fld Z h oa CFn "codes" "Ljava/util/Set;" (.ref oz) ∧ Fld Z h oa CFn "exempting" "Z" (.int 1)
theorem rm32 (l : Launch) (Z : State) (a0 : Array Value) (hw : HW a0 Z) (ws : List Jvm.Cond) (of : Addr) (og : Addr) (oz : Addr) (h0 : Heap) (n0 : Nat) (Z0 : n0 ≤ h0.size) (O0 : Old Z n0 h0) (P1 : Sta Z Z.heap "java/util/ImmutableCollections" "EMPTY_SET" "Ljava/util/ImmutableCollections$SetN;" (.ref oz)) :
    MFr l Z (⟨CFn, "whenStated", "(Lcom/example/splitbook/splitbook/allocation/Field;Lcom/example/splitbook/splitbook/allocation/Field;)Lcom/example/splitbook/splitbook/allocation/ConditionalField;"⟩ : MethodName) prog_11_method_2_code 2 (some (.object CFn)) ws (Rm 2 1 4 29) #[(.ref of), (.ref og)] h0 (Q32 Z of og oz h0 n0) := by
  refine own_body (own := CFn) (plainFor_of_name own_pn10) rfl (fun m => ef_32 m of og) ?_
  intro p e s m below meth c s₁ Bd H hml hZ hown X0 e0 P hP
  have hx := H.1
  have hby := H.2
  have N0 := Fr.nil n0
  have K0 : Keep h0 h0 [] := Keep.refl _ _
  obtain ⟨T1, h1, X1, e1, E1, A1, D1, -, st1⟩ := newO X0 hx hZ hown (own_g hw 176 rfl) (own_g hw 177 rfl) (own_g hw 174 rfl) e0 (g := (mkF m 0 #[vr of, vr og] [])) rfl (hb hby d32_0) (by decide) (by decide)
  obtain ⟨b1, g1⟩ : ∃ z, z = h0.size := ⟨_, rfl⟩
  rw [← g1] at A1 D1 st1
  refine gv st1 ?_
  have g2 := Nat.le_trans Z0 (Nat.le_of_eq g1.symm)
  have sz3 := Nat.le_trans K0.1 (Nat.le_of_eq g1.symm)
  have Z4 := Nat.le_trans Z0 E1.1
  have K5 := K0.ext E1
  have O6 : Old Z n0 h1 := O0.ext E1
  show Go p.tables e below P T1 (mkF m 3 #[vr of, vr og] [(.ref b1)])
  refine g_dup X1 H d32_3 rfl ?_
  refine g_aloadN X1 H d32_4 rfl rfl ?_
  refine g_aloadN X1 H d32_5 rfl rfl ?_
  refine g_cS X1 H hZ hml rfl hown e1 (rm33 l Z a0 hw [] oz h1 n0 Z4 O6 P1) (own_g hw 178 rfl) (own_g hw 179 rfl) (own_g hw 180 rfl) (own_g hw 181 rfl) (by decide) own_pd32 d32_6 rfl rfl rfl (W := 4) rfl (by decide) ?_
  intro _ T7 Lc7 X7 hQ7
  obtain ⟨rfl, Nq7, hh7⟩ := hQ7
  obtain ⟨lc7, Xh7, N7⟩ := own_hide X7 (Fr.app N0 Nq7)
  clear X7
  refine g_iconst Xh7 H d32_9 1 rfl ?_
  refine g_cI Xh7 H hZ hml rfl hown hh7 (rm34 l Z a0 hw [] b1 of og oz h1 n0 Z4 A1 (D1 (Or.inr (own_g hw 189 rfl)) (ty := (.object FDn)) (by decide) : Fld Z h1 b1 CFn "field" "Lcom/example/splitbook/splitbook/allocation/Field;" .null) (D1 (Or.inr (own_g hw 191 rfl)) (ty := (.object FDn)) (by decide) : Fld Z h1 b1 CFn "condition" "Lcom/example/splitbook/splitbook/allocation/Field;" .null) (D1 (Or.inr (own_g hw 193 rfl)) (ty := (.object "java/util/Set")) (by decide) : Fld Z h1 b1 CFn "codes" "Ljava/util/Set;" .null) (D1 (Or.inr (own_g hw 195 rfl)) (ty := .boolean) (by decide) : Fld Z h1 b1 CFn "exempting" "Z" (.int 0)) g2) (own_g hw 184 rfl) (own_g hw 185 rfl) (own_g hw 174 rfl) (own_g hw 186 rfl) (by decide) own_pd33 d32_10 rfl rfl rfl rfl (W := 1) rfl (by decide) ?_
  intro _ T8 Lc8 X8 hQ8
  obtain ⟨rfl, Nq8, K8, u8_0, u8_1, u8_2, u8_3, u8_4⟩ := hQ8
  obtain ⟨lc8, Xh8, N8⟩ := own_hide X8 (Fr.app N7 Nq8)
  clear X8
  have Z9 := Nat.le_trans Z4 K8.1
  have K10 := K5.trans K8 (own_allC (Or.inr sz3) own_all0)
  have O11 : Old Z n0 T8.heap := O6.keep K8 (own_allC g2 own_all0)
  refine g_retA Xh8 H Bd.notSynchronized hP (by decide) Bd.returns rfl rfl rfl d32_13 ?_
  exact ⟨b1, rfl, N8, K10, sz3, u8_0, u8_1, u8_2, u8_3, u8_4⟩
theorem d35_0 : D48 0 (.aload_n 0) 1 := by decide +kernel
theorem d35_1 : D48 1 (.getfield 7) 3 := by decide +kernel
theorem d35_4 : D48 4 (.areturn) 1 := by decide +kernel
theorem ef_35 (m : MethodId) (x0 : Addr) : entryFrame m #[(.ref x0)] 1 = mkF m 0 #[.val (.ref x0)] [] := by first | (simp [entryFrame, mkF, argsToLocals, Value.category]; done) | rfl
def Q35 (Z : State) (oa : Addr) (of : Addr) (h0 : Heap) (n0 : Nat) (v : Option Value) (h : Heap) (L : List Loc) : Prop := v = some (.ref of) ∧ Fr n0 L ∧ h = h0
theorem rm35 (l : Launch) (Z : State) (a0 : Array Value) (hw : HW a0 Z) (ws : List Jvm.Cond) (oa : Addr) (of : Addr) (h0 : Heap) (n0 : Nat) (Z0 : n0 ≤ h0.size) (P0 : Fld Z h0 oa CFn "field" "Lcom/example/splitbook/splitbook/allocation/Field;" (.ref of)) :
    MFr l Z (⟨CFn, "field", "()Lcom/example/splitbook/splitbook/allocation/Field;"⟩ : MethodName) prog_11_method_5_code 1 (some (.object FDn)) ws (Rm 0 0 0 0) #[(.ref oa)] h0 (Q35 Z oa of h0 n0) := by
  refine own_body (own := CFn) (plainFor_of_name own_pn10) rfl (fun m => ef_35 m oa) ?_
  intro p e s m below meth c s₁ Bd H hml hZ hown X0 e0 P hP
  have N0 := Fr.nil n0
  refine g_aloadN X0 H d35_0 rfl rfl ?_
  refine g_getF X0 H hZ hown (host := "") (Or.inl (own_g hw 188 rfl)) Via.refl e0 P0 d35_1 ?_
  intro T1 X1 e1
  refine g_retA X1 H Bd.notSynchronized hP (by decide) Bd.returns rfl rfl rfl d35_4 ?_
  rw [e1]
  exact ⟨rfl, N0, rfl⟩
theorem own_pn11 : plainName "java/util/ImmutableCollections$SetN" = true := by first | (simp [plainName, overriddenIn]; done) | decide +kernel
theorem d39_0 : D49 0 (.aload_n 0) 1 := by decide +kernel
theorem d39_1 : D49 1 (.getfield 9) 3 := by decide +kernel
theorem d39_4 : D49 4 (.ifCond .ne 7) 3 := by decide +kernel
theorem d39_7 : D49 7 (.iconst 1) 1 := by decide +kernel
theorem d39_8 : D49 8 (.goto 4) 3 := by decide +kernel
theorem d39_12 : D49 12 (.ireturn) 1 := by decide +kernel
theorem ef_39 (m : MethodId) (x0 : Addr) : entryFrame m #[(.ref x0)] 1 = mkF m 0 #[.val (.ref x0)] [] := by first | (simp [entryFrame, mkF, argsToLocals, Value.category]; done) | rfl
def Q39 (Z : State) (oz : Addr) (h0 : Heap) (n0 : Nat) (v : Option Value) (h : Heap) (L : List Loc) : Prop := v = some (.int 1) ∧ Fr n0 L ∧ h = h0
theorem rm39 (l : Launch) (Z : State) (a0 : Array Value) (hw : HW a0 Z) (ws : List Jvm.Cond) (oz : Addr) (h0 : Heap) (n0 : Nat) (Z0 : n0 ≤ h0.size) (O0 : Old Z n0 h0) (P1 : Fld Z Z.heap oz "java/util/ImmutableCollections$SetN" "size" "I" (.int 0)) :
    MFr l Z (⟨"java/util/ImmutableCollections$SetN", "isEmpty", "()Z"⟩ : MethodName) jdk_132_method_3_code 1 (some .boolean) ws (Rm 0 0 0 0) #[(.ref oz)] h0 (Q39 Z oz h0 n0) := by
  refine own_body (own := "java/util/ImmutableCollections$SetN") (plainFor_of_name own_pn11) rfl (fun m => ef_39 m oz) ?_
  intro p e s m below meth c s₁ Bd H hml hZ hown X0 e0 P hP
  have N0 := Fr.nil n0
  refine g_aloadN X0 H d39_0 rfl rfl ?_
  refine g_getF X0 H hZ hown (host := "") (Or.inl (own_g hw 227 rfl)) Via.refl e0 (P1.ext O0.2) d39_1 ?_
  intro T1 X1 e1
  refine g_ifNo X1 H d39_4 ((if0 _ _).trans (teq (rfl : (0 : Int32) = (0 : Int32))).2) ?_
  show Go p.tables e below P T1 (mkF m 7 #[vr oz] [])
  refine g_iconst X1 H d39_7 1 rfl ?_
  refine g_goto X1 H d39_8 12 (by decide) ?_
  refine g_retZ X1 H Bd.notSynchronized hP (by decide) Bd.returns (by simp) d39_12 (r := (1 : Int32)) rfl ?_
  rw [e1]
  exact ⟨rfl, N0, rfl⟩
def own_tl (qa qb : Int32) : List Int32 := [8, 9, 35, ((own_d (own_d (0 : Int64) qa) qb).toInt32), 10]
def own_fx (tl : List Int32) (t : Int32) : Nat → Int32
  | 0 => -1
  | i + 1 => if own_fx tl t i < (0 : Int32) then (if (tl.getD i 0) = t then i.toInt32 else own_fx tl t i) else own_fx tl t i
theorem own_fxs (tl : List Int32) (t : Int32) (i : Nat) (h : ¬ own_fx tl t i < (0 : Int32)) : ∀ j, own_fx tl t (i + j) = own_fx tl t i
  | 0 => rfl
  | j + 1 => by rw [← Nat.add_assoc, own_fx, own_fxs tl t i h j, if_neg h]
theorem d38_0 : D50 0 (.iconst (-1)) 1 := by decide +kernel
theorem d38_1 : D50 1 (.istore_n 2) 1 := by decide +kernel
theorem d38_2 : D50 2 (.iconst 0) 1 := by decide +kernel
theorem d38_3 : D50 3 (.istore_n 3) 1 := by decide +kernel
theorem d38_4 : D50 4 (.iload_n 3) 1 := by decide +kernel
theorem d38_5 : D50 5 (.aload_n 0) 1 := by decide +kernel
theorem d38_6 : D50 6 (.getfield 15) 3 := by decide +kernel
theorem d38_9 : D50 9 (.arraylength) 1 := by decide +kernel
theorem d38_10 : D50 10 (.if_icmp .ge 25) 3 := by decide +kernel
theorem d38_13 : D50 13 (.iload_n 2) 1 := by decide +kernel
theorem d38_14 : D50 14 (.ifCond .ge 21) 3 := by decide +kernel
theorem d38_17 : D50 17 (.aload_n 0) 1 := by decide +kernel
theorem d38_18 : D50 18 (.getfield 15) 3 := by decide +kernel
theorem d38_21 : D50 21 (.iload_n 3) 1 := by decide +kernel
theorem d38_22 : D50 22 (.iaload) 1 := by decide +kernel
theorem d38_23 : D50 23 (.iload_n 1) 1 := by decide +kernel
theorem d38_24 : D50 24 (.if_icmp .ne 5) 3 := by decide +kernel
theorem d38_27 : D50 27 (.iload_n 3) 1 := by decide +kernel
theorem d38_28 : D50 28 (.istore_n 2) 1 := by decide +kernel
theorem d38_29 : D50 29 (.iinc 3 1) 3 := by decide +kernel
theorem d38_32 : D50 32 (.goto (-28)) 3 := by decide +kernel
theorem d38_35 : D50 35 (.iload_n 2) 1 := by decide +kernel
theorem d38_36 : D50 36 (.ireturn) 1 := by decide +kernel
theorem ef_38 (m : MethodId) (x0 : Addr) (x1 : Int32) : entryFrame m #[(.ref x0), (.int x1)] 4 = mkF m 0 #[.val (.ref x0), .val (.int x1), .unset, .unset] [] := by first | (simp [entryFrame, mkF, argsToLocals, Value.category]; done) | rfl
def Q38 (Z : State) (om : Addr) (pt : Int32) (ot : Addr) (kt : ClassId) (qa : Int32) (qb : Int32) (h0 : Heap) (n0 : Nat) (v : Option Value) (h : Heap) (L : List Loc) : Prop := v = some (.int (own_fx (own_tl qa qb) pt 5)) ∧ Fr n0 L ∧ h = h0
theorem rm38 (l : Launch) (Z : State) (a0 : Array Value) (hw : HW a0 Z) (ws : List Jvm.Cond) (om : Addr) (pt : Int32) (ot : Addr) (kt : ClassId) (qa : Int32) (qb : Int32) (h0 : Heap) (n0 : Nat) (Z0 : n0 ≤ h0.size) (P0 : Fld Z h0 om TVn "tags" "[I" (.ref ot)) (P1 : Arv Z h0 ot kt .int (5 : Int32) (tgs qa qb) (.int 0)) :
    MFr l Z (⟨TVn, "indexOf", "(I)I"⟩ : MethodName) prog_39_method_16_code 4 (some .int) ws (Rm 0 0 0 0) #[(.ref om), (.int pt)] h0 (Q38 Z om pt ot kt qa qb h0 n0) := by
  refine own_body (own := TVn) (plainFor_of_name own_pn0) rfl (fun m => ef_38 m om pt) ?_
  intro p e s m below meth c s₁ Bd H hml hZ hown X0 e0 P hP
  have N0 := Fr.nil n0
  refine g_iconst X0 H d38_0 (-1) rfl ?_
  refine g_istoreN X0 H d38_1 #[vr om, vi pt, vi (-1), vu] rfl ?_
  refine g_iconst X0 H d38_2 0 rfl ?_
  refine g_istoreN X0 H d38_3 #[vr om, vi pt, vi (-1), vi 0] rfl ?_
  have LP1 : ∀ (k1 : Nat) (T1 : State) (locs1 : List Loc) (i : Nat) (x3 : Int32) (x2 : Int32), Stand p l e (Rm 0 0 0 0) s m #[(.ref om), (.int pt)] below meth c T1 locs1 0 0 → T1.heap = h0 → Fr n0 locs1 → i ≤ 5 → x3 = i.toInt32 → x2 = (own_fx (own_tl qa qb) pt i) → 5 - i < k1 → Go p.tables e below P T1 (mkF m 4 #[.val (.ref om), .val (.int pt), .val (.int x2), .val (.int x3)] []) := by
    intro k1
    induction k1 with
    | zero => intros; rename_i hk; exact absurd hk (Nat.not_lt_zero _)
    | succ k1 ih1 =>
      intro T1 locs1 i x3 x2 X1 e1 N1 hi hx3 hx2 hk
      refine g_iloadN X1 H d38_4 rfl ?_
      refine g_aloadN X1 H d38_5 rfl rfl ?_
      refine g_getF X1 H hZ hown (host := "") (Or.inl (own_g hw 56 rfl)) Via.refl e1 P0 d38_6 ?_
      intro T2 X2 e2
      refine g_len X2 H hZ e2 P1 d38_9 ?_
      by_cases hc4 : x3 < (5 : Int32)
      · refine g_icmpNo X2 H d38_10 (tlt hc4).2.1 ?_
        have hlt : i < 5 := (own_ltN (n := 5) (by omega) (by omega)).mp (by rw [← hx3]; exact hc4)
        refine g_iloadN X2 H d38_13 rfl ?_
        show Go p.tables e below P T2 (mkF m 14 #[vr om, vi pt, vi x2, vi x3] [(.int x2)])
        by_cases hc5 : x2 < (0 : Int32)
        · refine g_ifNo X2 H d38_14 ((if0 _ _).trans (tlt hc5).2.1) ?_
          refine g_aloadN X2 H d38_17 rfl rfl ?_
          refine g_getF X2 H hZ hown (host := "") (Or.inl (own_g hw 56 rfl)) Via.refl e2 P0 d38_18 ?_
          intro T6 X6 e6
          refine g_iloadN X6 H d38_21 rfl ?_
          refine g_iaload X6 H hZ e6 P1 (.int ((own_tl qa qb).getD i 0)) d38_22 ⟨by rw [hx3]; exact own_nneg (by omega), by rw [hx3]; exact (own_ltN (n := 5) (by omega) (by omega)).mpr hlt⟩ (by rw [hx3, own_clamp (by omega)]; exact own_getDI (own_tl qa qb) i) ?_
          refine g_iloadN X6 H d38_23 rfl ?_
          by_cases hc8 : ((own_tl qa qb).getD i 0) = pt
          · refine g_icmpNo X6 H d38_24 (teq hc8).2 ?_
            refine g_iloadN X6 H d38_27 rfl ?_
            refine g_istoreN X6 H d38_28 #[vr om, vi pt, vi x3, vi x3] rfl ?_
            refine g_iinc X6 H d38_29 rfl #[vr om, vi pt, vi x3, vi (x3 + (1 : Int32))] rfl ?_
            refine g_goto X6 H d38_32 4 (by decide) ?_
            exact ih1 T6 _ (i + 1) (x3 + (1 : Int32)) x3 X6 e6 N1 hlt (by rw [hx3]; exact own_succ i) (by rw [own_fx, ← hx2, if_pos hc5, if_pos hc8]; exact hx3) (by omega)
          · refine g_icmpYes X6 H d38_24 29 (feq hc8).2 (by decide) ?_
            refine g_iinc X6 H d38_29 rfl #[vr om, vi pt, vi x2, vi (x3 + (1 : Int32))] rfl ?_
            refine g_goto X6 H d38_32 4 (by decide) ?_
            exact ih1 T6 _ (i + 1) (x3 + (1 : Int32)) x2 X6 e6 N1 hlt (by rw [hx3]; exact own_succ i) (by rw [own_fx, ← hx2, if_pos hc5, if_neg hc8]) (by omega)
        · refine g_ifYes X2 H d38_14 35 ((if0 _ _).trans (flt hc5).2.1) (by decide) ?_
          show Go p.tables e below P T2 (mkF m 35 #[vr om, vi pt, vi x2, vi x3] [])
          refine g_iloadN X2 H d38_35 rfl ?_
          refine g_retI X2 H Bd.notSynchronized hP (by decide) Bd.returns d38_36 (r := (own_fx (own_tl qa qb) pt 5)) (show x2 = (own_fx (own_tl qa qb) pt 5) from by have q := own_fxs (own_tl qa qb) pt i (by rw [← hx2]; exact hc5) (5 - i); rw [show i + (5 - i) = 5 from by omega] at q; rw [q]; exact hx2) ?_
          rw [e2]
          exact ⟨rfl, N1, rfl⟩
      · refine g_icmpYes X2 H d38_10 35 (flt hc4).2.1 (by decide) ?_
        refine g_iloadN X2 H d38_35 rfl ?_
        refine g_retI X2 H Bd.notSynchronized hP (by decide) Bd.returns d38_36 (r := (own_fx (own_tl qa qb) pt 5)) (show x2 = (own_fx (own_tl qa qb) pt 5) from by rw [hx2, show i = 5 from by have q := hc4; rw [hx3, show (5 : Int32) = (5 : Nat).toInt32 from rfl, own_ltN (by omega) (by omega)] at q; omega]) ?_
        rw [e2]
        exact ⟨rfl, N1, rfl⟩
  exact LP1 _ s₁ _ 0 (0 : Int32) (-1 : Int32) X0 e0 N0 (Nat.zero_le _) rfl rfl (Nat.lt_succ_self _)
theorem d37_0 : D51 0 (.aload_n 1) 1 := by decide +kernel
theorem d37_1 : D51 1 (.aload_n 0) 1 := by decide +kernel
theorem d37_2 : D51 2 (.getfield 7) 3 := by decide +kernel
theorem d37_5 : D51 5 (.invokevirtual 17) 3 := by decide +kernel
theorem d37_8 : D51 8 (.istore_n 2) 1 := by decide +kernel
theorem d37_9 : D51 9 (.iload_n 2) 1 := by decide +kernel
theorem d37_10 : D51 10 (.ifCond .ge 7) 3 := by decide +kernel
theorem d37_13 : D51 13 (.aconst_null) 1 := by decide +kernel
theorem d37_14 : D51 14 (.goto 8) 3 := by decide +kernel
theorem d37_22 : D51 22 (.areturn) 1 := by decide +kernel
theorem ef_37 (m : MethodId) (x0 : Addr) (x1 : Addr) : entryFrame m #[(.ref x0), (.ref x1)] 3 = mkF m 0 #[.val (.ref x0), .val (.ref x1), .unset] [] := by first | (simp [entryFrame, mkF, argsToLocals, Value.category]; done) | rfl
def Q37 (Z : State) (om : Addr) (ob : Addr) (os : Addr) (oe : Addr) (kk : ClassId) (ks : ClassId) (ke : ClassId) (ot : Addr) (kt : ClassId) (og : Addr) (pt : Int32) (qa : Int32) (qb : Int32) (qv : Int32) (ya : Int32) (yb : Int32) (yc : Int32) (cs : Int32) (fm : Value) (och : Addr) (ou : Addr) (h0 : Heap) (n0 : Nat) (v : Option Value) (h : Heap) (L : List Loc) : Prop := v = some .null ∧ Fr n0 L ∧ Keep h0 h []
theorem rm37 (l : Launch) (Z : State) (a0 : Array Value) (hw : HW a0 Z) (ws : List Jvm.Cond) (om : Addr) (ob : Addr) (os : Addr) (oe : Addr) (kk : ClassId) (ks : ClassId) (ke : ClassId) (ot : Addr) (kt : ClassId) (og : Addr) (pt : Int32) (qa : Int32) (qb : Int32) (qv : Int32) (ya : Int32) (yb : Int32) (yc : Int32) (cs : Int32) (fm : Value) (och : Addr) (ou : Addr) (h0 : Heap) (n0 : Nat) (Z0 : n0 ≤ h0.size) (O0 : Old Z n0 h0) (P1 : Sta Z Z.heap STn CSn "Z" (.int cs)) (hcs : ¬ cs = (0 : Int32)) (P3 : Sta Z Z.heap PRn SIn BFn fm) (rfm : fm.isRef = true) (P5 : Sta Z Z.heap SCn ISn DChn (.ref och)) (P6 : Exa Z Z.heap och STIn) (P7 : Sta Z Z.heap STIn INSn DSIn (.ref och)) (P8 : Sta Z Z.heap STUn INSn DSUn (.ref ou)) (nou : och ≠ ou) (P10 : Fld Z h0 og FDn "tag" "I" (.int pt)) (P11 : Exa Z h0 om TVn) (P12 : Fld Z h0 om TVn "bytes" DBn (.ref ob)) (P13 : Fld Z h0 om TVn "tags" "[I" (.ref ot)) (P14 : Fld Z h0 om TVn VSn "[I" (.ref os)) (P15 : Fld Z h0 om TVn VEn "[I" (.ref oe)) (P16 : Arv Z h0 ot kt .int (5 : Int32) (tgs qa qb) (.int 0)) (P17 : Arv Z h0 os ks .int (5 : Int32) lvs (.int 0)) (P18 : Arv Z h0 oe ke .int (5 : Int32) lve (.int 0)) (P19 : Arv Z h0 ob kk .byte (26 : Int32) (bll qa qb qv ya yb yc) (.int 0)) (hfx : (own_fx (own_tl qa qb) pt 5) < (0 : Int32)) :
    MFr l Z (⟨FDn, "valueIn", "(Lcom/example/splitbook/splitbook/tagvalue/TagValueMessage;)Ljava/lang/String;"⟩ : MethodName) prog_14_method_3_code 3 (some (.object STn)) ws (Rm 1 0 0 15) #[(.ref og), (.ref om)] h0 (Q37 Z om ob os oe kk ks ke ot kt og pt qa qb qv ya yb yc cs fm och ou h0 n0) := by
  refine own_body (own := FDn) (plainFor_of_name own_pn8) rfl (fun m => ef_37 m og om) ?_
  intro p e s m below meth c s₁ Bd H hml hZ hown X0 e0 P hP
  have hx := H.1
  have hby := H.2
  have N0 := Fr.nil n0
  have K0 : Keep h0 h0 [] := Keep.refl _ _
  refine g_aloadN X0 H d37_0 rfl rfl ?_
  refine g_aloadN X0 H d37_1 rfl rfl ?_
  refine g_getF X0 H hZ hown (host := "") (Or.inl (own_g hw 154 rfl)) Via.refl e0 P10 d37_2 ?_
  intro T1 X1 e1
  refine g_cV X1 H hZ hml rfl hown e1 P11 (rm38 l Z a0 hw [] om pt ot kt qa qb h0 n0 Z0 P13 P16) (own_g hw 211 rfl) (own_g hw 212 rfl) (notFace_of_selects (args := #[]) (mvT hZ (own_g hw 214 rfl))) (own_g hw 214 rfl) (own_g hw 213 rfl) (own_g hw 4 rfl) (own_g hw 215 rfl) (by decide) own_pd11 d37_5 rfl rfl rfl (W := 0) rfl (by decide) ?_
  intro _ T2 Lc2 X2 hQ2
  obtain ⟨rfl, Nq2, hh2⟩ := hQ2
  obtain ⟨lc2, Xh2, N2⟩ := own_hide X2 (Fr.app N0 Nq2)
  clear X2
  show Go p.tables e below P T2 (mkF m 8 #[vr og, vr om, vu] [(.int (own_fx (own_tl qa qb) pt 5))])
  generalize hfv : (own_fx (own_tl qa qb) pt 5) = fv at hfx ⊢
  refine g_istoreN Xh2 H d37_8 #[vr og, vr om, vi fv] rfl ?_
  refine g_iloadN Xh2 H d37_9 rfl ?_
  refine g_ifNo Xh2 H d37_10 ((if0 _ _).trans (tlt hfx).2.1) ?_
  show Go p.tables e below P T2 (mkF m 13 #[vr og, vr om, vi fv] [])
  clear hfx hfv
  refine gv (fun t k => XS.aconstNull Xh2.here hx rfl (hb hby d37_13) k) ?_
  show Go p.tables e below P T2 (mkF m 14 #[vr og, vr om, vi fv] [.null])
  refine g_goto Xh2 H d37_14 22 (by decide) ?_
  refine g_retA Xh2 H Bd.notSynchronized hP (by decide) Bd.returns rfl rfl rfl d37_22 ?_
  rw [hh2]
  exact ⟨rfl, N2, K0⟩
theorem d37_17 : D51 17 (.aload_n 1) 1 := by decide +kernel
theorem d37_18 : D51 18 (.iload_n 2) 1 := by decide +kernel
theorem d37_19 : D51 19 (.invokevirtual 23) 3 := by decide +kernel
theorem ef_37s (m : MethodId) (x0 : Addr) (x1 : Addr) : entryFrame m #[(.ref x0), (.ref x1)] 3 = mkF m 0 #[.val (.ref x0), .val (.ref x1), .unset] [] := by first | (simp [entryFrame, mkF, argsToLocals, Value.category]; done) | rfl
def Q37s (Z : State) (om : Addr) (ob : Addr) (os : Addr) (oe : Addr) (kk : ClassId) (ks : ClassId) (ke : ClassId) (ot : Addr) (kt : ClassId) (og : Addr) (pt : Int32) (qa : Int32) (qb : Int32) (qv : Int32) (ya : Int32) (yb : Int32) (yc : Int32) (cs : Int32) (fm : Value) (och : Addr) (ou : Addr) (ii : Nat) (h0 : Heap) (n0 : Nat) (v : Option Value) (h : Heap) (L : List Loc) : Prop := ∃ (r : Addr), v = some (.ref r) ∧ Fr n0 L ∧ Keep h0 h [] ∧ h0.size ≤ r ∧ Exa Z h r STn
theorem rm37s (l : Launch) (Z : State) (a0 : Array Value) (hw : HW a0 Z) (ws : List Jvm.Cond) (om : Addr) (ob : Addr) (os : Addr) (oe : Addr) (kk : ClassId) (ks : ClassId) (ke : ClassId) (ot : Addr) (kt : ClassId) (og : Addr) (pt : Int32) (qa : Int32) (qb : Int32) (qv : Int32) (ya : Int32) (yb : Int32) (yc : Int32) (cs : Int32) (fm : Value) (och : Addr) (ou : Addr) (ii : Nat) (h0 : Heap) (n0 : Nat) (Z0 : n0 ≤ h0.size) (O0 : Old Z n0 h0) (P1 : Sta Z Z.heap STn CSn "Z" (.int cs)) (hcs : ¬ cs = (0 : Int32)) (P3 : Sta Z Z.heap PRn SIn BFn fm) (rfm : fm.isRef = true) (P5 : Sta Z Z.heap SCn ISn DChn (.ref och)) (P6 : Exa Z Z.heap och STIn) (P7 : Sta Z Z.heap STIn INSn DSIn (.ref och)) (P8 : Sta Z Z.heap STUn INSn DSUn (.ref ou)) (nou : och ≠ ou) (P10 : Fld Z h0 og FDn "tag" "I" (.int pt)) (P11 : Exa Z h0 om TVn) (P12 : Fld Z h0 om TVn "bytes" DBn (.ref ob)) (P13 : Fld Z h0 om TVn "tags" "[I" (.ref ot)) (P14 : Fld Z h0 om TVn VSn "[I" (.ref os)) (P15 : Fld Z h0 om TVn VEn "[I" (.ref oe)) (P16 : Arv Z h0 ot kt .int (5 : Int32) (tgs qa qb) (.int 0)) (P17 : Arv Z h0 os ks .int (5 : Int32) lvs (.int 0)) (P18 : Arv Z h0 oe ke .int (5 : Int32) lve (.int 0)) (P19 : Arv Z h0 ob kk .byte (26 : Int32) (bll qa qb qv ya yb yc) (.int 0)) (hfx : (own_fx (own_tl qa qb) pt 5) = ii.toInt32) (hii : ii < 5) :
    MFr l Z (⟨FDn, "valueIn", "(Lcom/example/splitbook/splitbook/tagvalue/TagValueMessage;)Ljava/lang/String;"⟩ : MethodName) prog_14_method_3_code 3 (some (.object STn)) ws (Rm 6 2 30 101) #[(.ref og), (.ref om)] h0 (Q37s Z om ob os oe kk ks ke ot kt og pt qa qb qv ya yb yc cs fm och ou ii h0 n0) := by
  refine own_body (own := FDn) (plainFor_of_name own_pn8) rfl (fun m => ef_37s m og om) ?_
  intro p e s m below meth c s₁ Bd H hml hZ hown X0 e0 P hP
  have N0 := Fr.nil n0
  have K0 : Keep h0 h0 [] := Keep.refl _ _
  refine g_aloadN X0 H d37_0 rfl rfl ?_
  refine g_aloadN X0 H d37_1 rfl rfl ?_
  refine g_getF X0 H hZ hown (host := "") (Or.inl (own_g hw 154 rfl)) Via.refl e0 P10 d37_2 ?_
  intro T1 X1 e1
  refine g_cV X1 H hZ hml rfl hown e1 P11 (rm38 l Z a0 hw [] om pt ot kt qa qb h0 n0 Z0 P13 P16) (own_g hw 211 rfl) (own_g hw 212 rfl) (notFace_of_selects (args := #[]) (mvT hZ (own_g hw 214 rfl))) (own_g hw 214 rfl) (own_g hw 213 rfl) (own_g hw 4 rfl) (own_g hw 215 rfl) (by decide) own_pd11 d37_5 rfl rfl rfl (W := 0) rfl (by decide) ?_
  intro _ T2 Lc2 X2 hQ2
  obtain ⟨rfl, Nq2, hh2⟩ := hQ2
  obtain ⟨lc2, Xh2, N2⟩ := own_hide X2 (Fr.app N0 Nq2)
  clear X2
  show Go p.tables e below P T2 (mkF m 8 #[vr og, vr om, vu] [(.int (own_fx (own_tl qa qb) pt 5))])
  generalize hfv : (own_fx (own_tl qa qb) pt 5) = fv at hfx ⊢
  subst hfx
  clear hfv
  refine g_istoreN Xh2 H d37_8 #[vr og, vr om, vi (ii.toInt32)] rfl ?_
  refine g_iloadN Xh2 H d37_9 rfl ?_
  refine g_ifYes Xh2 H d37_10 17 ((if0 _ _).trans (flt (own_nneg (by omega))).2.1) (by decide) ?_
  refine g_aloadN Xh2 H d37_17 rfl rfl ?_
  refine g_iloadN Xh2 H d37_18 rfl ?_
  refine g_cV Xh2 H hZ hml rfl hown hh2 P11 (rm16 l Z a0 hw [] om ob os oe kk ks ke ii qa qb qv ya yb yc cs fm och ou h0 n0 Z0 O0 P1 hcs P3 rfm P5 P6 P7 P8 nou P11 P12 P14 P15 P19 P17 P18 hii) (own_g hw 216 rfl) (own_g hw 79 rfl) (notFace_of_selects (args := #[]) (mvT hZ (own_g hw 81 rfl))) (own_g hw 81 rfl) (own_g hw 80 rfl) (own_g hw 4 rfl) (own_g hw 82 rfl) (by decide) own_pd16 d37_19 rfl rfl rfl (W := 0) rfl (by decide) ?_
  intro _ T3 Lc3 X3 hQ3
  obtain ⟨r_3, oc_3, kc_3, us_3, rfl, Nq3, K3, fr3_r, fr3_oc, u3_0, u3_1, u3_2, u3_3⟩ := hQ3
  obtain ⟨lc3, Xh3, N3⟩ := own_hide X3 (Fr.app N2 Nq3)
  clear X3
  have g4 := Nat.le_trans Z0 fr3_r
  have sz5 := Nat.le_trans K0.1 fr3_r
  have g6 := Nat.le_trans Z0 fr3_oc
  have sz7 := Nat.le_trans K0.1 fr3_oc
  have Z8 := Nat.le_trans Z0 K3.1
  have K9 := K0.trans K3 own_all0
  have O10 : Old Z n0 T3.heap := O0.keep K3 own_all0
  refine g_retA Xh3 H Bd.notSynchronized hP (by decide) Bd.returns rfl rfl rfl d37_22 ?_
  exact ⟨r_3, rfl, N3, K9, sz5, u3_0⟩
theorem own_sa {a0 : Array Value} {Z : State} (hw : ∀ d ∈ tables_1, d.before a0 Z = true) : ∀ a ∈ Bundle.stringAtoms, a.before a0 Z = true := fun d hd => by
  simp only [Bundle.stringAtoms, List.mem_cons, List.not_mem_nil, or_false] at hd
  rcases hd with rfl | rfl | rfl | rfl | rfl | rfl | rfl
  · exact hw _ (List.mem_of_getElem? (i := 85) rfl)
  · exact hw _ (List.mem_of_getElem? (i := 84) rfl)
  · exact hw _ (List.mem_of_getElem? (i := 1) rfl)
  · exact hw _ (List.mem_of_getElem? (i := 131) rfl)
  · exact hw _ (List.mem_of_getElem? (i := 133) rfl)
  · exact hw _ (List.mem_of_getElem? (i := 148) rfl)
  · exact hw _ (List.mem_of_getElem? (i := 149) rfl)
theorem own_EW {a0 : Array Value} {Z : State} (hw : ∀ d ∈ tables_1, d.before a0 Z = true) : EW Z a0 consts_1 := (EW.cons (own_g hw 350 rfl) (by decide) (EW.cons (own_g hw 147 rfl) (by decide) (EW.cons (own_g hw 298 rfl) (by decide) (EW.cons (own_g hw 322 rfl) (by decide) EW.nil))))
theorem own_rew {s t : State} {o : Outcome} {L : List Loc} {k n k' n' : Nat} (h : ReturnedEndW s o t L k n) (h1 : k ≤ k') (h2 : n ≤ n') : ReturnedEndW s o t L k' n' := ⟨h.1, h.2.1, h.2.2.1, h.2.2.2.mono h1 h2⟩
theorem own_safeS {Z : State} {EL : List (String × Nat)} {vm : Vm} {h : Heap} {x : Addr} (hal : Z.vm.Alike vm) (E : Exa Z h x STn) (F : Fld Z h x STn VLn DBn .null) : Safe Z EL vm h x := fun B => by
  obtain ⟨cell, k, e1, e2, e3, -, -⟩ := E
  obtain ⟨cell', cf, kf, i, f, f1, f2, -, -, -, -, f7⟩ := F
  cases e1.symm.trans f1
  obtain ⟨p, -, u, a, -, q, -, G, rfl | rfl⟩ := B
  · cases (show h[q.sa]? = some q.sC from G.ha).symm.trans e1
    obtain ⟨cS, ⟨⟨s1, s2, s3, ⟨cv, kv, iv, s4, s4'⟩, -, -, -, s8, -⟩, -⟩, -⟩ := G
    obtain ⟨kv', z4⟩ := ff_back (U := Wst Z vm h) hal s4
    cases f2.symm.trans z4
    cases f7.symm.trans s8
  · cases (show h[q.sd]? = some q.SA from G.hd).symm.trans e1
    obtain ⟨cS, -, -, hf, -⟩ := G
    have hf : vm.findClass DBn = some q.SA.cls := hf
    rw [hal.findClass] at hf
    obtain ⟨k1, q1, q2⟩ := Vm.findClass_spec hf
    obtain ⟨k2, q3, q4⟩ := Vm.findClass_spec e2
    cases q1.symm.trans q3
    exact absurd (q2.symm.trans q4) (by decide)
theorem own_backS {p : Program} {l : Launch} {e : Env} {R : Room} {s : State} {args : Array Value} {below : List Frame} {Z : State} {a0 : Array Value} {EL : List (String × Nat)} {h : Heap} {vm0 : Vm} {y : MethodName} {bytes : ByteArray} {maxL : Nat} {ret : Option FieldType} {rm : Room} {len W : Nat} {as' : Array Value} {Q : Option Value → Heap → List Loc → Prop} {x : Addr}
    (hM : MetFree l y (head1 [Cond.code y bytes maxL ret] rm) (fun a U => a = as' ∧ Z.Warmed39 U.vm ∧ U.heap = h ∧ CHv Z EL U.vm h ∧ Safe Z EL U.vm h x) (fun _ _ _ _ _ => True) (fun _ U o U' => ∃ v L, o = .returned v ∧ Q v U'.heap L ∧ CHr Z EL U.vm U.heap U'.vm U'.heap ∧ ReturnedEndW U o U' L rm.cells rm.slots))
    (hZ : Z.Warmed39 vm0) (wc : (Cond.code y bytes maxL ret).before a0 Z = true) (wz : (Cond.initialized y.cls).before a0 Z = true) (hf : rm.frames + 1 ≤ R.frames) (hl : W + (maxL + 11) + rm.locals ≤ R.locals) (hEL : EW Z a0 EL) (H : CHv Z EL vm0 h) (hx : x < h.size) (S : Safe Z EL vm0 h x) :
    BackS l R p e below (s.setVm vm0) args y len W (fun A a => a = as' ∧ A.U.heap = h ∧ A.cells + rm.cells ≤ R.cells ∧ A.slots + rm.slots ≤ R.slots)
      (fun A _ v B => ∃ L, Q v B.U.heap L ∧ B.locs = A.locs ++ L ∧ B.cells = A.cells + rm.cells ∧ B.slots = A.slots + rm.slots ∧ CHr Z EL vm0 h B.U.vm B.U.heap) := by
  have key : ∀ m meth c (A : Pt), Stand p l e R (s.setVm vm0) m args below meth c A.U A.locs A.cells A.slots → Z.Warmed39 A.U.vm ∧ CHr Z EL vm0 h A.U.vm h := fun m meth c A Y => ⟨wtrans (s := s.setVm vm0) hZ Y.warmed, CHv.at Y hZ hEL H⟩
  refine BackS.of_freeW (bytes := bytes) (maxL := maxL) (ret := ret) (E := fun _ f o t L k n => (k = rm.cells ∧ n = rm.slots) ∧ (∃ v, o = .returned v ∧ Q v t.heap L) ∧ CHr Z EL f.vm f.heap t.vm t.heap) hM hf hl ?_ ?_ (fun _ _ _ _ _ _ _ _ _ => trivial) ?_ ?_
  · intro m meth c A a Y hp
    have hU := (key m meth c A Y).1
    refine ⟨?_, mv hU wc, mv hU wz, hp.2.2.1, hp.2.2.2⟩
    show (Cond.and _ .tt).before a A.U = true
    rw [Cond.before_and, mv hU wc]; rfl
  · intro m meth c A a g mk Y hp
    have q := key m meth c A Y
    exact ⟨hp.1, q.1, hp.2.1, q.2.1, q.2.safe hx S⟩
  · rintro _ _ _ _ ⟨v, L, r, q, u, w⟩
    exact ⟨L, _, _, w, ⟨rfl, rfl⟩, ⟨v, r, q⟩, u⟩
  · rintro m meth c A a g mk v t L k n Y hp _ _ ⟨⟨rfl, rfl⟩, ⟨v', r, q⟩, u⟩
    cases r
    refine ⟨L, q, rfl, rfl, rfl, (key m meth c A Y).2.trans ?_⟩
    rw [← hp.2.1]; exact u
def own_ts (bl : List Int32) (n : Nat) : List Int32 := bl ++ [(32 : Int32), (40 : Int32)] ++ own_ds n ++ [(41 : Int32)]
def own_pa (bl : List Int32) : List Int32 := own_put (List.replicate 16 (0 : Int32)) (0 : Nat) bl
def own_pb (bl : List Int32) : List Int32 := own_put (own_pa bl) ((0 : Nat) + bl.length) ([(32 : Int32), (40 : Int32)] : List Int32)
def own_pc (bl : List Int32) (n : Nat) : List Int32 := own_put (own_pb bl) ((0 : Nat) + bl.length + ([(32 : Int32), (40 : Int32)] : List Int32).length) (own_ds n)
def own_pd (bl : List Int32) (n : Nat) : List Int32 := own_put (own_pc bl n) ((0 : Nat) + bl.length + ([(32 : Int32), (40 : Int32)] : List Int32).length + own_ss n) ([(41 : Int32)] : List Int32)
theorem own_s2 (n : Nat) : own_ss n ≤ 2 := by unfold own_ss; split <;> omega
theorem own_tk {bl : List Int32} (h : bl.length = 1) (n : Nat) : (0 : Nat) + bl.length ≤ 16 ∧ (0 : Nat) + bl.length + ([(32 : Int32), (40 : Int32)] : List Int32).length ≤ 16 ∧ (0 : Nat) + bl.length + ([(32 : Int32), (40 : Int32)] : List Int32).length + own_ss n ≤ 16 ∧ (0 : Nat) + bl.length + ([(32 : Int32), (40 : Int32)] : List Int32).length + own_ss n + ([(41 : Int32)] : List Int32).length ≤ 16 := by
  have q := own_s2 n
  simp only [List.length_cons, List.length_nil]; omega
theorem own_tl1 {bl : List Int32} (h : bl.length = 1) : (own_pa bl).length = 16 := own_put_len List.length_replicate (own_tk h 0).1
theorem own_tl2 {bl : List Int32} (h : bl.length = 1) : (own_pb bl).length = 16 := own_put_len (own_tl1 h) (own_tk h 0).2.1
theorem own_tl3 {bl : List Int32} (h : bl.length = 1) (n : Nat) : (own_pc bl n).length = 16 := own_put_len (own_tl2 h) (by rw [own_ds_len]; exact (own_tk h n).2.2.1)
theorem own_tl4 {bl : List Int32} (h : bl.length = 1) (n : Nat) : (own_pd bl n).length = 16 := own_put_len (own_tl3 h n) (own_tk h n).2.2.2
theorem own_tsq {bl : List Int32} {n : Nat} (hb : bl.length = 1) : (own_pd bl n).take ((0 : Nat) + bl.length + ([(32 : Int32), (40 : Int32)] : List Int32).length + own_ss n + ([(41 : Int32)] : List Int32).length) = own_ts bl n ∧ (0 : Nat) + bl.length + ([(32 : Int32), (40 : Int32)] : List Int32).length + own_ss n + ([(41 : Int32)] : List Int32).length = (own_ts bl n).length := by
  match bl, hb with
  | [x], _ =>
    unfold own_pd own_pc own_pb own_pa own_ts own_ds own_ss own_put
    by_cases h : n < 10
    · simp [h]
    · simp [h]
theorem own_tsl {bl : List Int32} (hb : bl.length = 1) (n : Nat) : (own_ts bl n).length = 4 + own_ss n := by
  unfold own_ts; simp only [List.length_append, own_ds_len, hb, List.length_cons, List.length_nil]; omega
theorem own_tsA {Z : State} {h : Heap} {a : Addr} {k : ClassId} {bl : List Int32} {n : Nat} {dv : Value} (hb : bl.length = 1) (F : Arv Z h a k .byte (((0 : Nat) + bl.length + ([(32 : Int32), (40 : Int32)] : List Int32).length + own_ss n + ([(41 : Int32)] : List Int32).length).toInt32) (((own_pd bl n).take ((0 : Nat) + bl.length + ([(32 : Int32), (40 : Int32)] : List Int32).length + own_ss n + ([(41 : Int32)] : List Int32).length)).map Value.int) dv) : Arv Z h a k .byte (own_lg (own_ts bl n)) ((own_ts bl n).map Value.int) dv := by
  rw [(own_tsq hb).1, (own_tsq hb).2] at F; exact F
theorem own_pd34 : parseMethodDescriptor "(Ljava/lang/String;)Ljava/lang/StringBuilder;" = some ⟨[(.object STn)], some (.object SBn)⟩ := by decide +kernel
theorem own_pd35 : parseMethodDescriptor "(I)Ljava/lang/StringBuilder;" = some ⟨[.int], some (.object SBn)⟩ := by decide +kernel
theorem own_pd36 : parseMethodDescriptor "()Ljava/lang/String;" = some ⟨[], some (.object STn)⟩ := by decide +kernel
theorem d44_0 : D52 0 (.new 27) 3 := by decide +kernel
theorem d44_3 : D52 3 (.dup) 1 := by decide +kernel
theorem d44_4 : D52 4 (.invokespecial 29) 3 := by decide +kernel
theorem d44_7 : D52 7 (.aload_n 0) 1 := by decide +kernel
theorem d44_8 : D52 8 (.getfield 13) 3 := by decide +kernel
theorem d44_11 : D52 11 (.invokevirtual 30) 3 := by decide +kernel
theorem d44_14 : D52 14 (.ldc 34) 2 := by decide +kernel
theorem d44_16 : D52 16 (.invokevirtual 30) 3 := by decide +kernel
theorem d44_19 : D52 19 (.aload_n 0) 1 := by decide +kernel
theorem d44_20 : D52 20 (.getfield 7) 3 := by decide +kernel
theorem d44_23 : D52 23 (.invokevirtual 36) 3 := by decide +kernel
theorem d44_26 : D52 26 (.ldc 39) 2 := by decide +kernel
theorem d44_28 : D52 28 (.invokevirtual 30) 3 := by decide +kernel
theorem d44_31 : D52 31 (.invokevirtual 41) 3 := by decide +kernel
theorem d44_34 : D52 34 (.areturn) 1 := by decide +kernel
theorem ef_44 (m : MethodId) (x0 : Addr) : entryFrame m #[(.ref x0)] 1 = mkF m 0 #[.val (.ref x0)] [] := by first | (simp [entryFrame, mkF, argsToLocals, Value.category]; done) | rfl
def Q44 (Z : State) (og : Addr) (nt : Nat) (cs : Int32) (so : Addr) (tb : Addr) (kb : ClassId) (bl : List Int32) (o1 : Addr) (o2 : Addr) (k1d : ClassId) (k2d : ClassId) (h0 : Heap) (n0 : Nat) (v : Option Value) (h : Heap) (L : List Loc) : Prop := ∃ (r : Addr) (oc : Addr) (kc : ClassId), v = some (.ref r) ∧ Fr n0 L ∧ Keep h0 h [] ∧ h0.size ≤ r ∧ h0.size ≤ oc ∧ Exa Z h r STn ∧ Fld Z h r STn VLn DBn (.ref oc) ∧ Fld Z h r STn CDn "B" (.int 0) ∧ Arv Z h oc kc .byte (own_lg (own_ts bl nt)) ((own_ts bl nt).map Value.int) (.int 0)
theorem rm44 (l : Launch) (Z : State) (a0 : Array Value) (hw : HW a0 Z) (ws : List Jvm.Cond) (og : Addr) (nt : Nat) (cs : Int32) (so : Addr) (tb : Addr) (kb : ClassId) (bl : List Int32) (o1 : Addr) (o2 : Addr) (k1d : ClassId) (k2d : ClassId) (h0 : Heap) (n0 : Nat) (Z0 : n0 ≤ h0.size) (O0 : Old Z n0 h0) (P1 : Sta Z Z.heap STn CSn "Z" (.int cs)) (hcs : ¬ cs = (0 : Int32)) (P3 : Sta Z Z.heap INn "DigitOnes" DBn (.ref o1)) (P4 : Sta Z Z.heap INn "DigitTens" DBn (.ref o2)) (P5 : Arv Z Z.heap o1 k1d .byte (100 : Int32) (own_on.map Value.int) (.int 0)) (P6 : Arv Z Z.heap o2 k2d .byte (100 : Int32) (own_tn.map Value.int) (.int 0)) (P7 : Exa Z h0 og FDn) (P8 : Fld Z h0 og FDn "tag" "I" (.int (nt.toInt32))) (P9 : Fld Z h0 og FDn "name" "Ljava/lang/String;" (.ref so)) (P10 : Exa Z h0 so STn) (P11 : Fld Z h0 so STn VLn DBn (.ref tb)) (P12 : Fld Z h0 so STn CDn "B" (.int 0)) (P13 : Arv Z h0 tb kb .byte (own_lg bl) (bl.map Value.int) (.int 0)) (hbl : bl.length = 1) (hnt : nt < 100) :
    MetFree l (⟨FDn, "toString", "()Ljava/lang/String;"⟩ : MethodName) (head1 (Jvm.Cond.code (⟨FDn, "toString", "()Ljava/lang/String;"⟩ : MethodName) prog_14_method_4_code 1 (some (.object STn)) :: ws) (Rm 6 8 60 91)) (fun a U => a = #[(.ref og)] ∧ Z.Warmed39 U.vm ∧ U.heap = h0 ∧ CHv Z consts_1 U.vm h0) (fun _ _ _ _ _ => True) (fun _ U o U' => ∃ v L, o = .returned v ∧ Q44 Z og nt cs so tb kb bl o1 o2 k1d k2d h0 n0 v U'.heap L ∧ CHr Z consts_1 U.vm U.heap U'.vm U'.heap ∧ ReturnedEndW U o U' L (Rm 6 8 60 91).cells (Rm 6 8 60 91).slots) := by
  refine MetFree.of_bodySF (plainFor_of_name own_pn8) hisR ?_
  intro p e s m args below meth c s₁ Bd hml0 hP hK
  obtain ⟨rfl, hZ, hh, hCH0⟩ := hP
  have hx := Bd.exec
  have hby := Bd.bytes
  have hml : c.maxLocals = 1 := hml0
  have hown : s.vm.findClass FDn = some m.cls := findClass_of_methodNamed Bd.named
  have hnm := (name_of_methodNamed Bd.named Bd.method).1
  have X0 : Stand p l e (Rm 6 8 60 91) s m #[(.ref og)] below meth c s₁ [] 0 0 := Stand.of_body Bd
  have X0 : Stand p l e (Rm 6 8 60 91) (s.setVm s.vm) m #[(.ref og)] below meth c s₁ [] 0 0 := X0
  have hZ : Z.Warmed39 (s.setVm s.vm).vm := hZ
  have hown : (s.setVm s.vm).vm.findClass FDn = some m.cls := hown
  have hS0 : s.Since s.vm 0 := State.WarmedH.since (State.WarmedH.refl s) 0
  have CR0 : CHr Z consts_1 s.vm h0 s.vm h0 := CHr.refl hCH0
  have e0 : s₁.heap = h0 := by rw [← hh, Bd.state]; rfl
  have N0 := Fr.nil n0
  have K0 : Keep h0 h0 [] := Keep.refl _ _
  suffices GO : ∀ P : Outcome → State → Prop, (∀ o U', (∃ v L, o = .returned v ∧ Q44 Z og nt cs so tb kb bl o1 o2 k1d k2d h0 n0 v U'.heap L ∧ CHr Z consts_1 s.vm s.heap U'.vm U'.heap ∧ ReturnedEndW s o U' L (Rm 6 8 60 91).cells (Rm 6 8 60 91).slots) → P o U') → Go p.tables e below P s₁ (mkF m 0 #[.val (.ref og)] []) by
    obtain ⟨s2, o, st, r⟩ := GO _ (fun _ _ q => q)
    exact ⟨s2, o, castTop (ef_44 m og) st, r⟩
  have H : HX p c prog_14_method_4_code := ⟨hx, hby⟩
  intro P hP
  show Go p.tables e below P s₁ (mkF m 0 #[vr og] [])
  obtain ⟨T1, h1, X1, e1, E1, A1, D1, -, st1⟩ := newO X0 hx hZ hown (own_g hw 261 rfl) (own_g hw 230 rfl) (own_g hw 231 rfl) e0 (g := (mkF m 0 #[vr og] [])) rfl (hb hby d44_0) (by decide) (by decide)
  obtain ⟨b1, g1⟩ : ∃ z, z = h0.size := ⟨_, rfl⟩
  rw [← g1] at A1 D1 st1
  refine gv st1 ?_
  have g2 := Nat.le_trans Z0 (Nat.le_of_eq g1.symm)
  have sz3 := Nat.le_trans K0.1 (Nat.le_of_eq g1.symm)
  have Z4 := Nat.le_trans Z0 E1.1
  have K5 := K0.ext E1
  have O6 : Old Z n0 h1 := O0.ext E1
  have CR7 := CHr.trans CR0 (CHr.ext E1 CR0.1)
  show Go p.tables e below P T1 (mkF m 3 #[vr og] [(.ref b1)])
  refine g_dup X1 H d44_3 rfl ?_
  refine g_cI X1 H hZ hml rfl hown e1 (rm40 l Z a0 hw [] b1 cs h1 n0 Z4 O6 P1 hcs A1 (D1 (Or.inl (own_g hw 244 rfl)) (ty := (.array .byte)) (by decide) : Fld Z h1 b1 ASn VLn DBn .null) (D1 (Or.inl (own_g hw 246 rfl)) (ty := .byte) (by decide) : Fld Z h1 b1 ASn CDn "B" (.int 0)) (D1 (Or.inl (own_g hw 275 rfl)) (ty := .int) (by decide) : Fld Z h1 b1 ASn "count" "I" (.int 0)) g2) (own_g hw 262 rfl) (own_g hw 233 rfl) (own_g hw 231 rfl) (own_g hw 234 rfl) (by decide) own_pd19 d44_4 rfl rfl rfl rfl (W := 1) rfl (by decide) ?_
  intro _ T8 Lc8 X8 hQ8
  obtain ⟨ov_8, ko_8, rfl, Nq8, K8, fr8_ov, u8_0, u8_1, u8_2, u8_3, u8_4, u8_5⟩ := hQ8
  obtain ⟨lc8, Xh8, N8⟩ := own_hide X8 (Fr.app N0 Nq8)
  clear X8
  have ne9 := Nat.ne_of_lt (Nat.lt_of_lt_of_le A1.lt fr8_ov)
  have g10 := Nat.le_trans Z4 fr8_ov
  have sz11 := Nat.le_trans K5.1 fr8_ov
  have Z12 := Nat.le_trans Z4 K8.1
  have K13 := K5.trans K8 (own_allC (Or.inr sz3) own_all0)
  have Sf14 := Safe.keep K8 (sfS (Safe.exa hZ.alike A1 (by decide) (by decide)) sf0) CR7.1 (Safe.new (Z := Z) (EL := consts_1) (vm := s.vm) fr8_ov)
  have CR15 := CHr.trans CR7 (CHr.keep K8 (sfS (Safe.exa hZ.alike A1 (by decide) (by decide)) sf0) CR7.1)
  have O16 : Old Z n0 T8.heap := O6.keep K8 (own_allC g2 own_all0)
  refine g_aloadN Xh8 H d44_7 rfl rfl ?_
  have F17 := ((P9.ext E1).keep K8 (own_ninC (Nat.ne_of_lt (Nat.lt_of_lt_of_le P7.lt sz3)) own_nin0))
  refine g_getF Xh8 H hZ hown (host := "") (Or.inl (own_g hw 156 rfl)) Via.refl rfl F17 d44_8 ?_
  intro T18 X18 e18
  have F19 := ((P10.ext E1).keep K8)
  have F20 := ((P11.ext E1).keep K8 (own_ninC (Nat.ne_of_lt (Nat.lt_of_lt_of_le P10.lt sz3)) own_nin0))
  have F21 := ((P12.ext E1).keep K8 (own_ninC (Nat.ne_of_lt (Nat.lt_of_lt_of_le P10.lt sz3)) own_nin0))
  have F22 := ((P13.ext E1).keep K8 (own_ninC (Nat.ne_of_lt (Nat.lt_of_lt_of_le P13.lt sz3)) own_nin0))
  refine g_cV X18 H hZ hml rfl hown e18 u8_0 (rm45 l Z a0 hw [] b1 ov_8 ko_8 (0 : Nat) (List.replicate 16 (0 : Int32)) so tb kb bl cs T8.heap n0 Z12 O16 P1 hcs u8_0 u8_1 u8_2 u8_3 F19 F20 F21 F22 u8_4 (own_tk hbl nt).1 List.length_replicate g10 g2 (Nat.ne_of_lt (Nat.lt_of_lt_of_le P13.lt sz11)) ne9 (Nat.ne_of_lt (Nat.lt_of_lt_of_le P10.lt sz11)) (Ne.symm (Nat.ne_of_lt (Nat.lt_of_lt_of_le P10.lt sz3))) (Ne.symm (Nat.ne_of_lt (Nat.lt_of_lt_of_le P13.lt sz3)))) (own_g hw 263 rfl) (own_g hw 264 rfl) (notFace_of_selects (args := #[]) (mvT hZ (own_g hw 266 rfl))) (own_g hw 266 rfl) (own_g hw 265 rfl) (own_g hw 231 rfl) (own_g hw 267 rfl) (by decide) own_pd34 d44_11 rfl rfl rfl (W := 0) rfl (by decide) ?_
  intro _ T23 Lc23 X23 hQ23
  obtain ⟨rfl, Nq23, K23, u23_0, u23_1, u23_2, u23_3, u23_4⟩ := hQ23
  obtain ⟨lc23, Xh23, N23⟩ := own_hide X23 (Fr.app N8 Nq23)
  clear X23
  have Z24 := Nat.le_trans Z12 K23.1
  have K25 := K13.trans K23 (own_allC (Or.inr sz3) (own_allC (Or.inr sz11) own_all0))
  have Sf26 := Safe.keep K23 (sfS (Safe.exa hZ.alike u8_0 (by decide) (by decide)) (sfS Sf14 sf0)) CR15.1 Sf14
  have CR27 := CHr.trans CR15 (CHr.keep K23 (sfS (Safe.exa hZ.alike u8_0 (by decide) (by decide)) (sfS Sf14 sf0)) CR15.1)
  have O28 : Old Z n0 T23.heap := O16.keep K23 (own_allC g2 (own_allC g10 own_all0))
  show Go p.tables e below P T23 (mkF m 14 #[vr og] [(.ref b1)])
  obtain ⟨a29, T29, h29, kn29, b29, kb29, X29, e29, E29, hS29, hk29, hZ, hown, Ex29, Fc29, Fv29, Va29, lta29, ltb29, hC29, -, ne29, st29⟩ := ldcCH Xh23 hx hZ hown (own_g hw 298 rfl) (own_sa hw) rfl hS0 (Nat.zero_le _) (own_EW hw) (by decide : ((FDn, 34) : String × Nat) ∈ consts_1) CR27.1 (vs := [(.int 32), (.int 40)]) (z := (2 : Int32)) ⟨by decide, rfl⟩ (by decide) rfl (g := (mkF m 14 #[vr og] [(.ref b1)])) rfl (hb hby d44_14) (n := 8) (by decide) (by decide) (by decide) (by decide)
  refine gv st29 ?_
  have Sf30 := CHr.safe hC29 u23_4.lt Sf26
  have CR31 := CHr.trans CR27 hC29
  have Z32 := Nat.le_trans Z24 E29.1
  have K33 := K25.ext E29
  have O34 : Old Z n0 h29 := O28.ext E29
  have Vb29 : Arv Z h29 b29 kb29 .byte (own_lg ([(32 : Int32), (40 : Int32)] : List Int32)) (([(32 : Int32), (40 : Int32)] : List Int32).map Value.int) (.int 0) := by
    rw [show own_lg ([(32 : Int32), (40 : Int32)] : List Int32) = (2 : Int32) from rfl]; exact Va29
  have F35 := ((((P7.ext E1).keep K8).keep K23).ext E29)
  have nq36 := (ne29 _ (Safe.exa hZ.alike F35 (by decide) (by decide))).1
  have nq37 := (ne29 _ (Safe.exa hZ.alike F35 (by decide) (by decide))).2
  have F38 := (u23_0.ext E29)
  have nq39 := (ne29 _ (Safe.exa hZ.alike F38 (by decide) (by decide))).1
  have nq40 := (ne29 _ (Safe.exa hZ.alike F38 (by decide) (by decide))).2
  have nq41 := (ne29 _ Sf30).1
  have nq42 := (ne29 _ Sf30).2
  show Go p.tables e below P T29 (mkF m 16 #[vr og] [(.ref a29), (.ref b1)])
  have F43 := (u23_1.ext E29)
  have F44 := (u23_2.ext E29)
  have F45 := (u23_3.ext E29)
  have F46 := (u23_4.ext E29)
  refine g_cV X29 H hZ hml rfl hown e29 F38 (rm45 l Z a0 hw [] b1 ov_8 ko_8 ((0 : Nat) + bl.length) (own_put (List.replicate 16 (0 : Int32)) (0 : Nat) bl) a29 b29 kb29 ([(32 : Int32), (40 : Int32)] : List Int32) cs h29 n0 Z32 O34 P1 hcs F38 F43 F44 F45 Ex29 Fv29 Fc29 Vb29 F46 (own_tk hbl nt).2.1 (own_tl1 hbl) g10 g2 (Ne.symm nq42) ne9 (Ne.symm nq41) nq39 nq40) (own_g hw 263 rfl) (own_g hw 264 rfl) (notFace_of_selects (args := #[]) (mvT hZ (own_g hw 266 rfl))) (own_g hw 266 rfl) (own_g hw 265 rfl) (own_g hw 231 rfl) (own_g hw 267 rfl) (by decide) own_pd34 d44_16 rfl rfl rfl (W := 0) rfl (by decide) ?_
  intro _ T47 Lc47 X47 hQ47
  obtain ⟨rfl, Nq47, K47, u47_0, u47_1, u47_2, u47_3, u47_4⟩ := hQ47
  obtain ⟨lc47, Xh47, N47⟩ := own_hide X47 (Fr.app N23 Nq47)
  clear X47
  have Z48 := Nat.le_trans Z32 K47.1
  have K49 := K33.trans K47 (own_allC (Or.inr sz3) (own_allC (Or.inr sz11) own_all0))
  have Sf50 := Safe.keep K47 (sfS (Safe.exa hZ.alike F38 (by decide) (by decide)) (sfS Sf30 sf0)) CR31.1 Sf30
  have CR51 := CHr.trans CR31 (CHr.keep K47 (sfS (Safe.exa hZ.alike F38 (by decide) (by decide)) (sfS Sf30 sf0)) CR31.1)
  have hk52 := Nat.le_trans hk29 K47.1
  have O53 : Old Z n0 T47.heap := O34.keep K47 (own_allC g2 (own_allC g10 own_all0))
  refine g_aloadN Xh47 H d44_19 rfl rfl ?_
  have F54 := (((((P8.ext E1).keep K8 (own_ninC (Nat.ne_of_lt (Nat.lt_of_lt_of_le P7.lt sz3)) own_nin0)).keep K23 (own_ninC (Nat.ne_of_lt (Nat.lt_of_lt_of_le P7.lt sz3)) (own_ninC (Nat.ne_of_lt (Nat.lt_of_lt_of_le P7.lt sz11)) own_nin0))).ext E29).keep K47 (own_ninC (Nat.ne_of_lt (Nat.lt_of_lt_of_le P7.lt sz3)) (own_ninC (Nat.ne_of_lt (Nat.lt_of_lt_of_le P7.lt sz11)) own_nin0)))
  refine g_getF Xh47 H hZ hown (host := "") (Or.inl (own_g hw 154 rfl)) Via.refl rfl F54 d44_20 ?_
  intro T55 X55 e55
  refine g_cV X55 H hZ hml rfl hown e55 u47_0 (rm51 l Z a0 hw [] b1 ov_8 ko_8 (((0 : Nat) + bl.length) + ([(32 : Int32), (40 : Int32)] : List Int32).length) (own_put (own_put (List.replicate 16 (0 : Int32)) (0 : Nat) bl) ((0 : Nat) + bl.length) ([(32 : Int32), (40 : Int32)] : List Int32)) nt cs o1 o2 k1d k2d T47.heap n0 Z48 O53 P1 hcs P3 P4 P5 P6 u47_0 u47_1 u47_2 u47_3 u47_4 hnt (own_tk hbl nt).2.2.1 (own_tl2 hbl) g10 g2 ne9) (own_g hw 299 rfl) (own_g hw 300 rfl) (notFace_of_selects (args := #[]) (mvT hZ (own_g hw 302 rfl))) (own_g hw 302 rfl) (own_g hw 301 rfl) (own_g hw 231 rfl) (own_g hw 303 rfl) (by decide) own_pd35 d44_23 rfl rfl rfl (W := 0) rfl (by decide) ?_
  intro _ T56 Lc56 X56 hQ56
  obtain ⟨rfl, Nq56, K56, u56_0, u56_1, u56_2, u56_3, u56_4⟩ := hQ56
  obtain ⟨lc56, Xh56, N56⟩ := own_hide X56 (Fr.app N47 Nq56)
  clear X56
  have Z57 := Nat.le_trans Z48 K56.1
  have K58 := K49.trans K56 (own_allC (Or.inr sz3) (own_allC (Or.inr sz11) own_all0))
  have Sf59 := Safe.keep K56 (sfS (Safe.exa hZ.alike u47_0 (by decide) (by decide)) (sfS Sf50 sf0)) CR51.1 Sf50
  have CR60 := CHr.trans CR51 (CHr.keep K56 (sfS (Safe.exa hZ.alike u47_0 (by decide) (by decide)) (sfS Sf50 sf0)) CR51.1)
  have hk61 := Nat.le_trans hk52 K56.1
  have O62 : Old Z n0 T56.heap := O53.keep K56 (own_allC g2 (own_allC g10 own_all0))
  show Go p.tables e below P T56 (mkF m 26 #[vr og] [(.ref b1)])
  obtain ⟨a63, T63, h63, kn63, b63, kb63, X63, e63, E63, hS63, hk63, hZ, hown, Ex63, Fc63, Fv63, Va63, lta63, ltb63, hC63, -, ne63, st63⟩ := ldcCH Xh56 hx hZ hown (own_g hw 322 rfl) (own_sa hw) rfl hS29 hk61 (own_EW hw) (by decide : ((FDn, 39) : String × Nat) ∈ consts_1) CR60.1 (vs := [(.int 41)]) (z := (1 : Int32)) ⟨by decide, rfl⟩ (by decide) rfl (g := (mkF m 26 #[vr og] [(.ref b1)])) rfl (hb hby d44_26) (n := 4) (by decide) (by decide) (by decide) (by decide)
  refine gv st63 ?_
  have Sf64 := CHr.safe hC63 u56_4.lt Sf59
  have CR65 := CHr.trans CR60 hC63
  have Z66 := Nat.le_trans Z57 E63.1
  have K67 := K58.ext E63
  have O68 : Old Z n0 h63 := O62.ext E63
  have Vb63 : Arv Z h63 b63 kb63 .byte (own_lg ([(41 : Int32)] : List Int32)) (([(41 : Int32)] : List Int32).map Value.int) (.int 0) := by
    rw [show own_lg ([(41 : Int32)] : List Int32) = (1 : Int32) from rfl]; exact Va63
  have F69 := (((F35.keep K47).keep K56).ext E63)
  have nq70 := (ne63 _ (Safe.exa hZ.alike F69 (by decide) (by decide))).1
  have nq71 := (ne63 _ (Safe.exa hZ.alike F69 (by decide) (by decide))).2
  have F72 := (u56_0.ext E63)
  have nq73 := (ne63 _ (Safe.exa hZ.alike F72 (by decide) (by decide))).1
  have nq74 := (ne63 _ (Safe.exa hZ.alike F72 (by decide) (by decide))).2
  have nq75 := (ne63 _ Sf64).1
  have nq76 := (ne63 _ Sf64).2
  show Go p.tables e below P T63 (mkF m 28 #[vr og] [(.ref a63), (.ref b1)])
  have F77 := (u56_1.ext E63)
  have F78 := (u56_2.ext E63)
  have F79 := (u56_3.ext E63)
  have F80 := (u56_4.ext E63)
  refine g_cV X63 H hZ hml rfl hown e63 F72 (rm45 l Z a0 hw [] b1 ov_8 ko_8 ((((0 : Nat) + bl.length) + ([(32 : Int32), (40 : Int32)] : List Int32).length) + own_ss nt) (own_put (own_put (own_put (List.replicate 16 (0 : Int32)) (0 : Nat) bl) ((0 : Nat) + bl.length) ([(32 : Int32), (40 : Int32)] : List Int32)) (((0 : Nat) + bl.length) + ([(32 : Int32), (40 : Int32)] : List Int32).length) (own_ds nt)) a63 b63 kb63 ([(41 : Int32)] : List Int32) cs h63 n0 Z66 O68 P1 hcs F72 F77 F78 F79 Ex63 Fv63 Fc63 Vb63 F80 (own_tk hbl nt).2.2.2 (own_tl3 hbl nt) g10 g2 (Ne.symm nq76) ne9 (Ne.symm nq75) nq73 nq74) (own_g hw 263 rfl) (own_g hw 264 rfl) (notFace_of_selects (args := #[]) (mvT hZ (own_g hw 266 rfl))) (own_g hw 266 rfl) (own_g hw 265 rfl) (own_g hw 231 rfl) (own_g hw 267 rfl) (by decide) own_pd34 d44_28 rfl rfl rfl (W := 0) rfl (by decide) ?_
  intro _ T81 Lc81 X81 hQ81
  obtain ⟨rfl, Nq81, K81, u81_0, u81_1, u81_2, u81_3, u81_4⟩ := hQ81
  obtain ⟨lc81, Xh81, N81⟩ := own_hide X81 (Fr.app N56 Nq81)
  clear X81
  have Z82 := Nat.le_trans Z66 K81.1
  have K83 := K67.trans K81 (own_allC (Or.inr sz3) (own_allC (Or.inr sz11) own_all0))
  have Sf84 := Safe.keep K81 (sfS (Safe.exa hZ.alike F72 (by decide) (by decide)) (sfS Sf64 sf0)) CR65.1 Sf64
  have CR85 := CHr.trans CR65 (CHr.keep K81 (sfS (Safe.exa hZ.alike F72 (by decide) (by decide)) (sfS Sf64 sf0)) CR65.1)
  have hk86 := Nat.le_trans hk63 K81.1
  have O87 : Old Z n0 T81.heap := O68.keep K81 (own_allC g2 (own_allC g10 own_all0))
  have F88 := ((((((u8_5.keep K23).ext E29).keep K47).keep K56).ext E63).keep K81)
  refine g_cV Xh81 H hZ hml rfl hown rfl u81_0 (rm56 l Z a0 hw [] b1 ov_8 ko_8 (((((0 : Nat) + bl.length) + ([(32 : Int32), (40 : Int32)] : List Int32).length) + own_ss nt) + ([(41 : Int32)] : List Int32).length) (own_put (own_put (own_put (own_put (List.replicate 16 (0 : Int32)) (0 : Nat) bl) ((0 : Nat) + bl.length) ([(32 : Int32), (40 : Int32)] : List Int32)) (((0 : Nat) + bl.length) + ([(32 : Int32), (40 : Int32)] : List Int32).length) (own_ds nt)) ((((0 : Nat) + bl.length) + ([(32 : Int32), (40 : Int32)] : List Int32).length) + own_ss nt) ([(41 : Int32)] : List Int32)) cs T81.heap n0 Z82 O87 P1 hcs u81_0 u81_1 u81_2 u81_3 u81_4 F88 (own_tk hbl nt).2.2.2 (own_tl4 hbl nt)) (own_g hw 323 rfl) (own_g hw 324 rfl) (notFace_of_selects (args := #[]) (mvT hZ (own_g hw 326 rfl))) (own_g hw 326 rfl) (own_g hw 325 rfl) (own_g hw 231 rfl) (own_g hw 327 rfl) (by decide) own_pd36 d44_31 rfl rfl rfl (W := 0) rfl (by decide) ?_
  intro _ T89 Lc89 X89 hQ89
  obtain ⟨r_89, oc_89, kc_89, rfl, Nq89, K89, fr89_r, fr89_oc, u89_0, u89_1, u89_2, u89_3⟩ := hQ89
  obtain ⟨lc89, Xh89, N89⟩ := own_hide X89 (Fr.app N81 Nq89)
  clear X89
  have ne90 := Nat.ne_of_lt (Nat.lt_of_lt_of_le u81_0.lt fr89_r)
  have ne91 := Nat.ne_of_lt (Nat.lt_of_lt_of_le F88.lt fr89_r)
  have F93 := ((((Ex29.keep K47).keep K56).ext E63).keep K81)
  have ne92 := Nat.ne_of_lt (Nat.lt_of_lt_of_le F93.lt fr89_r)
  have F95 := ((((Vb29.keep K47 (own_ninC (Ne.symm nq40) (own_ninC (Ne.symm nq42) own_nin0))).keep K56 (own_ninC (Ne.symm nq40) (own_ninC (Ne.symm nq42) own_nin0))).ext E63).keep K81 (own_ninC (Ne.symm nq40) (own_ninC (Ne.symm nq42) own_nin0)))
  have ne94 := Nat.ne_of_lt (Nat.lt_of_lt_of_le F95.lt fr89_r)
  have F97 := (Ex63.keep K81)
  have ne96 := Nat.ne_of_lt (Nat.lt_of_lt_of_le F97.lt fr89_r)
  have F99 := (Vb63.keep K81 (own_ninC (Ne.symm nq74) (own_ninC (Ne.symm nq76) own_nin0)))
  have ne98 := Nat.ne_of_lt (Nat.lt_of_lt_of_le F99.lt fr89_r)
  have g100 := Nat.le_trans Z82 fr89_r
  have sz101 := Nat.le_trans K83.1 fr89_r
  have ne102 := Nat.ne_of_lt (Nat.lt_of_lt_of_le u81_0.lt fr89_oc)
  have ne103 := Nat.ne_of_lt (Nat.lt_of_lt_of_le F88.lt fr89_oc)
  have ne104 := Nat.ne_of_lt (Nat.lt_of_lt_of_le F93.lt fr89_oc)
  have ne105 := Nat.ne_of_lt (Nat.lt_of_lt_of_le F95.lt fr89_oc)
  have ne106 := Nat.ne_of_lt (Nat.lt_of_lt_of_le F97.lt fr89_oc)
  have ne107 := Nat.ne_of_lt (Nat.lt_of_lt_of_le F99.lt fr89_oc)
  have g108 := Nat.le_trans Z82 fr89_oc
  have sz109 := Nat.le_trans K83.1 fr89_oc
  have Z110 := Nat.le_trans Z82 K89.1
  have K111 := K83.trans K89 own_all0
  have Sf112 := Safe.keep K89 sf0 CR85.1 Sf84
  have Sf113 := Safe.keep K89 sf0 CR85.1 (Safe.new (Z := Z) (EL := consts_1) (vm := T63.vm) fr89_r)
  have Sf114 := Safe.keep K89 sf0 CR85.1 (Safe.new (Z := Z) (EL := consts_1) (vm := T63.vm) fr89_oc)
  have CR115 := CHr.trans CR85 (CHr.keep K89 sf0 CR85.1)
  have hk116 := Nat.le_trans hk86 K89.1
  have O117 : Old Z n0 T89.heap := O87.keep K89 own_all0
  show Go p.tables e below P T89 (mkF m 34 #[vr og] [(.ref r_89)])
  obtain ⟨fs, hr, hrun, hended, hend⟩ := Xh89.leaveW hS63 (by exact hk116) (v := some (.ref r_89)) (fun h => by rw [Bd.returns] at h; cases h)
  have hCf : CHr Z consts_1 s.vm s.heap (T89.setFrames fs).vm (T89.setFrames fs).heap := by
    rw [hh]
    show CHr Z consts_1 s.vm h0 T89.vm T89.heap
    exact CHr.trans CR115 (CHv.at Xh89 hZ (own_EW hw) CR115.1)
  refine ⟨_, _, retA Xh89 hx Bd.returns rfl rfl rfl (hb hby d44_34) hr, hrun, hended, hP _ _ ⟨_, _, rfl, ?_, hCf, own_rew hend (by decide) (by decide)⟩⟩
  show Q44 Z og nt cs so tb kb bl o1 o2 k1d k2d h0 n0 _ T89.heap _
  exact ⟨r_89, oc_89, kc_89, rfl, N89, K111, sz101, sz109, u89_0, u89_1, u89_2, (own_tsA hbl u89_3)⟩
theorem d43_0 : D53 0 (.aload_n 0) 1 := by decide +kernel
theorem d43_1 : D53 1 (.ifnonnull 9) 3 := by decide +kernel
theorem d43_10 : D53 10 (.aload_n 0) 1 := by decide +kernel
theorem d43_11 : D53 11 (.invokevirtual 1007) 3 := by decide +kernel
theorem d43_14 : D53 14 (.areturn) 1 := by decide +kernel
theorem ef_43 (m : MethodId) (x0 : Addr) : entryFrame m #[(.ref x0)] 1 = mkF m 0 #[.val (.ref x0)] [] := by first | (simp [entryFrame, mkF, argsToLocals, Value.category]; done) | rfl
def Q43 (Z : State) (og : Addr) (nt : Nat) (cs : Int32) (so : Addr) (tb : Addr) (kb : ClassId) (bl : List Int32) (o1 : Addr) (o2 : Addr) (k1d : ClassId) (k2d : ClassId) (h0 : Heap) (n0 : Nat) (v : Option Value) (h : Heap) (L : List Loc) : Prop := ∃ (r : Addr) (oc : Addr) (kc : ClassId), v = some (.ref r) ∧ Fr n0 L ∧ Keep h0 h [] ∧ h0.size ≤ r ∧ h0.size ≤ oc ∧ Exa Z h r STn ∧ Fld Z h r STn VLn DBn (.ref oc) ∧ Fld Z h r STn CDn "B" (.int 0) ∧ Arv Z h oc kc .byte (own_lg (own_ts bl nt)) ((own_ts bl nt).map Value.int) (.int 0)
theorem rm43 (l : Launch) (Z : State) (a0 : Array Value) (hw : HW a0 Z) (ws : List Jvm.Cond) (og : Addr) (nt : Nat) (cs : Int32) (so : Addr) (tb : Addr) (kb : ClassId) (bl : List Int32) (o1 : Addr) (o2 : Addr) (k1d : ClassId) (k2d : ClassId) (h0 : Heap) (n0 : Nat) (Z0 : n0 ≤ h0.size) (O0 : Old Z n0 h0) (P1 : Sta Z Z.heap STn CSn "Z" (.int cs)) (hcs : ¬ cs = (0 : Int32)) (P3 : Sta Z Z.heap INn "DigitOnes" DBn (.ref o1)) (P4 : Sta Z Z.heap INn "DigitTens" DBn (.ref o2)) (P5 : Arv Z Z.heap o1 k1d .byte (100 : Int32) (own_on.map Value.int) (.int 0)) (P6 : Arv Z Z.heap o2 k2d .byte (100 : Int32) (own_tn.map Value.int) (.int 0)) (P7 : Exa Z h0 og FDn) (P8 : Fld Z h0 og FDn "tag" "I" (.int (nt.toInt32))) (P9 : Fld Z h0 og FDn "name" "Ljava/lang/String;" (.ref so)) (P10 : Exa Z h0 so STn) (P11 : Fld Z h0 so STn VLn DBn (.ref tb)) (P12 : Fld Z h0 so STn CDn "B" (.int 0)) (P13 : Arv Z h0 tb kb .byte (own_lg bl) (bl.map Value.int) (.int 0)) (hbl : bl.length = 1) (hnt : nt < 100) :
    MetFree l (⟨STn, "valueOf", "(Ljava/lang/Object;)Ljava/lang/String;"⟩ : MethodName) (head1 (Jvm.Cond.code (⟨STn, "valueOf", "(Ljava/lang/Object;)Ljava/lang/String;"⟩ : MethodName) jdk_42_method_133_code 1 (some (.object STn)) :: ws) (Rm 7 8 60 103)) (fun a U => a = #[(.ref og)] ∧ Z.Warmed39 U.vm ∧ U.heap = h0 ∧ CHv Z consts_1 U.vm h0) (fun _ _ _ _ _ => True) (fun _ U o U' => ∃ v L, o = .returned v ∧ Q43 Z og nt cs so tb kb bl o1 o2 k1d k2d h0 n0 v U'.heap L ∧ CHr Z consts_1 U.vm U.heap U'.vm U'.heap ∧ ReturnedEndW U o U' L (Rm 7 8 60 103).cells (Rm 7 8 60 103).slots) := by
  refine MetFree.of_bodySF (plainFor_of_name own_pn3) hisR ?_
  intro p e s m args below meth c s₁ Bd hml0 hP hK
  obtain ⟨rfl, hZ, hh, hCH0⟩ := hP
  have hx := Bd.exec
  have hby := Bd.bytes
  have hml : c.maxLocals = 1 := hml0
  have hown : s.vm.findClass STn = some m.cls := findClass_of_methodNamed Bd.named
  have hnm := (name_of_methodNamed Bd.named Bd.method).1
  have X0 : Stand p l e (Rm 7 8 60 103) s m #[(.ref og)] below meth c s₁ [] 0 0 := Stand.of_body Bd
  have X0 : Stand p l e (Rm 7 8 60 103) (s.setVm s.vm) m #[(.ref og)] below meth c s₁ [] 0 0 := X0
  have hZ : Z.Warmed39 (s.setVm s.vm).vm := hZ
  have hown : (s.setVm s.vm).vm.findClass STn = some m.cls := hown
  have hS0 : s.Since s.vm 0 := State.WarmedH.since (State.WarmedH.refl s) 0
  have CR0 : CHr Z consts_1 s.vm h0 s.vm h0 := CHr.refl hCH0
  have e0 : s₁.heap = h0 := by rw [← hh, Bd.state]; rfl
  have N0 := Fr.nil n0
  have K0 : Keep h0 h0 [] := Keep.refl _ _
  suffices GO : ∀ P : Outcome → State → Prop, (∀ o U', (∃ v L, o = .returned v ∧ Q43 Z og nt cs so tb kb bl o1 o2 k1d k2d h0 n0 v U'.heap L ∧ CHr Z consts_1 s.vm s.heap U'.vm U'.heap ∧ ReturnedEndW s o U' L (Rm 7 8 60 103).cells (Rm 7 8 60 103).slots) → P o U') → Go p.tables e below P s₁ (mkF m 0 #[.val (.ref og)] []) by
    obtain ⟨s2, o, st, r⟩ := GO _ (fun _ _ q => q)
    exact ⟨s2, o, castTop (ef_43 m og) st, r⟩
  have H : HX p c jdk_42_method_133_code := ⟨hx, hby⟩
  intro P hP
  show Go p.tables e below P s₁ (mkF m 0 #[vr og] [])
  refine g_aloadN X0 H d43_0 rfl rfl ?_
  show Go p.tables e below P s₁ (mkF m 1 #[vr og] [(.ref og)])
  refine gv (fun t k => XS.ifnonnullYes X0.here hx rfl (pc0 := 1) (pc' := 10) rfl (hb hby d43_1) rfl (by decide) (by decide) k) ?_
  show Go p.tables e below P s₁ (mkF m 10 #[vr og] [])
  refine g_aloadN X0 H d43_10 rfl rfl ?_
  show Go p.tables e below P s₁ (mkF m 11 #[vr og] [(.ref og)])
  obtain ⟨cq1, kq1, q1a, q1b, q1c⟩ := isOf hZ e0 P7
  obtain ⟨_, _, ⟨T1, L1, k1, n1⟩, -, X1, hSn1, hgn1, ⟨Lc1, hQ1, l1, y1, z1, hC1⟩, st1⟩ := X0.virtualBackS hx (y := (⟨"java/lang/Object", "toString", "()Ljava/lang/String;"⟩ : MethodName)) (z := (⟨FDn, "toString", "()Ljava/lang/String;"⟩ : MethodName)) hown (mvT hZ (own_g hw 255 rfl)) (mvT hZ (own_g hw 256 rfl)) (own_nfc (args := #[]) (mvT hZ (own_g hw 25 rfl)) rfl) (mvT hZ (own_g hw 258 rfl)) (mvT hZ (own_g hw 259 rfl)) (by decide) (backOfSH (W := 0) (rm44 l Z a0 hw [] og nt cs so tb kb bl o1 o2 k1d k2d h0 n0 Z0 O0 P1 hcs P3 P4 P5 P6 P7 P8 P9 P10 P11 P12 P13 hbl hnt) hZ (own_g hw 260 rfl) (own_g hw 146 rfl) (by decide) (by decide) (own_EW hw) CR0.1) q1a q1c (g := (mkF m 11 #[vr og] [(.ref og)])) rfl (by rw [hml]; rfl) (Steps.refl _) (argsL := []) (rest := []) (lenOf own_pd36 rfl) rfl (by show 2 * 0 + _ ≤ _; exact Nat.le_of_eq rfl) (hb hby d43_11) (fun _ _ => ⟨rfl, e0, (by decide : 0 + 8 ≤ _), (by decide : 0 + 60 ≤ _)⟩)
  dsimp only [Pt.U, Pt.locs, Pt.cells, Pt.slots] at X1 l1 y1 z1 st1 hQ1 hSn1 hgn1 hC1
  subst l1 y1 z1
  have hS1 : s.Since T1.vm T1.heap.size := foldS hS0 (by rw [e0]; exact (Nat.zero_le _)) hSn1 hgn1
  have X1 : Stand p l e (Rm 7 8 60 103) (s.setVm T1.vm) m #[(.ref og)] below meth c T1 _ _ _ := X1
  have hown : (s.setVm T1.vm).vm.findClass STn = some m.cls := by rw [show (s.setVm T1.vm).vm = T1.vm from rfl, hSn1.1.alike.findClass]; exact hown
  have hZ : Z.Warmed39 (s.setVm T1.vm).vm := State.Warmed39.trans (t := s.setVm s.vm) hZ hSn1.1
  obtain ⟨r_1, oc_1, kc_1, rfl, Nq1, K1, fr1_r, fr1_oc, u1_0, u1_1, u1_2, u1_3⟩ := hQ1
  obtain ⟨lc1, Xh1, N1⟩ := own_hide X1 (Fr.app N0 Nq1)
  clear X1
  refine Go.hop st1 ?_
  have CR2 := CHr.trans CR0 hC1
  have g3 := Nat.le_trans Z0 fr1_r
  have sz4 := Nat.le_trans K0.1 fr1_r
  have g5 := Nat.le_trans Z0 fr1_oc
  have sz6 := Nat.le_trans K0.1 fr1_oc
  have Z7 := Nat.le_trans Z0 K1.1
  have K8 := K0.trans K1 own_all0
  have O9 : Old Z n0 T1.heap := O0.keep K1 own_all0
  have hk10 : T1.heap.size ≤ T1.heap.size := Nat.le_refl _
  show Go p.tables e below P T1 (mkF m 14 #[vr og] [(.ref r_1)])
  obtain ⟨fs, hr, hrun, hended, hend⟩ := Xh1.leaveW hS1 (by exact hk10) (v := some (.ref r_1)) (fun h => by rw [Bd.returns] at h; cases h)
  have hCf : CHr Z consts_1 s.vm s.heap (T1.setFrames fs).vm (T1.setFrames fs).heap := by
    rw [hh]
    show CHr Z consts_1 s.vm h0 T1.vm T1.heap
    exact CHr.trans CR2 (CHv.at Xh1 hZ (own_EW hw) CR2.1)
  refine ⟨_, _, retA Xh1 hx Bd.returns rfl rfl rfl (hb hby d43_14) hr, hrun, hended, hP _ _ ⟨_, _, rfl, ?_, hCf, own_rew hend (by decide) (by decide)⟩⟩
  show Q43 Z og nt cs so tb kb bl o1 o2 k1d k2d h0 n0 _ T1.heap _
  exact ⟨r_1, oc_1, kc_1, rfl, N1, K8, sz4, sz6, u1_0, u1_1, u1_2, u1_3⟩
theorem own_ak {bl : List Int32} (h : bl.length = 1) (n : Nat) : (0 : Nat) + (own_ts bl n).length ≤ 16 := by have q := own_s2 n; rw [own_tsl h]; omega
theorem own_pd37 : parseMethodDescriptor "(Ljava/lang/Object;)Ljava/lang/String;" = some ⟨[(.object "java/lang/Object")], some (.object STn)⟩ := by decide +kernel
theorem d42_0 : D54 0 (.aload_n 0) 1 := by decide +kernel
theorem d42_1 : D54 1 (.aload_n 1) 1 := by decide +kernel
theorem d42_2 : D54 2 (.invokestatic 17) 3 := by decide +kernel
theorem d42_5 : D54 5 (.invokevirtual 23) 3 := by decide +kernel
theorem d42_8 : D54 8 (.areturn) 1 := by decide +kernel
theorem ef_42 (m : MethodId) (x0 : Addr) (x1 : Addr) : entryFrame m #[(.ref x0), (.ref x1)] 2 = mkF m 0 #[.val (.ref x0), .val (.ref x1)] [] := by first | (simp [entryFrame, mkF, argsToLocals, Value.category]; done) | rfl
def Q42 (Z : State) (sb : Addr) (ov : Addr) (ko : ClassId) (og : Addr) (nt : Nat) (cs : Int32) (so : Addr) (tb : Addr) (kb : ClassId) (bl : List Int32) (o1 : Addr) (o2 : Addr) (k1d : ClassId) (k2d : ClassId) (h0 : Heap) (n0 : Nat) (v : Option Value) (h : Heap) (L : List Loc) : Prop := v = some (.ref sb) ∧ Fr n0 L ∧ Keep h0 h [sb, ov] ∧ Exa Z h sb SBn ∧ Fld Z h sb ASn VLn DBn (.ref ov) ∧ Fld Z h sb ASn CDn "B" (.int 0) ∧ Fld Z h sb ASn "count" "I" (.int (((0 : Nat) + (own_ts bl nt).length).toInt32)) ∧ Arv Z h ov ko .byte (16 : Int32) ((own_put (List.replicate 16 (0 : Int32)) (0 : Nat) (own_ts bl nt)).map Value.int) (.int 0)
theorem rm42 (l : Launch) (Z : State) (a0 : Array Value) (hw : HW a0 Z) (ws : List Jvm.Cond) (sb : Addr) (ov : Addr) (ko : ClassId) (og : Addr) (nt : Nat) (cs : Int32) (so : Addr) (tb : Addr) (kb : ClassId) (bl : List Int32) (o1 : Addr) (o2 : Addr) (k1d : ClassId) (k2d : ClassId) (h0 : Heap) (n0 : Nat) (Z0 : n0 ≤ h0.size) (O0 : Old Z n0 h0) (P1 : Sta Z Z.heap STn CSn "Z" (.int cs)) (hcs : ¬ cs = (0 : Int32)) (P3 : Sta Z Z.heap INn "DigitOnes" DBn (.ref o1)) (P4 : Sta Z Z.heap INn "DigitTens" DBn (.ref o2)) (P5 : Arv Z Z.heap o1 k1d .byte (100 : Int32) (own_on.map Value.int) (.int 0)) (P6 : Arv Z Z.heap o2 k2d .byte (100 : Int32) (own_tn.map Value.int) (.int 0)) (P7 : Exa Z h0 sb SBn) (P8 : Fld Z h0 sb ASn VLn DBn (.ref ov)) (P9 : Fld Z h0 sb ASn CDn "B" (.int 0)) (P10 : Fld Z h0 sb ASn "count" "I" (.int ((0 : Nat).toInt32))) (P11 : Arv Z h0 ov ko .byte (16 : Int32) ((List.replicate 16 (0 : Int32)).map Value.int) (.int 0)) (gov : n0 ≤ ov) (gsb : n0 ≤ sb) (nso : sb ≠ ov) (P15 : Exa Z h0 og FDn) (P16 : Fld Z h0 og FDn "tag" "I" (.int (nt.toInt32))) (P17 : Fld Z h0 og FDn "name" "Ljava/lang/String;" (.ref so)) (P18 : Exa Z h0 so STn) (P19 : Fld Z h0 so STn VLn DBn (.ref tb)) (P20 : Fld Z h0 so STn CDn "B" (.int 0)) (P21 : Arv Z h0 tb kb .byte (own_lg bl) (bl.map Value.int) (.int 0)) (hbl : bl.length = 1) (hnt : nt < 100) :
    MetFree l (⟨SBn, "append", "(Ljava/lang/Object;)Ljava/lang/StringBuilder;"⟩ : MethodName) (head1 (Jvm.Cond.code (⟨SBn, "append", "(Ljava/lang/Object;)Ljava/lang/StringBuilder;"⟩ : MethodName) jdk_67_method_6_code 2 (some (.object SBn)) :: ws) (Rm 8 8 60 116)) (fun a U => a = #[(.ref sb), (.ref og)] ∧ Z.Warmed39 U.vm ∧ U.heap = h0 ∧ CHv Z consts_1 U.vm h0 ∧ Safe Z consts_1 U.vm h0 ov) (fun _ _ _ _ _ => True) (fun _ U o U' => ∃ v L, o = .returned v ∧ Q42 Z sb ov ko og nt cs so tb kb bl o1 o2 k1d k2d h0 n0 v U'.heap L ∧ CHr Z consts_1 U.vm U.heap U'.vm U'.heap ∧ ReturnedEndW U o U' L (Rm 8 8 60 116).cells (Rm 8 8 60 116).slots) := by
  refine MetFree.of_bodySF (plainFor_of_name own_pn6) hisR ?_
  intro p e s m args below meth c s₁ Bd hml0 hP hK
  obtain ⟨rfl, hZ, hh, hCH0, hSf0⟩ := hP
  have hx := Bd.exec
  have hby := Bd.bytes
  have hml : c.maxLocals = 2 := hml0
  have hown : s.vm.findClass SBn = some m.cls := findClass_of_methodNamed Bd.named
  have hnm := (name_of_methodNamed Bd.named Bd.method).1
  have X0 : Stand p l e (Rm 8 8 60 116) s m #[(.ref sb), (.ref og)] below meth c s₁ [] 0 0 := Stand.of_body Bd
  have X0 : Stand p l e (Rm 8 8 60 116) (s.setVm s.vm) m #[(.ref sb), (.ref og)] below meth c s₁ [] 0 0 := X0
  have hZ : Z.Warmed39 (s.setVm s.vm).vm := hZ
  have hown : (s.setVm s.vm).vm.findClass SBn = some m.cls := hown
  have hS0 : s.Since s.vm 0 := State.WarmedH.since (State.WarmedH.refl s) 0
  have CR0 : CHr Z consts_1 s.vm h0 s.vm h0 := CHr.refl hCH0
  have e0 : s₁.heap = h0 := by rw [← hh, Bd.state]; rfl
  have N0 := Fr.nil n0
  have K0 : Keep h0 h0 [sb, ov] := Keep.refl _ _
  suffices GO : ∀ P : Outcome → State → Prop, (∀ o U', (∃ v L, o = .returned v ∧ Q42 Z sb ov ko og nt cs so tb kb bl o1 o2 k1d k2d h0 n0 v U'.heap L ∧ CHr Z consts_1 s.vm s.heap U'.vm U'.heap ∧ ReturnedEndW s o U' L (Rm 8 8 60 116).cells (Rm 8 8 60 116).slots) → P o U') → Go p.tables e below P s₁ (mkF m 0 #[.val (.ref sb), .val (.ref og)] []) by
    obtain ⟨s2, o, st, r⟩ := GO _ (fun _ _ q => q)
    exact ⟨s2, o, castTop (ef_42 m sb og) st, r⟩
  have H : HX p c jdk_67_method_6_code := ⟨hx, hby⟩
  intro P hP
  show Go p.tables e below P s₁ (mkF m 0 #[vr sb, vr og] [])
  refine g_aloadN X0 H d42_0 rfl rfl ?_
  refine g_aloadN X0 H d42_1 rfl rfl ?_
  show Go p.tables e below P s₁ (mkF m 2 #[vr sb, vr og] [(.ref og), (.ref sb)])
  obtain ⟨_, _, ⟨T1, L1, k1, n1⟩, -, X1, hSn1, hgn1, ⟨Lc1, hQ1, l1, y1, z1, hC1⟩, st1⟩ := callSS X0 hx (y := (⟨STn, "valueOf", "(Ljava/lang/Object;)Ljava/lang/String;"⟩ : MethodName)) hown (mvT hZ (own_g hw 252 rfl)) (mvT hZ (own_g hw 253 rfl)) (mvT hZ (own_g hw 85 rfl)) (mvT hZ (own_g hw 254 rfl)) (by decide) (backOfSH (W := 1) (rm43 l Z a0 hw [] og nt cs so tb kb bl o1 o2 k1d k2d h0 n0 Z0 O0 P1 hcs P3 P4 P5 P6 P15 P16 P17 P18 P19 P20 P21 hbl hnt) hZ (own_g hw 254 rfl) (own_g hw 85 rfl) (by decide) (by decide) (own_EW hw) CR0.1) (g := (mkF m 2 #[vr sb, vr og] [(.ref og), (.ref sb)])) rfl (by rw [hml]; rfl) (argsL := [(.ref og)]) (rest := [(.ref sb)]) (lenOf own_pd37 rfl) rfl (by show 2 * 0 + _ ≤ _; exact Nat.le_of_eq rfl) (hb hby d42_2) (fun _ _ => ⟨rfl, e0, (by decide : 0 + 8 ≤ _), (by decide : 0 + 60 ≤ _)⟩)
  dsimp only [Pt.U, Pt.locs, Pt.cells, Pt.slots] at X1 l1 y1 z1 st1 hQ1 hSn1 hgn1 hC1
  subst l1 y1 z1
  have hS1 : s.Since T1.vm T1.heap.size := foldS hS0 (by rw [e0]; exact (Nat.zero_le _)) hSn1 hgn1
  have X1 : Stand p l e (Rm 8 8 60 116) (s.setVm T1.vm) m #[(.ref sb), (.ref og)] below meth c T1 _ _ _ := X1
  have hown : (s.setVm T1.vm).vm.findClass SBn = some m.cls := by rw [show (s.setVm T1.vm).vm = T1.vm from rfl, hSn1.1.alike.findClass]; exact hown
  have hZ : Z.Warmed39 (s.setVm T1.vm).vm := State.Warmed39.trans (t := s.setVm s.vm) hZ hSn1.1
  obtain ⟨r_1, oc_1, kc_1, rfl, Nq1, K1, fr1_r, fr1_oc, u1_0, u1_1, u1_2, u1_3⟩ := hQ1
  obtain ⟨lc1, Xh1, N1⟩ := own_hide X1 (Fr.app N0 Nq1)
  clear X1
  refine Go.hop st1 ?_
  have Sf2 := CHr.safe hC1 P11.lt hSf0
  have CR3 := CHr.trans CR0 hC1
  have g4 := Nat.le_trans Z0 fr1_r
  have sz5 := Nat.le_trans K0.1 fr1_r
  have g6 := Nat.le_trans Z0 fr1_oc
  have sz7 := Nat.le_trans K0.1 fr1_oc
  have Z8 := Nat.le_trans Z0 K1.1
  have K9 := K0.trans K1 own_all0
  have O10 : Old Z n0 T1.heap := O0.keep K1 own_all0
  have hk11 : T1.heap.size ≤ T1.heap.size := Nat.le_refl _
  show Go p.tables e below P T1 (mkF m 5 #[vr sb, vr og] [(.ref r_1), (.ref sb)])
  have F12 := (P7.keep K1)
  have F13 := (P8.keep K1 own_nin0)
  have F14 := (P9.keep K1 own_nin0)
  have F15 := (P10.keep K1 own_nin0)
  have F16 := (P11.keep K1 own_nin0)
  refine g_cV Xh1 H hZ hml rfl hown rfl F12 (rm45 l Z a0 hw [] sb ov ko (0 : Nat) (List.replicate 16 (0 : Int32)) r_1 oc_1 kc_1 (own_ts bl nt) cs T1.heap n0 Z8 O10 P1 hcs F12 F13 F14 F15 u1_0 u1_1 u1_2 u1_3 F16 (own_ak hbl nt) List.length_replicate gov gsb (Ne.symm (Nat.ne_of_lt (Nat.lt_of_lt_of_le P11.lt sz7))) nso (Ne.symm (Nat.ne_of_lt (Nat.lt_of_lt_of_le P11.lt sz5))) (Nat.ne_of_lt (Nat.lt_of_lt_of_le P7.lt sz5)) (Nat.ne_of_lt (Nat.lt_of_lt_of_le P7.lt sz7))) (own_g hw 349 rfl) (own_g hw 264 rfl) (notFace_of_selects (args := #[]) (mvT hZ (own_g hw 266 rfl))) (own_g hw 266 rfl) (own_g hw 265 rfl) (own_g hw 231 rfl) (own_g hw 267 rfl) (by decide) own_pd34 d42_5 rfl rfl rfl (W := 0) rfl (by decide) ?_
  intro _ T17 Lc17 X17 hQ17
  obtain ⟨rfl, Nq17, K17, u17_0, u17_1, u17_2, u17_3, u17_4⟩ := hQ17
  obtain ⟨lc17, Xh17, N17⟩ := own_hide X17 (Fr.app N1 Nq17)
  clear X17
  have Z18 := Nat.le_trans Z8 K17.1
  have K19 := K9.trans K17 (own_allC (Or.inl (List.mem_of_getElem? (i := 0) rfl)) (own_allC (Or.inl (List.mem_of_getElem? (i := 1) rfl)) own_all0))
  have Sf20 := Safe.keep K17 (sfS (Safe.exa hZ.alike F12 (by decide) (by decide)) (sfS Sf2 sf0)) CR3.1 Sf2
  have CR21 := CHr.trans CR3 (CHr.keep K17 (sfS (Safe.exa hZ.alike F12 (by decide) (by decide)) (sfS Sf2 sf0)) CR3.1)
  have hk22 := Nat.le_trans hk11 K17.1
  have O23 : Old Z n0 T17.heap := O10.keep K17 (own_allC gsb (own_allC gov own_all0))
  show Go p.tables e below P T17 (mkF m 8 #[vr sb, vr og] [(.ref sb)])
  obtain ⟨fs, hr, hrun, hended, hend⟩ := Xh17.leaveW hS1 (by exact hk22) (v := some (.ref sb)) (fun h => by rw [Bd.returns] at h; cases h)
  have hCf : CHr Z consts_1 s.vm s.heap (T17.setFrames fs).vm (T17.setFrames fs).heap := by
    rw [hh]
    show CHr Z consts_1 s.vm h0 T17.vm T17.heap
    exact CHr.trans CR21 (CHv.at Xh17 hZ (own_EW hw) CR21.1)
  refine ⟨_, _, retA Xh17 hx Bd.returns rfl rfl rfl (hb hby d42_8) hr, hrun, hended, hP _ _ ⟨_, _, rfl, ?_, hCf, own_rew hend (by decide) (by decide)⟩⟩
  show Q42 Z sb ov ko og nt cs so tb kb bl o1 o2 k1d k2d h0 n0 _ T17.heap _
  exact ⟨rfl, N17, K19, u17_0, u17_1, u17_2, u17_3, u17_4⟩
def own_ps (bl : List Int32) (n : Nat) : List Int32 := own_ts bl n ++ ([(32 : Int32), (105 : Int32), (115 : Int32), (32 : Int32), (115 : Int32), (116 : Int32), (97 : Int32), (116 : Int32), (101 : Int32), (100 : Int32)] : List Int32)
def own_qa (bl : List Int32) (n : Nat) : List Int32 := own_put (List.replicate 16 (0 : Int32)) (0 : Nat) (own_ts bl n)
def own_qb (bl : List Int32) (n : Nat) : List Int32 := own_put (own_qa bl n) ((0 : Nat) + (own_ts bl n).length) ([(32 : Int32), (105 : Int32), (115 : Int32), (32 : Int32), (115 : Int32), (116 : Int32), (97 : Int32), (116 : Int32), (101 : Int32), (100 : Int32)] : List Int32)
theorem own_qk {bl : List Int32} (h : bl.length = 1) (n : Nat) : (0 : Nat) + (own_ts bl n).length + ([(32 : Int32), (105 : Int32), (115 : Int32), (32 : Int32), (115 : Int32), (116 : Int32), (97 : Int32), (116 : Int32), (101 : Int32), (100 : Int32)] : List Int32).length ≤ 16 := by
  have q := own_s2 n
  rw [own_tsl h]; simp only [List.length_cons, List.length_nil]; omega
theorem own_ql1 {bl : List Int32} (h : bl.length = 1) (n : Nat) : (own_qa bl n).length = 16 := own_put_len List.length_replicate (own_ak h n)
theorem own_ql2 {bl : List Int32} (h : bl.length = 1) (n : Nat) : (own_qb bl n).length = 16 := own_put_len (own_ql1 h n) (own_qk h n)
theorem own_psq {bl : List Int32} {n : Nat} (hb : bl.length = 1) : (own_qb bl n).take ((0 : Nat) + (own_ts bl n).length + ([(32 : Int32), (105 : Int32), (115 : Int32), (32 : Int32), (115 : Int32), (116 : Int32), (97 : Int32), (116 : Int32), (101 : Int32), (100 : Int32)] : List Int32).length) = own_ps bl n ∧ (0 : Nat) + (own_ts bl n).length + ([(32 : Int32), (105 : Int32), (115 : Int32), (32 : Int32), (115 : Int32), (116 : Int32), (97 : Int32), (116 : Int32), (101 : Int32), (100 : Int32)] : List Int32).length = (own_ps bl n).length := by
  match bl, hb with
  | [x], _ =>
    unfold own_qb own_qa own_ps own_ts own_ds own_put
    by_cases h : n < 10
    · simp [h]
    · simp [h]
theorem own_psA {Z : State} {h : Heap} {a : Addr} {k : ClassId} {bl : List Int32} {n : Nat} {dv : Value} (hb : bl.length = 1) (F : Arv Z h a k .byte (((0 : Nat) + (own_ts bl n).length + ([(32 : Int32), (105 : Int32), (115 : Int32), (32 : Int32), (115 : Int32), (116 : Int32), (97 : Int32), (116 : Int32), (101 : Int32), (100 : Int32)] : List Int32).length).toInt32) (((own_qb bl n).take ((0 : Nat) + (own_ts bl n).length + ([(32 : Int32), (105 : Int32), (115 : Int32), (32 : Int32), (115 : Int32), (116 : Int32), (97 : Int32), (116 : Int32), (101 : Int32), (100 : Int32)] : List Int32).length)).map Value.int) dv) : Arv Z h a k .byte (own_lg (own_ps bl n)) ((own_ps bl n).map Value.int) dv := by
  rw [(own_psq hb).1, (own_psq hb).2] at F; exact F
theorem own_pd38 : parseMethodDescriptor "(Lcom/example/splitbook/splitbook/tagvalue/TagValueMessage;)Ljava/lang/String;" = some ⟨[(.object TVn)], some (.object STn)⟩ := by decide +kernel
theorem d36_0 : D55 0 (.aload_n 0) 1 := by decide +kernel
theorem d36_1 : D55 1 (.getfield 13) 3 := by decide +kernel
theorem d36_4 : D55 4 (.aload_n 1) 1 := by decide +kernel
theorem d36_5 : D55 5 (.invokevirtual 36) 3 := by decide +kernel
theorem d36_8 : D55 8 (.astore_n 2) 1 := by decide +kernel
theorem d36_9 : D55 9 (.aload_n 2) 1 := by decide +kernel
theorem d36_10 : D55 10 (.ifnonnull 5) 3 := by decide +kernel
theorem d36_13 : D55 13 (.aconst_null) 1 := by decide +kernel
theorem d36_14 : D55 14 (.areturn) 1 := by decide +kernel
theorem ef_36n (m : MethodId) (x0 : Addr) (x1 : Addr) : entryFrame m #[(.ref x0), (.ref x1)] 4 = mkF m 0 #[.val (.ref x0), .val (.ref x1), .unset, .unset] [] := by first | (simp [entryFrame, mkF, argsToLocals, Value.category]; done) | rfl
def Q36n (Z : State) (oa : Addr) (om : Addr) (ob : Addr) (os : Addr) (oe : Addr) (kk : ClassId) (ks : ClassId) (ke : ClassId) (ot : Addr) (kt : ClassId) (og : Addr) (pt : Int32) (qa : Int32) (qb : Int32) (qv : Int32) (ya : Int32) (yb : Int32) (yc : Int32) (cs : Int32) (fm : Value) (och : Addr) (ou : Addr) (h0 : Heap) (n0 : Nat) (v : Option Value) (h : Heap) (L : List Loc) : Prop := v = some .null ∧ Fr n0 L ∧ Keep h0 h []
theorem rm36n (l : Launch) (Z : State) (a0 : Array Value) (hw : HW a0 Z) (ws : List Jvm.Cond) (oa : Addr) (om : Addr) (ob : Addr) (os : Addr) (oe : Addr) (kk : ClassId) (ks : ClassId) (ke : ClassId) (ot : Addr) (kt : ClassId) (og : Addr) (pt : Int32) (qa : Int32) (qb : Int32) (qv : Int32) (ya : Int32) (yb : Int32) (yc : Int32) (cs : Int32) (fm : Value) (och : Addr) (ou : Addr) (h0 : Heap) (n0 : Nat) (Z0 : n0 ≤ h0.size) (O0 : Old Z n0 h0) (P1 : Sta Z Z.heap STn CSn "Z" (.int cs)) (hcs : ¬ cs = (0 : Int32)) (P3 : Sta Z Z.heap PRn SIn BFn fm) (rfm : fm.isRef = true) (P5 : Sta Z Z.heap SCn ISn DChn (.ref och)) (P6 : Exa Z Z.heap och STIn) (P7 : Sta Z Z.heap STIn INSn DSIn (.ref och)) (P8 : Sta Z Z.heap STUn INSn DSUn (.ref ou)) (nou : och ≠ ou) (P10 : Fld Z h0 oa CFn "condition" "Lcom/example/splitbook/splitbook/allocation/Field;" (.ref og)) (P11 : Exa Z h0 og FDn) (P12 : Fld Z h0 og FDn "tag" "I" (.int pt)) (P13 : Exa Z h0 om TVn) (P14 : Fld Z h0 om TVn "bytes" DBn (.ref ob)) (P15 : Fld Z h0 om TVn "tags" "[I" (.ref ot)) (P16 : Fld Z h0 om TVn VSn "[I" (.ref os)) (P17 : Fld Z h0 om TVn VEn "[I" (.ref oe)) (P18 : Arv Z h0 ot kt .int (5 : Int32) (tgs qa qb) (.int 0)) (P19 : Arv Z h0 os ks .int (5 : Int32) lvs (.int 0)) (P20 : Arv Z h0 oe ke .int (5 : Int32) lve (.int 0)) (P21 : Arv Z h0 ob kk .byte (26 : Int32) (bll qa qb qv ya yb yc) (.int 0)) (hfx : (own_fx (own_tl qa qb) pt 5) < (0 : Int32)) :
    MFr l Z (⟨CFn, "conditionMetIn", "(Lcom/example/splitbook/splitbook/tagvalue/TagValueMessage;)Ljava/lang/String;"⟩ : MethodName) prog_11_method_6_code 4 (some (.object STn)) ws (Rm 2 0 0 29) #[(.ref oa), (.ref om)] h0 (Q36n Z oa om ob os oe kk ks ke ot kt og pt qa qb qv ya yb yc cs fm och ou h0 n0) := by
  refine own_body (own := CFn) (plainFor_of_name own_pn10) rfl (fun m => ef_36n m oa om) ?_
  intro p e s m below meth c s₁ Bd H hml hZ hown X0 e0 P hP
  have hx := H.1
  have hby := H.2
  have N0 := Fr.nil n0
  have K0 : Keep h0 h0 [] := Keep.refl _ _
  refine g_aloadN X0 H d36_0 rfl rfl ?_
  refine g_getF X0 H hZ hown (host := "") (Or.inl (own_g hw 190 rfl)) Via.refl e0 P10 d36_1 ?_
  intro T1 X1 e1
  refine g_aloadN X1 H d36_4 rfl rfl ?_
  refine g_cV X1 H hZ hml rfl hown e1 P11 (rm37 l Z a0 hw [] om ob os oe kk ks ke ot kt og pt qa qb qv ya yb yc cs fm och ou h0 n0 Z0 O0 P1 hcs P3 rfm P5 P6 P7 P8 nou P12 P13 P14 P15 P16 P17 P18 P19 P20 P21 hfx) (own_g hw 206 rfl) (own_g hw 207 rfl) (notFace_of_selects (args := #[]) (mvT hZ (own_g hw 209 rfl))) (own_g hw 209 rfl) (own_g hw 208 rfl) (own_g hw 146 rfl) (own_g hw 210 rfl) (by decide) own_pd38 d36_5 rfl rfl rfl (W := 0) rfl (by decide) ?_
  intro _ T2 Lc2 X2 hQ2
  obtain ⟨rfl, Nq2, K2⟩ := hQ2
  obtain ⟨lc2, Xh2, N2⟩ := own_hide X2 (Fr.app N0 Nq2)
  clear X2
  have Z3 := Nat.le_trans Z0 K2.1
  have K4 := K0.trans K2 own_all0
  have O5 : Old Z n0 T2.heap := O0.keep K2 own_all0
  clear hfx
  refine g_astoreN Xh2 H d36_8 rfl #[vr oa, vr om, .val .null, vu] rfl ?_
  refine g_aloadN Xh2 H d36_9 rfl rfl ?_
  show Go p.tables e below P T2 (mkF m 10 #[vr oa, vr om, .val .null, vu] [.null])
  refine gv (fun t k => XS.ifnonnullNo Xh2.here hx rfl (hb hby d36_10) rfl k) ?_
  show Go p.tables e below P T2 (mkF m 13 #[vr oa, vr om, .val .null, vu] [])
  refine gv (fun t k => XS.aconstNull Xh2.here hx rfl (hb hby d36_13) k) ?_
  show Go p.tables e below P T2 (mkF m 14 #[vr oa, vr om, .val .null, vu] [.null])
  refine g_retA Xh2 H Bd.notSynchronized hP (by decide) Bd.returns rfl rfl rfl d36_14 ?_
  exact ⟨rfl, N2, K4⟩
theorem own_pd39 : parseMethodDescriptor "(Ljava/lang/Object;)Ljava/lang/StringBuilder;" = some ⟨[(.object "java/lang/Object")], some (.object SBn)⟩ := by decide +kernel
theorem d36_15 : D55 15 (.aconst_null) 1 := by decide +kernel
theorem d36_16 : D55 16 (.astore_n 3) 1 := by decide +kernel
theorem d36_17 : D55 17 (.aload_n 0) 1 := by decide +kernel
theorem d36_18 : D55 18 (.getfield 20) 3 := by decide +kernel
theorem d36_21 : D55 21 (.ifCond .eq 41) 3 := by decide +kernel
theorem d36_24 : D55 24 (.aload_n 0) 1 := by decide +kernel
theorem d36_25 : D55 25 (.getfield 16) 3 := by decide +kernel
theorem d36_28 : D55 28 (.invokeinterface 42 1) 5 := by decide +kernel
theorem d36_33 : D55 33 (.ifCond .eq 29) 3 := by decide +kernel
theorem d36_36 : D55 36 (.new 46) 3 := by decide +kernel
theorem d36_39 : D55 39 (.dup) 1 := by decide +kernel
theorem d36_40 : D55 40 (.invokespecial 48) 3 := by decide +kernel
theorem d36_43 : D55 43 (.aload_n 0) 1 := by decide +kernel
theorem d36_44 : D55 44 (.getfield 13) 3 := by decide +kernel
theorem d36_47 : D55 47 (.invokevirtual 49) 3 := by decide +kernel
theorem d36_50 : D55 50 (.ldc 53) 2 := by decide +kernel
theorem d36_52 : D55 52 (.invokevirtual 55) 3 := by decide +kernel
theorem d36_55 : D55 55 (.invokevirtual 58) 3 := by decide +kernel
theorem d36_58 : D55 58 (.astore_n 3) 1 := by decide +kernel
theorem d36_59 : D55 59 (.goto 47) 3 := by decide +kernel
theorem d36_106 : D55 106 (.aload_n 3) 1 := by decide +kernel
theorem d36_107 : D55 107 (.areturn) 1 := by decide +kernel
theorem ef_36 (m : MethodId) (x0 : Addr) (x1 : Addr) : entryFrame m #[(.ref x0), (.ref x1)] 4 = mkF m 0 #[.val (.ref x0), .val (.ref x1), .unset, .unset] [] := by first | (simp [entryFrame, mkF, argsToLocals, Value.category]; done) | rfl
def Q36 (Z : State) (oa : Addr) (oz : Addr) (ii : Nat) (om : Addr) (ob : Addr) (os : Addr) (oe : Addr) (kk : ClassId) (ks : ClassId) (ke : ClassId) (ot : Addr) (kt : ClassId) (og : Addr) (nt : Nat) (so : Addr) (tb : Addr) (kb : ClassId) (bl : List Int32) (o1 : Addr) (o2 : Addr) (k1d : ClassId) (k2d : ClassId) (qa : Int32) (qb : Int32) (qv : Int32) (ya : Int32) (yb : Int32) (yc : Int32) (cs : Int32) (fm : Value) (och : Addr) (ou : Addr) (h0 : Heap) (n0 : Nat) (v : Option Value) (h : Heap) (L : List Loc) : Prop := ∃ (r : Addr) (oc : Addr) (kc : ClassId), v = some (.ref r) ∧ Fr n0 L ∧ Keep h0 h [] ∧ h0.size ≤ r ∧ h0.size ≤ oc ∧ Exa Z h r STn ∧ Fld Z h r STn VLn DBn (.ref oc) ∧ Fld Z h r STn CDn "B" (.int 0) ∧ Arv Z h oc kc .byte (own_lg (own_ps bl nt)) ((own_ps bl nt).map Value.int) (.int 0)
theorem rm36 (l : Launch) (Z : State) (a0 : Array Value) (hw : HW a0 Z) (ws : List Jvm.Cond) (oa : Addr) (oz : Addr) (ii : Nat) (om : Addr) (ob : Addr) (os : Addr) (oe : Addr) (kk : ClassId) (ks : ClassId) (ke : ClassId) (ot : Addr) (kt : ClassId) (og : Addr) (nt : Nat) (so : Addr) (tb : Addr) (kb : ClassId) (bl : List Int32) (o1 : Addr) (o2 : Addr) (k1d : ClassId) (k2d : ClassId) (qa : Int32) (qb : Int32) (qv : Int32) (ya : Int32) (yb : Int32) (yc : Int32) (cs : Int32) (fm : Value) (och : Addr) (ou : Addr) (h0 : Heap) (n0 : Nat) (Z0 : n0 ≤ h0.size) (O0 : Old Z n0 h0) (P1 : Sta Z Z.heap STn CSn "Z" (.int cs)) (hcs : ¬ cs = (0 : Int32)) (P3 : Sta Z Z.heap PRn SIn BFn fm) (rfm : fm.isRef = true) (P5 : Sta Z Z.heap SCn ISn DChn (.ref och)) (P6 : Exa Z Z.heap och STIn) (P7 : Sta Z Z.heap STIn INSn DSIn (.ref och)) (P8 : Sta Z Z.heap STUn INSn DSUn (.ref ou)) (nou : och ≠ ou) (P10 : Sta Z Z.heap INn "DigitOnes" DBn (.ref o1)) (P11 : Sta Z Z.heap INn "DigitTens" DBn (.ref o2)) (P12 : Arv Z Z.heap o1 k1d .byte (100 : Int32) (own_on.map Value.int) (.int 0)) (P13 : Arv Z Z.heap o2 k2d .byte (100 : Int32) (own_tn.map Value.int) (.int 0)) (P14 : Exa Z Z.heap oz "java/util/ImmutableCollections$SetN") (P15 : Fld Z Z.heap oz "java/util/ImmutableCollections$SetN" "size" "I" (.int 0)) (P16 : Exa Z h0 oa CFn) (P17 : Fld Z h0 oa CFn "condition" "Lcom/example/splitbook/splitbook/allocation/Field;" (.ref og)) (P18 : Fld Z h0 oa CFn "codes" "Ljava/util/Set;" (.ref oz)) (P19 : Fld Z h0 oa CFn "exempting" "Z" (.int 1)) (P20 : Exa Z h0 og FDn) (P21 : Fld Z h0 og FDn "tag" "I" (.int (nt.toInt32))) (P22 : Fld Z h0 og FDn "name" "Ljava/lang/String;" (.ref so)) (P23 : Exa Z h0 so STn) (P24 : Fld Z h0 so STn VLn DBn (.ref tb)) (P25 : Fld Z h0 so STn CDn "B" (.int 0)) (P26 : Arv Z h0 tb kb .byte (own_lg bl) (bl.map Value.int) (.int 0)) (hbl : bl.length = 1) (hnt : nt < 100) (P29 : Exa Z h0 om TVn) (P30 : Fld Z h0 om TVn "bytes" DBn (.ref ob)) (P31 : Fld Z h0 om TVn "tags" "[I" (.ref ot)) (P32 : Fld Z h0 om TVn VSn "[I" (.ref os)) (P33 : Fld Z h0 om TVn VEn "[I" (.ref oe)) (P34 : Arv Z h0 ot kt .int (5 : Int32) (tgs qa qb) (.int 0)) (P35 : Arv Z h0 os ks .int (5 : Int32) lvs (.int 0)) (P36 : Arv Z h0 oe ke .int (5 : Int32) lve (.int 0)) (P37 : Arv Z h0 ob kk .byte (26 : Int32) (bll qa qb qv ya yb yc) (.int 0)) (hfx : (own_fx (own_tl qa qb) (nt.toInt32) 5) = ii.toInt32) (hii : ii < 5) :
    MetFree l (⟨CFn, "conditionMetIn", "(Lcom/example/splitbook/splitbook/tagvalue/TagValueMessage;)Ljava/lang/String;"⟩ : MethodName) (head1 (Jvm.Cond.code (⟨CFn, "conditionMetIn", "(Lcom/example/splitbook/splitbook/tagvalue/TagValueMessage;)Ljava/lang/String;"⟩ : MethodName) prog_11_method_6_code 4 (some (.object STn)) :: ws) (Rm 9 16 174 129)) (fun a U => a = #[(.ref oa), (.ref om)] ∧ Z.Warmed39 U.vm ∧ U.heap = h0 ∧ CHv Z consts_1 U.vm h0) (fun _ _ _ _ _ => True) (fun _ U o U' => ∃ v L, o = .returned v ∧ Q36 Z oa oz ii om ob os oe kk ks ke ot kt og nt so tb kb bl o1 o2 k1d k2d qa qb qv ya yb yc cs fm och ou h0 n0 v U'.heap L ∧ CHr Z consts_1 U.vm U.heap U'.vm U'.heap ∧ ReturnedEndW U o U' L (Rm 9 16 174 129).cells (Rm 9 16 174 129).slots) := by
  refine MetFree.of_bodySF (plainFor_of_name own_pn10) hisR ?_
  intro p e s m args below meth c s₁ Bd hml0 hP hK
  obtain ⟨rfl, hZ, hh, hCH0⟩ := hP
  have hx := Bd.exec
  have hby := Bd.bytes
  have hml : c.maxLocals = 4 := hml0
  have hown : s.vm.findClass CFn = some m.cls := findClass_of_methodNamed Bd.named
  have hnm := (name_of_methodNamed Bd.named Bd.method).1
  have X0 : Stand p l e (Rm 9 16 174 129) s m #[(.ref oa), (.ref om)] below meth c s₁ [] 0 0 := Stand.of_body Bd
  have X0 : Stand p l e (Rm 9 16 174 129) (s.setVm s.vm) m #[(.ref oa), (.ref om)] below meth c s₁ [] 0 0 := X0
  have hZ : Z.Warmed39 (s.setVm s.vm).vm := hZ
  have hown : (s.setVm s.vm).vm.findClass CFn = some m.cls := hown
  have hS0 : s.Since s.vm 0 := State.WarmedH.since (State.WarmedH.refl s) 0
  have CR0 : CHr Z consts_1 s.vm h0 s.vm h0 := CHr.refl hCH0
  have e0 : s₁.heap = h0 := by rw [← hh, Bd.state]; rfl
  have N0 := Fr.nil n0
  have K0 : Keep h0 h0 [] := Keep.refl _ _
  suffices GO : ∀ P : Outcome → State → Prop, (∀ o U', (∃ v L, o = .returned v ∧ Q36 Z oa oz ii om ob os oe kk ks ke ot kt og nt so tb kb bl o1 o2 k1d k2d qa qb qv ya yb yc cs fm och ou h0 n0 v U'.heap L ∧ CHr Z consts_1 s.vm s.heap U'.vm U'.heap ∧ ReturnedEndW s o U' L (Rm 9 16 174 129).cells (Rm 9 16 174 129).slots) → P o U') → Go p.tables e below P s₁ (mkF m 0 #[.val (.ref oa), .val (.ref om), .unset, .unset] []) by
    obtain ⟨s2, o, st, r⟩ := GO _ (fun _ _ q => q)
    exact ⟨s2, o, castTop (ef_36 m oa om) st, r⟩
  have H : HX p c prog_11_method_6_code := ⟨hx, hby⟩
  intro P hP
  show Go p.tables e below P s₁ (mkF m 0 #[vr oa, vr om, vu, vu] [])
  refine g_aloadN X0 H d36_0 rfl rfl ?_
  refine g_getF X0 H hZ hown (host := "") (Or.inl (own_g hw 190 rfl)) Via.refl e0 P17 d36_1 ?_
  intro T1 X1 e1
  refine g_aloadN X1 H d36_4 rfl rfl ?_
  refine g_cV X1 H hZ hml rfl hown e1 P20 (rm37s l Z a0 hw [] om ob os oe kk ks ke ot kt og (nt.toInt32) qa qb qv ya yb yc cs fm och ou ii h0 n0 Z0 O0 P1 hcs P3 rfm P5 P6 P7 P8 nou P21 P29 P30 P31 P32 P33 P34 P35 P36 P37 hfx hii) (own_g hw 206 rfl) (own_g hw 207 rfl) (notFace_of_selects (args := #[]) (mvT hZ (own_g hw 209 rfl))) (own_g hw 209 rfl) (own_g hw 208 rfl) (own_g hw 146 rfl) (own_g hw 210 rfl) (by decide) own_pd38 d36_5 rfl rfl rfl (W := 0) rfl (by decide) ?_
  intro _ T2 Lc2 X2 hQ2
  obtain ⟨r_2, rfl, Nq2, K2, fr2_r, u2_0⟩ := hQ2
  obtain ⟨lc2, Xh2, N2⟩ := own_hide X2 (Fr.app N0 Nq2)
  clear X2
  have g3 := Nat.le_trans Z0 fr2_r
  have sz4 := Nat.le_trans K0.1 fr2_r
  have Z5 := Nat.le_trans Z0 K2.1
  have K6 := K0.trans K2 own_all0
  have Sf7 := Safe.keep K2 sf0 CR0.1 (Safe.new (Z := Z) (EL := consts_1) (vm := s.vm) fr2_r)
  have CR8 := CHr.trans CR0 (CHr.keep K2 sf0 CR0.1)
  have O9 : Old Z n0 T2.heap := O0.keep K2 own_all0
  clear hfx
  refine g_astoreN Xh2 H d36_8 rfl #[vr oa, vr om, vr r_2, vu] rfl ?_
  refine g_aloadN Xh2 H d36_9 rfl rfl ?_
  show Go p.tables e below P T2 (mkF m 10 #[vr oa, vr om, vr r_2, vu] [(.ref r_2)])
  refine gv (fun t k => XS.ifnonnullYes Xh2.here hx rfl (pc0 := 10) (pc' := 15) rfl (hb hby d36_10) rfl (by decide) (by decide) k) ?_
  show Go p.tables e below P T2 (mkF m 15 #[vr oa, vr om, vr r_2, vu] [])
  refine gv (fun t k => XS.aconstNull Xh2.here hx rfl (hb hby d36_15) k) ?_
  show Go p.tables e below P T2 (mkF m 16 #[vr oa, vr om, vr r_2, vu] [.null])
  refine g_astoreN Xh2 H d36_16 rfl #[vr oa, vr om, vr r_2, .val .null] rfl ?_
  refine g_aloadN Xh2 H d36_17 rfl rfl ?_
  have F10 := (P19.keep K2 own_nin0)
  refine g_getF Xh2 H hZ hown (host := "") (Or.inl (own_g hw 194 rfl)) Via.refl rfl F10 d36_18 ?_
  intro T11 X11 e11
  refine g_ifNo X11 H d36_21 ((if0 _ _).trans (feq (by decide : ¬ ((1 : Int32) = (0 : Int32)))).1) ?_
  refine g_aloadN X11 H d36_24 rfl rfl ?_
  have F12 := (P18.keep K2 own_nin0)
  refine g_getF X11 H hZ hown (host := "") (Or.inl (own_g hw 192 rfl)) Via.refl e11 F12 d36_25 ?_
  intro T13 X13 e13
  show Go p.tables e below P T13 (mkF m 28 #[vr oa, vr om, vr r_2, .val .null] [(.ref oz)])
  obtain ⟨cq14, kq14, q14a, q14b, q14c⟩ := isOf hZ e13 (P14.ext O9.2)
  obtain ⟨_, _, ⟨T14, L14, k14, n14⟩, -, X14, ⟨Lc14, hQ14, l14, y14, z14⟩, st14⟩ := X13.interfaceBack hx (xi := (⟨"java/util/Set", "isEmpty", "()Z"⟩ : MethodName)) (y := (⟨"java/util/ImmutableCollections$SetN", "isEmpty", "()Z"⟩ : MethodName)) hown (mvT hZ (own_g hw 217 rfl)) (mvT hZ (own_g hw 218 rfl)) (mvT hZ (own_g hw 219 rfl)) (mvT hZ (own_g hw 220 rfl)) (mvT hZ (own_g hw 221 rfl)) (mvT hZ (own_g hw 222 rfl)) (mvT hZ (own_g hw 223 rfl)) (mvT hZ (own_g hw 224 rfl)) (by decide) (backOf (W := 0) (rm39 l Z a0 hw [] oz T2.heap n0 Z5 O9 P15) hZ (own_g hw 226 rfl) (own_g hw 225 rfl) (by decide) (by decide)) q14a q14b q14c (g := (mkF m 28 #[vr oa, vr om, vr r_2, .val .null] [(.ref oz)])) rfl (by rw [hml]; rfl) (Steps.refl _) (argsL := []) (rest := []) (lenOf own_pd26 rfl) rfl (by show 2 * 0 + _ ≤ _; exact Nat.le_of_eq rfl) (hb hby d36_28) (fun _ _ => ⟨rfl, e13, (by decide : 2 + 0 ≤ _), (by decide : 30 + 0 ≤ _)⟩)
  dsimp only [Pt.U, Pt.locs, Pt.cells, Pt.slots] at X14 l14 y14 z14 st14 hQ14
  subst l14 y14 z14
  obtain ⟨rfl, Nq14, hh14⟩ := hQ14
  obtain ⟨lc14, Xh14, N14⟩ := own_hide X14 (Fr.app N2 Nq14)
  clear X14
  refine Go.hop st14 ?_
  show Go p.tables e below P T14 (mkF m 33 #[vr oa, vr om, vr r_2, .val .null] [(.int 1)])
  refine g_ifNo Xh14 H d36_33 ((if0 _ _).trans (feq (by decide : ¬ ((1 : Int32) = (0 : Int32)))).1) ?_
  obtain ⟨T15, h15, X15, e15, E15, A15, D15, -, st15⟩ := newO Xh14 hx hZ hown (own_g hw 229 rfl) (own_g hw 230 rfl) (own_g hw 231 rfl) hh14 (g := (mkF m 36 #[vr oa, vr om, vr r_2, .val .null] [])) rfl (hb hby d36_36) (by decide) (by decide)
  obtain ⟨b15, g15⟩ : ∃ z, z = T2.heap.size := ⟨_, rfl⟩
  rw [← g15] at A15 D15 st15
  refine gv st15 ?_
  have ne16 := Nat.ne_of_lt (Nat.lt_of_lt_of_le u2_0.lt (Nat.le_of_eq g15.symm))
  have g17 := Nat.le_trans Z5 (Nat.le_of_eq g15.symm)
  have sz18 := Nat.le_trans K6.1 (Nat.le_of_eq g15.symm)
  have Z19 := Nat.le_trans Z5 E15.1
  have K20 := K6.ext E15
  have O21 : Old Z n0 h15 := O9.ext E15
  have Sf22 := Safe.ext E15 CR8.1 Sf7
  have CR23 := CHr.trans CR8 (CHr.ext E15 CR8.1)
  show Go p.tables e below P T15 (mkF m 39 #[vr oa, vr om, vr r_2, .val .null] [(.ref b15)])
  refine g_dup X15 H d36_39 rfl ?_
  refine g_cI X15 H hZ hml rfl hown e15 (rm40 l Z a0 hw [] b15 cs h15 n0 Z19 O21 P1 hcs A15 (D15 (Or.inl (own_g hw 244 rfl)) (ty := (.array .byte)) (by decide) : Fld Z h15 b15 ASn VLn DBn .null) (D15 (Or.inl (own_g hw 246 rfl)) (ty := .byte) (by decide) : Fld Z h15 b15 ASn CDn "B" (.int 0)) (D15 (Or.inl (own_g hw 275 rfl)) (ty := .int) (by decide) : Fld Z h15 b15 ASn "count" "I" (.int 0)) g17) (own_g hw 232 rfl) (own_g hw 233 rfl) (own_g hw 231 rfl) (own_g hw 234 rfl) (by decide) own_pd19 d36_40 rfl rfl rfl rfl (W := 1) rfl (by decide) ?_
  intro _ T24 Lc24 X24 hQ24
  obtain ⟨ov_24, ko_24, rfl, Nq24, K24, fr24_ov, u24_0, u24_1, u24_2, u24_3, u24_4, u24_5⟩ := hQ24
  obtain ⟨lc24, Xh24, N24⟩ := own_hide X24 (Fr.app N14 Nq24)
  clear X24
  have F26 := (u2_0.ext E15)
  have ne25 := Nat.ne_of_lt (Nat.lt_of_lt_of_le F26.lt fr24_ov)
  have ne27 := Nat.ne_of_lt (Nat.lt_of_lt_of_le A15.lt fr24_ov)
  have g28 := Nat.le_trans Z19 fr24_ov
  have sz29 := Nat.le_trans K20.1 fr24_ov
  have Z30 := Nat.le_trans Z19 K24.1
  have K31 := K20.trans K24 (own_allC (Or.inr sz18) own_all0)
  have Sf32 := Safe.keep K24 (sfS (Safe.exa hZ.alike A15 (by decide) (by decide)) sf0) CR23.1 Sf22
  have Sf33 := Safe.keep K24 (sfS (Safe.exa hZ.alike A15 (by decide) (by decide)) sf0) CR23.1 (Safe.new (Z := Z) (EL := consts_1) (vm := s.vm) fr24_ov)
  have CR34 := CHr.trans CR23 (CHr.keep K24 (sfS (Safe.exa hZ.alike A15 (by decide) (by decide)) sf0) CR23.1)
  have O35 : Old Z n0 T24.heap := O21.keep K24 (own_allC g17 own_all0)
  refine g_aloadN Xh24 H d36_43 rfl rfl ?_
  have F36 := (((P17.keep K2 own_nin0).ext E15).keep K24 (own_ninC (Nat.ne_of_lt (Nat.lt_of_lt_of_le P16.lt sz18)) own_nin0))
  refine g_getF Xh24 H hZ hown (host := "") (Or.inl (own_g hw 190 rfl)) Via.refl rfl F36 d36_44 ?_
  intro T37 X37 e37
  show Go p.tables e below P T37 (mkF m 47 #[vr oa, vr om, vr r_2, .val .null] [(.ref og), (.ref b15)])
  have F38 := (((P20.keep K2).ext E15).keep K24)
  have F39 := (((P21.keep K2 own_nin0).ext E15).keep K24 (own_ninC (Nat.ne_of_lt (Nat.lt_of_lt_of_le P20.lt sz18)) own_nin0))
  have F40 := (((P22.keep K2 own_nin0).ext E15).keep K24 (own_ninC (Nat.ne_of_lt (Nat.lt_of_lt_of_le P20.lt sz18)) own_nin0))
  have F41 := (((P23.keep K2).ext E15).keep K24)
  have F42 := (((P24.keep K2 own_nin0).ext E15).keep K24 (own_ninC (Nat.ne_of_lt (Nat.lt_of_lt_of_le P23.lt sz18)) own_nin0))
  have F43 := (((P25.keep K2 own_nin0).ext E15).keep K24 (own_ninC (Nat.ne_of_lt (Nat.lt_of_lt_of_le P23.lt sz18)) own_nin0))
  have F44 := (((P26.keep K2 own_nin0).ext E15).keep K24 (own_ninC (Nat.ne_of_lt (Nat.lt_of_lt_of_le P26.lt sz18)) own_nin0))
  obtain ⟨cq45, kq45, q45a, q45b, q45c⟩ := isOf hZ e37 u24_0
  obtain ⟨_, _, ⟨T45, L45, k45, n45⟩, -, X45, hSn45, hgn45, ⟨Lc45, hQ45, l45, y45, z45, hC45⟩, st45⟩ := X37.virtualBackS hx (y := (⟨SBn, "append", "(Ljava/lang/Object;)Ljava/lang/StringBuilder;"⟩ : MethodName)) (z := (⟨SBn, "append", "(Ljava/lang/Object;)Ljava/lang/StringBuilder;"⟩ : MethodName)) hown (mvT hZ (own_g hw 247 rfl)) (mvT hZ (own_g hw 248 rfl)) (notFace_of_selects (args := #[]) (mvT hZ (own_g hw 250 rfl))) (mvT hZ (own_g hw 250 rfl)) (mvT hZ (own_g hw 249 rfl)) (by decide) (own_backS (W := 0) (rm42 l Z a0 hw [] b15 ov_24 ko_24 og nt cs so tb kb bl o1 o2 k1d k2d T24.heap n0 Z30 O35 P1 hcs P10 P11 P12 P13 u24_0 u24_1 u24_2 u24_3 u24_4 g28 g17 ne27 F38 F39 F40 F41 F42 F43 F44 hbl hnt) hZ (own_g hw 251 rfl) (own_g hw 231 rfl) (by decide) (by decide) (own_EW hw) CR34.1 u24_4.lt Sf33) q45a q45c (g := (mkF m 47 #[vr oa, vr om, vr r_2, .val .null] [(.ref og), (.ref b15)])) rfl (by rw [hml]; rfl) (Steps.refl _) (argsL := [(.ref og)]) (rest := []) (lenOf own_pd39 rfl) rfl (by show 2 * 0 + _ ≤ _; exact Nat.le_of_eq rfl) (hb hby d36_47) (fun _ _ => ⟨rfl, e37, (by decide : 4 + 8 ≤ _), (by decide : 50 + 60 ≤ _)⟩)
  dsimp only [Pt.U, Pt.locs, Pt.cells, Pt.slots] at X45 l45 y45 z45 st45 hQ45 hSn45 hgn45 hC45
  subst l45 y45 z45
  have hS45 : s.Since T45.vm T45.heap.size := foldS hS0 (by rw [e37]; exact (Nat.zero_le _)) hSn45 hgn45
  have X45 : Stand p l e (Rm 9 16 174 129) (s.setVm T45.vm) m #[(.ref oa), (.ref om)] below meth c T45 _ _ _ := X45
  have hown : (s.setVm T45.vm).vm.findClass CFn = some m.cls := by rw [show (s.setVm T45.vm).vm = T45.vm from rfl, hSn45.1.alike.findClass]; exact hown
  have hZ : Z.Warmed39 (s.setVm T45.vm).vm := State.Warmed39.trans (t := s.setVm s.vm) hZ hSn45.1
  obtain ⟨rfl, Nq45, K45, u45_0, u45_1, u45_2, u45_3, u45_4⟩ := hQ45
  obtain ⟨lc45, Xh45, N45⟩ := own_hide X45 (Fr.app N24 Nq45)
  clear X45
  refine Go.hop st45 ?_
  have F47 := (F26.keep K24)
  have Sf46 := CHr.safe hC45 F47.lt Sf32
  have Sf48 := CHr.safe hC45 u24_4.lt Sf33
  have CR49 := CHr.trans CR34 hC45
  have Z50 := Nat.le_trans Z30 K45.1
  have K51 := K31.trans K45 (own_allC (Or.inr sz18) (own_allC (Or.inr sz29) own_all0))
  have O52 : Old Z n0 T45.heap := O35.keep K45 (own_allC g17 (own_allC g28 own_all0))
  have hk53 : T45.heap.size ≤ T45.heap.size := Nat.le_refl _
  show Go p.tables e below P T45 (mkF m 50 #[vr oa, vr om, vr r_2, .val .null] [(.ref b15)])
  obtain ⟨a54, T54, h54, kn54, b54, kb54, X54, e54, E54, hS54, hk54, hZ, hown, Ex54, Fc54, Fv54, Va54, lta54, ltb54, hC54, -, ne54, st54⟩ := ldcCH Xh45 hx hZ hown (own_g hw 350 rfl) (own_sa hw) rfl hS45 hk53 (own_EW hw) (by decide : ((CFn, 53) : String × Nat) ∈ consts_1) CR49.1 (vs := [(.int 32), (.int 105), (.int 115), (.int 32), (.int 115), (.int 116), (.int 97), (.int 116), (.int 101), (.int 100)]) (z := (10 : Int32)) ⟨by decide, rfl⟩ (by decide) rfl (g := (mkF m 50 #[vr oa, vr om, vr r_2, .val .null] [(.ref b15)])) rfl (hb hby d36_50) (n := 40) (by decide) (by decide) (by decide) (by decide)
  refine gv st54 ?_
  have F56 := (F47.keep K45)
  have Sf55 := CHr.safe hC54 F56.lt Sf46
  have Sf57 := CHr.safe hC54 u45_4.lt Sf48
  have CR58 := CHr.trans CR49 hC54
  have Z59 := Nat.le_trans Z50 E54.1
  have K60 := K51.ext E54
  have O61 : Old Z n0 h54 := O52.ext E54
  have Vb54 : Arv Z h54 b54 kb54 .byte (own_lg ([(32 : Int32), (105 : Int32), (115 : Int32), (32 : Int32), (115 : Int32), (116 : Int32), (97 : Int32), (116 : Int32), (101 : Int32), (100 : Int32)] : List Int32)) (([(32 : Int32), (105 : Int32), (115 : Int32), (32 : Int32), (115 : Int32), (116 : Int32), (97 : Int32), (116 : Int32), (101 : Int32), (100 : Int32)] : List Int32).map Value.int) (.int 0) := by
    rw [show own_lg ([(32 : Int32), (105 : Int32), (115 : Int32), (32 : Int32), (115 : Int32), (116 : Int32), (97 : Int32), (116 : Int32), (101 : Int32), (100 : Int32)] : List Int32) = (10 : Int32) from rfl]; exact Va54
  have F62 := (((((P16.keep K2).ext E15).keep K24).keep K45).ext E54)
  have nq63 := (ne54 _ (Safe.exa hZ.alike F62 (by decide) (by decide))).1
  have nq64 := (ne54 _ (Safe.exa hZ.alike F62 (by decide) (by decide))).2
  have F65 := ((F38.keep K45).ext E54)
  have nq66 := (ne54 _ (Safe.exa hZ.alike F65 (by decide) (by decide))).1
  have nq67 := (ne54 _ (Safe.exa hZ.alike F65 (by decide) (by decide))).2
  have F68 := (((((P29.keep K2).ext E15).keep K24).keep K45).ext E54)
  have nq69 := (ne54 _ (Safe.exa hZ.alike F68 (by decide) (by decide))).1
  have nq70 := (ne54 _ (Safe.exa hZ.alike F68 (by decide) (by decide))).2
  have F71 := (((((P34.keep K2 own_nin0).ext E15).keep K24 (own_ninC (Nat.ne_of_lt (Nat.lt_of_lt_of_le P34.lt sz18)) own_nin0)).keep K45 (own_ninC (Nat.ne_of_lt (Nat.lt_of_lt_of_le P34.lt sz18)) (own_ninC (Nat.ne_of_lt (Nat.lt_of_lt_of_le P34.lt sz29)) own_nin0))).ext E54)
  have nq72 := (ne54 _ (Safe.arv hZ.alike F71 (by decide))).1
  have nq73 := (ne54 _ (Safe.arv hZ.alike F71 (by decide))).2
  have F74 := (((((P35.keep K2 own_nin0).ext E15).keep K24 (own_ninC (Nat.ne_of_lt (Nat.lt_of_lt_of_le P35.lt sz18)) own_nin0)).keep K45 (own_ninC (Nat.ne_of_lt (Nat.lt_of_lt_of_le P35.lt sz18)) (own_ninC (Nat.ne_of_lt (Nat.lt_of_lt_of_le P35.lt sz29)) own_nin0))).ext E54)
  have nq75 := (ne54 _ (Safe.arv hZ.alike F74 (by decide))).1
  have nq76 := (ne54 _ (Safe.arv hZ.alike F74 (by decide))).2
  have F77 := (((((P36.keep K2 own_nin0).ext E15).keep K24 (own_ninC (Nat.ne_of_lt (Nat.lt_of_lt_of_le P36.lt sz18)) own_nin0)).keep K45 (own_ninC (Nat.ne_of_lt (Nat.lt_of_lt_of_le P36.lt sz18)) (own_ninC (Nat.ne_of_lt (Nat.lt_of_lt_of_le P36.lt sz29)) own_nin0))).ext E54)
  have nq78 := (ne54 _ (Safe.arv hZ.alike F77 (by decide))).1
  have nq79 := (ne54 _ (Safe.arv hZ.alike F77 (by decide))).2
  have nq80 := (ne54 _ Sf55).1
  have nq81 := (ne54 _ Sf55).2
  have F82 := (u45_0.ext E54)
  have nq83 := (ne54 _ (Safe.exa hZ.alike F82 (by decide) (by decide))).1
  have nq84 := (ne54 _ (Safe.exa hZ.alike F82 (by decide) (by decide))).2
  have nq85 := (ne54 _ Sf57).1
  have nq86 := (ne54 _ Sf57).2
  show Go p.tables e below P T54 (mkF m 52 #[vr oa, vr om, vr r_2, .val .null] [(.ref a54), (.ref b15)])
  have F87 := (u45_1.ext E54)
  have F88 := (u45_2.ext E54)
  have F89 := (u45_3.ext E54)
  have F90 := (u45_4.ext E54)
  refine g_cV X54 H hZ hml rfl hown e54 F82 (rm45 l Z a0 hw [] b15 ov_24 ko_24 ((0 : Nat) + (own_ts bl nt).length) (own_put (List.replicate 16 (0 : Int32)) (0 : Nat) (own_ts bl nt)) a54 b54 kb54 ([(32 : Int32), (105 : Int32), (115 : Int32), (32 : Int32), (115 : Int32), (116 : Int32), (97 : Int32), (116 : Int32), (101 : Int32), (100 : Int32)] : List Int32) cs h54 n0 Z59 O61 P1 hcs F82 F87 F88 F89 Ex54 Fv54 Fc54 Vb54 F90 (own_qk hbl nt) (own_ql1 hbl nt) g28 g17 (Ne.symm nq86) ne27 (Ne.symm nq85) nq83 nq84) (own_g hw 351 rfl) (own_g hw 264 rfl) (notFace_of_selects (args := #[]) (mvT hZ (own_g hw 266 rfl))) (own_g hw 266 rfl) (own_g hw 265 rfl) (own_g hw 231 rfl) (own_g hw 267 rfl) (by decide) own_pd34 d36_52 rfl rfl rfl (W := 0) rfl (by decide) ?_
  intro _ T91 Lc91 X91 hQ91
  obtain ⟨rfl, Nq91, K91, u91_0, u91_1, u91_2, u91_3, u91_4⟩ := hQ91
  obtain ⟨lc91, Xh91, N91⟩ := own_hide X91 (Fr.app N45 Nq91)
  clear X91
  have Z92 := Nat.le_trans Z59 K91.1
  have K93 := K60.trans K91 (own_allC (Or.inr sz18) (own_allC (Or.inr sz29) own_all0))
  have Sf94 := Safe.keep K91 (sfS (Safe.exa hZ.alike F82 (by decide) (by decide)) (sfS Sf57 sf0)) CR58.1 Sf55
  have Sf95 := Safe.keep K91 (sfS (Safe.exa hZ.alike F82 (by decide) (by decide)) (sfS Sf57 sf0)) CR58.1 Sf57
  have CR96 := CHr.trans CR58 (CHr.keep K91 (sfS (Safe.exa hZ.alike F82 (by decide) (by decide)) (sfS Sf57 sf0)) CR58.1)
  have hk97 := Nat.le_trans hk54 K91.1
  have O98 : Old Z n0 T91.heap := O61.keep K91 (own_allC g17 (own_allC g28 own_all0))
  have F99 := (((u24_5.keep K45).ext E54).keep K91)
  refine g_cV Xh91 H hZ hml rfl hown rfl u91_0 (rm56 l Z a0 hw [] b15 ov_24 ko_24 (((0 : Nat) + (own_ts bl nt).length) + ([(32 : Int32), (105 : Int32), (115 : Int32), (32 : Int32), (115 : Int32), (116 : Int32), (97 : Int32), (116 : Int32), (101 : Int32), (100 : Int32)] : List Int32).length) (own_put (own_put (List.replicate 16 (0 : Int32)) (0 : Nat) (own_ts bl nt)) ((0 : Nat) + (own_ts bl nt).length) ([(32 : Int32), (105 : Int32), (115 : Int32), (32 : Int32), (115 : Int32), (116 : Int32), (97 : Int32), (116 : Int32), (101 : Int32), (100 : Int32)] : List Int32)) cs T91.heap n0 Z92 O98 P1 hcs u91_0 u91_1 u91_2 u91_3 u91_4 F99 (own_qk hbl nt) (own_ql2 hbl nt)) (own_g hw 352 rfl) (own_g hw 324 rfl) (notFace_of_selects (args := #[]) (mvT hZ (own_g hw 326 rfl))) (own_g hw 326 rfl) (own_g hw 325 rfl) (own_g hw 231 rfl) (own_g hw 327 rfl) (by decide) own_pd36 d36_55 rfl rfl rfl (W := 0) rfl (by decide) ?_
  intro _ T100 Lc100 X100 hQ100
  obtain ⟨r_100, oc_100, kc_100, rfl, Nq100, K100, fr100_r, fr100_oc, u100_0, u100_1, u100_2, u100_3⟩ := hQ100
  obtain ⟨lc100, Xh100, N100⟩ := own_hide X100 (Fr.app N91 Nq100)
  clear X100
  have F102 := ((F56.ext E54).keep K91)
  have ne101 := Nat.ne_of_lt (Nat.lt_of_lt_of_le F102.lt fr100_r)
  have ne103 := Nat.ne_of_lt (Nat.lt_of_lt_of_le u91_0.lt fr100_r)
  have ne104 := Nat.ne_of_lt (Nat.lt_of_lt_of_le F99.lt fr100_r)
  have F106 := (Ex54.keep K91)
  have ne105 := Nat.ne_of_lt (Nat.lt_of_lt_of_le F106.lt fr100_r)
  have F108 := (Vb54.keep K91 (own_ninC (Ne.symm nq84) (own_ninC (Ne.symm nq86) own_nin0)))
  have ne107 := Nat.ne_of_lt (Nat.lt_of_lt_of_le F108.lt fr100_r)
  have g109 := Nat.le_trans Z92 fr100_r
  have sz110 := Nat.le_trans K93.1 fr100_r
  have ne111 := Nat.ne_of_lt (Nat.lt_of_lt_of_le F102.lt fr100_oc)
  have ne112 := Nat.ne_of_lt (Nat.lt_of_lt_of_le u91_0.lt fr100_oc)
  have ne113 := Nat.ne_of_lt (Nat.lt_of_lt_of_le F99.lt fr100_oc)
  have ne114 := Nat.ne_of_lt (Nat.lt_of_lt_of_le F106.lt fr100_oc)
  have ne115 := Nat.ne_of_lt (Nat.lt_of_lt_of_le F108.lt fr100_oc)
  have g116 := Nat.le_trans Z92 fr100_oc
  have sz117 := Nat.le_trans K93.1 fr100_oc
  have Z118 := Nat.le_trans Z92 K100.1
  have K119 := K93.trans K100 own_all0
  have Sf120 := Safe.keep K100 sf0 CR96.1 Sf94
  have Sf121 := Safe.keep K100 sf0 CR96.1 Sf95
  have Sf122 := Safe.keep K100 sf0 CR96.1 (Safe.new (Z := Z) (EL := consts_1) (vm := T54.vm) fr100_r)
  have Sf123 := Safe.keep K100 sf0 CR96.1 (Safe.new (Z := Z) (EL := consts_1) (vm := T54.vm) fr100_oc)
  have CR124 := CHr.trans CR96 (CHr.keep K100 sf0 CR96.1)
  have hk125 := Nat.le_trans hk97 K100.1
  have O126 : Old Z n0 T100.heap := O98.keep K100 own_all0
  refine g_astoreN Xh100 H d36_58 rfl #[vr oa, vr om, vr r_2, vr r_100] rfl ?_
  refine g_goto Xh100 H d36_59 106 (by decide) ?_
  refine g_aloadN Xh100 H d36_106 rfl rfl ?_
  show Go p.tables e below P T100 (mkF m 107 #[vr oa, vr om, vr r_2, vr r_100] [(.ref r_100)])
  obtain ⟨fs, hr, hrun, hended, hend⟩ := Xh100.leaveW hS54 (by exact hk125) (v := some (.ref r_100)) (fun h => by rw [Bd.returns] at h; cases h)
  have hCf : CHr Z consts_1 s.vm s.heap (T100.setFrames fs).vm (T100.setFrames fs).heap := by
    rw [hh]
    show CHr Z consts_1 s.vm h0 T100.vm T100.heap
    exact CHr.trans CR124 (CHv.at Xh100 hZ (own_EW hw) CR124.1)
  refine ⟨_, _, retA Xh100 hx Bd.returns rfl rfl rfl (hb hby d36_107) hr, hrun, hended, hP _ _ ⟨_, _, rfl, ?_, hCf, own_rew hend (by decide) (by decide)⟩⟩
  show Q36 Z oa oz ii om ob os oe kk ks ke ot kt og nt so tb kb bl o1 o2 k1d k2d qa qb qv ya yb yc cs fm och ou h0 n0 _ T100.heap _
  exact ⟨r_100, oc_100, kc_100, rfl, N100, K119, sz110, sz117, u100_0, u100_1, u100_2, (own_psA hbl u100_3)⟩
theorem own_itB {p : Program} {l : Launch} {e : Env} {R : Room} {s : State} {m : MethodId} {args : Array Value} {below : List Frame} {meth : Method} {c : Code} {T : State} {locs : List Loc} {cells slots : Nat} {Z : State} {h0 : Heap} {n0 : Nat} {a : Addr} {k : ClassId} {z : Int32} {vs : List Value} {dv : Value} {P : Outcome → State → Prop}
    (X : Stand p l e R s m args below meth c T locs cells slots) (hx : p.tables.exec = Jvm.exec) (hZ : Z.Warmed39 s.vm) (F : Arv Z T.heap a k .byte z vs dv) (N : Fr n0 locs) (K : Keep h0 T.heap [a]) (ga : n0 ≤ a) {pc pc2 pc3 : Nat} {Ls : Array Slot} {rest : List Value} {j x : Int32} (d0 : decode c.code pc = .ok (.dup, 1))
    (q1 : ∀ t, Steps p.tables e below (T.setTop (mkF m pc2 Ls (.int j :: .ref a :: .ref a :: rest))) t → Steps p.tables e below (T.setTop (mkF m (pc + 1) Ls (.ref a :: .ref a :: rest))) t)
    (q2 : ∀ t, Steps p.tables e below (T.setTop (mkF m pc3 Ls (.int x :: .int j :: .ref a :: .ref a :: rest))) t → Steps p.tables e below (T.setTop (mkF m pc2 Ls (.int j :: .ref a :: .ref a :: rest))) t)
    (d3 : decode c.code pc3 = .ok (.bastore, 1)) (bd : ¬ j < 0 ∧ j < z) {ji : Nat} (jp : j.toNatClampNeg = ji) (il : ji < vs.length)
    (go : ∀ T' L', Stand p l e R s m args below meth c T' L' cells slots → Fr n0 L' → Keep h0 T'.heap [a] → Arv Z T'.heap a k .byte z (vs.set ji (.int (nar .byte x))) dv → Go p.tables e below P T' (mkF m (pc3 + 1) Ls (.ref a :: rest))) : Go p.tables e below P T (mkF m pc Ls (.ref a :: rest)) := by
  obtain ⟨c1, A, q, S, Nn, H, G⟩ := F
  obtain ⟨T', h', X', e', W, st⟩ := stB X hx hZ rfl A (j := j) (inb_of S bd) (g := mkF m pc3 Ls (.int x :: .int j :: .ref a :: .ref a :: rest)) rfl rfl d3
  subst e'
  exact Go.via (fun t k => XS.dup X.here hx rfl d0 rfl rfl (q1 t (q2 t (st t k)))) (go T' _ X' (Fr.snoc X' N ga) (K.wr W (Or.inl (List.mem_of_getElem? (i := 0) rfl))) (Arv.set A q S Nn H G (fits_nar_byte _) W ji jp il))
theorem own_itC {p : Program} {l : Launch} {e : Env} {R : Room} {s : State} {m : MethodId} {args : Array Value} {below : List Frame} {meth : Method} {c : Code} {T : State} {locs : List Loc} {cells slots : Nat} {Z : State} {h0 : Heap} {n0 : Nat} {a : Addr} {k : ClassId} {z : Int32} {vs : List Value} {dv : Value} {P : Outcome → State → Prop}
    (X : Stand p l e R s m args below meth c T locs cells slots) (hx : p.tables.exec = Jvm.exec) (hZ : Z.Warmed39 s.vm) (F : Arv Z T.heap a k .char z vs dv) (N : Fr n0 locs) (K : Keep h0 T.heap [a]) (ga : n0 ≤ a) {pc pc2 pc3 : Nat} {Ls : Array Slot} {rest : List Value} {j x : Int32} (d0 : decode c.code pc = .ok (.dup, 1))
    (q1 : ∀ t, Steps p.tables e below (T.setTop (mkF m pc2 Ls (.int j :: .ref a :: .ref a :: rest))) t → Steps p.tables e below (T.setTop (mkF m (pc + 1) Ls (.ref a :: .ref a :: rest))) t)
    (q2 : ∀ t, Steps p.tables e below (T.setTop (mkF m pc3 Ls (.int x :: .int j :: .ref a :: .ref a :: rest))) t → Steps p.tables e below (T.setTop (mkF m pc2 Ls (.int j :: .ref a :: .ref a :: rest))) t)
    (d3 : decode c.code pc3 = .ok (.castore, 1)) (bd : ¬ j < 0 ∧ j < z) {ji : Nat} (jp : j.toNatClampNeg = ji) (il : ji < vs.length)
    (go : ∀ T' L', Stand p l e R s m args below meth c T' L' cells slots → Fr n0 L' → Keep h0 T'.heap [a] → Arv Z T'.heap a k .char z (vs.set ji (.int (nar .char x))) dv → Go p.tables e below P T' (mkF m (pc3 + 1) Ls (.ref a :: rest))) : Go p.tables e below P T (mkF m pc Ls (.ref a :: rest)) := by
  obtain ⟨c1, A, q, S, Nn, H, G⟩ := F
  obtain ⟨T', h', X', e', W, st⟩ := stC X hx hZ rfl A (j := j) (inb_of S bd) (g := mkF m pc3 Ls (.int x :: .int j :: .ref a :: .ref a :: rest)) rfl rfl d3
  subst e'
  exact Go.via (fun t k => XS.dup X.here hx rfl d0 rfl rfl (q1 t (q2 t (st t k)))) (go T' _ X' (Fr.snoc X' N ga) (K.wr W (Or.inl (List.mem_of_getElem? (i := 0) rfl))) (Arv.set A q S Nn H G (fits_nar_char _) W ji jp il))
theorem own_al0 {P : Int32 → Prop} : ∀ c ∈ ([] : List Int32), P c := fun _ q => nomatch q
theorem own_alC {P : Int32 → Prop} {a : Int32} {l : List Int32} (h : P a) (h' : ∀ x ∈ l, P x) : ∀ x ∈ a :: l, P x := fun x q => (List.mem_cons.mp q).elim (fun e => e ▸ h) (h' x)
theorem own_ws {a0 : Array Value} {Z : State} (hw : ∀ d ∈ tables_1, d.before a0 Z = true) : ∀ d ∈ StrChars.Road.words, d.before a0 Z = true := fun d hd => hw d ((by decide +kernel : ∀ d ∈ StrChars.Road.words, d ∈ tables_1) d hd)
def own_by (c : Int32) : Prop := 0 ≤ c.toInt ∧ c.toInt ≤ 255
theorem own_byc (x : Int32) : own_by ((x &&& (255 : Int32)).toUInt32.toUInt16.toUInt32.toInt32) := by
  rw [i2c_mask]; exact c_and x 255 (by decide)
theorem own_nby {c : Int32} (h : own_by c) : nar .char c = c := by
  show c.toUInt32.toUInt16.toUInt32.toInt32 = c
  have q := c_i2c c
  obtain ⟨h1, h2⟩ := h
  rw [← Int32.toInt_inj]; omega
theorem own_b255 {c : Int32} (h : own_by c) : ¬ (255 : Int32) < c := by
  rw [Int32.lt_iff_toInt_lt]; have e1 : (255 : Int32).toInt = 255 := rfl; have q := h.2; omega
theorem own_hp {c : Int32} (h : own_by c) : ¬ nar .char c < 0 ∧ ¬ (255 : Int32) < nar .char c := by
  rw [own_nby h]; refine ⟨?_, own_b255 h⟩
  rw [Int32.lt_iff_toInt_lt]; have e2 : (0 : Int32).toInt = 0 := rfl; have q := h.1; omega
theorem own_nb8 (x : Int32) : nar .byte (x.toInt8.toInt32) = x.toInt8.toInt32 := by
  show (x.toInt8.toInt32).toInt8.toInt32 = _; simp
theorem own_pn12 : plainName "java/lang/StringLatin1" = true := by first | (simp [plainName, overriddenIn]; done) | decide +kernel
theorem d29_0 : D56 0 (.iload_n 0) 1 := by decide +kernel
theorem d29_1 : D56 1 (.sipush 255) 3 := by decide +kernel
theorem d29_4 : D56 4 (.if_icmp .gt 7) 3 := by decide +kernel
theorem d29_7 : D56 7 (.iconst 1) 1 := by decide +kernel
theorem d29_8 : D56 8 (.goto 4) 3 := by decide +kernel
theorem d29_12 : D56 12 (.ireturn) 1 := by decide +kernel
theorem ef_29 (m : MethodId) (x0 : Int32) : entryFrame m #[(.int x0)] 1 = mkF m 0 #[.val (.int x0)] [] := by first | (simp [entryFrame, mkF, argsToLocals, Value.category]; done) | rfl
def Q29 (Z : State) (ch : Int32) (h0 : Heap) (n0 : Nat) (v : Option Value) (h : Heap) (L : List Loc) : Prop := v = some (.int 1) ∧ Fr n0 L ∧ h = h0
theorem rm29 (l : Launch) (Z : State) (a0 : Array Value) (hw : HW a0 Z) (ws : List Jvm.Cond) (ch : Int32) (h0 : Heap) (n0 : Nat) (Z0 : n0 ≤ h0.size) (hch : ¬ ((255 : Int32) < ch)) :
    MFr l Z (⟨"java/lang/StringLatin1", "canEncode", "(C)Z"⟩ : MethodName) jdk_43_method_3_code 1 (some .boolean) ws (Rm 0 0 0 0) #[(.int ch)] h0 (Q29 Z ch h0 n0) := by
  refine own_body (own := "java/lang/StringLatin1") (plainFor_of_name own_pn12) rfl (fun m => ef_29 m ch) ?_
  intro p e s m below meth c s₁ Bd H hml hZ hown X0 e0 P hP
  have N0 := Fr.nil n0
  refine g_iloadN X0 H d29_0 rfl ?_
  refine g_sipush X0 H d29_1 255 rfl ?_
  refine g_icmpNo X0 H d29_4 (flt hch).2.2.1 ?_
  refine g_iconst X0 H d29_7 1 rfl ?_
  refine g_goto X0 H d29_8 12 (by decide) ?_
  refine g_retZ X0 H Bd.notSynchronized hP (by decide) Bd.returns (by simp) d29_12 (r := (1 : Int32)) rfl ?_
  rw [e0]
  exact ⟨rfl, N0, rfl⟩
theorem d30_0 : D57 0 (.iconst 1) 1 := by decide +kernel
theorem d30_1 : D57 1 (.newarray .byte) 2 := by decide +kernel
theorem d30_3 : D57 3 (.dup) 1 := by decide +kernel
theorem d30_4 : D57 4 (.iconst 0) 1 := by decide +kernel
theorem d30_5 : D57 5 (.iload_n 0) 1 := by decide +kernel
theorem d30_6 : D57 6 (.i2b) 1 := by decide +kernel
theorem d30_7 : D57 7 (.bastore) 1 := by decide +kernel
theorem d30_8 : D57 8 (.areturn) 1 := by decide +kernel
theorem ef_30 (m : MethodId) (x0 : Int32) : entryFrame m #[(.int x0)] 1 = mkF m 0 #[.val (.int x0)] [] := by first | (simp [entryFrame, mkF, argsToLocals, Value.category]; done) | rfl
def Q30 (Z : State) (ch : Int32) (h0 : Heap) (n0 : Nat) (v : Option Value) (h : Heap) (L : List Loc) : Prop := ∃ (r : Addr) (kk : ClassId), v = some (.ref r) ∧ Fr n0 L ∧ Keep h0 h [] ∧ h0.size ≤ r ∧ Arv Z h r kk .byte (1 : Int32) [(.int (nar .byte (ch.toInt8.toInt32)))] (.int 0)
theorem rm30 (l : Launch) (Z : State) (a0 : Array Value) (hw : HW a0 Z) (ws : List Jvm.Cond) (ch : Int32) (h0 : Heap) (n0 : Nat) (Z0 : n0 ≤ h0.size) :
    MFr l Z (⟨"java/lang/StringLatin1", "toBytes", "(C)[B"⟩ : MethodName) jdk_43_method_46_code 1 (some (.array .byte)) ws (Rm 0 1 1 0) #[(.int ch)] h0 (Q30 Z ch h0 n0) := by
  refine own_body (own := "java/lang/StringLatin1") (plainFor_of_name own_pn12) rfl (fun m => ef_30 m ch) ?_
  intro p e s m below meth c s₁ Bd H hml hZ hown X0 e0 P hP
  have hx := H.1
  have hby := H.2
  have N0 := Fr.nil n0
  have K0 : Keep h0 h0 [] := Keep.refl _ _
  refine g_iconst X0 H d30_0 1 rfl ?_
  obtain ⟨T1, h1, k1, X1, e1, E1, A1, st1⟩ := newP X0 hx hZ (own_g hw 1 rfl) e0 (g := (mkF m 1 #[vi ch] [(.int 1)])) rfl (hb hby d30_1) rfl (by decide) (cap := 1) (by decide) (by decide) (by decide) (by decide)
  obtain ⟨b1, g1⟩ : ∃ z, z = h0.size := ⟨_, rfl⟩
  rw [← g1] at A1 st1
  refine gv st1 ?_
  have g2 := Nat.le_trans Z0 (Nat.le_of_eq g1.symm)
  have sz3 := Nat.le_trans K0.1 (Nat.le_of_eq g1.symm)
  have Z4 := Nat.le_trans Z0 E1.1
  have K5 := K0.ext E1
  have V1 : Arv Z h1 b1 k1 .byte (1 : Int32) [(.int 0)] (.int 0) := (Arv.new A1 (by decide)).pad (pad_rep [] (.int 0) 1)
  show Go p.tables e below P T1 (mkF m 3 #[vi ch] [(.ref b1)])
  subst e1
  refine own_itB X1 hx hZ V1 N0 (Keep.refl _ _) g2 (pc2 := 5) (pc3 := 7) (j := (0 : Int32)) (x := (ch.toInt8.toInt32)) (hb hby d30_3) (fun t k => XS.iconst X1.here hx rfl (hb hby d30_4) k) (fun t k => XS.iloadN X1.here hx rfl (hb hby d30_5) rfl (XS.i2b X1.here hx rfl (hb hby d30_6) rfl k)) (hb hby d30_7) ⟨by decide, by decide⟩ rfl (Nat.le_of_ble_eq_true rfl) ?_
  intro T6 L6 X6 N6 K6 V6
  have Z7 := Nat.le_trans Z4 K6.1
  have K8 := K5.trans K6 (own_allC (Or.inr sz3) own_all0)
  have Vt6 : Arv Z T6.heap b1 k1 .byte (1 : Int32) [(.int (nar .byte (ch.toInt8.toInt32)))] (.int 0) := V6
  show Go p.tables e below P T6 (mkF m 8 #[vi ch] [(.ref b1)])
  refine g_retA X6 H Bd.notSynchronized hP (by decide) Bd.returns rfl rfl rfl d30_8 ?_
  exact ⟨b1, k1, rfl, N6, K8, sz3, Vt6⟩
theorem d31_0 : D58 0 (.aload_n 0) 1 := by decide +kernel
theorem d31_1 : D58 1 (.invokespecial 1) 3 := by decide +kernel
theorem d31_4 : D58 4 (.aload_n 0) 1 := by decide +kernel
theorem d31_5 : D58 5 (.aload_n 1) 1 := by decide +kernel
theorem d31_6 : D58 6 (.putfield 9) 3 := by decide +kernel
theorem d31_9 : D58 9 (.aload_n 0) 1 := by decide +kernel
theorem d31_10 : D58 10 (.iload_n 2) 1 := by decide +kernel
theorem d31_11 : D58 11 (.putfield 15) 3 := by decide +kernel
theorem d31_14 : D58 14 (.return_) 1 := by decide +kernel
theorem ef_31 (m : MethodId) (x0 : Addr) (x1 : Addr) : entryFrame m #[(.ref x0), (.ref x1), (.int 0)] 3 = mkF m 0 #[.val (.ref x0), .val (.ref x1), .val (.int 0)] [] := by first | (simp [entryFrame, mkF, argsToLocals, Value.category]; done) | rfl
def Q31 (Z : State) (oa : Addr) (ob : Addr) (h0 : Heap) (n0 : Nat) (v : Option Value) (h : Heap) (L : List Loc) : Prop := v = none ∧ Fr n0 L ∧ Keep h0 h [oa] ∧ Exa Z h oa STn ∧ Fld Z h oa STn VLn DBn (.ref ob) ∧ Fld Z h oa STn CDn "B" (.int 0)
theorem rm31 (l : Launch) (Z : State) (a0 : Array Value) (hw : HW a0 Z) (ws : List Jvm.Cond) (oa : Addr) (ob : Addr) (h0 : Heap) (n0 : Nat) (Z0 : n0 ≤ h0.size) (P0 : Exa Z h0 oa STn) (P1 : Fld Z h0 oa STn VLn DBn .null) (P2 : Fld Z h0 oa STn CDn "B" (.int 0)) (ga : n0 ≤ oa) :
    MFr l Z (⟨STn, "<init>", "([BB)V"⟩ : MethodName) jdk_42_method_151_code 3 none ws (Rm 1 0 0 12) #[(.ref oa), (.ref ob), (.int 0)] h0 (Q31 Z oa ob h0 n0) := by
  refine own_body (own := STn) (plainFor_of_name own_pn3) rfl (fun m => ef_31 m oa ob) ?_
  intro p e s m below meth c s₁ Bd H hml hZ hown X0 e0 P hP
  have hx := H.1
  have hby := H.2
  have hnm := (name_of_methodNamed Bd.named Bd.method).1
  have N0 := Fr.nil n0
  have K0 : Keep h0 h0 [oa] := Keep.refl _ _
  refine g_aloadN X0 H d31_0 rfl rfl ?_
  obtain ⟨T1, X1, e1, st1⟩ := initO X0 hx hZ hown (own_g hw 110 rfl) (own_g hw 52 rfl) (own_g hw 53 rfl) e0 (g := (mkF m 1 #[vr oa, vr ob, vi 0] [(.ref oa)])) rfl (by rw [hml]; rfl) rfl (hb hby d31_1) (by decide) (W := 0) (by show 2 * 0 + _ ≤ _; exact Nat.le_of_eq rfl) (by decide)
  refine gv st1 ?_
  show Go p.tables e below P T1 (mkF m 4 #[vr oa, vr ob, vi 0] [])
  refine g_aloadN X1 H d31_4 rfl rfl ?_
  refine g_aloadN X1 H d31_5 rfl rfl ?_
  obtain ⟨T2, h2, X2, e2, W2, st2⟩ := putF X1 hx hZ hown (host := "") (Or.inl (own_g hw 130 rfl)) Via.refl e1 P1 P0 (Or.inr ⟨(own_g hw 131 rfl), rfl, hnm⟩) (own_g hw 84 rfl) (ty := (.array .byte)) (by decide) rfl rfl (g := (mkF m 6 #[vr oa, vr ob, vi 0] [(.ref ob), (.ref oa)])) rfl rfl (hb hby d31_6)
  refine gv st2 ?_
  have Z3 := Nat.le_trans Z0 (Nat.le_of_eq W2.size.symm)
  have K4 := K0.wr W2 (Or.inl (List.mem_of_getElem? (i := 0) rfl))
  obtain ⟨lc2, Xh2, N5⟩ := own_hide X2 (Fr.snoc X2 N0 ga)
  clear X2
  have Fw2 := P1.same W2
  show Go p.tables e below P T2 (mkF m 9 #[vr oa, vr ob, vi 0] [])
  refine g_aloadN Xh2 H d31_9 rfl rfl ?_
  refine g_iloadN Xh2 H d31_10 rfl ?_
  have F6 := (P0.wr W2)
  have F7 := (P2.other W2 (Or.inr (own_sn12 hw)))
  obtain ⟨T8, h8, X8, e8, W8, st8⟩ := putF Xh2 hx hZ hown (host := "") (Or.inl (own_g hw 132 rfl)) Via.refl e2 F7 F6 (Or.inr ⟨(own_g hw 133 rfl), rfl, hnm⟩) (own_g hw 84 rfl) (ty := .byte) (by decide) rfl rfl (g := (mkF m 11 #[vr oa, vr ob, vi 0] [(.int 0), (.ref oa)])) rfl rfl (hb hby d31_11)
  refine gv st8 ?_
  have Z9 := Nat.le_trans Z3 (Nat.le_of_eq W8.size.symm)
  have K10 := K4.wr W8 (Or.inl (List.mem_of_getElem? (i := 0) rfl))
  obtain ⟨lc8, Xh8, N11⟩ := own_hide X8 (Fr.snoc X8 N5 ga)
  clear X8
  have Fw8 := F7.same W8
  show Go p.tables e below P T8 (mkF m 14 #[vr oa, vr ob, vi 0] [])
  have F13 := (F6.wr W8)
  have F14 := (Fw2.other W8 (Or.inr (own_sn13 hw)))
  refine g_retV Xh8 H Bd.notSynchronized hP (by decide) Bd.returns d31_14 ?_
  rw [e8]
  exact ⟨rfl, N11, K10, F13, F14, Fw8⟩
theorem own_pd40 : parseMethodDescriptor "(C)Z" = some ⟨[.char], some .boolean⟩ := by decide +kernel
theorem own_pd41 : parseMethodDescriptor "(C)[B" = some ⟨[.char], some (.array .byte)⟩ := by decide +kernel
theorem own_pd42 : parseMethodDescriptor "([BB)V" = some ⟨[(.array .byte), .byte], none⟩ := by decide +kernel
theorem d28_0 : D59 0 (.getstatic 38) 3 := by decide +kernel
theorem d28_3 : D59 3 (.ifCond .eq 23) 3 := by decide +kernel
theorem d28_6 : D59 6 (.iload_n 0) 1 := by decide +kernel
theorem d28_7 : D59 7 (.invokestatic 1015) 3 := by decide +kernel
theorem d28_10 : D59 10 (.ifCond .eq 16) 3 := by decide +kernel
theorem d28_13 : D59 13 (.new 10) 3 := by decide +kernel
theorem d28_16 : D59 16 (.dup) 1 := by decide +kernel
theorem d28_17 : D59 17 (.iload_n 0) 1 := by decide +kernel
theorem d28_18 : D59 18 (.invokestatic 1018) 3 := by decide +kernel
theorem d28_21 : D59 21 (.iconst 0) 1 := by decide +kernel
theorem d28_22 : D59 22 (.invokespecial 209) 3 := by decide +kernel
theorem d28_25 : D59 25 (.areturn) 1 := by decide +kernel
theorem ef_28 (m : MethodId) (x0 : Int32) : entryFrame m #[(.int x0)] 1 = mkF m 0 #[.val (.int x0)] [] := by first | (simp [entryFrame, mkF, argsToLocals, Value.category]; done) | rfl
def Q28 (Z : State) (ch : Int32) (cs : Int32) (h0 : Heap) (n0 : Nat) (v : Option Value) (h : Heap) (L : List Loc) : Prop := ∃ (r : Addr) (tb : Addr) (kk : ClassId), v = some (.ref r) ∧ Fr n0 L ∧ Keep h0 h [] ∧ h0.size ≤ r ∧ h0.size ≤ tb ∧ Exa Z h r STn ∧ Fld Z h r STn VLn DBn (.ref tb) ∧ Fld Z h r STn CDn "B" (.int 0) ∧ Arv Z h tb kk .byte (1 : Int32) [(.int (nar .byte (ch.toInt8.toInt32)))] (.int 0) ∧ (r ≠ tb)
theorem rm28 (l : Launch) (Z : State) (a0 : Array Value) (hw : HW a0 Z) (ws : List Jvm.Cond) (ch : Int32) (cs : Int32) (h0 : Heap) (n0 : Nat) (Z0 : n0 ≤ h0.size) (O0 : Old Z n0 h0) (P1 : Sta Z Z.heap STn CSn "Z" (.int cs)) (hcs : ¬ cs = (0 : Int32)) (hch : ¬ ((255 : Int32) < ch)) :
    MFr l Z (⟨STn, "valueOf", "(C)Ljava/lang/String;"⟩ : MethodName) jdk_42_method_139_code 1 (some (.object STn)) ws (Rm 2 2 5 27) #[(.int ch)] h0 (Q28 Z ch cs h0 n0) := by
  refine own_body (own := STn) (plainFor_of_name own_pn3) rfl (fun m => ef_28 m ch) ?_
  intro p e s m below meth c s₁ Bd H hml hZ hown X0 e0 P hP
  have hx := H.1
  have hby := H.2
  have N0 := Fr.nil n0
  have K0 : Keep h0 h0 [] := Keep.refl _ _
  refine g_getS X0 H hZ hown (host := "") (Or.inl (own_g hw 115 rfl)) Via.refl e0 (P1.ext O0.2) d28_0 ?_
  intro T1 X1 e1
  refine g_ifNo X1 H d28_3 ((if0 _ _).trans (feq hcs).1) ?_
  refine g_iloadN X1 H d28_6 rfl ?_
  refine g_cS X1 H hZ hml rfl hown e1 (rm29 l Z a0 hw [] ch h0 n0 Z0 hch) (own_g hw 161 rfl) (own_g hw 162 rfl) (own_g hw 163 rfl) (own_g hw 164 rfl) (by decide) own_pd40 d28_7 rfl rfl rfl (W := 0) rfl (by decide) ?_
  intro _ T2 Lc2 X2 hQ2
  obtain ⟨rfl, Nq2, hh2⟩ := hQ2
  obtain ⟨lc2, Xh2, N2⟩ := own_hide X2 (Fr.app N0 Nq2)
  clear X2
  refine g_ifNo Xh2 H d28_10 ((if0 _ _).trans (feq (by decide : ¬ ((1 : Int32) = (0 : Int32)))).1) ?_
  obtain ⟨T3, h3, X3, e3, E3, A3, D3, -, st3⟩ := newO Xh2 hx hZ hown (own_g hw 165 rfl) (own_g hw 84 rfl) (own_g hw 85 rfl) hh2 (g := (mkF m 13 #[vi ch] [])) rfl (hb hby d28_13) (by decide) (by decide)
  obtain ⟨b3, g3⟩ : ∃ z, z = h0.size := ⟨_, rfl⟩
  rw [← g3] at A3 D3 st3
  refine gv st3 ?_
  have g4 := Nat.le_trans Z0 (Nat.le_of_eq g3.symm)
  have sz5 := Nat.le_trans K0.1 (Nat.le_of_eq g3.symm)
  have Z6 := Nat.le_trans Z0 E3.1
  have K7 := K0.ext E3
  have O8 : Old Z n0 h3 := O0.ext E3
  show Go p.tables e below P T3 (mkF m 16 #[vi ch] [(.ref b3)])
  refine g_dup X3 H d28_16 rfl ?_
  refine g_iloadN X3 H d28_17 rfl ?_
  refine g_cS X3 H hZ hml rfl hown e3 (rm30 l Z a0 hw [] ch h3 n0 Z6 ) (own_g hw 166 rfl) (own_g hw 167 rfl) (own_g hw 163 rfl) (own_g hw 168 rfl) (by decide) own_pd41 d28_18 rfl rfl rfl (W := 2) rfl (by decide) ?_
  intro _ T9 Lc9 X9 hQ9
  obtain ⟨r_9, kk_9, rfl, Nq9, K9, fr9_r, u9_0⟩ := hQ9
  obtain ⟨lc9, Xh9, N9⟩ := own_hide X9 (Fr.app N2 Nq9)
  clear X9
  have ne10 := Nat.ne_of_lt (Nat.lt_of_lt_of_le A3.lt fr9_r)
  have g11 := Nat.le_trans Z6 fr9_r
  have sz12 := Nat.le_trans K7.1 fr9_r
  have Z13 := Nat.le_trans Z6 K9.1
  have K14 := K7.trans K9 own_all0
  have O15 : Old Z n0 T9.heap := O8.keep K9 own_all0
  refine g_iconst Xh9 H d28_21 0 rfl ?_
  have F16 := (A3.keep K9)
  have F17 := ((D3 (Or.inr (own_g hw 131 rfl)) (ty := (.array .byte)) (by decide) : Fld Z h3 b3 STn VLn DBn .null).keep K9 own_nin0)
  have F18 := ((D3 (Or.inr (own_g hw 133 rfl)) (ty := .byte) (by decide) : Fld Z h3 b3 STn CDn "B" (.int 0)).keep K9 own_nin0)
  refine g_cI Xh9 H hZ hml rfl hown rfl (rm31 l Z a0 hw [] b3 r_9 T9.heap n0 Z13 F16 F17 F18 g4) (own_g hw 169 rfl) (own_g hw 170 rfl) (own_g hw 85 rfl) (own_g hw 171 rfl) (by decide) own_pd42 d28_22 rfl rfl rfl rfl (W := 1) rfl (by decide) ?_
  intro _ T19 Lc19 X19 hQ19
  obtain ⟨rfl, Nq19, K19, u19_0, u19_1, u19_2⟩ := hQ19
  obtain ⟨lc19, Xh19, N19⟩ := own_hide X19 (Fr.app N9 Nq19)
  clear X19
  have Z20 := Nat.le_trans Z13 K19.1
  have K21 := K14.trans K19 (own_allC (Or.inr sz5) own_all0)
  have O22 : Old Z n0 T19.heap := O15.keep K19 (own_allC g4 own_all0)
  have F24 := (u9_0.keep K19 (own_ninC (Ne.symm ne10) own_nin0))
  refine g_retA Xh19 H Bd.notSynchronized hP (by decide) Bd.returns rfl rfl rfl d28_25 ?_
  exact ⟨b3, r_9, kk_9, rfl, N19, K21, sz5, sz12, u19_0, u19_1, u19_2, F24, ne10⟩
theorem own_c32 : (nar .char (32 : Int32)).toInt8.toInt32 = (32 : Int32) := by decide
theorem own_c40 : (nar .char (40 : Int32)).toInt8.toInt32 = (40 : Int32) := by decide
theorem own_c41 : (nar .char (41 : Int32)).toInt8.toInt32 = (41 : Int32) := by decide
theorem own_c97 : (nar .char (97 : Int32)).toInt8.toInt32 = (97 : Int32) := by decide
theorem own_c100 : (nar .char (100 : Int32)).toInt8.toInt32 = (100 : Int32) := by decide
theorem own_c101 : (nar .char (101 : Int32)).toInt8.toInt32 = (101 : Int32) := by decide
theorem own_c105 : (nar .char (105 : Int32)).toInt8.toInt32 = (105 : Int32) := by decide
theorem own_c115 : (nar .char (115 : Int32)).toInt8.toInt32 = (115 : Int32) := by decide
theorem own_c116 : (nar .char (116 : Int32)).toInt8.toInt32 = (116 : Int32) := by decide
theorem own_xd (k : Nat) (h : k < 10) : ¬ nar .char ((48 + k).toInt32.toUInt32.toUInt16.toUInt32.toInt32) < 0 ∧ ¬ (255 : Int32) < nar .char ((48 + k).toInt32.toUInt32.toUInt16.toUInt32.toInt32) ∧ (nar .char ((48 + k).toInt32.toUInt32.toUInt16.toUInt32.toInt32)).toInt8.toInt32 = (48 + k).toInt32 :=
  (by decide +kernel : ∀ k, k < 10 → ¬ nar .char ((48 + k).toInt32.toUInt32.toUInt16.toUInt32.toInt32) < 0 ∧ ¬ (255 : Int32) < nar .char ((48 + k).toInt32.toUInt32.toUInt16.toUInt32.toInt32) ∧ (nar .char ((48 + k).toInt32.toUInt32.toUInt16.toUInt32.toInt32)).toInt8.toInt32 = (48 + k).toInt32) k h
theorem own_o10 : ∀ r, r < 100 → (48 : Int32) + (r.toInt32 % (10 : Int32)) = (48 + r % 10).toInt32 := by decide +kernel
theorem own_t10 : ∀ r, r < 100 → (48 : Int32) + (r.toInt32 / (10 : Int32)) = (48 + r / 10).toInt32 := by decide +kernel
theorem own_p48 : ∀ r, r < 100 → (48 : Int32) + r.toInt32 = (48 + r).toInt32 := by decide +kernel
theorem own_ex1 {Z : State} {h' : Heap} {a : Addr} {k : ClassId} {ch : Int32} {nt : Nat} {dv : Value} (hb : own_by ch) (h : nt < 10) (F : Arv Z h' a k .byte (15 : Int32) [(.int ((nar .char ch)).toInt8.toInt32), (.int ((nar .char (32 : Int32))).toInt8.toInt32), (.int ((nar .char (40 : Int32))).toInt8.toInt32), (.int ((nar .char (((48 : Int32) + (nt.toInt32)).toUInt32.toUInt16.toUInt32.toInt32))).toInt8.toInt32), (.int ((nar .char (41 : Int32))).toInt8.toInt32), (.int ((nar .char (32 : Int32))).toInt8.toInt32), (.int ((nar .char (105 : Int32))).toInt8.toInt32), (.int ((nar .char (115 : Int32))).toInt8.toInt32), (.int ((nar .char (32 : Int32))).toInt8.toInt32), (.int ((nar .char (115 : Int32))).toInt8.toInt32), (.int ((nar .char (116 : Int32))).toInt8.toInt32), (.int ((nar .char (97 : Int32))).toInt8.toInt32), (.int ((nar .char (116 : Int32))).toInt8.toInt32), (.int ((nar .char (101 : Int32))).toInt8.toInt32), (.int ((nar .char (100 : Int32))).toInt8.toInt32)] dv) : Arv Z h' a k .byte (own_lg (own_ps ([(ch.toInt8.toInt32)] : List Int32) nt)) ((own_ps ([(ch.toInt8.toInt32)] : List Int32) nt).map Value.int) dv := by
  have e : own_ps ([(ch.toInt8.toInt32)] : List Int32) nt = [ch.toInt8.toInt32, 32, 40, (48 + nt).toInt32, 41, 32, 105, 115, 32, 115, 116, 97, 116, 101, 100] := by
    unfold own_ps own_ts own_ds; rw [if_pos h, Nat.mod_eq_of_lt h]; rfl
  rw [e]; rw [own_p48 _ (by omega), (own_xd nt h).2.2, own_nby hb, own_c32, own_c40, own_c41, own_c97, own_c100, own_c101, own_c105, own_c115, own_c116] at F; exact F
theorem own_ex2 {Z : State} {h' : Heap} {a : Addr} {k : ClassId} {ch : Int32} {nt : Nat} {dv : Value} (hb : own_by ch) (h : ¬ nt < 10) (hn : nt < 100) (F : Arv Z h' a k .byte (16 : Int32) [(.int ((nar .char ch)).toInt8.toInt32), (.int ((nar .char (32 : Int32))).toInt8.toInt32), (.int ((nar .char (40 : Int32))).toInt8.toInt32), (.int ((nar .char (((48 : Int32) + ((nt.toInt32) / (10 : Int32))).toUInt32.toUInt16.toUInt32.toInt32))).toInt8.toInt32), (.int ((nar .char (((48 : Int32) + ((nt.toInt32) % (10 : Int32))).toUInt32.toUInt16.toUInt32.toInt32))).toInt8.toInt32), (.int ((nar .char (41 : Int32))).toInt8.toInt32), (.int ((nar .char (32 : Int32))).toInt8.toInt32), (.int ((nar .char (105 : Int32))).toInt8.toInt32), (.int ((nar .char (115 : Int32))).toInt8.toInt32), (.int ((nar .char (32 : Int32))).toInt8.toInt32), (.int ((nar .char (115 : Int32))).toInt8.toInt32), (.int ((nar .char (116 : Int32))).toInt8.toInt32), (.int ((nar .char (97 : Int32))).toInt8.toInt32), (.int ((nar .char (116 : Int32))).toInt8.toInt32), (.int ((nar .char (101 : Int32))).toInt8.toInt32), (.int ((nar .char (100 : Int32))).toInt8.toInt32)] dv) : Arv Z h' a k .byte (own_lg (own_ps ([(ch.toInt8.toInt32)] : List Int32) nt)) ((own_ps ([(ch.toInt8.toInt32)] : List Int32) nt).map Value.int) dv := by
  have e : own_ps ([(ch.toInt8.toInt32)] : List Int32) nt = [ch.toInt8.toInt32, 32, 40, (48 + nt / 10).toInt32, (48 + nt % 10).toInt32, 41, 32, 105, 115, 32, 115, 116, 97, 116, 101, 100] := by
    unfold own_ps own_ts own_ds; rw [if_neg h]; rfl
  rw [e]; rw [own_t10 _ hn, own_o10 _ hn, (own_xd (nt / 10) (by omega)).2.2, (own_xd (nt % 10) (by omega)).2.2, own_nby hb, own_c32, own_c40, own_c41, own_c97, own_c100, own_c101, own_c105, own_c115, own_c116] at F; exact F
theorem own_xp1 {nt : Nat} (h : nt < 10) : ¬ nar .char (((48 : Int32) + (nt.toInt32)).toUInt32.toUInt16.toUInt32.toInt32) < 0 ∧ ¬ (255 : Int32) < nar .char (((48 : Int32) + (nt.toInt32)).toUInt32.toUInt16.toUInt32.toInt32) := by rw [own_p48 _ (by omega)]; exact ⟨(own_xd nt h).1, (own_xd nt h).2.1⟩
theorem own_xp2 {nt : Nat} (h : nt < 100) : ¬ nar .char (((48 : Int32) + ((nt.toInt32) / (10 : Int32))).toUInt32.toUInt16.toUInt32.toInt32) < 0 ∧ ¬ (255 : Int32) < nar .char (((48 : Int32) + ((nt.toInt32) / (10 : Int32))).toUInt32.toUInt16.toUInt32.toInt32) := by rw [own_t10 _ h]; exact ⟨(own_xd (nt / 10) (by omega)).1, (own_xd (nt / 10) (by omega)).2.1⟩
theorem own_xp3 {nt : Nat} (h : nt < 100) : ¬ nar .char (((48 : Int32) + ((nt.toInt32) % (10 : Int32))).toUInt32.toUInt16.toUInt32.toInt32) < 0 ∧ ¬ (255 : Int32) < nar .char (((48 : Int32) + ((nt.toInt32) % (10 : Int32))).toUInt32.toUInt16.toUInt32.toInt32) := by rw [own_o10 _ h]; exact ⟨(own_xd (nt % 10) (by omega)).1, (own_xd (nt % 10) (by omega)).2.1⟩
theorem own_pd43 : parseMethodDescriptor "([C)V" = some ⟨[(.array .char)], none⟩ := by decide +kernel
theorem own_pn13 : plainName "com/example/splitbook/splitbook/allocation/ConditionalFieldWhenStatedPinLaw" = true := by first | (simp [plainName, overriddenIn]; done) | decide +kernel
theorem d62_0 : D60 0 (.iload_n 1) 1 := by decide +kernel
theorem d62_1 : D60 1 (.bipush 10) 2 := by decide +kernel
theorem d62_3 : D60 3 (.if_icmp .ge 101) 3 := by decide +kernel
theorem d62_6 : D60 6 (.new 22) 3 := by decide +kernel
theorem d62_9 : D60 9 (.dup) 1 := by decide +kernel
theorem d62_10 : D60 10 (.bipush 15) 2 := by decide +kernel
theorem d62_12 : D60 12 (.newarray .char) 2 := by decide +kernel
theorem d62_14 : D60 14 (.dup) 1 := by decide +kernel
theorem d62_15 : D60 15 (.iconst 0) 1 := by decide +kernel
theorem d62_16 : D60 16 (.iload_n 0) 1 := by decide +kernel
theorem d62_17 : D60 17 (.castore) 1 := by decide +kernel
theorem d62_18 : D60 18 (.dup) 1 := by decide +kernel
theorem d62_19 : D60 19 (.iconst 1) 1 := by decide +kernel
theorem d62_20 : D60 20 (.bipush 32) 2 := by decide +kernel
theorem d62_22 : D60 22 (.castore) 1 := by decide +kernel
theorem d62_23 : D60 23 (.dup) 1 := by decide +kernel
theorem d62_24 : D60 24 (.iconst 2) 1 := by decide +kernel
theorem d62_25 : D60 25 (.bipush 40) 2 := by decide +kernel
theorem d62_27 : D60 27 (.castore) 1 := by decide +kernel
theorem d62_28 : D60 28 (.dup) 1 := by decide +kernel
theorem d62_29 : D60 29 (.iconst 3) 1 := by decide +kernel
theorem d62_30 : D60 30 (.bipush 48) 2 := by decide +kernel
theorem d62_32 : D60 32 (.iload_n 1) 1 := by decide +kernel
theorem d62_33 : D60 33 (.iadd) 1 := by decide +kernel
theorem d62_34 : D60 34 (.i2c) 1 := by decide +kernel
theorem d62_35 : D60 35 (.castore) 1 := by decide +kernel
theorem d62_36 : D60 36 (.dup) 1 := by decide +kernel
theorem d62_37 : D60 37 (.iconst 4) 1 := by decide +kernel
theorem d62_38 : D60 38 (.bipush 41) 2 := by decide +kernel
theorem d62_40 : D60 40 (.castore) 1 := by decide +kernel
theorem d62_41 : D60 41 (.dup) 1 := by decide +kernel
theorem d62_42 : D60 42 (.iconst 5) 1 := by decide +kernel
theorem d62_43 : D60 43 (.bipush 32) 2 := by decide +kernel
theorem d62_45 : D60 45 (.castore) 1 := by decide +kernel
theorem d62_46 : D60 46 (.dup) 1 := by decide +kernel
theorem d62_47 : D60 47 (.bipush 6) 2 := by decide +kernel
theorem d62_49 : D60 49 (.bipush 105) 2 := by decide +kernel
theorem d62_51 : D60 51 (.castore) 1 := by decide +kernel
theorem d62_52 : D60 52 (.dup) 1 := by decide +kernel
theorem d62_53 : D60 53 (.bipush 7) 2 := by decide +kernel
theorem d62_55 : D60 55 (.bipush 115) 2 := by decide +kernel
theorem d62_57 : D60 57 (.castore) 1 := by decide +kernel
theorem d62_58 : D60 58 (.dup) 1 := by decide +kernel
theorem d62_59 : D60 59 (.bipush 8) 2 := by decide +kernel
theorem d62_61 : D60 61 (.bipush 32) 2 := by decide +kernel
theorem d62_63 : D60 63 (.castore) 1 := by decide +kernel
theorem d62_64 : D60 64 (.dup) 1 := by decide +kernel
theorem d62_65 : D60 65 (.bipush 9) 2 := by decide +kernel
theorem d62_67 : D60 67 (.bipush 115) 2 := by decide +kernel
theorem d62_69 : D60 69 (.castore) 1 := by decide +kernel
theorem d62_70 : D60 70 (.dup) 1 := by decide +kernel
theorem d62_71 : D60 71 (.bipush 10) 2 := by decide +kernel
theorem d62_73 : D60 73 (.bipush 116) 2 := by decide +kernel
theorem d62_75 : D60 75 (.castore) 1 := by decide +kernel
theorem d62_76 : D60 76 (.dup) 1 := by decide +kernel
theorem d62_77 : D60 77 (.bipush 11) 2 := by decide +kernel
theorem d62_79 : D60 79 (.bipush 97) 2 := by decide +kernel
theorem d62_81 : D60 81 (.castore) 1 := by decide +kernel
theorem d62_82 : D60 82 (.dup) 1 := by decide +kernel
theorem d62_83 : D60 83 (.bipush 12) 2 := by decide +kernel
theorem d62_85 : D60 85 (.bipush 116) 2 := by decide +kernel
theorem d62_87 : D60 87 (.castore) 1 := by decide +kernel
theorem d62_88 : D60 88 (.dup) 1 := by decide +kernel
theorem d62_89 : D60 89 (.bipush 13) 2 := by decide +kernel
theorem d62_91 : D60 91 (.bipush 101) 2 := by decide +kernel
theorem d62_93 : D60 93 (.castore) 1 := by decide +kernel
theorem d62_94 : D60 94 (.dup) 1 := by decide +kernel
theorem d62_95 : D60 95 (.bipush 14) 2 := by decide +kernel
theorem d62_97 : D60 97 (.bipush 100) 2 := by decide +kernel
theorem d62_99 : D60 99 (.castore) 1 := by decide +kernel
theorem d62_100 : D60 100 (.invokespecial 51) 3 := by decide +kernel
theorem d62_103 : D60 103 (.areturn) 1 := by decide +kernel
theorem d62_104 : D60 104 (.new 22) 3 := by decide +kernel
theorem d62_107 : D60 107 (.dup) 1 := by decide +kernel
theorem d62_108 : D60 108 (.bipush 16) 2 := by decide +kernel
theorem d62_110 : D60 110 (.newarray .char) 2 := by decide +kernel
theorem d62_112 : D60 112 (.dup) 1 := by decide +kernel
theorem d62_113 : D60 113 (.iconst 0) 1 := by decide +kernel
theorem d62_114 : D60 114 (.iload_n 0) 1 := by decide +kernel
theorem d62_115 : D60 115 (.castore) 1 := by decide +kernel
theorem d62_116 : D60 116 (.dup) 1 := by decide +kernel
theorem d62_117 : D60 117 (.iconst 1) 1 := by decide +kernel
theorem d62_118 : D60 118 (.bipush 32) 2 := by decide +kernel
theorem d62_120 : D60 120 (.castore) 1 := by decide +kernel
theorem d62_121 : D60 121 (.dup) 1 := by decide +kernel
theorem d62_122 : D60 122 (.iconst 2) 1 := by decide +kernel
theorem d62_123 : D60 123 (.bipush 40) 2 := by decide +kernel
theorem d62_125 : D60 125 (.castore) 1 := by decide +kernel
theorem d62_126 : D60 126 (.dup) 1 := by decide +kernel
theorem d62_127 : D60 127 (.iconst 3) 1 := by decide +kernel
theorem d62_128 : D60 128 (.bipush 48) 2 := by decide +kernel
theorem d62_130 : D60 130 (.iload_n 1) 1 := by decide +kernel
theorem d62_131 : D60 131 (.bipush 10) 2 := by decide +kernel
theorem d62_133 : D60 133 (.idiv) 1 := by decide +kernel
theorem d62_134 : D60 134 (.iadd) 1 := by decide +kernel
theorem d62_135 : D60 135 (.i2c) 1 := by decide +kernel
theorem d62_136 : D60 136 (.castore) 1 := by decide +kernel
theorem d62_137 : D60 137 (.dup) 1 := by decide +kernel
theorem d62_138 : D60 138 (.iconst 4) 1 := by decide +kernel
theorem d62_139 : D60 139 (.bipush 48) 2 := by decide +kernel
theorem d62_141 : D60 141 (.iload_n 1) 1 := by decide +kernel
theorem d62_142 : D60 142 (.bipush 10) 2 := by decide +kernel
theorem d62_144 : D60 144 (.irem) 1 := by decide +kernel
theorem d62_145 : D60 145 (.iadd) 1 := by decide +kernel
theorem d62_146 : D60 146 (.i2c) 1 := by decide +kernel
theorem d62_147 : D60 147 (.castore) 1 := by decide +kernel
theorem d62_148 : D60 148 (.dup) 1 := by decide +kernel
theorem d62_149 : D60 149 (.iconst 5) 1 := by decide +kernel
theorem d62_150 : D60 150 (.bipush 41) 2 := by decide +kernel
theorem d62_152 : D60 152 (.castore) 1 := by decide +kernel
theorem d62_153 : D60 153 (.dup) 1 := by decide +kernel
theorem d62_154 : D60 154 (.bipush 6) 2 := by decide +kernel
theorem d62_156 : D60 156 (.bipush 32) 2 := by decide +kernel
theorem d62_158 : D60 158 (.castore) 1 := by decide +kernel
theorem d62_159 : D60 159 (.dup) 1 := by decide +kernel
theorem d62_160 : D60 160 (.bipush 7) 2 := by decide +kernel
theorem d62_162 : D60 162 (.bipush 105) 2 := by decide +kernel
theorem d62_164 : D60 164 (.castore) 1 := by decide +kernel
theorem d62_165 : D60 165 (.dup) 1 := by decide +kernel
theorem d62_166 : D60 166 (.bipush 8) 2 := by decide +kernel
theorem d62_168 : D60 168 (.bipush 115) 2 := by decide +kernel
theorem d62_170 : D60 170 (.castore) 1 := by decide +kernel
theorem d62_171 : D60 171 (.dup) 1 := by decide +kernel
theorem d62_172 : D60 172 (.bipush 9) 2 := by decide +kernel
theorem d62_174 : D60 174 (.bipush 32) 2 := by decide +kernel
theorem d62_176 : D60 176 (.castore) 1 := by decide +kernel
theorem d62_177 : D60 177 (.dup) 1 := by decide +kernel
theorem d62_178 : D60 178 (.bipush 10) 2 := by decide +kernel
theorem d62_180 : D60 180 (.bipush 115) 2 := by decide +kernel
theorem d62_182 : D60 182 (.castore) 1 := by decide +kernel
theorem d62_183 : D60 183 (.dup) 1 := by decide +kernel
theorem d62_184 : D60 184 (.bipush 11) 2 := by decide +kernel
theorem d62_186 : D60 186 (.bipush 116) 2 := by decide +kernel
theorem d62_188 : D60 188 (.castore) 1 := by decide +kernel
theorem d62_189 : D60 189 (.dup) 1 := by decide +kernel
theorem d62_190 : D60 190 (.bipush 12) 2 := by decide +kernel
theorem d62_192 : D60 192 (.bipush 97) 2 := by decide +kernel
theorem d62_194 : D60 194 (.castore) 1 := by decide +kernel
theorem d62_195 : D60 195 (.dup) 1 := by decide +kernel
theorem d62_196 : D60 196 (.bipush 13) 2 := by decide +kernel
theorem d62_198 : D60 198 (.bipush 116) 2 := by decide +kernel
theorem d62_200 : D60 200 (.castore) 1 := by decide +kernel
theorem d62_201 : D60 201 (.dup) 1 := by decide +kernel
theorem d62_202 : D60 202 (.bipush 14) 2 := by decide +kernel
theorem d62_204 : D60 204 (.bipush 101) 2 := by decide +kernel
theorem d62_206 : D60 206 (.castore) 1 := by decide +kernel
theorem d62_207 : D60 207 (.dup) 1 := by decide +kernel
theorem d62_208 : D60 208 (.bipush 15) 2 := by decide +kernel
theorem d62_210 : D60 210 (.bipush 100) 2 := by decide +kernel
theorem d62_212 : D60 212 (.castore) 1 := by decide +kernel
theorem d62_213 : D60 213 (.invokespecial 51) 3 := by decide +kernel
theorem d62_216 : D60 216 (.areturn) 1 := by decide +kernel
theorem ef_62 (m : MethodId) (x0 : Int32) (x1 : Int32) : entryFrame m #[(.int x0), (.int x1)] 2 = mkF m 0 #[.val (.int x0), .val (.int x1)] [] := by first | (simp [entryFrame, mkF, argsToLocals, Value.category]; done) | rfl
def Q62 (Z : State) (ch : Int32) (nt : Nat) (cs : Int32) (h0 : Heap) (n0 : Nat) (v : Option Value) (h : Heap) (L : List Loc) : Prop := ∃ (r : Addr) (oc : Addr) (kc : ClassId), v = some (.ref r) ∧ Fr n0 L ∧ Keep h0 h [] ∧ h0.size ≤ r ∧ h0.size ≤ oc ∧ Exa Z h r STn ∧ Fld Z h r STn VLn DBn (.ref oc) ∧ Fld Z h r STn CDn "B" (.int 0) ∧ Arv Z h oc kc .byte (own_lg (own_ps ([(ch.toInt8.toInt32)] : List Int32) nt)) ((own_ps ([(ch.toInt8.toInt32)] : List Int32) nt).map Value.int) (.int 0)
theorem rm62 (l : Launch) (Z : State) (a0 : Array Value) (hw : HW a0 Z) (ws : List Jvm.Cond) (ch : Int32) (nt : Nat) (cs : Int32) (h0 : Heap) (n0 : Nat) (Z0 : n0 ≤ h0.size) (O0 : Old Z n0 h0) (P1 : Sta Z Z.heap STn CSn "Z" (.int cs)) (hcs : ¬ cs = (0 : Int32)) (hcb : own_by ch) (hnt : nt < 100) :
    MFr l Z (⟨"com/example/splitbook/splitbook/allocation/ConditionalFieldWhenStatedPinLaw", "expected", "(CI)Ljava/lang/String;"⟩ : MethodName) method_3_code 2 (some (.object STn)) ws (Rm 4 3 36 66) #[(.int ch), (.int (nt.toInt32))] h0 (Q62 Z ch nt cs h0 n0) := by
  refine own_body (own := "com/example/splitbook/splitbook/allocation/ConditionalFieldWhenStatedPinLaw") (plainFor_of_name own_pn13) rfl (fun m => ef_62 m ch (nt.toInt32)) ?_
  intro p e s m below meth c s₁ Bd H hml hZ hown X0 e0 P hP
  have hx := H.1
  have hby := H.2
  have N0 := Fr.nil n0
  have K0 : Keep h0 h0 [] := Keep.refl _ _
  refine g_iloadN X0 H d62_0 rfl ?_
  refine g_bipush X0 H d62_1 10 rfl ?_
  by_cases hc1 : (nt.toInt32) < (10 : Int32)
  · refine g_icmpNo X0 H d62_3 (tlt hc1).2.1 ?_
    have hlt : nt < 10 := by have q := hc1; rw [show (10 : Int32) = (10 : Nat).toInt32 from rfl, own_ltN (by omega) (by omega)] at q; exact q
    obtain ⟨T2, h2, X2, e2, E2, A2, D2, -, st2⟩ := newO X0 hx hZ hown (own_g hw 357 rfl) (own_g hw 84 rfl) (own_g hw 85 rfl) e0 (g := (mkF m 6 #[vi ch, vi (nt.toInt32)] [])) rfl (hb hby d62_6) (by decide) (by decide)
    obtain ⟨b2, g2⟩ : ∃ z, z = h0.size := ⟨_, rfl⟩
    rw [← g2] at A2 D2 st2
    refine gv st2 ?_
    have g3 := Nat.le_trans Z0 (Nat.le_of_eq g2.symm)
    have sz4 := Nat.le_trans K0.1 (Nat.le_of_eq g2.symm)
    have Z5 := Nat.le_trans Z0 E2.1
    have K6 := K0.ext E2
    have O7 : Old Z n0 h2 := O0.ext E2
    show Go p.tables e below P T2 (mkF m 9 #[vi ch, vi (nt.toInt32)] [(.ref b2)])
    refine g_dup X2 H d62_9 rfl ?_
    refine g_bipush X2 H d62_10 15 rfl ?_
    obtain ⟨T8, h8, k8, X8, e8, E8, A8, st8⟩ := newP X2 hx hZ (own_g hw 358 rfl) e2 (g := (mkF m 12 #[vi ch, vi (nt.toInt32)] [(.int 15), (.ref b2), (.ref b2)])) rfl (hb hby d62_12) rfl (by decide) (cap := 15) (by decide) (by decide) (by decide) (by decide)
    obtain ⟨b8, g8⟩ : ∃ z, z = h2.size := ⟨_, rfl⟩
    rw [← g8] at A8 st8
    refine gv st8 ?_
    have ne9 := Nat.ne_of_lt (Nat.lt_of_lt_of_le A2.lt (Nat.le_of_eq g8.symm))
    have g10 := Nat.le_trans Z5 (Nat.le_of_eq g8.symm)
    have sz11 := Nat.le_trans K6.1 (Nat.le_of_eq g8.symm)
    have Z12 := Nat.le_trans Z5 E8.1
    have K13 := K6.ext E8
    have O14 : Old Z n0 h8 := O7.ext E8
    have V8 : Arv Z h8 b8 k8 .char (15 : Int32) [(.int 0), (.int 0), (.int 0), (.int 0), (.int 0), (.int 0), (.int 0), (.int 0), (.int 0), (.int 0), (.int 0), (.int 0), (.int 0), (.int 0), (.int 0)] (.int 0) := (Arv.new A8 (by decide)).pad (pad_rep [] (.int 0) 15)
    show Go p.tables e below P T8 (mkF m 14 #[vi ch, vi (nt.toInt32)] [(.ref b8), (.ref b2), (.ref b2)])
    subst e8
    refine own_itC X8 hx hZ V8 N0 (Keep.refl _ _) g10 (pc2 := 16) (pc3 := 17) (j := (0 : Int32)) (x := ch) (hb hby d62_14) (fun t k => XS.iconst X8.here hx rfl (hb hby d62_15) k) (fun t k => XS.iloadN X8.here hx rfl (hb hby d62_16) rfl k) (hb hby d62_17) ⟨by decide, by decide⟩ rfl (Nat.le_of_ble_eq_true rfl) ?_
    intro T15 L15 X15 N15 K15 V15
    refine own_itC X15 hx hZ V15 N15 K15 g10 (pc2 := 20) (pc3 := 22) (j := (1 : Int32)) (x := (32 : Int32)) (hb hby d62_18) (fun t k => XS.iconst X15.here hx rfl (hb hby d62_19) k) (fun t k => XS.bipush X15.here hx rfl (hb hby d62_20) k) (hb hby d62_22) ⟨by decide, by decide⟩ rfl (Nat.le_of_ble_eq_true rfl) ?_
    intro T16 L16 X16 N16 K16 V16
    refine own_itC X16 hx hZ V16 N16 K16 g10 (pc2 := 25) (pc3 := 27) (j := (2 : Int32)) (x := (40 : Int32)) (hb hby d62_23) (fun t k => XS.iconst X16.here hx rfl (hb hby d62_24) k) (fun t k => XS.bipush X16.here hx rfl (hb hby d62_25) k) (hb hby d62_27) ⟨by decide, by decide⟩ rfl (Nat.le_of_ble_eq_true rfl) ?_
    intro T17 L17 X17 N17 K17 V17
    refine own_itC X17 hx hZ V17 N17 K17 g10 (pc2 := 30) (pc3 := 35) (j := (3 : Int32)) (x := (((48 : Int32) + (nt.toInt32)).toUInt32.toUInt16.toUInt32.toInt32)) (hb hby d62_28) (fun t k => XS.iconst X17.here hx rfl (hb hby d62_29) k) (fun t k => XS.bipush X17.here hx rfl (hb hby d62_30) (XS.iloadN X17.here hx rfl (hb hby d62_32) rfl (XS.iadd X17.here hx rfl (hb hby d62_33) rfl (XS.i2c X17.here hx rfl (hb hby d62_34) rfl k)))) (hb hby d62_35) ⟨by decide, by decide⟩ rfl (Nat.le_of_ble_eq_true rfl) ?_
    intro T18 L18 X18 N18 K18 V18
    refine own_itC X18 hx hZ V18 N18 K18 g10 (pc2 := 38) (pc3 := 40) (j := (4 : Int32)) (x := (41 : Int32)) (hb hby d62_36) (fun t k => XS.iconst X18.here hx rfl (hb hby d62_37) k) (fun t k => XS.bipush X18.here hx rfl (hb hby d62_38) k) (hb hby d62_40) ⟨by decide, by decide⟩ rfl (Nat.le_of_ble_eq_true rfl) ?_
    intro T19 L19 X19 N19 K19 V19
    refine own_itC X19 hx hZ V19 N19 K19 g10 (pc2 := 43) (pc3 := 45) (j := (5 : Int32)) (x := (32 : Int32)) (hb hby d62_41) (fun t k => XS.iconst X19.here hx rfl (hb hby d62_42) k) (fun t k => XS.bipush X19.here hx rfl (hb hby d62_43) k) (hb hby d62_45) ⟨by decide, by decide⟩ rfl (Nat.le_of_ble_eq_true rfl) ?_
    intro T20 L20 X20 N20 K20 V20
    refine own_itC X20 hx hZ V20 N20 K20 g10 (pc2 := 49) (pc3 := 51) (j := (6 : Int32)) (x := (105 : Int32)) (hb hby d62_46) (fun t k => XS.bipush X20.here hx rfl (hb hby d62_47) k) (fun t k => XS.bipush X20.here hx rfl (hb hby d62_49) k) (hb hby d62_51) ⟨by decide, by decide⟩ rfl (Nat.le_of_ble_eq_true rfl) ?_
    intro T21 L21 X21 N21 K21 V21
    refine own_itC X21 hx hZ V21 N21 K21 g10 (pc2 := 55) (pc3 := 57) (j := (7 : Int32)) (x := (115 : Int32)) (hb hby d62_52) (fun t k => XS.bipush X21.here hx rfl (hb hby d62_53) k) (fun t k => XS.bipush X21.here hx rfl (hb hby d62_55) k) (hb hby d62_57) ⟨by decide, by decide⟩ rfl (Nat.le_of_ble_eq_true rfl) ?_
    intro T22 L22 X22 N22 K22 V22
    refine own_itC X22 hx hZ V22 N22 K22 g10 (pc2 := 61) (pc3 := 63) (j := (8 : Int32)) (x := (32 : Int32)) (hb hby d62_58) (fun t k => XS.bipush X22.here hx rfl (hb hby d62_59) k) (fun t k => XS.bipush X22.here hx rfl (hb hby d62_61) k) (hb hby d62_63) ⟨by decide, by decide⟩ rfl (Nat.le_of_ble_eq_true rfl) ?_
    intro T23 L23 X23 N23 K23 V23
    refine own_itC X23 hx hZ V23 N23 K23 g10 (pc2 := 67) (pc3 := 69) (j := (9 : Int32)) (x := (115 : Int32)) (hb hby d62_64) (fun t k => XS.bipush X23.here hx rfl (hb hby d62_65) k) (fun t k => XS.bipush X23.here hx rfl (hb hby d62_67) k) (hb hby d62_69) ⟨by decide, by decide⟩ rfl (Nat.le_of_ble_eq_true rfl) ?_
    intro T24 L24 X24 N24 K24 V24
    refine own_itC X24 hx hZ V24 N24 K24 g10 (pc2 := 73) (pc3 := 75) (j := (10 : Int32)) (x := (116 : Int32)) (hb hby d62_70) (fun t k => XS.bipush X24.here hx rfl (hb hby d62_71) k) (fun t k => XS.bipush X24.here hx rfl (hb hby d62_73) k) (hb hby d62_75) ⟨by decide, by decide⟩ rfl (Nat.le_of_ble_eq_true rfl) ?_
    intro T25 L25 X25 N25 K25 V25
    refine own_itC X25 hx hZ V25 N25 K25 g10 (pc2 := 79) (pc3 := 81) (j := (11 : Int32)) (x := (97 : Int32)) (hb hby d62_76) (fun t k => XS.bipush X25.here hx rfl (hb hby d62_77) k) (fun t k => XS.bipush X25.here hx rfl (hb hby d62_79) k) (hb hby d62_81) ⟨by decide, by decide⟩ rfl (Nat.le_of_ble_eq_true rfl) ?_
    intro T26 L26 X26 N26 K26 V26
    refine own_itC X26 hx hZ V26 N26 K26 g10 (pc2 := 85) (pc3 := 87) (j := (12 : Int32)) (x := (116 : Int32)) (hb hby d62_82) (fun t k => XS.bipush X26.here hx rfl (hb hby d62_83) k) (fun t k => XS.bipush X26.here hx rfl (hb hby d62_85) k) (hb hby d62_87) ⟨by decide, by decide⟩ rfl (Nat.le_of_ble_eq_true rfl) ?_
    intro T27 L27 X27 N27 K27 V27
    refine own_itC X27 hx hZ V27 N27 K27 g10 (pc2 := 91) (pc3 := 93) (j := (13 : Int32)) (x := (101 : Int32)) (hb hby d62_88) (fun t k => XS.bipush X27.here hx rfl (hb hby d62_89) k) (fun t k => XS.bipush X27.here hx rfl (hb hby d62_91) k) (hb hby d62_93) ⟨by decide, by decide⟩ rfl (Nat.le_of_ble_eq_true rfl) ?_
    intro T28 L28 X28 N28 K28 V28
    refine own_itC X28 hx hZ V28 N28 K28 g10 (pc2 := 97) (pc3 := 99) (j := (14 : Int32)) (x := (100 : Int32)) (hb hby d62_94) (fun t k => XS.bipush X28.here hx rfl (hb hby d62_95) k) (fun t k => XS.bipush X28.here hx rfl (hb hby d62_97) k) (hb hby d62_99) ⟨by decide, by decide⟩ rfl (Nat.le_of_ble_eq_true rfl) ?_
    intro T29 L29 X29 N29 K29 V29
    have Z30 := Nat.le_trans Z12 K29.1
    have K31 := K13.trans K29 (own_allC (Or.inr sz11) own_all0)
    have O32 : Old Z n0 T29.heap := O14.keep K29 (own_allC g10 own_all0)
    have Vt29 : Arv Z T29.heap b8 k8 .char (15 : Int32) [(.int (nar .char ch)), (.int (nar .char (32 : Int32))), (.int (nar .char (40 : Int32))), (.int (nar .char (((48 : Int32) + (nt.toInt32)).toUInt32.toUInt16.toUInt32.toInt32))), (.int (nar .char (41 : Int32))), (.int (nar .char (32 : Int32))), (.int (nar .char (105 : Int32))), (.int (nar .char (115 : Int32))), (.int (nar .char (32 : Int32))), (.int (nar .char (115 : Int32))), (.int (nar .char (116 : Int32))), (.int (nar .char (97 : Int32))), (.int (nar .char (116 : Int32))), (.int (nar .char (101 : Int32))), (.int (nar .char (100 : Int32)))] (.int 0) := V29
    show Go p.tables e below P T29 (mkF m 100 #[vi ch, vi (nt.toInt32)] [(.ref b8), (.ref b2), (.ref b2)])
    have F33 := ((A2.ext E8).keep K29)
    have F34 := (((D2 (Or.inr (own_g hw 131 rfl)) (ty := (.array .byte)) (by decide) : Fld Z h2 b2 STn VLn DBn .null).ext E8).keep K29 (own_ninC ne9 own_nin0))
    have F35 := (((D2 (Or.inr (own_g hw 133 rfl)) (ty := .byte) (by decide) : Fld Z h2 b2 STn CDn "B" (.int 0)).ext E8).keep K29 (own_ninC ne9 own_nin0))
    obtain ⟨_, _, ⟨T36, L36, k36, n36⟩, -, X36, ⟨Lc36, hQ36, l36, y36, z36⟩, st36⟩ := X29.specialBack hx (y := (⟨STn, "<init>", "([C)V"⟩ : MethodName)) rfl hown (mvT hZ (own_g hw 359 rfl)) (mvT hZ (own_g hw 360 rfl)) (mvT hZ (own_g hw 361 rfl)) (by decide) (StrChars.Road.backV (W := 1) hZ (own_ws hw) (kI := 4) (own_g hw 84 rfl) (cs := ([(nar .char ch), (nar .char (32 : Int32)), (nar .char (40 : Int32)), (nar .char (((48 : Int32) + (nt.toInt32)).toUInt32.toUInt16.toUInt32.toInt32)), (nar .char (41 : Int32)), (nar .char (32 : Int32)), (nar .char (105 : Int32)), (nar .char (115 : Int32)), (nar .char (32 : Int32)), (nar .char (115 : Int32)), (nar .char (116 : Int32)), (nar .char (97 : Int32)), (nar .char (116 : Int32)), (nar .char (101 : Int32)), (nar .char (100 : Int32))] : List Int32)) (bs := ([((nar .char ch)).toInt8.toInt32, ((nar .char (32 : Int32))).toInt8.toInt32, ((nar .char (40 : Int32))).toInt8.toInt32, ((nar .char (((48 : Int32) + (nt.toInt32)).toUInt32.toUInt16.toUInt32.toInt32))).toInt8.toInt32, ((nar .char (41 : Int32))).toInt8.toInt32, ((nar .char (32 : Int32))).toInt8.toInt32, ((nar .char (105 : Int32))).toInt8.toInt32, ((nar .char (115 : Int32))).toInt8.toInt32, ((nar .char (32 : Int32))).toInt8.toInt32, ((nar .char (115 : Int32))).toInt8.toInt32, ((nar .char (116 : Int32))).toInt8.toInt32, ((nar .char (97 : Int32))).toInt8.toInt32, ((nar .char (116 : Int32))).toInt8.toInt32, ((nar .char (101 : Int32))).toInt8.toInt32, ((nar .char (100 : Int32))).toInt8.toInt32] : List Int32)) (n := 15) g3 Z30 F33 F34 F35 Vt29 (P1.ext O32.2) hcs rfl rfl (by decide) (by decide) (own_alC (own_hp hcb) (own_alC (by decide) (own_alC (by decide) (own_alC (own_xp1 hlt) (own_alC (by decide) (own_alC (by decide) (own_alC (by decide) (own_alC (by decide) (own_alC (by decide) (own_alC (by decide) (own_alC (by decide) (own_alC (by decide) (own_alC (by decide) (own_alC (by decide) (own_alC (by decide) own_al0))))))))))))))) rfl (by decide) (by decide)) (g := (mkF m 100 #[vi ch, vi (nt.toInt32)] [(.ref b8), (.ref b2), (.ref b2)])) rfl (by rw [hml]; rfl) (Steps.refl _) (a := b2) (argsL := [(.ref b8)]) (rest := [(.ref b2)]) (lenOf own_pd43 rfl) rfl (by show 2 * 0 + _ ≤ _; exact Nat.le_of_eq rfl) (hb hby d62_100) (fun _ _ => ⟨rfl, rfl, (by decide : 2 + 1 ≤ _), (by decide : 19 + 15 ≤ _)⟩)
    dsimp only [Pt.U, Pt.locs, Pt.cells, Pt.slots] at X36 l36 y36 z36 st36 hQ36
    subst l36 y36 z36
    obtain ⟨rfl, Nq36, K36, Ex36, Fc36, t36, kb36, -, lt36, ne36, Fv36, Va36⟩ := hQ36
    obtain ⟨lc36, Xh36, N36⟩ := own_hide X36 (Fr.app N29 Nq36)
    clear X36
    refine Go.hop st36 ?_
    have ne37 := Nat.ne_of_lt (Nat.lt_of_lt_of_le F33.lt lt36)
    have ne38 := Nat.ne_of_lt (Nat.lt_of_lt_of_le Vt29.lt lt36)
    have g39 := Nat.le_trans Z30 lt36
    have sz40 := Nat.le_trans K31.1 lt36
    have Z41 := Nat.le_trans Z30 K36.1
    have K42 := K31.trans K36 (own_allC (Or.inr sz4) own_all0)
    have O43 : Old Z n0 T36.heap := O32.keep K36 (own_allC g3 own_all0)
    have Vt36 : Arv Z T36.heap t36 kb36 .byte (15 : Int32) [(.int ((nar .char ch)).toInt8.toInt32), (.int ((nar .char (32 : Int32))).toInt8.toInt32), (.int ((nar .char (40 : Int32))).toInt8.toInt32), (.int ((nar .char (((48 : Int32) + (nt.toInt32)).toUInt32.toUInt16.toUInt32.toInt32))).toInt8.toInt32), (.int ((nar .char (41 : Int32))).toInt8.toInt32), (.int ((nar .char (32 : Int32))).toInt8.toInt32), (.int ((nar .char (105 : Int32))).toInt8.toInt32), (.int ((nar .char (115 : Int32))).toInt8.toInt32), (.int ((nar .char (32 : Int32))).toInt8.toInt32), (.int ((nar .char (115 : Int32))).toInt8.toInt32), (.int ((nar .char (116 : Int32))).toInt8.toInt32), (.int ((nar .char (97 : Int32))).toInt8.toInt32), (.int ((nar .char (116 : Int32))).toInt8.toInt32), (.int ((nar .char (101 : Int32))).toInt8.toInt32), (.int ((nar .char (100 : Int32))).toInt8.toInt32)] (.int 0) := Va36
    show Go p.tables e below P T36 (mkF m 103 #[vi ch, vi (nt.toInt32)] [(.ref b2)])
    refine g_retA Xh36 H Bd.notSynchronized hP (by decide) Bd.returns rfl rfl rfl d62_103 ?_
    exact ⟨b2, t36, kb36, rfl, N36, K42, sz4, sz40, Ex36, Fv36, Fc36, (own_ex1 hcb hlt Vt36)⟩
  · refine g_icmpYes X0 H d62_3 104 (flt hc1).2.1 (by decide) ?_
    have hlt : ¬ nt < 10 := by have q := hc1; rw [show (10 : Int32) = (10 : Nat).toInt32 from rfl, own_ltN (by omega) (by omega)] at q; exact q
    obtain ⟨T45, h45, X45, e45, E45, A45, D45, -, st45⟩ := newO X0 hx hZ hown (own_g hw 357 rfl) (own_g hw 84 rfl) (own_g hw 85 rfl) e0 (g := (mkF m 104 #[vi ch, vi (nt.toInt32)] [])) rfl (hb hby d62_104) (by decide) (by decide)
    obtain ⟨b45, g45⟩ : ∃ z, z = h0.size := ⟨_, rfl⟩
    rw [← g45] at A45 D45 st45
    refine gv st45 ?_
    have g46 := Nat.le_trans Z0 (Nat.le_of_eq g45.symm)
    have sz47 := Nat.le_trans K0.1 (Nat.le_of_eq g45.symm)
    have Z48 := Nat.le_trans Z0 E45.1
    have K49 := K0.ext E45
    have O50 : Old Z n0 h45 := O0.ext E45
    show Go p.tables e below P T45 (mkF m 107 #[vi ch, vi (nt.toInt32)] [(.ref b45)])
    refine g_dup X45 H d62_107 rfl ?_
    refine g_bipush X45 H d62_108 16 rfl ?_
    obtain ⟨T51, h51, k51, X51, e51, E51, A51, st51⟩ := newP X45 hx hZ (own_g hw 358 rfl) e45 (g := (mkF m 110 #[vi ch, vi (nt.toInt32)] [(.int 16), (.ref b45), (.ref b45)])) rfl (hb hby d62_110) rfl (by decide) (cap := 16) (by decide) (by decide) (by decide) (by decide)
    obtain ⟨b51, g51⟩ : ∃ z, z = h45.size := ⟨_, rfl⟩
    rw [← g51] at A51 st51
    refine gv st51 ?_
    have ne52 := Nat.ne_of_lt (Nat.lt_of_lt_of_le A45.lt (Nat.le_of_eq g51.symm))
    have g53 := Nat.le_trans Z48 (Nat.le_of_eq g51.symm)
    have sz54 := Nat.le_trans K49.1 (Nat.le_of_eq g51.symm)
    have Z55 := Nat.le_trans Z48 E51.1
    have K56 := K49.ext E51
    have O57 : Old Z n0 h51 := O50.ext E51
    have V51 : Arv Z h51 b51 k51 .char (16 : Int32) [(.int 0), (.int 0), (.int 0), (.int 0), (.int 0), (.int 0), (.int 0), (.int 0), (.int 0), (.int 0), (.int 0), (.int 0), (.int 0), (.int 0), (.int 0), (.int 0)] (.int 0) := (Arv.new A51 (by decide)).pad (pad_rep [] (.int 0) 16)
    show Go p.tables e below P T51 (mkF m 112 #[vi ch, vi (nt.toInt32)] [(.ref b51), (.ref b45), (.ref b45)])
    subst e51
    refine own_itC X51 hx hZ V51 N0 (Keep.refl _ _) g53 (pc2 := 114) (pc3 := 115) (j := (0 : Int32)) (x := ch) (hb hby d62_112) (fun t k => XS.iconst X51.here hx rfl (hb hby d62_113) k) (fun t k => XS.iloadN X51.here hx rfl (hb hby d62_114) rfl k) (hb hby d62_115) ⟨by decide, by decide⟩ rfl (Nat.le_of_ble_eq_true rfl) ?_
    intro T58 L58 X58 N58 K58 V58
    refine own_itC X58 hx hZ V58 N58 K58 g53 (pc2 := 118) (pc3 := 120) (j := (1 : Int32)) (x := (32 : Int32)) (hb hby d62_116) (fun t k => XS.iconst X58.here hx rfl (hb hby d62_117) k) (fun t k => XS.bipush X58.here hx rfl (hb hby d62_118) k) (hb hby d62_120) ⟨by decide, by decide⟩ rfl (Nat.le_of_ble_eq_true rfl) ?_
    intro T59 L59 X59 N59 K59 V59
    refine own_itC X59 hx hZ V59 N59 K59 g53 (pc2 := 123) (pc3 := 125) (j := (2 : Int32)) (x := (40 : Int32)) (hb hby d62_121) (fun t k => XS.iconst X59.here hx rfl (hb hby d62_122) k) (fun t k => XS.bipush X59.here hx rfl (hb hby d62_123) k) (hb hby d62_125) ⟨by decide, by decide⟩ rfl (Nat.le_of_ble_eq_true rfl) ?_
    intro T60 L60 X60 N60 K60 V60
    refine own_itC X60 hx hZ V60 N60 K60 g53 (pc2 := 128) (pc3 := 136) (j := (3 : Int32)) (x := (((48 : Int32) + ((nt.toInt32) / (10 : Int32))).toUInt32.toUInt16.toUInt32.toInt32)) (hb hby d62_126) (fun t k => XS.iconst X60.here hx rfl (hb hby d62_127) k) (fun t k => XS.bipush X60.here hx rfl (hb hby d62_128) (XS.iloadN X60.here hx rfl (hb hby d62_130) rfl (XS.bipush X60.here hx rfl (hb hby d62_131) (XS.idiv X60.here hx rfl (hb hby d62_133) rfl (by decide) (XS.iadd X60.here hx rfl (hb hby d62_134) rfl (XS.i2c X60.here hx rfl (hb hby d62_135) rfl k)))))) (hb hby d62_136) ⟨by decide, by decide⟩ rfl (Nat.le_of_ble_eq_true rfl) ?_
    intro T61 L61 X61 N61 K61 V61
    refine own_itC X61 hx hZ V61 N61 K61 g53 (pc2 := 139) (pc3 := 147) (j := (4 : Int32)) (x := (((48 : Int32) + ((nt.toInt32) % (10 : Int32))).toUInt32.toUInt16.toUInt32.toInt32)) (hb hby d62_137) (fun t k => XS.iconst X61.here hx rfl (hb hby d62_138) k) (fun t k => XS.bipush X61.here hx rfl (hb hby d62_139) (XS.iloadN X61.here hx rfl (hb hby d62_141) rfl (XS.bipush X61.here hx rfl (hb hby d62_142) (iremM X61 hx rfl (hb hby d62_144) rfl (by decide) (XS.iadd X61.here hx rfl (hb hby d62_145) rfl (XS.i2c X61.here hx rfl (hb hby d62_146) rfl k)))))) (hb hby d62_147) ⟨by decide, by decide⟩ rfl (Nat.le_of_ble_eq_true rfl) ?_
    intro T62 L62 X62 N62 K62 V62
    refine own_itC X62 hx hZ V62 N62 K62 g53 (pc2 := 150) (pc3 := 152) (j := (5 : Int32)) (x := (41 : Int32)) (hb hby d62_148) (fun t k => XS.iconst X62.here hx rfl (hb hby d62_149) k) (fun t k => XS.bipush X62.here hx rfl (hb hby d62_150) k) (hb hby d62_152) ⟨by decide, by decide⟩ rfl (Nat.le_of_ble_eq_true rfl) ?_
    intro T63 L63 X63 N63 K63 V63
    refine own_itC X63 hx hZ V63 N63 K63 g53 (pc2 := 156) (pc3 := 158) (j := (6 : Int32)) (x := (32 : Int32)) (hb hby d62_153) (fun t k => XS.bipush X63.here hx rfl (hb hby d62_154) k) (fun t k => XS.bipush X63.here hx rfl (hb hby d62_156) k) (hb hby d62_158) ⟨by decide, by decide⟩ rfl (Nat.le_of_ble_eq_true rfl) ?_
    intro T64 L64 X64 N64 K64 V64
    refine own_itC X64 hx hZ V64 N64 K64 g53 (pc2 := 162) (pc3 := 164) (j := (7 : Int32)) (x := (105 : Int32)) (hb hby d62_159) (fun t k => XS.bipush X64.here hx rfl (hb hby d62_160) k) (fun t k => XS.bipush X64.here hx rfl (hb hby d62_162) k) (hb hby d62_164) ⟨by decide, by decide⟩ rfl (Nat.le_of_ble_eq_true rfl) ?_
    intro T65 L65 X65 N65 K65 V65
    refine own_itC X65 hx hZ V65 N65 K65 g53 (pc2 := 168) (pc3 := 170) (j := (8 : Int32)) (x := (115 : Int32)) (hb hby d62_165) (fun t k => XS.bipush X65.here hx rfl (hb hby d62_166) k) (fun t k => XS.bipush X65.here hx rfl (hb hby d62_168) k) (hb hby d62_170) ⟨by decide, by decide⟩ rfl (Nat.le_of_ble_eq_true rfl) ?_
    intro T66 L66 X66 N66 K66 V66
    refine own_itC X66 hx hZ V66 N66 K66 g53 (pc2 := 174) (pc3 := 176) (j := (9 : Int32)) (x := (32 : Int32)) (hb hby d62_171) (fun t k => XS.bipush X66.here hx rfl (hb hby d62_172) k) (fun t k => XS.bipush X66.here hx rfl (hb hby d62_174) k) (hb hby d62_176) ⟨by decide, by decide⟩ rfl (Nat.le_of_ble_eq_true rfl) ?_
    intro T67 L67 X67 N67 K67 V67
    refine own_itC X67 hx hZ V67 N67 K67 g53 (pc2 := 180) (pc3 := 182) (j := (10 : Int32)) (x := (115 : Int32)) (hb hby d62_177) (fun t k => XS.bipush X67.here hx rfl (hb hby d62_178) k) (fun t k => XS.bipush X67.here hx rfl (hb hby d62_180) k) (hb hby d62_182) ⟨by decide, by decide⟩ rfl (Nat.le_of_ble_eq_true rfl) ?_
    intro T68 L68 X68 N68 K68 V68
    refine own_itC X68 hx hZ V68 N68 K68 g53 (pc2 := 186) (pc3 := 188) (j := (11 : Int32)) (x := (116 : Int32)) (hb hby d62_183) (fun t k => XS.bipush X68.here hx rfl (hb hby d62_184) k) (fun t k => XS.bipush X68.here hx rfl (hb hby d62_186) k) (hb hby d62_188) ⟨by decide, by decide⟩ rfl (Nat.le_of_ble_eq_true rfl) ?_
    intro T69 L69 X69 N69 K69 V69
    refine own_itC X69 hx hZ V69 N69 K69 g53 (pc2 := 192) (pc3 := 194) (j := (12 : Int32)) (x := (97 : Int32)) (hb hby d62_189) (fun t k => XS.bipush X69.here hx rfl (hb hby d62_190) k) (fun t k => XS.bipush X69.here hx rfl (hb hby d62_192) k) (hb hby d62_194) ⟨by decide, by decide⟩ rfl (Nat.le_of_ble_eq_true rfl) ?_
    intro T70 L70 X70 N70 K70 V70
    refine own_itC X70 hx hZ V70 N70 K70 g53 (pc2 := 198) (pc3 := 200) (j := (13 : Int32)) (x := (116 : Int32)) (hb hby d62_195) (fun t k => XS.bipush X70.here hx rfl (hb hby d62_196) k) (fun t k => XS.bipush X70.here hx rfl (hb hby d62_198) k) (hb hby d62_200) ⟨by decide, by decide⟩ rfl (Nat.le_of_ble_eq_true rfl) ?_
    intro T71 L71 X71 N71 K71 V71
    refine own_itC X71 hx hZ V71 N71 K71 g53 (pc2 := 204) (pc3 := 206) (j := (14 : Int32)) (x := (101 : Int32)) (hb hby d62_201) (fun t k => XS.bipush X71.here hx rfl (hb hby d62_202) k) (fun t k => XS.bipush X71.here hx rfl (hb hby d62_204) k) (hb hby d62_206) ⟨by decide, by decide⟩ rfl (Nat.le_of_ble_eq_true rfl) ?_
    intro T72 L72 X72 N72 K72 V72
    refine own_itC X72 hx hZ V72 N72 K72 g53 (pc2 := 210) (pc3 := 212) (j := (15 : Int32)) (x := (100 : Int32)) (hb hby d62_207) (fun t k => XS.bipush X72.here hx rfl (hb hby d62_208) k) (fun t k => XS.bipush X72.here hx rfl (hb hby d62_210) k) (hb hby d62_212) ⟨by decide, by decide⟩ rfl (Nat.le_of_ble_eq_true rfl) ?_
    intro T73 L73 X73 N73 K73 V73
    have Z74 := Nat.le_trans Z55 K73.1
    have K75 := K56.trans K73 (own_allC (Or.inr sz54) own_all0)
    have O76 : Old Z n0 T73.heap := O57.keep K73 (own_allC g53 own_all0)
    have Vt73 : Arv Z T73.heap b51 k51 .char (16 : Int32) [(.int (nar .char ch)), (.int (nar .char (32 : Int32))), (.int (nar .char (40 : Int32))), (.int (nar .char (((48 : Int32) + ((nt.toInt32) / (10 : Int32))).toUInt32.toUInt16.toUInt32.toInt32))), (.int (nar .char (((48 : Int32) + ((nt.toInt32) % (10 : Int32))).toUInt32.toUInt16.toUInt32.toInt32))), (.int (nar .char (41 : Int32))), (.int (nar .char (32 : Int32))), (.int (nar .char (105 : Int32))), (.int (nar .char (115 : Int32))), (.int (nar .char (32 : Int32))), (.int (nar .char (115 : Int32))), (.int (nar .char (116 : Int32))), (.int (nar .char (97 : Int32))), (.int (nar .char (116 : Int32))), (.int (nar .char (101 : Int32))), (.int (nar .char (100 : Int32)))] (.int 0) := V73
    show Go p.tables e below P T73 (mkF m 213 #[vi ch, vi (nt.toInt32)] [(.ref b51), (.ref b45), (.ref b45)])
    have F77 := ((A45.ext E51).keep K73)
    have F78 := (((D45 (Or.inr (own_g hw 131 rfl)) (ty := (.array .byte)) (by decide) : Fld Z h45 b45 STn VLn DBn .null).ext E51).keep K73 (own_ninC ne52 own_nin0))
    have F79 := (((D45 (Or.inr (own_g hw 133 rfl)) (ty := .byte) (by decide) : Fld Z h45 b45 STn CDn "B" (.int 0)).ext E51).keep K73 (own_ninC ne52 own_nin0))
    obtain ⟨_, _, ⟨T80, L80, k80, n80⟩, -, X80, ⟨Lc80, hQ80, l80, y80, z80⟩, st80⟩ := X73.specialBack hx (y := (⟨STn, "<init>", "([C)V"⟩ : MethodName)) rfl hown (mvT hZ (own_g hw 359 rfl)) (mvT hZ (own_g hw 360 rfl)) (mvT hZ (own_g hw 361 rfl)) (by decide) (StrChars.Road.backV (W := 1) hZ (own_ws hw) (kI := 4) (own_g hw 84 rfl) (cs := ([(nar .char ch), (nar .char (32 : Int32)), (nar .char (40 : Int32)), (nar .char (((48 : Int32) + ((nt.toInt32) / (10 : Int32))).toUInt32.toUInt16.toUInt32.toInt32)), (nar .char (((48 : Int32) + ((nt.toInt32) % (10 : Int32))).toUInt32.toUInt16.toUInt32.toInt32)), (nar .char (41 : Int32)), (nar .char (32 : Int32)), (nar .char (105 : Int32)), (nar .char (115 : Int32)), (nar .char (32 : Int32)), (nar .char (115 : Int32)), (nar .char (116 : Int32)), (nar .char (97 : Int32)), (nar .char (116 : Int32)), (nar .char (101 : Int32)), (nar .char (100 : Int32))] : List Int32)) (bs := ([((nar .char ch)).toInt8.toInt32, ((nar .char (32 : Int32))).toInt8.toInt32, ((nar .char (40 : Int32))).toInt8.toInt32, ((nar .char (((48 : Int32) + ((nt.toInt32) / (10 : Int32))).toUInt32.toUInt16.toUInt32.toInt32))).toInt8.toInt32, ((nar .char (((48 : Int32) + ((nt.toInt32) % (10 : Int32))).toUInt32.toUInt16.toUInt32.toInt32))).toInt8.toInt32, ((nar .char (41 : Int32))).toInt8.toInt32, ((nar .char (32 : Int32))).toInt8.toInt32, ((nar .char (105 : Int32))).toInt8.toInt32, ((nar .char (115 : Int32))).toInt8.toInt32, ((nar .char (32 : Int32))).toInt8.toInt32, ((nar .char (115 : Int32))).toInt8.toInt32, ((nar .char (116 : Int32))).toInt8.toInt32, ((nar .char (97 : Int32))).toInt8.toInt32, ((nar .char (116 : Int32))).toInt8.toInt32, ((nar .char (101 : Int32))).toInt8.toInt32, ((nar .char (100 : Int32))).toInt8.toInt32] : List Int32)) (n := 16) g46 Z74 F77 F78 F79 Vt73 (P1.ext O76.2) hcs rfl rfl (by decide) (by decide) (own_alC (own_hp hcb) (own_alC (by decide) (own_alC (by decide) (own_alC (own_xp2 hnt) (own_alC (own_xp3 hnt) (own_alC (by decide) (own_alC (by decide) (own_alC (by decide) (own_alC (by decide) (own_alC (by decide) (own_alC (by decide) (own_alC (by decide) (own_alC (by decide) (own_alC (by decide) (own_alC (by decide) (own_alC (by decide) own_al0)))))))))))))))) rfl (by decide) (by decide)) (g := (mkF m 213 #[vi ch, vi (nt.toInt32)] [(.ref b51), (.ref b45), (.ref b45)])) rfl (by rw [hml]; rfl) (Steps.refl _) (a := b45) (argsL := [(.ref b51)]) (rest := [(.ref b45)]) (lenOf own_pd43 rfl) rfl (by show 2 * 0 + _ ≤ _; exact Nat.le_of_eq rfl) (hb hby d62_213) (fun _ _ => ⟨rfl, rfl, (by decide : 2 + 1 ≤ _), (by decide : 20 + 16 ≤ _)⟩)
    dsimp only [Pt.U, Pt.locs, Pt.cells, Pt.slots] at X80 l80 y80 z80 st80 hQ80
    subst l80 y80 z80
    obtain ⟨rfl, Nq80, K80, Ex80, Fc80, t80, kb80, -, lt80, ne80, Fv80, Va80⟩ := hQ80
    obtain ⟨lc80, Xh80, N80⟩ := own_hide X80 (Fr.app N73 Nq80)
    clear X80
    refine Go.hop st80 ?_
    have ne81 := Nat.ne_of_lt (Nat.lt_of_lt_of_le F77.lt lt80)
    have ne82 := Nat.ne_of_lt (Nat.lt_of_lt_of_le Vt73.lt lt80)
    have g83 := Nat.le_trans Z74 lt80
    have sz84 := Nat.le_trans K75.1 lt80
    have Z85 := Nat.le_trans Z74 K80.1
    have K86 := K75.trans K80 (own_allC (Or.inr sz47) own_all0)
    have O87 : Old Z n0 T80.heap := O76.keep K80 (own_allC g46 own_all0)
    have Vt80 : Arv Z T80.heap t80 kb80 .byte (16 : Int32) [(.int ((nar .char ch)).toInt8.toInt32), (.int ((nar .char (32 : Int32))).toInt8.toInt32), (.int ((nar .char (40 : Int32))).toInt8.toInt32), (.int ((nar .char (((48 : Int32) + ((nt.toInt32) / (10 : Int32))).toUInt32.toUInt16.toUInt32.toInt32))).toInt8.toInt32), (.int ((nar .char (((48 : Int32) + ((nt.toInt32) % (10 : Int32))).toUInt32.toUInt16.toUInt32.toInt32))).toInt8.toInt32), (.int ((nar .char (41 : Int32))).toInt8.toInt32), (.int ((nar .char (32 : Int32))).toInt8.toInt32), (.int ((nar .char (105 : Int32))).toInt8.toInt32), (.int ((nar .char (115 : Int32))).toInt8.toInt32), (.int ((nar .char (32 : Int32))).toInt8.toInt32), (.int ((nar .char (115 : Int32))).toInt8.toInt32), (.int ((nar .char (116 : Int32))).toInt8.toInt32), (.int ((nar .char (97 : Int32))).toInt8.toInt32), (.int ((nar .char (116 : Int32))).toInt8.toInt32), (.int ((nar .char (101 : Int32))).toInt8.toInt32), (.int ((nar .char (100 : Int32))).toInt8.toInt32)] (.int 0) := Va80
    show Go p.tables e below P T80 (mkF m 216 #[vi ch, vi (nt.toInt32)] [(.ref b45)])
    refine g_retA Xh80 H Bd.notSynchronized hP (by decide) Bd.returns rfl rfl rfl d62_216 ?_
    exact ⟨b45, t80, kb80, rfl, N80, K86, sz47, sz84, Ex80, Fv80, Fc80, (own_ex2 hcb hlt hnt Vt80)⟩
theorem d69_0 : D61 0 (.aload_n 0) 1 := by decide +kernel
theorem d69_1 : D61 1 (.arraylength) 1 := by decide +kernel
theorem d69_2 : D61 2 (.aload_n 1) 1 := by decide +kernel
theorem d69_3 : D61 3 (.arraylength) 1 := by decide +kernel
theorem d69_4 : D61 4 (.if_icmp .ne 30) 3 := by decide +kernel
theorem d69_7 : D61 7 (.iconst 0) 1 := by decide +kernel
theorem d69_8 : D61 8 (.istore_n 2) 1 := by decide +kernel
theorem d69_9 : D61 9 (.iload_n 2) 1 := by decide +kernel
theorem d69_10 : D61 10 (.aload_n 0) 1 := by decide +kernel
theorem d69_11 : D61 11 (.arraylength) 1 := by decide +kernel
theorem d69_12 : D61 12 (.if_icmp .ge 20) 3 := by decide +kernel
theorem d69_15 : D61 15 (.aload_n 0) 1 := by decide +kernel
theorem d69_16 : D61 16 (.iload_n 2) 1 := by decide +kernel
theorem d69_17 : D61 17 (.baload) 1 := by decide +kernel
theorem d69_18 : D61 18 (.aload_n 1) 1 := by decide +kernel
theorem d69_19 : D61 19 (.iload_n 2) 1 := by decide +kernel
theorem d69_20 : D61 20 (.baload) 1 := by decide +kernel
theorem d69_21 : D61 21 (.if_icmp .eq 5) 3 := by decide +kernel
theorem d69_26 : D61 26 (.iinc 2 1) 3 := by decide +kernel
theorem d69_29 : D61 29 (.goto (-20)) 3 := by decide +kernel
theorem d69_32 : D61 32 (.iconst 1) 1 := by decide +kernel
theorem d69_33 : D61 33 (.ireturn) 1 := by decide +kernel
theorem ef_69 (m : MethodId) (x0 : Addr) (x1 : Addr) : entryFrame m #[(.ref x0), (.ref x1)] 3 = mkF m 0 #[.val (.ref x0), .val (.ref x1), .unset] [] := by first | (simp [entryFrame, mkF, argsToLocals, Value.category]; done) | rfl
def Q69 (Z : State) (tb : Addr) (tc : Addr) (kb : ClassId) (kc : ClassId) (bx : List Int32) (h0 : Heap) (n0 : Nat) (v : Option Value) (h : Heap) (L : List Loc) : Prop := v = some (.int 1) ∧ Fr n0 L ∧ h = h0
theorem rm69 (l : Launch) (Z : State) (a0 : Array Value) (hw : HW a0 Z) (ws : List Jvm.Cond) (tb : Addr) (tc : Addr) (kb : ClassId) (kc : ClassId) (bx : List Int32) (h0 : Heap) (n0 : Nat) (Z0 : n0 ≤ h0.size) (P0 : Arv Z h0 tb kb .byte (own_lg bx) (bx.map Value.int) (.int 0)) (P1 : Arv Z h0 tc kc .byte (own_lg bx) (bx.map Value.int) (.int 0)) (smx : bx.length ≤ 1000) :
    MFr l Z (⟨"java/lang/StringLatin1", "equals", "([B[B)Z"⟩ : MethodName) jdk_43_method_13_code 3 (some .boolean) ws (Rm 0 0 0 0) #[(.ref tb), (.ref tc)] h0 (Q69 Z tb tc kb kc bx h0 n0) := by
  refine own_body (own := "java/lang/StringLatin1") (plainFor_of_name own_pn12) rfl (fun m => ef_69 m tb tc) ?_
  intro p e s m below meth c s₁ Bd H hml hZ hown X0 e0 P hP
  have N0 := Fr.nil n0
  refine g_aloadN X0 H d69_0 rfl rfl ?_
  refine g_len X0 H hZ e0 P0 d69_1 ?_
  refine g_aloadN X0 H d69_2 rfl rfl ?_
  refine g_len X0 H hZ e0 P1 d69_3 ?_
  refine g_icmpNo X0 H d69_4 (teq (rfl : (own_lg bx) = (own_lg bx))).2 ?_
  refine g_iconst X0 H d69_7 0 rfl ?_
  refine g_istoreN X0 H d69_8 #[vr tb, vr tc, vi 0] rfl ?_
  have LP3 : ∀ (k3 : Nat) (T3 : State) (locs3 : List Loc) (i : Nat) (x2 : Int32), Stand p l e (Rm 0 0 0 0) s m #[(.ref tb), (.ref tc)] below meth c T3 locs3 0 0 → T3.heap = h0 → Fr n0 locs3 → i ≤ bx.length → x2 = i.toInt32 → bx.length - i < k3 → Go p.tables e below P T3 (mkF m 9 #[.val (.ref tb), .val (.ref tc), .val (.int x2)] []) := by
    intro k3
    induction k3 with
    | zero => intros; rename_i hk; exact absurd hk (Nat.not_lt_zero _)
    | succ k3 ih3 =>
      intro T3 locs3 i x2 X3 e3 N3 hi hx2 hk
      refine g_iloadN X3 H d69_9 rfl ?_
      refine g_aloadN X3 H d69_10 rfl rfl ?_
      refine g_len X3 H hZ e3 P0 d69_11 ?_
      by_cases hc5 : x2 < (own_lg bx)
      · refine g_icmpNo X3 H d69_12 (tlt hc5).2.1 ?_
        have hlt : i < bx.length := (own_ltN (by omega) (by omega)).mp (by rw [← hx2]; exact hc5)
        refine g_aloadN X3 H d69_15 rfl rfl ?_
        show Go p.tables e below P T3 (mkF m 16 #[vr tb, vr tc, vi x2] [(.ref tb)])
        refine g_iloadN X3 H d69_16 rfl ?_
        refine g_baload X3 H hZ e3 P0 (.int (bx.getD i 0)) d69_17 ⟨by rw [hx2]; exact own_nneg (by omega), by rw [hx2]; exact (own_ltN (by omega) (by omega)).mpr hlt⟩ (by rw [hx2, own_clamp (by omega)]; exact own_getDI bx i) ?_
        refine g_aloadN X3 H d69_18 rfl rfl ?_
        refine g_iloadN X3 H d69_19 rfl ?_
        refine g_baload X3 H hZ e3 P1 (.int (bx.getD i 0)) d69_20 ⟨by rw [hx2]; exact own_nneg (by omega), by rw [hx2]; exact (own_ltN (by omega) (by omega)).mpr hlt⟩ (by rw [hx2, own_clamp (by omega)]; exact own_getDI bx i) ?_
        refine g_icmpYes X3 H d69_21 26 (teq (rfl : (bx.getD i 0) = (bx.getD i 0))).1 (by decide) ?_
        refine g_iinc X3 H d69_26 rfl #[vr tb, vr tc, vi (x2 + (1 : Int32))] rfl ?_
        refine g_goto X3 H d69_29 9 (by decide) ?_
        exact ih3 T3 _ (i + 1) (x2 + (1 : Int32)) X3 e3 N3 hlt (by rw [hx2]; exact own_succ i) (by omega)
      · refine g_icmpYes X3 H d69_12 32 (flt hc5).2.1 (by decide) ?_
        refine g_iconst X3 H d69_32 1 rfl ?_
        refine g_retZ X3 H Bd.notSynchronized hP (by decide) Bd.returns (by simp) d69_33 (r := (1 : Int32)) rfl ?_
        rw [e3]
        exact ⟨rfl, N3, rfl⟩
  exact LP3 _ s₁ _ 0 (0 : Int32) X0 e0 N0 (Nat.zero_le _) rfl (Nat.lt_succ_self _)
theorem own_pd44 : parseMethodDescriptor "([B[B)Z" = some ⟨[(.array .byte), (.array .byte)], some .boolean⟩ := by decide +kernel
theorem d68_0 : D62 0 (.aload_n 0) 1 := by decide +kernel
theorem d68_1 : D62 1 (.aload_n 1) 1 := by decide +kernel
theorem d68_2 : D62 2 (.if_acmp .ne 5) 3 := by decide +kernel
theorem d68_7 : D62 7 (.aload_n 1) 1 := by decide +kernel
theorem d68_8 : D62 8 (.instanceof 10) 3 := by decide +kernel
theorem d68_11 : D62 11 (.ifCond .eq 43) 3 := by decide +kernel
theorem d68_14 : D62 14 (.aload_n 1) 1 := by decide +kernel
theorem d68_15 : D62 15 (.checkcast 10) 3 := by decide +kernel
theorem d68_18 : D62 18 (.astore_n 2) 1 := by decide +kernel
theorem d68_19 : D62 19 (.getstatic 38) 3 := by decide +kernel
theorem d68_22 : D62 22 (.ifCond .eq 14) 3 := by decide +kernel
theorem d68_25 : D62 25 (.aload_n 0) 1 := by decide +kernel
theorem d68_26 : D62 26 (.getfield 15) 3 := by decide +kernel
theorem d68_29 : D62 29 (.aload_n 2) 1 := by decide +kernel
theorem d68_30 : D62 30 (.getfield 15) 3 := by decide +kernel
theorem d68_33 : D62 33 (.if_icmp .ne 21) 3 := by decide +kernel
theorem d68_36 : D62 36 (.aload_n 0) 1 := by decide +kernel
theorem d68_37 : D62 37 (.getfield 9) 3 := by decide +kernel
theorem d68_40 : D62 40 (.aload_n 2) 1 := by decide +kernel
theorem d68_41 : D62 41 (.getfield 9) 3 := by decide +kernel
theorem d68_44 : D62 44 (.invokestatic 541) 3 := by decide +kernel
theorem d68_47 : D62 47 (.ifCond .eq 7) 3 := by decide +kernel
theorem d68_50 : D62 50 (.iconst 1) 1 := by decide +kernel
theorem d68_51 : D62 51 (.goto 4) 3 := by decide +kernel
theorem d68_55 : D62 55 (.ireturn) 1 := by decide +kernel
theorem ef_68 (m : MethodId) (x0 : Addr) (x1 : Addr) : entryFrame m #[(.ref x0), (.ref x1)] 3 = mkF m 0 #[.val (.ref x0), .val (.ref x1), .unset] [] := by first | (simp [entryFrame, mkF, argsToLocals, Value.category]; done) | rfl
def Q68 (Z : State) (so : Addr) (sq : Addr) (cs : Int32) (tb : Addr) (tc : Addr) (kb : ClassId) (kc : ClassId) (bx : List Int32) (h0 : Heap) (n0 : Nat) (v : Option Value) (h : Heap) (L : List Loc) : Prop := v = some (.int 1) ∧ Fr n0 L ∧ h = h0
theorem rm68 (l : Launch) (Z : State) (a0 : Array Value) (hw : HW a0 Z) (ws : List Jvm.Cond) (so : Addr) (sq : Addr) (cs : Int32) (tb : Addr) (tc : Addr) (kb : ClassId) (kc : ClassId) (bx : List Int32) (h0 : Heap) (n0 : Nat) (Z0 : n0 ≤ h0.size) (O0 : Old Z n0 h0) (P1 : Sta Z Z.heap STn CSn "Z" (.int cs)) (hcs : ¬ cs = (0 : Int32)) (P3 : Exa Z h0 so STn) (P4 : Fld Z h0 so STn VLn DBn (.ref tb)) (P5 : Fld Z h0 so STn CDn "B" (.int 0)) (P6 : Arv Z h0 tb kb .byte (own_lg bx) (bx.map Value.int) (.int 0)) (P7 : Exa Z h0 sq STn) (P8 : Fld Z h0 sq STn VLn DBn (.ref tc)) (P9 : Fld Z h0 sq STn CDn "B" (.int 0)) (P10 : Arv Z h0 tc kc .byte (own_lg bx) (bx.map Value.int) (.int 0)) (smx : bx.length ≤ 1000) (nsq : so ≠ sq) :
    MFr l Z (⟨STn, "equals", "(Ljava/lang/Object;)Z"⟩ : MethodName) jdk_42_method_66_code 3 (some .boolean) ws (Rm 1 0 0 14) #[(.ref so), (.ref sq)] h0 (Q68 Z so sq cs tb tc kb kc bx h0 n0) := by
  refine own_body (own := STn) (plainFor_of_name own_pn3) rfl (fun m => ef_68 m so sq) ?_
  intro p e s m below meth c s₁ Bd H hml hZ hown X0 e0 P hP
  have hx := H.1
  have hby := H.2
  have N0 := Fr.nil n0
  refine g_aloadN X0 H d68_0 rfl rfl ?_
  refine g_aloadN X0 H d68_1 rfl rfl ?_
  show Go p.tables e below P s₁ (mkF m 2 #[vr so, vr sq, vu] [(.ref sq), (.ref so)])
  refine gv (fun t k => Jvm.RoadKit.acmp (g := (mkF m 2 #[vr so, vr sq, vu] [(.ref sq), (.ref so)])) X0 hx rfl rfl rfl (pc0 := 2) (pc' := 7) (same := false) rfl (hb hby d68_2) rfl (decide_eq_false fun q => nsq (Value.ref.inj q)) (by decide) (by decide) k) ?_
  show Go p.tables e below P s₁ (mkF m 7 #[vr so, vr sq, vu] [])
  refine g_aloadN X0 H d68_7 rfl rfl ?_
  obtain ⟨T1, X1, e1, st1⟩ := instY X0 hx hZ hown (own_g hw 165 rfl) e0 (Ins.self P7) (g := (mkF m 8 #[vr so, vr sq, vu] [(.ref sq)])) rfl rfl (hb hby d68_8)
  refine gv st1 ?_
  show Go p.tables e below P T1 (mkF m 11 #[vr so, vr sq, vu] [(.int 1)])
  refine g_ifNo X1 H d68_11 ((if0 _ _).trans (feq (by decide : ¬ ((1 : Int32) = (0 : Int32)))).1) ?_
  refine g_aloadN X1 H d68_14 rfl rfl ?_
  obtain ⟨T2, X2, e2, st2⟩ := castY X1 hx hZ hown (own_g hw 165 rfl) e1 (Ins.self P7) (g := (mkF m 15 #[vr so, vr sq, vu] [(.ref sq)])) rfl rfl (hb hby d68_15)
  refine gv st2 ?_
  show Go p.tables e below P T2 (mkF m 18 #[vr so, vr sq, vu] [(.ref sq)])
  refine g_astoreN X2 H d68_18 rfl #[vr so, vr sq, vr sq] rfl ?_
  refine g_getS X2 H hZ hown (host := "") (Or.inl (own_g hw 115 rfl)) Via.refl e2 (P1.ext O0.2) d68_19 ?_
  intro T3 X3 e3
  refine g_ifNo X3 H d68_22 ((if0 _ _).trans (feq hcs).1) ?_
  refine g_aloadN X3 H d68_25 rfl rfl ?_
  refine g_getF X3 H hZ hown (host := "") (Or.inl (own_g hw 132 rfl)) Via.refl e3 P5 d68_26 ?_
  intro T4 X4 e4
  refine g_aloadN X4 H d68_29 rfl rfl ?_
  refine g_getF X4 H hZ hown (host := "") (Or.inl (own_g hw 132 rfl)) Via.refl e4 P9 d68_30 ?_
  intro T5 X5 e5
  refine g_icmpNo X5 H d68_33 (teq (rfl : (0 : Int32) = (0 : Int32))).2 ?_
  refine g_aloadN X5 H d68_36 rfl rfl ?_
  refine g_getF X5 H hZ hown (host := "") (Or.inl (own_g hw 130 rfl)) Via.refl e5 P4 d68_37 ?_
  intro T6 X6 e6
  refine g_aloadN X6 H d68_40 rfl rfl ?_
  refine g_getF X6 H hZ hown (host := "") (Or.inl (own_g hw 130 rfl)) Via.refl e6 P8 d68_41 ?_
  intro T7 X7 e7
  refine g_cS X7 H hZ hml rfl hown e7 (rm69 l Z a0 hw [] tb tc kb kc bx h0 n0 Z0 P6 P10 smx) (own_g hw 380 rfl) (own_g hw 381 rfl) (own_g hw 163 rfl) (own_g hw 382 rfl) (by decide) own_pd44 d68_44 rfl rfl rfl (W := 0) rfl (by decide) ?_
  intro _ T8 Lc8 X8 hQ8
  obtain ⟨rfl, Nq8, hh8⟩ := hQ8
  obtain ⟨lc8, Xh8, N8⟩ := own_hide X8 (Fr.app N0 Nq8)
  clear X8
  show Go p.tables e below P T8 (mkF m 47 #[vr so, vr sq, vr sq] [(.int 1)])
  refine g_ifNo Xh8 H d68_47 ((if0 _ _).trans (feq (by decide : ¬ ((1 : Int32) = (0 : Int32)))).1) ?_
  refine g_iconst Xh8 H d68_50 1 rfl ?_
  refine g_goto Xh8 H d68_51 55 (by decide) ?_
  refine g_retZ Xh8 H Bd.notSynchronized hP (by decide) Bd.returns (by simp) d68_55 (r := (1 : Int32)) rfl ?_
  rw [hh8]
  exact ⟨rfl, N8, rfl⟩
theorem own_n1 : nar .byte (1 : Int32) = (1 : Int32) := by decide
theorem own_n48 : nar .byte (48 : Int32) = (48 : Int32) := by decide
theorem own_n49 : nar .byte (49 : Int32) = (49 : Int32) := by decide
theorem own_n51 : nar .byte (51 : Int32) = (51 : Int32) := by decide
theorem own_n53 : nar .byte (53 : Int32) = (53 : Int32) := by decide
theorem own_n56 : nar .byte (56 : Int32) = (56 : Int32) := by decide
theorem own_n57 : nar .byte (57 : Int32) = (57 : Int32) := by decide
theorem own_n61 : nar .byte (61 : Int32) = (61 : Int32) := by decide
theorem own_n65 : nar .byte (65 : Int32) = (65 : Int32) := by decide
theorem own_n70 : nar .byte (70 : Int32) = (70 : Int32) := by decide
theorem own_i1 : ((1 : Int32) &&& (255 : Int32)).toInt64 = Int64.ofNat 1 := by decide
theorem own_i48 : ((48 : Int32) &&& (255 : Int32)).toInt64 = Int64.ofNat 48 := by decide
theorem own_i49 : ((49 : Int32) &&& (255 : Int32)).toInt64 = Int64.ofNat 49 := by decide
theorem own_i51 : ((51 : Int32) &&& (255 : Int32)).toInt64 = Int64.ofNat 51 := by decide
theorem own_i53 : ((53 : Int32) &&& (255 : Int32)).toInt64 = Int64.ofNat 53 := by decide
theorem own_i56 : ((56 : Int32) &&& (255 : Int32)).toInt64 = Int64.ofNat 56 := by decide
theorem own_i57 : ((57 : Int32) &&& (255 : Int32)).toInt64 = Int64.ofNat 57 := by decide
theorem own_i61 : ((61 : Int32) &&& (255 : Int32)).toInt64 = Int64.ofNat 61 := by decide
theorem own_i65 : ((65 : Int32) &&& (255 : Int32)).toInt64 = Int64.ofNat 65 := by decide
theorem own_i70 : ((70 : Int32) &&& (255 : Int32)).toInt64 = Int64.ofNat 70 := by decide
theorem own_l1 (x : Int32) : ∃ n : Nat, (10 ≤ n ∧ n < 100) ∧ (10 : Int32) + ((x &&& (2147483647 : Int32)) % (90 : Int32)) = n.toInt32 := by
  have a := c_and x 2147483647 (by decide)
  have b := c_irem (x &&& (2147483647 : Int32)) 90 90 rfl
  have e9 : (90 : Int32).toInt = 90 := rfl
  have e1 : (10 : Int32).toInt = 10 := rfl
  have e7 : (2147483647 : Int32).toInt = 2147483647 := rfl
  have c := c_iadd 10 ((x &&& (2147483647 : Int32)) % (90 : Int32))
  have r := rng32 ((10 : Int32) + ((x &&& (2147483647 : Int32)) % (90 : Int32)))
  refine ⟨((10 : Int32) + ((x &&& (2147483647 : Int32)) % (90 : Int32))).toInt.toNat, by omega, ?_⟩
  rw [← Int32.toInt_inj, own_nat (by omega)]; omega
theorem own_l0 (x : Int32) : ∃ n : Nat, n ≤ 255 ∧ x &&& (255 : Int32) = n.toInt32 := by
  have a := c_and x 255 (by decide)
  have e7 : (255 : Int32).toInt = 255 := rfl
  refine ⟨(x &&& (255 : Int32)).toInt.toNat, by omega, ?_⟩
  rw [← Int32.toInt_inj, own_nat (by omega)]; omega
theorem own_l2 {nv : Nat} (h : nv ≤ 255) : ∃ n : Nat, (n ≤ 255 ∧ n ≠ 1) ∧ (if (nv.toInt32) = (1 : Int32) then (0 : Int32) else (nv.toInt32)) = n.toInt32 := by
  by_cases q : nv = 1
  · subst q; exact ⟨0, by omega, by decide⟩
  · refine ⟨nv, ⟨h, q⟩, if_neg fun r => q ?_⟩
    have z := congrArg Int32.toInt r
    rw [own_nat (by omega)] at z
    have e1 : (1 : Int32).toInt = 1 := rfl
    omega
theorem own_l3 (x : Int32) {nb : Nat} (h : nb < 100) : ∃ n : Nat, n < 100 ∧ (if (x &&& (1 : Int32)) = (0 : Int32) then (((x.toUInt32 >>> ((1 : Int32) &&& 31).toUInt32).toInt32) % (100 : Int32)) else (nb.toInt32)) = n.toInt32 := by
  split
  · have a := c_iushr x 1 1 (by decide) (by decide)
    rw [show ((2 ^ 1 : Nat) : Int) = 2 from rfl] at a
    have b := c_irem ((x.toUInt32 >>> ((1 : Int32) &&& 31).toUInt32).toInt32) 100 100 rfl
    refine ⟨(((x.toUInt32 >>> ((1 : Int32) &&& 31).toUInt32).toInt32) % (100 : Int32)).toInt.toNat, by omega, ?_⟩
    rw [← Int32.toInt_inj, own_nat (by omega)]; omega
  · exact ⟨nb, h, rfl⟩
theorem own_l6 {nb nw : Nat} (hb : nb < 100) (hw : nw ≤ 255) : (((((697 : Int32) + (48 + nb / 10).toInt32) + (48 + nb % 10).toInt32) + nw.toInt32) % (256 : Int32)) = (((697 + (48 + nb / 10) + (48 + nb % 10) + nw) % 256).toInt32 : Int32) := by
  rw [show (697 : Int32) = (697 : Nat).toInt32 from rfl, show (256 : Int32) = (256 : Nat).toInt32 from rfl]
  simp only [← Int32.ofNat_add, Nat.toInt32]
  have e : 697 + (48 + nb / 10) + (48 + nb % 10) + nw < 1100 := by omega
  generalize 697 + (48 + nb / 10) + (48 + nb % 10) + nw = t at e
  exact (by decide +kernel : ∀ t, t < 1100 → Int32.ofNat t % Int32.ofNat 256 = Int32.ofNat (t % 256)) t e
theorem own_dgk : ∀ k, k < 10 → own_dg ((48 + k).toInt32) := by unfold own_dg; decide +kernel
theorem own_qt : ∀ n, n < 100 → 10 ≤ n → own_d (own_d (0 : Int64) (48 + n / 10).toInt32) (48 + n % 10).toInt32 = n.toInt64 ∧ ¬ lcmpW n.toInt64 (0 : Int64) = (0 : Int32) ∧ ¬ lcmpW n.toInt64 (2147483648 : Int64) = (0 : Int32) ∧ n.toInt64.toInt32 = n.toInt32 := by decide +kernel
theorem own_y3 : ∀ nc : Nat, nc < 256 → own_d (own_d (own_d (0 : Int64) (nar .byte (((48 : Int32) + (nc.toInt32 / (100 : Int32))).toInt8.toInt32))) (nar .byte (((48 : Int32) + ((nc.toInt32 / (10 : Int32)) % (10 : Int32))).toInt8.toInt32))) (nar .byte (((48 : Int32) + (nc.toInt32 % (10 : Int32))).toInt8.toInt32)) = nc.toInt64 ∧ ¬ lcmpW nc.toInt64 (0 : Int64) < (0 : Int32) ∧ lcmpW nc.toInt64 nc.toInt64 = (0 : Int32) := by decide +kernel
theorem own_yd : ∀ nc : Nat, nc < 256 → own_dg (nar .byte (((48 : Int32) + (nc.toInt32 / (100 : Int32))).toInt8.toInt32)) ∧ own_dg (nar .byte (((48 : Int32) + ((nc.toInt32 / (10 : Int32)) % (10 : Int32))).toInt8.toInt32)) ∧ own_dg (nar .byte (((48 : Int32) + (nc.toInt32 % (10 : Int32))).toInt8.toInt32)) := by unfold own_dg; decide +kernel
theorem own_qv : ∀ nw : Nat, nw < 256 → (nw ≠ 1 → ¬ (nar .byte ((nw.toInt32).toInt8.toInt32)) = (1 : Int32)) ∧ ((nar .byte ((nw.toInt32).toInt8.toInt32)) &&& (255 : Int32)).toInt64 = nw.toInt64 := by decide +kernel
theorem own_k8 : ∀ k, k < 10 → ((48 + k).toInt32 &&& (255 : Int32)).toInt64 = (48 + k).toInt64 := by decide +kernel
theorem own_n8 : ∀ k, k < 10 → nar .byte ((48 + k).toInt32.toInt8.toInt32) = (48 + k).toInt32 := by decide +kernel
theorem own_m8 : ∀ t, t < 1100 → ((Int64.ofNat t % (256 : Int64)).toInt32).toInt64 = Int64.ofNat (t % 256) := by decide +kernel
theorem own_csl {nb nw : Nat} {qa qb qv ya yb yc : Int32} (hb : nb < 100) (hw : nw ≤ 255) (ea : (qa &&& (255 : Int32)).toInt64 = (48 + nb / 10).toInt64) (eb : (qb &&& (255 : Int32)).toInt64 = (48 + nb % 10).toInt64) (ev : (qv &&& (255 : Int32)).toInt64 = nw.toInt64) : (((own_cs (own_bl qa qb qv ya yb yc) 19) % (256 : Int64)).toInt32).toInt64 = Nat.toInt64 ((697 + (48 + nb / 10) + (48 + nb % 10) + nw) % 256) := by
  have e : own_cs (own_bl qa qb qv ya yb yc) 19 = ((((((((((((((((((((0 : Int64) + ((56 : Int32) &&& (255 : Int32)).toInt64) + ((61 : Int32) &&& (255 : Int32)).toInt64) + ((70 : Int32) &&& (255 : Int32)).toInt64) + ((1 : Int32) &&& (255 : Int32)).toInt64) + ((57 : Int32) &&& (255 : Int32)).toInt64) + ((61 : Int32) &&& (255 : Int32)).toInt64) + ((49 : Int32) &&& (255 : Int32)).toInt64) + ((48 : Int32) &&& (255 : Int32)).toInt64) + ((1 : Int32) &&& (255 : Int32)).toInt64) + ((51 : Int32) &&& (255 : Int32)).toInt64) + ((53 : Int32) &&& (255 : Int32)).toInt64) + ((61 : Int32) &&& (255 : Int32)).toInt64) + ((65 : Int32) &&& (255 : Int32)).toInt64) + ((1 : Int32) &&& (255 : Int32)).toInt64) + (qa &&& (255 : Int32)).toInt64) + (qb &&& (255 : Int32)).toInt64) + ((61 : Int32) &&& (255 : Int32)).toInt64) + (qv &&& (255 : Int32)).toInt64) + ((1 : Int32) &&& (255 : Int32)).toInt64) := rfl
  rw [e, ea, eb, ev, own_i1, own_i48, own_i49, own_i51, own_i53, own_i56, own_i57, own_i61, own_i65, own_i70, show (0 : Int64) = Int64.ofNat 0 from rfl]
  simp only [Nat.toInt64, ← Int64.ofNat_add]
  rw [own_m8 _ (by omega)]
  congr 1; omega
theorem own_lawp {nb nw nc : Nat} {qa qb qv ya yb yc : Int32} (hnb : 10 ≤ nb ∧ nb < 100) (hnw : nw ≤ 255 ∧ nw ≠ 1) (hnc : nc = (697 + (48 + nb / 10) + (48 + nb % 10) + nw) % 256) (hqa : qa = (48 + nb / 10).toInt32) (hqb : qb = (48 + nb % 10).toInt32) (hqv : qv = (nar .byte ((nw.toInt32).toInt8.toInt32))) (hya : ya = (nar .byte (((48 : Int32) + (nc.toInt32 / (100 : Int32))).toInt8.toInt32))) (hyb : yb = (nar .byte (((48 : Int32) + ((nc.toInt32 / (10 : Int32)) % (10 : Int32))).toInt8.toInt32))) (hyc : yc = (nar .byte (((48 : Int32) + (nc.toInt32 % (10 : Int32))).toInt8.toInt32))) :
    own_dg qa ∧ own_dg qb ∧ own_dg ya ∧ own_dg yb ∧ own_dg yc ∧ (¬ (lcmpW (own_d (own_d (0 : Int64) qa) qb) (0 : Int64)) = (0 : Int32)) ∧ (¬ (lcmpW (own_d (own_d (0 : Int64) qa) qb) (2147483648 : Int64)) = (0 : Int32)) ∧ ¬ qv = (1 : Int32) ∧ (¬ (lcmpW (own_d (own_d (own_d (0 : Int64) ya) yb) yc) (0 : Int64)) < (0 : Int32)) ∧ ((lcmpW (own_d (own_d (own_d (0 : Int64) ya) yb) yc) ((((own_cs (own_bl qa qb qv ya yb yc) 19) % (256 : Int64)).toInt32).toInt64)) = (0 : Int32)) := by
  have h6 : nc < 256 := by omega
  have y := own_yd nc h6
  have z := own_y3 nc h6
  have t := own_qt nb hnb.2 hnb.1
  rw [← hya, ← hyb, ← hyc] at y z
  rw [← hqa, ← hqb] at t
  have v := own_qv nw (by omega)
  rw [← hqv] at v
  refine ⟨hqa ▸ own_dgk _ (by omega), hqb ▸ own_dgk _ (by omega), y.1, y.2.1, y.2.2, by rw [t.1]; exact t.2.1, by rw [t.1]; exact t.2.2.1, v.1 hnw.2, by rw [z.1]; exact z.2.1, ?_⟩
  rw [z.1, own_csl hnb.2 hnw.1 (hqa ▸ own_k8 _ (by omega)) (hqb ▸ own_k8 _ (by omega)) v.2, ← hnc]; exact z.2.2
theorem own_fn (tl : List Int32) (t : Int32) : ∀ n, n ≤ 5 → (∃ ii, ii < n ∧ tl.getD ii 0 = t ∧ own_fx tl t n = ii.toInt32) ∨ ((∀ i, i < n → ¬ tl.getD i 0 = t) ∧ own_fx tl t n = -1)
  | 0, _ => Or.inr ⟨fun _ q => absurd q (Nat.not_lt_zero _), rfl⟩
  | n + 1, h => by
    rcases own_fn tl t n (by omega) with ⟨ii, h1, h2, h3⟩ | ⟨h1, h2⟩
    · exact Or.inl ⟨ii, by omega, h2, by rw [own_fx, h3, if_neg (own_nneg (by omega))]⟩
    · rw [own_fx, h2, if_pos (by decide)]
      by_cases q : tl.getD n 0 = t
      · exact Or.inl ⟨n, by omega, q, if_pos q⟩
      · refine Or.inr ⟨fun i hi => ?_, if_neg q⟩
        by_cases e : i = n
        · subst e; exact q
        · exact h1 i (by omega)
theorem own_pres {nb nt : Nat} {qa qb : Int32} (hnb : 10 ≤ nb ∧ nb < 100) (hqa : qa = (48 + nb / 10).toInt32) (hqb : qb = (48 + nb % 10).toInt32) :
    ((nt.toInt32 = (8 : Int32) ∨ nt.toInt32 = (9 : Int32) ∨ nt.toInt32 = (35 : Int32) ∨ nt.toInt32 = (10 : Int32) ∨ nt.toInt32 = nb.toInt32) ∧ ∃ ii : Nat, ii < 5 ∧ own_fx (own_tl qa qb) (nt.toInt32) 5 = ii.toInt32) ∨
    ((¬ nt.toInt32 = (8 : Int32) ∧ ¬ nt.toInt32 = (9 : Int32) ∧ ¬ nt.toInt32 = (35 : Int32) ∧ ¬ nt.toInt32 = (10 : Int32) ∧ ¬ nt.toInt32 = nb.toInt32) ∧ own_fx (own_tl qa qb) (nt.toInt32) 5 < (0 : Int32)) := by
  have t := own_qt nb hnb.2 hnb.1
  rw [← hqa, ← hqb] at t
  have e : own_tl qa qb = [8, 9, 35, nb.toInt32, 10] := by unfold own_tl; rw [t.1, t.2.2.2]
  rw [e]
  generalize nt.toInt32 = x
  generalize nb.toInt32 = y
  rcases own_fn [8, 9, 35, y, 10] x 5 (Nat.le_refl _) with ⟨ii, h1, h2, h3⟩ | ⟨h1, h2⟩
  · refine Or.inl ⟨?_, ii, h1, h3⟩
    rcases (by omega : ii = 0 ∨ ii = 1 ∨ ii = 2 ∨ ii = 3 ∨ ii = 4) with rfl | rfl | rfl | rfl | rfl
    · exact Or.inl h2.symm
    · exact Or.inr (Or.inl h2.symm)
    · exact Or.inr (Or.inr (Or.inl h2.symm))
    · exact Or.inr (Or.inr (Or.inr (Or.inr h2.symm)))
    · exact Or.inr (Or.inr (Or.inr (Or.inl h2.symm)))
  · refine Or.inr ⟨⟨fun q => h1 0 (by omega) q.symm, fun q => h1 1 (by omega) q.symm, fun q => h1 2 (by omega) q.symm, fun q => h1 4 (by omega) q.symm, fun q => h1 3 (by omega) q.symm⟩, ?_⟩
    rw [h2]; decide
theorem own_if5 {p1 p2 p3 p4 p5 : Prop} [Decidable p1] [Decidable p2] [Decidable p3] [Decidable p4] [Decidable p5] (h : p1 ∨ p2 ∨ p3 ∨ p4 ∨ p5) : (if p1 then (1 : Int32) else (if p2 then (1 : Int32) else (if p3 then (1 : Int32) else (if p4 then (1 : Int32) else (if p5 then (1 : Int32) else (0 : Int32)))))) = 1 := by
  (repeat' split) <;> first | rfl | (exfalso; simp_all)
theorem own_psl {bl : List Int32} (h : bl.length = 1) (n : Nat) : (own_ps bl n).length ≤ 1000 := by
  have q := own_s2 n; unfold own_ps; rw [List.length_append, own_tsl h]; simp only [List.length_cons, List.length_nil]; omega
theorem own_ieq {t : Term} {args : Array Value} {s : State} {k : Int32} (h : (Jvm.Cond.eq t (.int k)).value args s none s [] = some true) : t.eval args s none [] s = some (.int k) := by
  obtain ⟨x, y, e1, e2, k1, k2⟩ := cmp_v (Or.inl h)
  cases (Term.int_eval k).symm.trans e2
  obtain ⟨z, rfl⟩ := k2
  have q := gotT (Cond.eq_ints e1 (Term.int_eval k)) h
  rw [e1, q]
theorem own_len {t : Term} {args : Array Value} {s : State} {k : Int32} {a : Addr} {c : Cell} {ty : FieldType} (ev : t.eval args s none [] s = some (.ref a)) (A : Arr s s.heap a c ty) (h : (Jvm.Cond.eq (.length t) (.int k)).value args s none s [] = some true) : c.slots.size < 2 ^ 31 ∧ c.slots.size.toInt32 = k := by
  have e1 := own_ieq h
  obtain ⟨x, c', e2, e3, e4, e5⟩ := Jvm.Free.SB.Term.length_small e1
  cases ev.symm.trans e2
  cases (IntBox.arrayAt_of A.1 A.2.1 A.2.2).symm.trans e3
  exact ⟨e5, (Value.int.inj e4).symm⟩
theorem own_el {t : Term} {args : Array Value} {s : State} {j k : Int32} {a : Addr} {c : Cell} {ty : FieldType} (ev : t.eval args s none [] s = some (.ref a)) (A : Arr s s.heap a c ty) (h : (Jvm.Cond.eq (.elem t (.int j)) (.int k)).value args s none s [] = some true) : c.slots[j.toNatClampNeg]? = some (.int k) := by
  have e1 := own_ieq h
  exact (elem_in e1 ev (Term.int_eval j) A.1).2
theorem own_exne {Z : State} {h : Heap} {a b : Addr} {C C' : String} (E : Exa Z h a C) (E' : Exa Z h b C') (hn : C ≠ C') : a ≠ b := fun e => by
  subst e
  obtain ⟨cell, k, e1, e2, -⟩ := E
  obtain ⟨cell', k', g1, g2, -⟩ := E'
  cases e1.symm.trans g1
  obtain ⟨k1, q1, q2⟩ := Vm.findClass_spec e2
  obtain ⟨k2, q3, q4⟩ := Vm.findClass_spec g2
  cases q1.symm.trans q3
  exact hn (q2.symm.trans q4)
theorem own_dgA {s : State} {a0 : Array Value} {t rhs : Term} {o : Addr} {F : Nat → Nat} {L : List Int32} (ev : ∀ idx, t.eval a0 s none idx s = some (.ref o)) (hx : (Cond.exactly t DBn).before a0 s = true) (harr : (Cond.arrayClass .byte).before a0 s = true) (hl : (Cond.eq (.length t) (.int 100)).before a0 s = true)
    (hF : ∀ r, r < 100 → F r < 10) (hr : ∀ r, r < 100 → rhs.eval a0 s none [r] s = some (.int (48 + F r).toInt32)) (hL : ∀ r, r < 100 → L.getD r 0 = (48 + F r).toInt32) (ha : (Cond.all t (.eq (.elem t (.index 0)) rhs)).before a0 s = true) : ∃ k, Arv s s.heap o k .byte (100 : Int32) (L.map Value.int) (.int 0) := by
  obtain ⟨x, c', e2, e3, e4, e5⟩ := Jvm.Free.SB.Term.length_small (own_ieq (Cond.before_iff.mp hl))
  cases (ev []).symm.trans e2
  obtain ⟨hcell, hkn, -, -⟩ := State.arrayAt?_spec e3
  obtain ⟨d, cB, D, kB, hev, hfcB, hcellD, hkB, hstatD, hclsD, -⟩ := Cond.exactly_spec hx
  cases (ev []).symm.trans hev
  cases hcell.symm.trans hcellD
  obtain ⟨cB', kB', comp, hnameB, hkB', hkindB⟩ := Cond.arrayClass_spec harr
  rw [show ("[" ++ FieldType.toString .byte) = DBn from by decide] at hnameB
  cases hfcB.symm.trans hnameB
  cases hkB.symm.trans hkB'
  have A : Arr s s.heap o c' .byte := ⟨hcell, ⟨(fun q h => by rw [h] at hstatD; cases hstatD), kB, (by rw [hclsD]; exact hkB), comp, hkindB⟩, hkn⟩
  have S : c'.slots.size = 100 := by
    have q := congrArg Int32.toInt (Value.int.inj e4)
    rw [own_nat e5] at q
    have e1 : (100 : Int32).toInt = 100 := rfl
    omega
  have V : ∀ r, r < 100 → (L.map Value.int).getD r (.int 0) = .int (48 + F r).toInt32 := fun r hr' => by rw [own_getDI, hL r hr']
  refine ⟨_, c', A, rfl, S, by decide, fun j hj => ?_, fun j hj => ?_⟩
  · rw [V j (by omega)]
    have h := Cond.all_elim (ev []) e3 (Cond.before_iff.mp ha) j hj
    obtain ⟨x1, y1, g1, g2, k1, k2⟩ := cmp_v (Or.inl h)
    cases (hr j (by omega)).symm.trans g2
    obtain ⟨z, rfl⟩ := k2
    have q := gotT (Cond.eq_ints g1 (hr j (by omega))) h
    have w := (elem_in g1 (ev [j]) (show (Term.index 0).eval a0 s none [j] s = some (.int j.toInt32) from rfl) A.1).2
    rw [own_clamp (by omega), q] at w
    exact w
  · rw [V j (by omega)]
    exact (by decide +kernel : ∀ k, k < 10 → fits .byte (.int (48 + k).toInt32) = true) _ (hF j (by omega))
theorem own_pd45 : parseMethodDescriptor "(C)Ljava/lang/String;" = some ⟨[.char], some (.object STn)⟩ := by decide +kernel
theorem own_pd46 : parseMethodDescriptor "(Lcom/example/splitbook/splitbook/allocation/Field;Lcom/example/splitbook/splitbook/allocation/Field;)Lcom/example/splitbook/splitbook/allocation/ConditionalField;" = some ⟨[(.object FDn), (.object FDn)], some (.object CFn)⟩ := by decide +kernel
theorem own_pd47 : parseMethodDescriptor "()Lcom/example/splitbook/splitbook/allocation/Field;" = some ⟨[], some (.object FDn)⟩ := by decide +kernel
theorem own_pd48 : parseMethodDescriptor "(CI)Ljava/lang/String;" = some ⟨[.char, .int], some (.object STn)⟩ := by decide +kernel
theorem own_pd49 : parseMethodDescriptor "(Ljava/lang/Object;)Z" = some ⟨[(.object "java/lang/Object")], some .boolean⟩ := by decide +kernel
theorem ef_0 (m : MethodId) (x0 : Int32) (x1 : Int32) (x2 : Int32) (x3 : Int32) : entryFrame m #[(.int x0), (.int x1), (.int x2), (.int x3)] maxLocals = mkF m 0 #[.val (.int x0), .val (.int x1), .val (.int x2), .val (.int x3), .unset, .unset, .unset, .unset, .unset, .unset, .unset, .unset, .unset, .unset, .unset, .unset, .unset, .unset, .unset, .unset] [] := by first | (simp [entryFrame, mkF, argsToLocals, Value.category, maxLocals]; done) | rfl
def Q0 (Z : State) (wa : Int32) (wb : Int32) (wc : Int32) (wd : Int32) (cs : Int32) (fm : Value) (och : Addr) (ou : Addr) (oz : Addr) (o1 : Addr) (o2 : Addr) (k1d : ClassId) (k2d : ClassId) (h0 : Heap) (n0 : Nat) (v : Option Value) (h : Heap) (L : List Loc) : Prop := v = some (.int 1) ∧ Fr n0 L ∧ Keep h0 h []
theorem rm0 (l : Launch) (Z : State) (a0 : Array Value) (hw : HW a0 Z) (ws : List Jvm.Cond) (wa : Int32) (wb : Int32) (wc : Int32) (wd : Int32) (cs : Int32) (fm : Value) (och : Addr) (ou : Addr) (oz : Addr) (o1 : Addr) (o2 : Addr) (k1d : ClassId) (k2d : ClassId) (h0 : Heap) (n0 : Nat) (Z0 : n0 ≤ h0.size) (O0 : Old Z n0 h0) (P1 : Sta Z Z.heap STn CSn "Z" (.int cs)) (hcs : ¬ cs = (0 : Int32)) (P3 : Sta Z Z.heap PRn SIn BFn fm) (rfm : fm.isRef = true) (P5 : Sta Z Z.heap SCn ISn DChn (.ref och)) (P6 : Exa Z Z.heap och STIn) (P7 : Sta Z Z.heap STIn INSn DSIn (.ref och)) (P8 : Sta Z Z.heap STUn INSn DSUn (.ref ou)) (nou : och ≠ ou) (P10 : Sta Z Z.heap INn "DigitOnes" DBn (.ref o1)) (P11 : Sta Z Z.heap INn "DigitTens" DBn (.ref o2)) (P12 : Arv Z Z.heap o1 k1d .byte (100 : Int32) (own_on.map Value.int) (.int 0)) (P13 : Arv Z Z.heap o2 k2d .byte (100 : Int32) (own_tn.map Value.int) (.int 0)) (P14 : Sta Z Z.heap "java/util/ImmutableCollections" "EMPTY_SET" "Ljava/util/ImmutableCollections$SetN;" (.ref oz)) (P15 : Exa Z Z.heap oz "java/util/ImmutableCollections$SetN") (P16 : Fld Z Z.heap oz "java/util/ImmutableCollections$SetN" "size" "I" (.int 0)) :
    MetFree l x (head1 (Jvm.Cond.code x code maxLocals ret :: ws) room_1) (fun a U => a = #[(.int wa), (.int wb), (.int wc), (.int wd)] ∧ Z.Warmed39 U.vm ∧ U.heap = h0 ∧ CHv Z consts_1 U.vm h0) (fun _ _ _ _ _ => True) (fun _ U o U' => ∃ v L, o = .returned v ∧ Q0 Z wa wb wc wd cs fm och ou oz o1 o2 k1d k2d h0 n0 v U'.heap L ∧ CHr Z consts_1 U.vm U.heap U'.vm U'.heap ∧ ReturnedEndW U o U' L room_1.cells room_1.slots) := by
  refine MetFree.of_bodySF (plainFor_of_name own_pn13) hisR ?_
  intro p e s m args below meth c s₁ Bd hml0 hP hK
  obtain ⟨rfl, hZ, hh, hCH0⟩ := hP
  have hx := Bd.exec
  have hby := Bd.bytes
  have hml : c.maxLocals = 20 := hml0
  have hown : s.vm.findClass "com/example/splitbook/splitbook/allocation/ConditionalFieldWhenStatedPinLaw" = some m.cls := findClass_of_methodNamed Bd.named
  have hnm := (name_of_methodNamed Bd.named Bd.method).1
  have X0 : Stand p l e room_1 s m #[(.int wa), (.int wb), (.int wc), (.int wd)] below meth c s₁ [] 0 0 := Stand.of_body Bd
  have X0 : Stand p l e room_1 (s.setVm s.vm) m #[(.int wa), (.int wb), (.int wc), (.int wd)] below meth c s₁ [] 0 0 := X0
  have hZ : Z.Warmed39 (s.setVm s.vm).vm := hZ
  have hown : (s.setVm s.vm).vm.findClass "com/example/splitbook/splitbook/allocation/ConditionalFieldWhenStatedPinLaw" = some m.cls := hown
  have hS0 : s.Since s.vm 0 := State.WarmedH.since (State.WarmedH.refl s) 0
  have CR0 : CHr Z consts_1 s.vm h0 s.vm h0 := CHr.refl hCH0
  have e0 : s₁.heap = h0 := by rw [← hh, Bd.state]; rfl
  have N0 := Fr.nil n0
  have K0 : Keep h0 h0 [] := Keep.refl _ _
  suffices GO : ∀ P : Outcome → State → Prop, (∀ o U', (∃ v L, o = .returned v ∧ Q0 Z wa wb wc wd cs fm och ou oz o1 o2 k1d k2d h0 n0 v U'.heap L ∧ CHr Z consts_1 s.vm s.heap U'.vm U'.heap ∧ ReturnedEndW s o U' L room_1.cells room_1.slots) → P o U') → Go p.tables e below P s₁ (mkF m 0 #[.val (.int wa), .val (.int wb), .val (.int wc), .val (.int wd), .unset, .unset, .unset, .unset, .unset, .unset, .unset, .unset, .unset, .unset, .unset, .unset, .unset, .unset, .unset, .unset] []) by
    obtain ⟨s2, o, st, r⟩ := GO _ (fun _ _ q => q)
    exact ⟨s2, o, castTop (ef_0 m wa wb wc wd) st, r⟩
  have H : HX p c code := ⟨hx, hby⟩
  intro P hP
  show Go p.tables e below P s₁ (mkF m 0 #[vi wa, vi wb, vi wc, vi wd, vu, vu, vu, vu, vu, vu, vu, vu, vu, vu, vu, vu, vu, vu, vu, vu] [])
  refine g_iloadN X0 H at_0 rfl ?_
  show Go p.tables e below P s₁ (mkF m 1 #[vi wa, vi wb, vi wc, vi wd, vu, vu, vu, vu, vu, vu, vu, vu, vu, vu, vu, vu, vu, vu, vu, vu] [(.int wa)])
  refine gv (fun t k => X0.ldcInt hx hown (mvT hZ (own_g hw 0 rfl)) (g := (mkF m 1 #[vi wa, vi wb, vi wc, vi wd, vu, vu, vu, vu, vu, vu, vu, vu, vu, vu, vu, vu, vu, vu, vu, vu] [(.int wa)])) rfl (hb hby at_1) t k) ?_
  show Go p.tables e below P s₁ (mkF m 3 #[vi wa, vi wb, vi wc, vi wd, vu, vu, vu, vu, vu, vu, vu, vu, vu, vu, vu, vu, vu, vu, vu, vu] [(.int 2147483647), (.int wa)])
  refine g_iand X0 H at_3 ?_
  refine g_istore X0 H at_4 #[vi wa, vi wb, vi wc, vi wd, vi (wa &&& (2147483647 : Int32)), vu, vu, vu, vu, vu, vu, vu, vu, vu, vu, vu, vu, vu, vu, vu] rfl ?_
  refine g_bipush X0 H at_6 10 rfl ?_
  refine g_iload X0 H at_8 rfl ?_
  refine g_bipush X0 H at_10 90 rfl ?_
  show Go p.tables e below P s₁ (mkF m 12 #[vi wa, vi wb, vi wc, vi wd, vi (wa &&& (2147483647 : Int32)), vu, vu, vu, vu, vu, vu, vu, vu, vu, vu, vu, vu, vu, vu, vu] [(.int 90), (.int (wa &&& (2147483647 : Int32))), (.int 10)])
  refine gv (fun t k => iremM X0 hx rfl (hb hby at_12) rfl (by decide) k) ?_
  show Go p.tables e below P s₁ (mkF m 13 #[vi wa, vi wb, vi wc, vi wd, vi (wa &&& (2147483647 : Int32)), vu, vu, vu, vu, vu, vu, vu, vu, vu, vu, vu, vu, vu, vu, vu] [(.int ((wa &&& (2147483647 : Int32)) % (90 : Int32))), (.int 10)])
  refine g_iadd X0 H at_13 ?_
  show Go p.tables e below P s₁ (mkF m 14 #[vi wa, vi wb, vi wc, vi wd, vi (wa &&& (2147483647 : Int32)), vu, vu, vu, vu, vu, vu, vu, vu, vu, vu, vu, vu, vu, vu, vu] [(.int ((10 : Int32) + ((wa &&& (2147483647 : Int32)) % (90 : Int32))))])
  obtain ⟨nb, hnb, ebt⟩ := own_l1 wa
  rw [ebt]
  refine g_istore X0 H at_14 #[vi wa, vi wb, vi wc, vi wd, vi (wa &&& (2147483647 : Int32)), vi (nb.toInt32), vu, vu, vu, vu, vu, vu, vu, vu, vu, vu, vu, vu, vu, vu] rfl ?_
  refine g_iload X0 H at_16 rfl ?_
  refine g_bipush X0 H at_18 90 rfl ?_
  show Go p.tables e below P s₁ (mkF m 20 #[vi wa, vi wb, vi wc, vi wd, vi (wa &&& (2147483647 : Int32)), vi (nb.toInt32), vu, vu, vu, vu, vu, vu, vu, vu, vu, vu, vu, vu, vu, vu] [(.int 90), (.int (wa &&& (2147483647 : Int32)))])
  refine gv (fun t k => XS.idiv X0.here hx rfl (hb hby at_20) rfl (by decide) k) ?_
  show Go p.tables e below P s₁ (mkF m 21 #[vi wa, vi wb, vi wc, vi wd, vi (wa &&& (2147483647 : Int32)), vi (nb.toInt32), vu, vu, vu, vu, vu, vu, vu, vu, vu, vu, vu, vu, vu, vu] [(.int ((wa &&& (2147483647 : Int32)) / (90 : Int32)))])
  refine g_sipush X0 H at_21 255 rfl ?_
  refine g_iand X0 H at_24 ?_
  show Go p.tables e below P s₁ (mkF m 25 #[vi wa, vi wb, vi wc, vi wd, vi (wa &&& (2147483647 : Int32)), vi (nb.toInt32), vu, vu, vu, vu, vu, vu, vu, vu, vu, vu, vu, vu, vu, vu] [(.int (((wa &&& (2147483647 : Int32)) / (90 : Int32)) &&& (255 : Int32)))])
  obtain ⟨nv, hnv, env⟩ := own_l0 ((wa &&& (2147483647 : Int32)) / (90 : Int32))
  rw [env]
  refine g_istore X0 H at_25 #[vi wa, vi wb, vi wc, vi wd, vi (wa &&& (2147483647 : Int32)), vi (nb.toInt32), vi (nv.toInt32), vu, vu, vu, vu, vu, vu, vu, vu, vu, vu, vu, vu, vu] rfl ?_
  refine g_iload X0 H at_27 rfl ?_
  refine g_iconst X0 H at_29 1 rfl ?_
  show Go p.tables e below P s₁ (mkF m 30 #[vi wa, vi wb, vi wc, vi wd, vi (wa &&& (2147483647 : Int32)), vi (nb.toInt32), vi (nv.toInt32), vu, vu, vu, vu, vu, vu, vu, vu, vu, vu, vu, vu, vu] [(.int 1), (.int (nv.toInt32))])
  have J2 : ∀ (T2 : State) (locs2 : List Loc) (v2_0 : Int32), Stand p l e room_1 (s.setVm s.vm) m #[(.int wa), (.int wb), (.int wc), (.int wd)] below meth c T2 locs2 0 0 → T2.heap = h0 → Fr n0 locs2 → v2_0 = (if (nv.toInt32) = (1 : Int32) then (0 : Int32) else (nv.toInt32)) → Go p.tables e below P T2 (mkF m 36 #[.val (.int wa), .val (.int wb), .val (.int wc), .val (.int wd), .val (.int (wa &&& (2147483647 : Int32))), .val (.int (nb.toInt32)), .val (.int v2_0), .unset, .unset, .unset, .unset, .unset, .unset, .unset, .unset, .unset, .unset, .unset, .unset, .unset] []) := by
    intro T2 locs2 v2_0 X2 e2 N2 hv2_0
    obtain ⟨nw, hnw, enw⟩ := own_l2 hnv
    rw [enw] at hv2_0
    subst hv2_0
    show Go p.tables e below P T2 (mkF m 36 #[vi wa, vi wb, vi wc, vi wd, vi (wa &&& (2147483647 : Int32)), vi (nb.toInt32), vi (nw.toInt32), vu, vu, vu, vu, vu, vu, vu, vu, vu, vu, vu, vu, vu] [])
    refine g_iloadN X2 H at_36 rfl ?_
    refine g_iconst X2 H at_37 1 rfl ?_
    refine g_iand X2 H at_38 ?_
    show Go p.tables e below P T2 (mkF m 39 #[vi wa, vi wb, vi wc, vi wd, vi (wa &&& (2147483647 : Int32)), vi (nb.toInt32), vi (nw.toInt32), vu, vu, vu, vu, vu, vu, vu, vu, vu, vu, vu, vu, vu] [(.int (wb &&& (1 : Int32)))])
    have J4 : ∀ (T4 : State) (locs4 : List Loc) (v4_0 : Int32), Stand p l e room_1 (s.setVm s.vm) m #[(.int wa), (.int wb), (.int wc), (.int wd)] below meth c T4 locs4 0 0 → T4.heap = h0 → Fr n0 locs4 → v4_0 = (if (wb &&& (1 : Int32)) = (0 : Int32) then (((wb.toUInt32 >>> ((1 : Int32) &&& 31).toUInt32).toInt32) % (100 : Int32)) else (nb.toInt32)) → Go p.tables e below P T4 (mkF m 53 #[.val (.int wa), .val (.int wb), .val (.int wc), .val (.int wd), .val (.int (wa &&& (2147483647 : Int32))), .val (.int (nb.toInt32)), .val (.int (nw.toInt32)), .unset, .unset, .unset, .unset, .unset, .unset, .unset, .unset, .unset, .unset, .unset, .unset, .unset] [(.int v4_0)]) := by
      intro T4 locs4 v4_0 X4 e4 N4 hv4_0
      obtain ⟨nt, hnt, ent⟩ := own_l3 wb hnb.2
      rw [ent] at hv4_0
      subst hv4_0
      show Go p.tables e below P T4 (mkF m 53 #[vi wa, vi wb, vi wc, vi wd, vi (wa &&& (2147483647 : Int32)), vi (nb.toInt32), vi (nw.toInt32), vu, vu, vu, vu, vu, vu, vu, vu, vu, vu, vu, vu, vu] [(.int (nt.toInt32))])
      refine g_istore X4 H at_53 #[vi wa, vi wb, vi wc, vi wd, vi (wa &&& (2147483647 : Int32)), vi (nb.toInt32), vi (nw.toInt32), vi (nt.toInt32), vu, vu, vu, vu, vu, vu, vu, vu, vu, vu, vu, vu] rfl ?_
      refine g_iloadN X4 H at_55 rfl ?_
      refine g_sipush X4 H at_56 255 rfl ?_
      refine g_iand X4 H at_59 ?_
      show Go p.tables e below P T4 (mkF m 60 #[vi wa, vi wb, vi wc, vi wd, vi (wa &&& (2147483647 : Int32)), vi (nb.toInt32), vi (nw.toInt32), vi (nt.toInt32), vu, vu, vu, vu, vu, vu, vu, vu, vu, vu, vu, vu] [(.int (wc &&& (255 : Int32)))])
      refine gv (fun t k => XS.i2c X4.here hx rfl (hb hby at_60) rfl k) ?_
      show Go p.tables e below P T4 (mkF m 61 #[vi wa, vi wb, vi wc, vi wd, vi (wa &&& (2147483647 : Int32)), vi (nb.toInt32), vi (nw.toInt32), vi (nt.toInt32), vu, vu, vu, vu, vu, vu, vu, vu, vu, vu, vu, vu] [(.int ((wc &&& (255 : Int32)).toUInt32.toUInt16.toUInt32.toInt32))])
      obtain ⟨ch, hch⟩ : ∃ z, z = ((wc &&& (255 : Int32)).toUInt32.toUInt16.toUInt32.toInt32) := ⟨_, rfl⟩
      rw [← hch]
      have hcb : own_by ch := by rw [hch]; exact own_byc wc
      clear hch
      refine g_istore X4 H at_61 #[vi wa, vi wb, vi wc, vi wd, vi (wa &&& (2147483647 : Int32)), vi (nb.toInt32), vi (nw.toInt32), vi (nt.toInt32), vi ch, vu, vu, vu, vu, vu, vu, vu, vu, vu, vu, vu] rfl ?_
      refine g_iloadN X4 H at_63 rfl ?_
      show Go p.tables e below P T4 (mkF m 64 #[vi wa, vi wb, vi wc, vi wd, vi (wa &&& (2147483647 : Int32)), vi (nb.toInt32), vi (nw.toInt32), vi (nt.toInt32), vi ch, vu, vu, vu, vu, vu, vu, vu, vu, vu, vu, vu] [(.int wd)])
      refine gv (fun t k => X4.ldcInt hx hown (mvT hZ (own_g hw 0 rfl)) (g := (mkF m 64 #[vi wa, vi wb, vi wc, vi wd, vi (wa &&& (2147483647 : Int32)), vi (nb.toInt32), vi (nw.toInt32), vi (nt.toInt32), vi ch, vu, vu, vu, vu, vu, vu, vu, vu, vu, vu, vu] [(.int wd)])) rfl (hb hby at_64) t k) ?_
      show Go p.tables e below P T4 (mkF m 66 #[vi wa, vi wb, vi wc, vi wd, vi (wa &&& (2147483647 : Int32)), vi (nb.toInt32), vi (nw.toInt32), vi (nt.toInt32), vi ch, vu, vu, vu, vu, vu, vu, vu, vu, vu, vu, vu] [(.int 2147483647), (.int wd)])
      refine g_iand X4 H at_66 ?_
      refine g_bipush X4 H at_67 100 rfl ?_
      show Go p.tables e below P T4 (mkF m 69 #[vi wa, vi wb, vi wc, vi wd, vi (wa &&& (2147483647 : Int32)), vi (nb.toInt32), vi (nw.toInt32), vi (nt.toInt32), vi ch, vu, vu, vu, vu, vu, vu, vu, vu, vu, vu, vu] [(.int 100), (.int (wd &&& (2147483647 : Int32)))])
      refine gv (fun t k => iremM X4 hx rfl (hb hby at_69) rfl (by decide) k) ?_
      show Go p.tables e below P T4 (mkF m 70 #[vi wa, vi wb, vi wc, vi wd, vi (wa &&& (2147483647 : Int32)), vi (nb.toInt32), vi (nw.toInt32), vi (nt.toInt32), vi ch, vu, vu, vu, vu, vu, vu, vu, vu, vu, vu, vu] [(.int ((wd &&& (2147483647 : Int32)) % (100 : Int32)))])
      obtain ⟨fg, hfg⟩ : ∃ z, z = ((wd &&& (2147483647 : Int32)) % (100 : Int32)) := ⟨_, rfl⟩
      rw [← hfg]
      clear hfg
      refine g_istore X4 H at_70 #[vi wa, vi wb, vi wc, vi wd, vi (wa &&& (2147483647 : Int32)), vi (nb.toInt32), vi (nw.toInt32), vi (nt.toInt32), vi ch, vi fg, vu, vu, vu, vu, vu, vu, vu, vu, vu, vu] rfl ?_
      refine g_bipush X4 H at_72 48 rfl ?_
      refine g_iload X4 H at_74 rfl ?_
      refine g_bipush X4 H at_76 10 rfl ?_
      show Go p.tables e below P T4 (mkF m 78 #[vi wa, vi wb, vi wc, vi wd, vi (wa &&& (2147483647 : Int32)), vi (nb.toInt32), vi (nw.toInt32), vi (nt.toInt32), vi ch, vi fg, vu, vu, vu, vu, vu, vu, vu, vu, vu, vu] [(.int 10), (.int (nb.toInt32)), (.int 48)])
      refine gv (fun t k => XS.idiv X4.here hx rfl (hb hby at_78) rfl (by decide) k) ?_
      show Go p.tables e below P T4 (mkF m 79 #[vi wa, vi wb, vi wc, vi wd, vi (wa &&& (2147483647 : Int32)), vi (nb.toInt32), vi (nw.toInt32), vi (nt.toInt32), vi ch, vi fg, vu, vu, vu, vu, vu, vu, vu, vu, vu, vu] [(.int ((nb.toInt32) / (10 : Int32))), (.int 48)])
      refine g_iadd X4 H at_79 ?_
      show Go p.tables e below P T4 (mkF m 80 #[vi wa, vi wb, vi wc, vi wd, vi (wa &&& (2147483647 : Int32)), vi (nb.toInt32), vi (nw.toInt32), vi (nt.toInt32), vi ch, vi fg, vu, vu, vu, vu, vu, vu, vu, vu, vu, vu] [(.int ((48 : Int32) + ((nb.toInt32) / (10 : Int32))))])
      obtain ⟨qa, hqa⟩ : ∃ z : Int32, z = (48 + nb / 10).toInt32 := ⟨_, rfl⟩
      rw [own_t10 _ hnb.2, ← hqa]
      refine g_istore X4 H at_80 #[vi wa, vi wb, vi wc, vi wd, vi (wa &&& (2147483647 : Int32)), vi (nb.toInt32), vi (nw.toInt32), vi (nt.toInt32), vi ch, vi fg, vi qa, vu, vu, vu, vu, vu, vu, vu, vu, vu] rfl ?_
      refine g_bipush X4 H at_82 48 rfl ?_
      refine g_iload X4 H at_84 rfl ?_
      refine g_bipush X4 H at_86 10 rfl ?_
      show Go p.tables e below P T4 (mkF m 88 #[vi wa, vi wb, vi wc, vi wd, vi (wa &&& (2147483647 : Int32)), vi (nb.toInt32), vi (nw.toInt32), vi (nt.toInt32), vi ch, vi fg, vi qa, vu, vu, vu, vu, vu, vu, vu, vu, vu] [(.int 10), (.int (nb.toInt32)), (.int 48)])
      refine gv (fun t k => iremM X4 hx rfl (hb hby at_88) rfl (by decide) k) ?_
      show Go p.tables e below P T4 (mkF m 89 #[vi wa, vi wb, vi wc, vi wd, vi (wa &&& (2147483647 : Int32)), vi (nb.toInt32), vi (nw.toInt32), vi (nt.toInt32), vi ch, vi fg, vi qa, vu, vu, vu, vu, vu, vu, vu, vu, vu] [(.int ((nb.toInt32) % (10 : Int32))), (.int 48)])
      refine g_iadd X4 H at_89 ?_
      show Go p.tables e below P T4 (mkF m 90 #[vi wa, vi wb, vi wc, vi wd, vi (wa &&& (2147483647 : Int32)), vi (nb.toInt32), vi (nw.toInt32), vi (nt.toInt32), vi ch, vi fg, vi qa, vu, vu, vu, vu, vu, vu, vu, vu, vu] [(.int ((48 : Int32) + ((nb.toInt32) % (10 : Int32))))])
      obtain ⟨qb, hqb⟩ : ∃ z : Int32, z = (48 + nb % 10).toInt32 := ⟨_, rfl⟩
      rw [own_o10 _ hnb.2, ← hqb]
      refine g_istore X4 H at_90 #[vi wa, vi wb, vi wc, vi wd, vi (wa &&& (2147483647 : Int32)), vi (nb.toInt32), vi (nw.toInt32), vi (nt.toInt32), vi ch, vi fg, vi qa, vi qb, vu, vu, vu, vu, vu, vu, vu, vu] rfl ?_
      refine g_sipush X4 H at_92 697 rfl ?_
      refine g_iload X4 H at_95 rfl ?_
      refine g_iadd X4 H at_97 ?_
      refine g_iload X4 H at_98 rfl ?_
      refine g_iadd X4 H at_100 ?_
      refine g_iload X4 H at_101 rfl ?_
      refine g_iadd X4 H at_103 ?_
      refine g_sipush X4 H at_104 256 rfl ?_
      show Go p.tables e below P T4 (mkF m 107 #[vi wa, vi wb, vi wc, vi wd, vi (wa &&& (2147483647 : Int32)), vi (nb.toInt32), vi (nw.toInt32), vi (nt.toInt32), vi ch, vi fg, vi qa, vi qb, vu, vu, vu, vu, vu, vu, vu, vu] [(.int 256), (.int ((((697 : Int32) + qa) + qb) + (nw.toInt32)))])
      refine gv (fun t k => iremM X4 hx rfl (hb hby at_107) rfl (by decide) k) ?_
      show Go p.tables e below P T4 (mkF m 108 #[vi wa, vi wb, vi wc, vi wd, vi (wa &&& (2147483647 : Int32)), vi (nb.toInt32), vi (nw.toInt32), vi (nt.toInt32), vi ch, vi fg, vi qa, vi qb, vu, vu, vu, vu, vu, vu, vu, vu] [(.int (((((697 : Int32) + qa) + qb) + (nw.toInt32)) % (256 : Int32)))])
      obtain ⟨nc, hnc⟩ : ∃ z : Nat, z = (697 + (48 + nb / 10) + (48 + nb % 10) + nw) % 256 := ⟨_, rfl⟩
      rw [show (((((697 : Int32) + qa) + qb) + (nw.toInt32)) % (256 : Int32)) = nc.toInt32 from by rw [hqa, hqb, hnc]; exact own_l6 hnb.2 hnw.1]
      refine g_istore X4 H at_108 #[vi wa, vi wb, vi wc, vi wd, vi (wa &&& (2147483647 : Int32)), vi (nb.toInt32), vi (nw.toInt32), vi (nt.toInt32), vi ch, vi fg, vi qa, vi qb, vi (nc.toInt32), vu, vu, vu, vu, vu, vu, vu] rfl ?_
      refine g_bipush X4 H at_110 26 rfl ?_
      obtain ⟨T5, h5, k5, X5, e5, E5, A5, B5, st5⟩ := newPE X4 hx hZ (own_g hw 1 rfl) e4 (g := (mkF m 112 #[vi wa, vi wb, vi wc, vi wd, vi (wa &&& (2147483647 : Int32)), vi (nb.toInt32), vi (nw.toInt32), vi (nt.toInt32), vi ch, vi fg, vi qa, vi qb, vi (nc.toInt32), vu, vu, vu, vu, vu, vu, vu] [(.int 26)])) rfl (hb hby at_112) rfl (by decide) (cap := 26) (by decide) (by decide) (by decide) (by decide) (ad := DBn) (by decide)
      obtain ⟨b5, g5⟩ : ∃ z, z = h0.size := ⟨_, rfl⟩
      rw [← g5] at A5 B5 st5
      refine gv st5 ?_
      have Sf6 := Safe.new (Z := Z) (EL := consts_1) (vm := s.vm) (Nat.le_of_eq g5.symm)
      have g7 := Nat.le_trans Z0 (Nat.le_of_eq g5.symm)
      have sz8 := Nat.le_trans K0.1 (Nat.le_of_eq g5.symm)
      have Z9 := Nat.le_trans Z0 E5.1
      have K10 := K0.ext E5
      have O11 : Old Z n0 h5 := O0.ext E5
      have Sf12 := Safe.ext E5 CR0.1 Sf6
      have CR13 := CHr.trans CR0 (CHr.ext E5 CR0.1)
      have V5 : Arv Z h5 b5 k5 .byte (26 : Int32) [(.int 0), (.int 0), (.int 0), (.int 0), (.int 0), (.int 0), (.int 0), (.int 0), (.int 0), (.int 0), (.int 0), (.int 0), (.int 0), (.int 0), (.int 0), (.int 0), (.int 0), (.int 0), (.int 0), (.int 0), (.int 0), (.int 0), (.int 0), (.int 0), (.int 0), (.int 0)] (.int 0) := (Arv.new A5 (by decide)).pad (pad_rep [] (.int 0) 26)
      show Go p.tables e below P T5 (mkF m 114 #[vi wa, vi wb, vi wc, vi wd, vi (wa &&& (2147483647 : Int32)), vi (nb.toInt32), vi (nw.toInt32), vi (nt.toInt32), vi ch, vi fg, vi qa, vi qb, vi (nc.toInt32), vu, vu, vu, vu, vu, vu, vu] [(.ref b5)])
      subst e5
      refine own_itB X5 hx hZ V5 N4 (Keep.refl _ _) g7 (pc2 := 116) (pc3 := 118) (j := (0 : Int32)) (x := (56 : Int32)) (hb hby at_114) (fun t k => XS.iconst X5.here hx rfl (hb hby at_115) k) (fun t k => XS.bipush X5.here hx rfl (hb hby at_116) k) (hb hby at_118) ⟨by decide, by decide⟩ rfl (Nat.le_of_ble_eq_true rfl) ?_
      intro T14 L14 X14 N14 K14 V14
      refine own_itB X14 hx hZ V14 N14 K14 g7 (pc2 := 121) (pc3 := 123) (j := (1 : Int32)) (x := (61 : Int32)) (hb hby at_119) (fun t k => XS.iconst X14.here hx rfl (hb hby at_120) k) (fun t k => XS.bipush X14.here hx rfl (hb hby at_121) k) (hb hby at_123) ⟨by decide, by decide⟩ rfl (Nat.le_of_ble_eq_true rfl) ?_
      intro T15 L15 X15 N15 K15 V15
      refine own_itB X15 hx hZ V15 N15 K15 g7 (pc2 := 126) (pc3 := 128) (j := (2 : Int32)) (x := (70 : Int32)) (hb hby at_124) (fun t k => XS.iconst X15.here hx rfl (hb hby at_125) k) (fun t k => XS.bipush X15.here hx rfl (hb hby at_126) k) (hb hby at_128) ⟨by decide, by decide⟩ rfl (Nat.le_of_ble_eq_true rfl) ?_
      intro T16 L16 X16 N16 K16 V16
      refine own_itB X16 hx hZ V16 N16 K16 g7 (pc2 := 131) (pc3 := 132) (j := (3 : Int32)) (x := (1 : Int32)) (hb hby at_129) (fun t k => XS.iconst X16.here hx rfl (hb hby at_130) k) (fun t k => XS.iconst X16.here hx rfl (hb hby at_131) k) (hb hby at_132) ⟨by decide, by decide⟩ rfl (Nat.le_of_ble_eq_true rfl) ?_
      intro T17 L17 X17 N17 K17 V17
      refine own_itB X17 hx hZ V17 N17 K17 g7 (pc2 := 135) (pc3 := 137) (j := (4 : Int32)) (x := (57 : Int32)) (hb hby at_133) (fun t k => XS.iconst X17.here hx rfl (hb hby at_134) k) (fun t k => XS.bipush X17.here hx rfl (hb hby at_135) k) (hb hby at_137) ⟨by decide, by decide⟩ rfl (Nat.le_of_ble_eq_true rfl) ?_
      intro T18 L18 X18 N18 K18 V18
      refine own_itB X18 hx hZ V18 N18 K18 g7 (pc2 := 140) (pc3 := 142) (j := (5 : Int32)) (x := (61 : Int32)) (hb hby at_138) (fun t k => XS.iconst X18.here hx rfl (hb hby at_139) k) (fun t k => XS.bipush X18.here hx rfl (hb hby at_140) k) (hb hby at_142) ⟨by decide, by decide⟩ rfl (Nat.le_of_ble_eq_true rfl) ?_
      intro T19 L19 X19 N19 K19 V19
      refine own_itB X19 hx hZ V19 N19 K19 g7 (pc2 := 146) (pc3 := 148) (j := (6 : Int32)) (x := (49 : Int32)) (hb hby at_143) (fun t k => XS.bipush X19.here hx rfl (hb hby at_144) k) (fun t k => XS.bipush X19.here hx rfl (hb hby at_146) k) (hb hby at_148) ⟨by decide, by decide⟩ rfl (Nat.le_of_ble_eq_true rfl) ?_
      intro T20 L20 X20 N20 K20 V20
      refine own_itB X20 hx hZ V20 N20 K20 g7 (pc2 := 152) (pc3 := 154) (j := (7 : Int32)) (x := (48 : Int32)) (hb hby at_149) (fun t k => XS.bipush X20.here hx rfl (hb hby at_150) k) (fun t k => XS.bipush X20.here hx rfl (hb hby at_152) k) (hb hby at_154) ⟨by decide, by decide⟩ rfl (Nat.le_of_ble_eq_true rfl) ?_
      intro T21 L21 X21 N21 K21 V21
      refine own_itB X21 hx hZ V21 N21 K21 g7 (pc2 := 158) (pc3 := 159) (j := (8 : Int32)) (x := (1 : Int32)) (hb hby at_155) (fun t k => XS.bipush X21.here hx rfl (hb hby at_156) k) (fun t k => XS.iconst X21.here hx rfl (hb hby at_158) k) (hb hby at_159) ⟨by decide, by decide⟩ rfl (Nat.le_of_ble_eq_true rfl) ?_
      intro T22 L22 X22 N22 K22 V22
      refine own_itB X22 hx hZ V22 N22 K22 g7 (pc2 := 163) (pc3 := 165) (j := (9 : Int32)) (x := (51 : Int32)) (hb hby at_160) (fun t k => XS.bipush X22.here hx rfl (hb hby at_161) k) (fun t k => XS.bipush X22.here hx rfl (hb hby at_163) k) (hb hby at_165) ⟨by decide, by decide⟩ rfl (Nat.le_of_ble_eq_true rfl) ?_
      intro T23 L23 X23 N23 K23 V23
      refine own_itB X23 hx hZ V23 N23 K23 g7 (pc2 := 169) (pc3 := 171) (j := (10 : Int32)) (x := (53 : Int32)) (hb hby at_166) (fun t k => XS.bipush X23.here hx rfl (hb hby at_167) k) (fun t k => XS.bipush X23.here hx rfl (hb hby at_169) k) (hb hby at_171) ⟨by decide, by decide⟩ rfl (Nat.le_of_ble_eq_true rfl) ?_
      intro T24 L24 X24 N24 K24 V24
      refine own_itB X24 hx hZ V24 N24 K24 g7 (pc2 := 175) (pc3 := 177) (j := (11 : Int32)) (x := (61 : Int32)) (hb hby at_172) (fun t k => XS.bipush X24.here hx rfl (hb hby at_173) k) (fun t k => XS.bipush X24.here hx rfl (hb hby at_175) k) (hb hby at_177) ⟨by decide, by decide⟩ rfl (Nat.le_of_ble_eq_true rfl) ?_
      intro T25 L25 X25 N25 K25 V25
      refine own_itB X25 hx hZ V25 N25 K25 g7 (pc2 := 181) (pc3 := 183) (j := (12 : Int32)) (x := (65 : Int32)) (hb hby at_178) (fun t k => XS.bipush X25.here hx rfl (hb hby at_179) k) (fun t k => XS.bipush X25.here hx rfl (hb hby at_181) k) (hb hby at_183) ⟨by decide, by decide⟩ rfl (Nat.le_of_ble_eq_true rfl) ?_
      intro T26 L26 X26 N26 K26 V26
      refine own_itB X26 hx hZ V26 N26 K26 g7 (pc2 := 187) (pc3 := 188) (j := (13 : Int32)) (x := (1 : Int32)) (hb hby at_184) (fun t k => XS.bipush X26.here hx rfl (hb hby at_185) k) (fun t k => XS.iconst X26.here hx rfl (hb hby at_187) k) (hb hby at_188) ⟨by decide, by decide⟩ rfl (Nat.le_of_ble_eq_true rfl) ?_
      intro T27 L27 X27 N27 K27 V27
      refine own_itB X27 hx hZ V27 N27 K27 g7 (pc2 := 192) (pc3 := 195) (j := (14 : Int32)) (x := (qa.toInt8.toInt32)) (hb hby at_189) (fun t k => XS.bipush X27.here hx rfl (hb hby at_190) k) (fun t k => XS.iload X27.here hx rfl (hb hby at_192) rfl (XS.i2b X27.here hx rfl (hb hby at_194) rfl k)) (hb hby at_195) ⟨by decide, by decide⟩ rfl (Nat.le_of_ble_eq_true rfl) ?_
      intro T28 L28 X28 N28 K28 V28
      refine own_itB X28 hx hZ V28 N28 K28 g7 (pc2 := 199) (pc3 := 202) (j := (15 : Int32)) (x := (qb.toInt8.toInt32)) (hb hby at_196) (fun t k => XS.bipush X28.here hx rfl (hb hby at_197) k) (fun t k => XS.iload X28.here hx rfl (hb hby at_199) rfl (XS.i2b X28.here hx rfl (hb hby at_201) rfl k)) (hb hby at_202) ⟨by decide, by decide⟩ rfl (Nat.le_of_ble_eq_true rfl) ?_
      intro T29 L29 X29 N29 K29 V29
      refine own_itB X29 hx hZ V29 N29 K29 g7 (pc2 := 206) (pc3 := 208) (j := (16 : Int32)) (x := (61 : Int32)) (hb hby at_203) (fun t k => XS.bipush X29.here hx rfl (hb hby at_204) k) (fun t k => XS.bipush X29.here hx rfl (hb hby at_206) k) (hb hby at_208) ⟨by decide, by decide⟩ rfl (Nat.le_of_ble_eq_true rfl) ?_
      intro T30 L30 X30 N30 K30 V30
      refine own_itB X30 hx hZ V30 N30 K30 g7 (pc2 := 212) (pc3 := 215) (j := (17 : Int32)) (x := ((nw.toInt32).toInt8.toInt32)) (hb hby at_209) (fun t k => XS.bipush X30.here hx rfl (hb hby at_210) k) (fun t k => XS.iload X30.here hx rfl (hb hby at_212) rfl (XS.i2b X30.here hx rfl (hb hby at_214) rfl k)) (hb hby at_215) ⟨by decide, by decide⟩ rfl (Nat.le_of_ble_eq_true rfl) ?_
      intro T31 L31 X31 N31 K31 V31
      refine own_itB X31 hx hZ V31 N31 K31 g7 (pc2 := 219) (pc3 := 220) (j := (18 : Int32)) (x := (1 : Int32)) (hb hby at_216) (fun t k => XS.bipush X31.here hx rfl (hb hby at_217) k) (fun t k => XS.iconst X31.here hx rfl (hb hby at_219) k) (hb hby at_220) ⟨by decide, by decide⟩ rfl (Nat.le_of_ble_eq_true rfl) ?_
      intro T32 L32 X32 N32 K32 V32
      refine own_itB X32 hx hZ V32 N32 K32 g7 (pc2 := 224) (pc3 := 226) (j := (19 : Int32)) (x := (49 : Int32)) (hb hby at_221) (fun t k => XS.bipush X32.here hx rfl (hb hby at_222) k) (fun t k => XS.bipush X32.here hx rfl (hb hby at_224) k) (hb hby at_226) ⟨by decide, by decide⟩ rfl (Nat.le_of_ble_eq_true rfl) ?_
      intro T33 L33 X33 N33 K33 V33
      refine own_itB X33 hx hZ V33 N33 K33 g7 (pc2 := 230) (pc3 := 232) (j := (20 : Int32)) (x := (48 : Int32)) (hb hby at_227) (fun t k => XS.bipush X33.here hx rfl (hb hby at_228) k) (fun t k => XS.bipush X33.here hx rfl (hb hby at_230) k) (hb hby at_232) ⟨by decide, by decide⟩ rfl (Nat.le_of_ble_eq_true rfl) ?_
      intro T34 L34 X34 N34 K34 V34
      refine own_itB X34 hx hZ V34 N34 K34 g7 (pc2 := 236) (pc3 := 238) (j := (21 : Int32)) (x := (61 : Int32)) (hb hby at_233) (fun t k => XS.bipush X34.here hx rfl (hb hby at_234) k) (fun t k => XS.bipush X34.here hx rfl (hb hby at_236) k) (hb hby at_238) ⟨by decide, by decide⟩ rfl (Nat.le_of_ble_eq_true rfl) ?_
      intro T35 L35 X35 N35 K35 V35
      refine own_itB X35 hx hZ V35 N35 K35 g7 (pc2 := 242) (pc3 := 251) (j := (22 : Int32)) (x := (((48 : Int32) + ((nc.toInt32) / (100 : Int32))).toInt8.toInt32)) (hb hby at_239) (fun t k => XS.bipush X35.here hx rfl (hb hby at_240) k) (fun t k => XS.bipush X35.here hx rfl (hb hby at_242) (XS.iload X35.here hx rfl (hb hby at_244) rfl (XS.bipush X35.here hx rfl (hb hby at_246) (XS.idiv X35.here hx rfl (hb hby at_248) rfl (by decide) (XS.iadd X35.here hx rfl (hb hby at_249) rfl (XS.i2b X35.here hx rfl (hb hby at_250) rfl k)))))) (hb hby at_251) ⟨by decide, by decide⟩ rfl (Nat.le_of_ble_eq_true rfl) ?_
      intro T36 L36 X36 N36 K36 V36
      refine own_itB X36 hx hZ V36 N36 K36 g7 (pc2 := 255) (pc3 := 267) (j := (23 : Int32)) (x := (((48 : Int32) + (((nc.toInt32) / (10 : Int32)) % (10 : Int32))).toInt8.toInt32)) (hb hby at_252) (fun t k => XS.bipush X36.here hx rfl (hb hby at_253) k) (fun t k => XS.bipush X36.here hx rfl (hb hby at_255) (XS.iload X36.here hx rfl (hb hby at_257) rfl (XS.bipush X36.here hx rfl (hb hby at_259) (XS.idiv X36.here hx rfl (hb hby at_261) rfl (by decide) (XS.bipush X36.here hx rfl (hb hby at_262) (iremM X36 hx rfl (hb hby at_264) rfl (by decide) (XS.iadd X36.here hx rfl (hb hby at_265) rfl (XS.i2b X36.here hx rfl (hb hby at_266) rfl k)))))))) (hb hby at_267) ⟨by decide, by decide⟩ rfl (Nat.le_of_ble_eq_true rfl) ?_
      intro T37 L37 X37 N37 K37 V37
      refine own_itB X37 hx hZ V37 N37 K37 g7 (pc2 := 271) (pc3 := 280) (j := (24 : Int32)) (x := (((48 : Int32) + ((nc.toInt32) % (10 : Int32))).toInt8.toInt32)) (hb hby at_268) (fun t k => XS.bipush X37.here hx rfl (hb hby at_269) k) (fun t k => XS.bipush X37.here hx rfl (hb hby at_271) (XS.iload X37.here hx rfl (hb hby at_273) rfl (XS.bipush X37.here hx rfl (hb hby at_275) (iremM X37 hx rfl (hb hby at_277) rfl (by decide) (XS.iadd X37.here hx rfl (hb hby at_278) rfl (XS.i2b X37.here hx rfl (hb hby at_279) rfl k)))))) (hb hby at_280) ⟨by decide, by decide⟩ rfl (Nat.le_of_ble_eq_true rfl) ?_
      intro T38 L38 X38 N38 K38 V38
      refine own_itB X38 hx hZ V38 N38 K38 g7 (pc2 := 284) (pc3 := 285) (j := (25 : Int32)) (x := (1 : Int32)) (hb hby at_281) (fun t k => XS.bipush X38.here hx rfl (hb hby at_282) k) (fun t k => XS.iconst X38.here hx rfl (hb hby at_284) k) (hb hby at_285) ⟨by decide, by decide⟩ rfl (Nat.le_of_ble_eq_true rfl) ?_
      intro T39 L39 X39 N39 K39 V39
      have Z40 := Nat.le_trans Z9 K39.1
      have K41 := K10.trans K39 (own_allC (Or.inr sz8) own_all0)
      have Sf42 := Safe.keep K39 (sfS Sf12 sf0) CR13.1 Sf12
      have CR43 := CHr.trans CR13 (CHr.keep K39 (sfS Sf12 sf0) CR13.1)
      have O44 : Old Z n0 T39.heap := O11.keep K39 (own_allC g7 own_all0)
      have Vt39 : Arv Z T39.heap b5 k5 .byte (26 : Int32) [(.int (nar .byte (56 : Int32))), (.int (nar .byte (61 : Int32))), (.int (nar .byte (70 : Int32))), (.int (nar .byte (1 : Int32))), (.int (nar .byte (57 : Int32))), (.int (nar .byte (61 : Int32))), (.int (nar .byte (49 : Int32))), (.int (nar .byte (48 : Int32))), (.int (nar .byte (1 : Int32))), (.int (nar .byte (51 : Int32))), (.int (nar .byte (53 : Int32))), (.int (nar .byte (61 : Int32))), (.int (nar .byte (65 : Int32))), (.int (nar .byte (1 : Int32))), (.int (nar .byte (qa.toInt8.toInt32))), (.int (nar .byte (qb.toInt8.toInt32))), (.int (nar .byte (61 : Int32))), (.int (nar .byte ((nw.toInt32).toInt8.toInt32))), (.int (nar .byte (1 : Int32))), (.int (nar .byte (49 : Int32))), (.int (nar .byte (48 : Int32))), (.int (nar .byte (61 : Int32))), (.int (nar .byte (((48 : Int32) + ((nc.toInt32) / (100 : Int32))).toInt8.toInt32))), (.int (nar .byte (((48 : Int32) + (((nc.toInt32) / (10 : Int32)) % (10 : Int32))).toInt8.toInt32))), (.int (nar .byte (((48 : Int32) + ((nc.toInt32) % (10 : Int32))).toInt8.toInt32))), (.int (nar .byte (1 : Int32)))] (.int 0) := V39
      show Go p.tables e below P T39 (mkF m 286 #[vi wa, vi wb, vi wc, vi wd, vi (wa &&& (2147483647 : Int32)), vi (nb.toInt32), vi (nw.toInt32), vi (nt.toInt32), vi ch, vi fg, vi qa, vi qb, vi (nc.toInt32), vu, vu, vu, vu, vu, vu, vu] [(.ref b5)])
      refine g_astore X39 H at_286 rfl #[vi wa, vi wb, vi wc, vi wd, vi (wa &&& (2147483647 : Int32)), vi (nb.toInt32), vi (nw.toInt32), vi (nt.toInt32), vi ch, vi fg, vi qa, vi qb, vi (nc.toInt32), vr b5, vu, vu, vu, vu, vu, vu] rfl ?_
      show Go p.tables e below P T39 (mkF m 288 #[vi wa, vi wb, vi wc, vi wd, vi (wa &&& (2147483647 : Int32)), vi (nb.toInt32), vi (nw.toInt32), vi (nt.toInt32), vi ch, vi fg, vi qa, vi qb, vi (nc.toInt32), vr b5, vu, vu, vu, vu, vu, vu] [])
      obtain ⟨qv, hqv⟩ : ∃ z : Int32, z = (nar .byte ((nw.toInt32).toInt8.toInt32)) := ⟨_, rfl⟩
      obtain ⟨ya, hya⟩ : ∃ z : Int32, z = (nar .byte (((48 : Int32) + (nc.toInt32 / (100 : Int32))).toInt8.toInt32)) := ⟨_, rfl⟩
      obtain ⟨yb, hyb⟩ : ∃ z : Int32, z = (nar .byte (((48 : Int32) + ((nc.toInt32 / (10 : Int32)) % (10 : Int32))).toInt8.toInt32)) := ⟨_, rfl⟩
      obtain ⟨yc, hyc⟩ : ∃ z : Int32, z = (nar .byte (((48 : Int32) + (nc.toInt32 % (10 : Int32))).toInt8.toInt32)) := ⟨_, rfl⟩
      have VB : Arv Z T39.heap b5 k5 .byte (26 : Int32) (bll qa qb qv ya yb yc) (.int 0) := by
        have q := Vt39
        rw [show nar .byte (qa.toInt8.toInt32) = qa from hqa ▸ own_n8 _ (by omega), show nar .byte (qb.toInt8.toInt32) = qb from hqb ▸ own_n8 _ (by omega), own_n1, own_n48, own_n49, own_n51, own_n53, own_n56, own_n57, own_n61, own_n65, own_n70, ← hqv, ← hya, ← hyb, ← hyc] at q
        exact q
      refine g_aload X39 H at_288 rfl rfl ?_
      have F45 := (B5.keep K39)
      refine g_cS X39 H hZ hml rfl hown rfl (rm1 l Z a0 hw [] b5 k5 qa qb qv ya yb yc cs fm och ou T39.heap n0 Z40 O44 P1 hcs P3 rfm P5 P6 P7 P8 nou VB F45 (own_lawp hnb hnw hnc hqa hqb hqv hya hyb hyc).1 (own_lawp hnb hnw hnc hqa hqb hqv hya hyb hyc).2.1 (own_lawp hnb hnw hnc hqa hqb hqv hya hyb hyc).2.2.1 (own_lawp hnb hnw hnc hqa hqb hqv hya hyb hyc).2.2.2.1 (own_lawp hnb hnw hnc hqa hqb hqv hya hyb hyc).2.2.2.2.1 (own_lawp hnb hnw hnc hqa hqb hqv hya hyb hyc).2.2.2.2.2.1 (own_lawp hnb hnw hnc hqa hqb hqv hya hyb hyc).2.2.2.2.2.2.1 (own_lawp hnb hnw hnc hqa hqb hqv hya hyb hyc).2.2.2.2.2.2.2.1 (own_lawp hnb hnw hnc hqa hqb hqv hya hyb hyc).2.2.2.2.2.2.2.2.1 (own_lawp hnb hnw hnc hqa hqb hqv hya hyb hyc).2.2.2.2.2.2.2.2.2) (own_g hw 2 rfl) (own_g hw 3 rfl) (own_g hw 4 rfl) (own_g hw 5 rfl) (by decide) own_pd18 at_290 rfl rfl rfl (W := 0) rfl (by decide) ?_
      intro _ T46 Lc46 X46 hQ46
      obtain ⟨om_46, ot_46, os_46, oe_46, o2_46, kt_46, ks_46, ke_46, k2_46, rfl, Nq46, K46, fr46_om, fr46_ot, fr46_os, fr46_oe, fr46_o2, u46_0, u46_1, u46_2, u46_3, u46_4, u46_5, u46_6, u46_7, u46_8⟩ := hQ46
      obtain ⟨lc46, Xh46, N46⟩ := own_hide X46 (Fr.app N39 Nq46)
      clear X46
      have ne47 := Nat.ne_of_lt (Nat.lt_of_lt_of_le F45.lt fr46_om)
      have g48 := Nat.le_trans Z40 fr46_om
      have sz49 := Nat.le_trans K41.1 fr46_om
      have ne50 := Nat.ne_of_lt (Nat.lt_of_lt_of_le F45.lt fr46_ot)
      have g51 := Nat.le_trans Z40 fr46_ot
      have sz52 := Nat.le_trans K41.1 fr46_ot
      have ne53 := Nat.ne_of_lt (Nat.lt_of_lt_of_le F45.lt fr46_os)
      have g54 := Nat.le_trans Z40 fr46_os
      have sz55 := Nat.le_trans K41.1 fr46_os
      have ne56 := Nat.ne_of_lt (Nat.lt_of_lt_of_le F45.lt fr46_oe)
      have g57 := Nat.le_trans Z40 fr46_oe
      have sz58 := Nat.le_trans K41.1 fr46_oe
      have ne59 := Nat.ne_of_lt (Nat.lt_of_lt_of_le F45.lt fr46_o2)
      have g60 := Nat.le_trans Z40 fr46_o2
      have sz61 := Nat.le_trans K41.1 fr46_o2
      have Z62 := Nat.le_trans Z40 K46.1
      have K63 := K41.trans K46 own_all0
      have Sf64 := Safe.keep K46 sf0 CR43.1 Sf42
      have CR65 := CHr.trans CR43 (CHr.keep K46 sf0 CR43.1)
      have O66 : Old Z n0 T46.heap := O44.keep K46 own_all0
      refine g_astore Xh46 H at_293 rfl #[vi wa, vi wb, vi wc, vi wd, vi (wa &&& (2147483647 : Int32)), vi (nb.toInt32), vi (nw.toInt32), vi (nt.toInt32), vi ch, vi fg, vi qa, vi qb, vi (nc.toInt32), vr b5, vr om_46, vu, vu, vu, vu, vu] rfl ?_
      obtain ⟨T67, h67, X67, e67, E67, A67, D67, -, st67⟩ := newO Xh46 hx hZ hown (own_g hw 144 rfl) (own_g hw 145 rfl) (own_g hw 146 rfl) rfl (g := (mkF m 295 #[vi wa, vi wb, vi wc, vi wd, vi (wa &&& (2147483647 : Int32)), vi (nb.toInt32), vi (nw.toInt32), vi (nt.toInt32), vi ch, vi fg, vi qa, vi qb, vi (nc.toInt32), vr b5, vr om_46, vu, vu, vu, vu, vu] [])) rfl (hb hby at_295) (by decide) (by decide)
      obtain ⟨b67, g67⟩ : ∃ z, z = T46.heap.size := ⟨_, rfl⟩
      rw [← g67] at A67 D67 st67
      refine gv st67 ?_
      have F69 := (F45.keep K46)
      have ne68 := Nat.ne_of_lt (Nat.lt_of_lt_of_le F69.lt (Nat.le_of_eq g67.symm))
      have ne70 := Nat.ne_of_lt (Nat.lt_of_lt_of_le u46_0.lt (Nat.le_of_eq g67.symm))
      have ne71 := Nat.ne_of_lt (Nat.lt_of_lt_of_le u46_5.lt (Nat.le_of_eq g67.symm))
      have ne72 := Nat.ne_of_lt (Nat.lt_of_lt_of_le u46_6.lt (Nat.le_of_eq g67.symm))
      have ne73 := Nat.ne_of_lt (Nat.lt_of_lt_of_le u46_7.lt (Nat.le_of_eq g67.symm))
      have ne74 := Nat.ne_of_lt (Nat.lt_of_lt_of_le u46_8.lt (Nat.le_of_eq g67.symm))
      have g75 := Nat.le_trans Z62 (Nat.le_of_eq g67.symm)
      have sz76 := Nat.le_trans K63.1 (Nat.le_of_eq g67.symm)
      have Z77 := Nat.le_trans Z62 E67.1
      have K78 := K63.ext E67
      have O79 : Old Z n0 h67 := O66.ext E67
      have CR80 := CHr.trans CR65 (CHr.ext E67 CR65.1)
      show Go p.tables e below P T67 (mkF m 298 #[vi wa, vi wb, vi wc, vi wd, vi (wa &&& (2147483647 : Int32)), vi (nb.toInt32), vi (nw.toInt32), vi (nt.toInt32), vi ch, vi fg, vi qa, vi qb, vi (nc.toInt32), vr b5, vr om_46, vu, vu, vu, vu, vu] [(.ref b67)])
      refine g_dup X67 H at_298 rfl ?_
      refine g_iload X67 H at_299 rfl ?_
      show Go p.tables e below P T67 (mkF m 301 #[vi wa, vi wb, vi wc, vi wd, vi (wa &&& (2147483647 : Int32)), vi (nb.toInt32), vi (nw.toInt32), vi (nt.toInt32), vi ch, vi fg, vi qa, vi qb, vi (nc.toInt32), vr b5, vr om_46, vu, vu, vu, vu, vu] [(.int fg), (.ref b67), (.ref b67)])
      obtain ⟨a81, T81, h81, kn81, b81, kb81, X81, e81, E81, hS81, hk81, hZ, hown, Ex81, Fc81, Fv81, Va81, lta81, ltb81, hC81, -, ne81, st81⟩ := ldcCH X67 hx hZ hown (own_g hw 147 rfl) (own_sa hw) e67 hS0 (Nat.zero_le _) (own_EW hw) (by decide : (("com/example/splitbook/splitbook/allocation/ConditionalFieldWhenStatedPinLaw", 16) : String × Nat) ∈ consts_1) CR80.1 (vs := [(.int 103)]) (z := (1 : Int32)) ⟨by decide, rfl⟩ (by decide) rfl (g := (mkF m 301 #[vi wa, vi wb, vi wc, vi wd, vi (wa &&& (2147483647 : Int32)), vi (nb.toInt32), vi (nw.toInt32), vi (nt.toInt32), vi ch, vi fg, vi qa, vi qb, vi (nc.toInt32), vr b5, vr om_46, vu, vu, vu, vu, vu] [(.int fg), (.ref b67), (.ref b67)])) rfl (hb hby at_301) (n := 4) (by decide) (by decide) (by decide) (by decide)
      refine gv st81 ?_
      have CR82 := CHr.trans CR80 hC81
      have Z83 := Nat.le_trans Z77 E81.1
      have K84 := K78.ext E81
      have O85 : Old Z n0 h81 := O79.ext E81
      have Vb81 : Arv Z h81 b81 kb81 .byte (own_lg ([(103 : Int32)] : List Int32)) (([(103 : Int32)] : List Int32).map Value.int) (.int 0) := by
        rw [show own_lg ([(103 : Int32)] : List Int32) = (1 : Int32) from rfl]; exact Va81
      have F86 := ((u46_0.ext E67).ext E81)
      have nq87 := (ne81 _ (Safe.exa hZ.alike F86 (by decide) (by decide))).1
      have nq88 := (ne81 _ (Safe.exa hZ.alike F86 (by decide) (by decide))).2
      have F89 := ((u46_5.ext E67).ext E81)
      have nq90 := (ne81 _ (Safe.arv hZ.alike F89 (by decide))).1
      have nq91 := (ne81 _ (Safe.arv hZ.alike F89 (by decide))).2
      have F92 := ((u46_6.ext E67).ext E81)
      have nq93 := (ne81 _ (Safe.arv hZ.alike F92 (by decide))).1
      have nq94 := (ne81 _ (Safe.arv hZ.alike F92 (by decide))).2
      have F95 := ((u46_7.ext E67).ext E81)
      have nq96 := (ne81 _ (Safe.arv hZ.alike F95 (by decide))).1
      have nq97 := (ne81 _ (Safe.arv hZ.alike F95 (by decide))).2
      have F98 := (A67.ext E81)
      have nq99 := (ne81 _ (Safe.exa hZ.alike F98 (by decide) (by decide))).1
      have nq100 := (ne81 _ (Safe.exa hZ.alike F98 (by decide) (by decide))).2
      show Go p.tables e below P T81 (mkF m 303 #[vi wa, vi wb, vi wc, vi wd, vi (wa &&& (2147483647 : Int32)), vi (nb.toInt32), vi (nw.toInt32), vi (nt.toInt32), vi ch, vi fg, vi qa, vi qb, vi (nc.toInt32), vr b5, vr om_46, vu, vu, vu, vu, vu] [(.ref a81), (.int fg), (.ref b67), (.ref b67)])
      have F101 := ((D67 (Or.inr (own_g hw 155 rfl)) (ty := .int) (by decide) : Fld Z h67 b67 FDn "tag" "I" (.int 0)).ext E81)
      have F102 := ((D67 (Or.inr (own_g hw 157 rfl)) (ty := (.object STn)) (by decide) : Fld Z h67 b67 FDn "name" "Ljava/lang/String;" .null).ext E81)
      refine g_cI X81 H hZ hml rfl hown e81 (rm27 l Z a0 hw [] b67 fg a81 h81 n0 Z83 F98 F101 F102 g75) (own_g hw 150 rfl) (own_g hw 151 rfl) (own_g hw 146 rfl) (own_g hw 152 rfl) (by decide) own_pd24 at_303 rfl rfl rfl rfl (W := 1) rfl (by decide) ?_
      intro _ T103 Lc103 X103 hQ103
      obtain ⟨rfl, Nq103, K103, u103_0, u103_1, u103_2⟩ := hQ103
      obtain ⟨lc103, Xh103, N103⟩ := own_hide X103 (Fr.app N46 Nq103)
      clear X103
      have Z104 := Nat.le_trans Z83 K103.1
      have K105 := K84.trans K103 (own_allC (Or.inr sz76) own_all0)
      have CR106 := CHr.trans CR82 (CHr.keep K103 (sfS (Safe.exa hZ.alike F98 (by decide) (by decide)) sf0) CR82.1)
      have hk107 := Nat.le_trans hk81 K103.1
      have O108 : Old Z n0 T103.heap := O85.keep K103 (own_allC g75 own_all0)
      refine g_astore Xh103 H at_306 rfl #[vi wa, vi wb, vi wc, vi wd, vi (wa &&& (2147483647 : Int32)), vi (nb.toInt32), vi (nw.toInt32), vi (nt.toInt32), vi ch, vi fg, vi qa, vi qb, vi (nc.toInt32), vr b5, vr om_46, vr b67, vu, vu, vu, vu] rfl ?_
      obtain ⟨T109, h109, X109, e109, E109, A109, D109, -, st109⟩ := newO Xh103 hx hZ hown (own_g hw 144 rfl) (own_g hw 145 rfl) (own_g hw 146 rfl) rfl (g := (mkF m 308 #[vi wa, vi wb, vi wc, vi wd, vi (wa &&& (2147483647 : Int32)), vi (nb.toInt32), vi (nw.toInt32), vi (nt.toInt32), vi ch, vi fg, vi qa, vi qb, vi (nc.toInt32), vr b5, vr om_46, vr b67, vu, vu, vu, vu] [])) rfl (hb hby at_308) (by decide) (by decide)
      obtain ⟨b109, g109⟩ : ∃ z, z = T103.heap.size := ⟨_, rfl⟩
      rw [← g109] at A109 D109 st109
      refine gv st109 ?_
      have F111 := (((F69.ext E67).ext E81).keep K103)
      have ne110 := Nat.ne_of_lt (Nat.lt_of_lt_of_le F111.lt (Nat.le_of_eq g109.symm))
      have F113 := (F86.keep K103)
      have ne112 := Nat.ne_of_lt (Nat.lt_of_lt_of_le F113.lt (Nat.le_of_eq g109.symm))
      have F115 := (F89.keep K103 (own_ninC ne71 own_nin0))
      have ne114 := Nat.ne_of_lt (Nat.lt_of_lt_of_le F115.lt (Nat.le_of_eq g109.symm))
      have F117 := (F92.keep K103 (own_ninC ne72 own_nin0))
      have ne116 := Nat.ne_of_lt (Nat.lt_of_lt_of_le F117.lt (Nat.le_of_eq g109.symm))
      have F119 := (F95.keep K103 (own_ninC ne73 own_nin0))
      have ne118 := Nat.ne_of_lt (Nat.lt_of_lt_of_le F119.lt (Nat.le_of_eq g109.symm))
      have F121 := (((u46_8.ext E67).ext E81).keep K103 (own_ninC ne74 own_nin0))
      have ne120 := Nat.ne_of_lt (Nat.lt_of_lt_of_le F121.lt (Nat.le_of_eq g109.symm))
      have ne122 := Nat.ne_of_lt (Nat.lt_of_lt_of_le u103_0.lt (Nat.le_of_eq g109.symm))
      have F124 := (Ex81.keep K103)
      have ne123 := Nat.ne_of_lt (Nat.lt_of_lt_of_le F124.lt (Nat.le_of_eq g109.symm))
      have F126 := (Vb81.keep K103 (own_ninC (Ne.symm nq100) own_nin0))
      have ne125 := Nat.ne_of_lt (Nat.lt_of_lt_of_le F126.lt (Nat.le_of_eq g109.symm))
      have g127 := Nat.le_trans Z104 (Nat.le_of_eq g109.symm)
      have sz128 := Nat.le_trans K105.1 (Nat.le_of_eq g109.symm)
      have Z129 := Nat.le_trans Z104 E109.1
      have K130 := K105.ext E109
      have O131 : Old Z n0 h109 := O108.ext E109
      have CR132 := CHr.trans CR106 (CHr.ext E109 CR106.1)
      have hk133 := Nat.le_trans hk107 E109.1
      show Go p.tables e below P T109 (mkF m 311 #[vi wa, vi wb, vi wc, vi wd, vi (wa &&& (2147483647 : Int32)), vi (nb.toInt32), vi (nw.toInt32), vi (nt.toInt32), vi ch, vi fg, vi qa, vi qb, vi (nc.toInt32), vr b5, vr om_46, vr b67, vu, vu, vu, vu] [(.ref b109)])
      refine g_dup X109 H at_311 rfl ?_
      refine g_iload X109 H at_312 rfl ?_
      refine g_iload X109 H at_314 rfl ?_
      refine g_cS X109 H hZ hml rfl hown e109 (rm28 l Z a0 hw [] ch cs h109 n0 Z129 O131 P1 hcs (own_b255 hcb)) (own_g hw 158 rfl) (own_g hw 159 rfl) (own_g hw 85 rfl) (own_g hw 160 rfl) (by decide) own_pd45 at_316 rfl rfl rfl (W := 3) rfl (by decide) ?_
      intro _ T134 Lc134 X134 hQ134
      obtain ⟨r_134, tb_134, kk_134, rfl, Nq134, K134, fr134_r, fr134_tb, u134_0, u134_1, u134_2, u134_3, u134_4⟩ := hQ134
      obtain ⟨lc134, Xh134, N134⟩ := own_hide X134 (Fr.app N103 Nq134)
      clear X134
      have F136 := (F111.ext E109)
      have ne135 := Nat.ne_of_lt (Nat.lt_of_lt_of_le F136.lt fr134_r)
      have F138 := (F113.ext E109)
      have ne137 := Nat.ne_of_lt (Nat.lt_of_lt_of_le F138.lt fr134_r)
      have F140 := (F115.ext E109)
      have ne139 := Nat.ne_of_lt (Nat.lt_of_lt_of_le F140.lt fr134_r)
      have F142 := (F117.ext E109)
      have ne141 := Nat.ne_of_lt (Nat.lt_of_lt_of_le F142.lt fr134_r)
      have F144 := (F119.ext E109)
      have ne143 := Nat.ne_of_lt (Nat.lt_of_lt_of_le F144.lt fr134_r)
      have F146 := (F121.ext E109)
      have ne145 := Nat.ne_of_lt (Nat.lt_of_lt_of_le F146.lt fr134_r)
      have F148 := (u103_0.ext E109)
      have ne147 := Nat.ne_of_lt (Nat.lt_of_lt_of_le F148.lt fr134_r)
      have F150 := (F124.ext E109)
      have ne149 := Nat.ne_of_lt (Nat.lt_of_lt_of_le F150.lt fr134_r)
      have F152 := (F126.ext E109)
      have ne151 := Nat.ne_of_lt (Nat.lt_of_lt_of_le F152.lt fr134_r)
      have ne153 := Nat.ne_of_lt (Nat.lt_of_lt_of_le A109.lt fr134_r)
      have g154 := Nat.le_trans Z129 fr134_r
      have sz155 := Nat.le_trans K130.1 fr134_r
      have ne156 := Nat.ne_of_lt (Nat.lt_of_lt_of_le F136.lt fr134_tb)
      have ne157 := Nat.ne_of_lt (Nat.lt_of_lt_of_le F138.lt fr134_tb)
      have ne158 := Nat.ne_of_lt (Nat.lt_of_lt_of_le F140.lt fr134_tb)
      have ne159 := Nat.ne_of_lt (Nat.lt_of_lt_of_le F142.lt fr134_tb)
      have ne160 := Nat.ne_of_lt (Nat.lt_of_lt_of_le F144.lt fr134_tb)
      have ne161 := Nat.ne_of_lt (Nat.lt_of_lt_of_le F146.lt fr134_tb)
      have ne162 := Nat.ne_of_lt (Nat.lt_of_lt_of_le F148.lt fr134_tb)
      have ne163 := Nat.ne_of_lt (Nat.lt_of_lt_of_le F150.lt fr134_tb)
      have ne164 := Nat.ne_of_lt (Nat.lt_of_lt_of_le F152.lt fr134_tb)
      have ne165 := Nat.ne_of_lt (Nat.lt_of_lt_of_le A109.lt fr134_tb)
      have g166 := Nat.le_trans Z129 fr134_tb
      have sz167 := Nat.le_trans K130.1 fr134_tb
      have Z168 := Nat.le_trans Z129 K134.1
      have K169 := K130.trans K134 own_all0
      have CR170 := CHr.trans CR132 (CHr.keep K134 sf0 CR132.1)
      have hk171 := Nat.le_trans hk133 K134.1
      have O172 : Old Z n0 T134.heap := O131.keep K134 own_all0
      have VC : Arv Z T134.heap tb_134 kk_134 .byte (own_lg ([(ch.toInt8.toInt32)] : List Int32)) (([(ch.toInt8.toInt32)] : List Int32).map Value.int) (.int 0) := by
        have q := u134_3
        rw [own_nb8] at q; exact q
      show Go p.tables e below P T134 (mkF m 319 #[vi wa, vi wb, vi wc, vi wd, vi (wa &&& (2147483647 : Int32)), vi (nb.toInt32), vi (nw.toInt32), vi (nt.toInt32), vi ch, vi fg, vi qa, vi qb, vi (nc.toInt32), vr b5, vr om_46, vr b67, vu, vu, vu, vu] [(.ref r_134), (.int (nt.toInt32)), (.ref b109), (.ref b109)])
      have F173 := (A109.keep K134)
      have F174 := ((D109 (Or.inr (own_g hw 155 rfl)) (ty := .int) (by decide) : Fld Z h109 b109 FDn "tag" "I" (.int 0)).keep K134 own_nin0)
      have F175 := ((D109 (Or.inr (own_g hw 157 rfl)) (ty := (.object STn)) (by decide) : Fld Z h109 b109 FDn "name" "Ljava/lang/String;" .null).keep K134 own_nin0)
      refine g_cI Xh134 H hZ hml rfl hown rfl (rm27 l Z a0 hw [] b109 (nt.toInt32) r_134 T134.heap n0 Z168 F173 F174 F175 g127) (own_g hw 150 rfl) (own_g hw 151 rfl) (own_g hw 146 rfl) (own_g hw 152 rfl) (by decide) own_pd24 at_319 rfl rfl rfl rfl (W := 1) rfl (by decide) ?_
      intro _ T176 Lc176 X176 hQ176
      obtain ⟨rfl, Nq176, K176, u176_0, u176_1, u176_2⟩ := hQ176
      obtain ⟨lc176, Xh176, N176⟩ := own_hide X176 (Fr.app N134 Nq176)
      clear X176
      have Z177 := Nat.le_trans Z168 K176.1
      have K178 := K169.trans K176 (own_allC (Or.inr sz128) own_all0)
      have CR179 := CHr.trans CR170 (CHr.keep K176 (sfS (Safe.exa hZ.alike F173 (by decide) (by decide)) sf0) CR170.1)
      have hk180 := Nat.le_trans hk171 K176.1
      have O181 : Old Z n0 T176.heap := O172.keep K176 (own_allC g127 own_all0)
      refine g_astore Xh176 H at_322 rfl #[vi wa, vi wb, vi wc, vi wd, vi (wa &&& (2147483647 : Int32)), vi (nb.toInt32), vi (nw.toInt32), vi (nt.toInt32), vi ch, vi fg, vi qa, vi qb, vi (nc.toInt32), vr b5, vr om_46, vr b67, vr b109, vu, vu, vu] rfl ?_
      refine g_aload Xh176 H at_324 rfl rfl ?_
      refine g_aload Xh176 H at_326 rfl rfl ?_
      refine g_cS Xh176 H hZ hml rfl hown rfl (rm32 l Z a0 hw [] b67 b109 oz T176.heap n0 Z177 O181 P14) (own_g hw 172 rfl) (own_g hw 173 rfl) (own_g hw 174 rfl) (own_g hw 175 rfl) (by decide) own_pd46 at_328 rfl rfl rfl (W := 0) rfl (by decide) ?_
      intro _ T182 Lc182 X182 hQ182
      obtain ⟨oa_182, rfl, Nq182, K182, fr182_oa, u182_0, u182_1, u182_2, u182_3, u182_4⟩ := hQ182
      obtain ⟨lc182, Xh182, N182⟩ := own_hide X182 (Fr.app N176 Nq182)
      clear X182
      have F184 := ((F136.keep K134).keep K176)
      have ne183 := Nat.ne_of_lt (Nat.lt_of_lt_of_le F184.lt fr182_oa)
      have F186 := ((F138.keep K134).keep K176)
      have ne185 := Nat.ne_of_lt (Nat.lt_of_lt_of_le F186.lt fr182_oa)
      have F188 := ((F140.keep K134 own_nin0).keep K176 (own_ninC ne114 own_nin0))
      have ne187 := Nat.ne_of_lt (Nat.lt_of_lt_of_le F188.lt fr182_oa)
      have F190 := ((F142.keep K134 own_nin0).keep K176 (own_ninC ne116 own_nin0))
      have ne189 := Nat.ne_of_lt (Nat.lt_of_lt_of_le F190.lt fr182_oa)
      have F192 := ((F144.keep K134 own_nin0).keep K176 (own_ninC ne118 own_nin0))
      have ne191 := Nat.ne_of_lt (Nat.lt_of_lt_of_le F192.lt fr182_oa)
      have F194 := ((F146.keep K134 own_nin0).keep K176 (own_ninC ne120 own_nin0))
      have ne193 := Nat.ne_of_lt (Nat.lt_of_lt_of_le F194.lt fr182_oa)
      have F196 := ((F148.keep K134).keep K176)
      have ne195 := Nat.ne_of_lt (Nat.lt_of_lt_of_le F196.lt fr182_oa)
      have F198 := ((F150.keep K134).keep K176)
      have ne197 := Nat.ne_of_lt (Nat.lt_of_lt_of_le F198.lt fr182_oa)
      have F200 := ((F152.keep K134 own_nin0).keep K176 (own_ninC ne125 own_nin0))
      have ne199 := Nat.ne_of_lt (Nat.lt_of_lt_of_le F200.lt fr182_oa)
      have ne201 := Nat.ne_of_lt (Nat.lt_of_lt_of_le u176_0.lt fr182_oa)
      have F203 := (u134_0.keep K176)
      have ne202 := Nat.ne_of_lt (Nat.lt_of_lt_of_le F203.lt fr182_oa)
      have F205 := (VC.keep K176 (own_ninC (Ne.symm ne165) own_nin0))
      have ne204 := Nat.ne_of_lt (Nat.lt_of_lt_of_le F205.lt fr182_oa)
      have g206 := Nat.le_trans Z177 fr182_oa
      have sz207 := Nat.le_trans K178.1 fr182_oa
      have Z208 := Nat.le_trans Z177 K182.1
      have K209 := K178.trans K182 own_all0
      have CR210 := CHr.trans CR179 (CHr.keep K182 sf0 CR179.1)
      have hk211 := Nat.le_trans hk180 K182.1
      have O212 : Old Z n0 T182.heap := O181.keep K182 own_all0
      refine g_astore Xh182 H at_331 rfl #[vi wa, vi wb, vi wc, vi wd, vi (wa &&& (2147483647 : Int32)), vi (nb.toInt32), vi (nw.toInt32), vi (nt.toInt32), vi ch, vi fg, vi qa, vi qb, vi (nc.toInt32), vr b5, vr om_46, vr b67, vr b109, vr oa_182, vu, vu] rfl ?_
      refine g_aload Xh182 H at_333 rfl rfl ?_
      refine g_cV Xh182 H hZ hml rfl hown rfl u182_0 (rm35 l Z a0 hw [] oa_182 b67 T182.heap n0 Z208 u182_1) (own_g hw 196 rfl) (own_g hw 197 rfl) (notFace_of_selects (args := #[]) (mvT hZ (own_g hw 199 rfl))) (own_g hw 199 rfl) (own_g hw 198 rfl) (own_g hw 174 rfl) (own_g hw 200 rfl) (by decide) own_pd47 at_335 rfl rfl rfl (W := 0) rfl (by decide) ?_
      intro _ T213 Lc213 X213 hQ213
      obtain ⟨rfl, Nq213, hh213⟩ := hQ213
      obtain ⟨lc213, Xh213, N213⟩ := own_hide X213 (Fr.app N182 Nq213)
      clear X213
      refine g_aload Xh213 H at_338 rfl rfl ?_
      show Go p.tables e below P T213 (mkF m 340 #[vi wa, vi wb, vi wc, vi wd, vi (wa &&& (2147483647 : Int32)), vi (nb.toInt32), vi (nw.toInt32), vi (nt.toInt32), vi ch, vi fg, vi qa, vi qb, vi (nc.toInt32), vr b5, vr om_46, vr b67, vr b109, vr oa_182, vu, vu] [(.ref b67), (.ref b67)])
      refine gv (fun t k => Jvm.RoadKit.acmp (g := (mkF m 340 #[vi wa, vi wb, vi wc, vi wd, vi (wa &&& (2147483647 : Int32)), vi (nb.toInt32), vi (nw.toInt32), vi (nt.toInt32), vi ch, vi fg, vi qa, vi qb, vi (nc.toInt32), vr b5, vr om_46, vr b67, vr b109, vr oa_182, vu, vu] [(.ref b67), (.ref b67)])) Xh213 hx rfl rfl rfl (pc0 := 340) (pc' := 345) (same := true) rfl (hb hby at_340) rfl (decide_eq_true rfl) (by decide) (by decide) k) ?_
      show Go p.tables e below P T213 (mkF m 345 #[vi wa, vi wb, vi wc, vi wd, vi (wa &&& (2147483647 : Int32)), vi (nb.toInt32), vi (nw.toInt32), vi (nt.toInt32), vi ch, vi fg, vi qa, vi qb, vi (nc.toInt32), vr b5, vr om_46, vr b67, vr b109, vr oa_182, vu, vu] [])
      refine g_aload Xh213 H at_345 rfl rfl ?_
      refine g_aload Xh213 H at_347 rfl rfl ?_
      show Go p.tables e below P T213 (mkF m 349 #[vi wa, vi wb, vi wc, vi wd, vi (wa &&& (2147483647 : Int32)), vi (nb.toInt32), vi (nw.toInt32), vi (nt.toInt32), vi ch, vi fg, vi qa, vi qb, vi (nc.toInt32), vr b5, vr om_46, vr b67, vr b109, vr oa_182, vu, vu] [(.ref om_46), (.ref oa_182)])
      rcases own_pres (nt := nt) hnb hqa hqb with ⟨hpr, ii, hii, hfx⟩ | ⟨hpr, hfx⟩
      · show Go p.tables e below P T213 (mkF m 349 #[vi wa, vi wb, vi wc, vi wd, vi (wa &&& (2147483647 : Int32)), vi (nb.toInt32), vi (nw.toInt32), vi (nt.toInt32), vi ch, vi fg, vi qa, vi qb, vi (nc.toInt32), vr b5, vr om_46, vr b67, vr b109, vr oa_182, vu, vu] [(.ref om_46), (.ref oa_182)])
        have F214 := (u176_0.keep K182)
        have F215 := (u176_1.keep K182 own_nin0)
        have F216 := (u176_2.keep K182 own_nin0)
        have F217 := (F203.keep K182)
        have F218 := ((u134_1.keep K176 (own_ninC (Ne.symm ne153) own_nin0)).keep K182 own_nin0)
        have F219 := ((u134_2.keep K176 (own_ninC (Ne.symm ne153) own_nin0)).keep K182 own_nin0)
        have F220 := (F205.keep K182 own_nin0)
        have F221 := (F186.keep K182)
        have F222 := (((((((u46_1.ext E67).ext E81).keep K103 (own_ninC ne70 own_nin0)).ext E109).keep K134 own_nin0).keep K176 (own_ninC ne112 own_nin0)).keep K182 own_nin0)
        have F223 := (((((((u46_2.ext E67).ext E81).keep K103 (own_ninC ne70 own_nin0)).ext E109).keep K134 own_nin0).keep K176 (own_ninC ne112 own_nin0)).keep K182 own_nin0)
        have F224 := (((((((u46_3.ext E67).ext E81).keep K103 (own_ninC ne70 own_nin0)).ext E109).keep K134 own_nin0).keep K176 (own_ninC ne112 own_nin0)).keep K182 own_nin0)
        have F225 := (((((((u46_4.ext E67).ext E81).keep K103 (own_ninC ne70 own_nin0)).ext E109).keep K134 own_nin0).keep K176 (own_ninC ne112 own_nin0)).keep K182 own_nin0)
        have F226 := (F188.keep K182 own_nin0)
        have F227 := (F190.keep K182 own_nin0)
        have F228 := (F192.keep K182 own_nin0)
        have F229 := (F194.keep K182 own_nin0)
        obtain ⟨cq230, kq230, q230a, q230b, q230c⟩ := isOf hZ hh213 u182_0
        obtain ⟨_, _, ⟨T230, L230, k230, n230⟩, -, X230, hSn230, hgn230, ⟨Lc230, hQ230, l230, y230, z230, hC230⟩, st230⟩ := Xh213.virtualBackS hx (y := (⟨CFn, "conditionMetIn", "(Lcom/example/splitbook/splitbook/tagvalue/TagValueMessage;)Ljava/lang/String;"⟩ : MethodName)) (z := (⟨CFn, "conditionMetIn", "(Lcom/example/splitbook/splitbook/tagvalue/TagValueMessage;)Ljava/lang/String;"⟩ : MethodName)) hown (mvT hZ (own_g hw 201 rfl)) (mvT hZ (own_g hw 202 rfl)) (notFace_of_selects (args := #[]) (mvT hZ (own_g hw 204 rfl))) (mvT hZ (own_g hw 204 rfl)) (mvT hZ (own_g hw 203 rfl)) (by decide) (backOfSH (W := 0) (rm36 l Z a0 hw [] oa_182 oz ii om_46 o2_46 os_46 oe_46 k2_46 ks_46 ke_46 ot_46 kt_46 b109 nt r_134 tb_134 kk_134 ([(ch.toInt8.toInt32)] : List Int32) o1 o2 k1d k2d qa qb qv ya yb yc cs fm och ou T182.heap n0 Z208 O212 P1 hcs P3 rfm P5 P6 P7 P8 nou P10 P11 P12 P13 P15 P16 u182_0 u182_2 u182_3 u182_4 F214 F215 F216 F217 F218 F219 F220 rfl hnt F221 F222 F223 F224 F225 F226 F227 F228 F229 hfx hii) hZ (own_g hw 205 rfl) (own_g hw 174 rfl) (by decide) (by decide) (own_EW hw) CR210.1) q230a q230c (g := (mkF m 349 #[vi wa, vi wb, vi wc, vi wd, vi (wa &&& (2147483647 : Int32)), vi (nb.toInt32), vi (nw.toInt32), vi (nt.toInt32), vi ch, vi fg, vi qa, vi qb, vi (nc.toInt32), vr b5, vr om_46, vr b67, vr b109, vr oa_182, vu, vu] [(.ref om_46), (.ref oa_182)])) rfl (by rw [hml]; rfl) (Steps.refl _) (argsL := [(.ref om_46)]) (rest := []) (lenOf own_pd38 rfl) rfl (by show 2 * 0 + _ ≤ _; exact Nat.le_of_eq rfl) (hb hby at_349) (fun _ _ => ⟨rfl, hh213, (by decide : 15 + 16 ≤ _), (by decide : 122 + 174 ≤ _)⟩)
        dsimp only [Pt.U, Pt.locs, Pt.cells, Pt.slots] at X230 l230 y230 z230 st230 hQ230 hSn230 hgn230 hC230
        subst l230 y230 z230
        have hS230 : s.Since T230.vm T230.heap.size := foldS hS81 (by rw [hh213]; exact hk211) hSn230 hgn230
        have X230 : Stand p l e room_1 (s.setVm T230.vm) m #[(.int wa), (.int wb), (.int wc), (.int wd)] below meth c T230 _ _ _ := X230
        have hown : (s.setVm T230.vm).vm.findClass "com/example/splitbook/splitbook/allocation/ConditionalFieldWhenStatedPinLaw" = some m.cls := by rw [show (s.setVm T230.vm).vm = T230.vm from rfl, hSn230.1.alike.findClass]; exact hown
        have hZ : Z.Warmed39 (s.setVm T230.vm).vm := State.Warmed39.trans (t := s.setVm T81.vm) hZ hSn230.1
        obtain ⟨r_230, oc_230, kc_230, rfl, Nq230, K230, fr230_r, fr230_oc, u230_0, u230_1, u230_2, u230_3⟩ := hQ230
        obtain ⟨lc230, Xh230, N230⟩ := own_hide X230 (Fr.app N213 Nq230)
        clear X230
        refine Go.hop st230 ?_
        have CR231 := CHr.trans CR210 hC230
        have F233 := (F184.keep K182)
        have ne232 := Nat.ne_of_lt (Nat.lt_of_lt_of_le F233.lt fr230_r)
        have ne234 := Nat.ne_of_lt (Nat.lt_of_lt_of_le F221.lt fr230_r)
        have ne235 := Nat.ne_of_lt (Nat.lt_of_lt_of_le F226.lt fr230_r)
        have ne236 := Nat.ne_of_lt (Nat.lt_of_lt_of_le F227.lt fr230_r)
        have ne237 := Nat.ne_of_lt (Nat.lt_of_lt_of_le F228.lt fr230_r)
        have ne238 := Nat.ne_of_lt (Nat.lt_of_lt_of_le F229.lt fr230_r)
        have F240 := (F196.keep K182)
        have ne239 := Nat.ne_of_lt (Nat.lt_of_lt_of_le F240.lt fr230_r)
        have F242 := (F198.keep K182)
        have ne241 := Nat.ne_of_lt (Nat.lt_of_lt_of_le F242.lt fr230_r)
        have F244 := (F200.keep K182 own_nin0)
        have ne243 := Nat.ne_of_lt (Nat.lt_of_lt_of_le F244.lt fr230_r)
        have ne245 := Nat.ne_of_lt (Nat.lt_of_lt_of_le F214.lt fr230_r)
        have ne246 := Nat.ne_of_lt (Nat.lt_of_lt_of_le F217.lt fr230_r)
        have ne247 := Nat.ne_of_lt (Nat.lt_of_lt_of_le F220.lt fr230_r)
        have ne248 := Nat.ne_of_lt (Nat.lt_of_lt_of_le u182_0.lt fr230_r)
        have g249 := Nat.le_trans Z208 fr230_r
        have sz250 := Nat.le_trans K209.1 fr230_r
        have ne251 := Nat.ne_of_lt (Nat.lt_of_lt_of_le F233.lt fr230_oc)
        have ne252 := Nat.ne_of_lt (Nat.lt_of_lt_of_le F221.lt fr230_oc)
        have ne253 := Nat.ne_of_lt (Nat.lt_of_lt_of_le F226.lt fr230_oc)
        have ne254 := Nat.ne_of_lt (Nat.lt_of_lt_of_le F227.lt fr230_oc)
        have ne255 := Nat.ne_of_lt (Nat.lt_of_lt_of_le F228.lt fr230_oc)
        have ne256 := Nat.ne_of_lt (Nat.lt_of_lt_of_le F229.lt fr230_oc)
        have ne257 := Nat.ne_of_lt (Nat.lt_of_lt_of_le F240.lt fr230_oc)
        have ne258 := Nat.ne_of_lt (Nat.lt_of_lt_of_le F242.lt fr230_oc)
        have ne259 := Nat.ne_of_lt (Nat.lt_of_lt_of_le F244.lt fr230_oc)
        have ne260 := Nat.ne_of_lt (Nat.lt_of_lt_of_le F214.lt fr230_oc)
        have ne261 := Nat.ne_of_lt (Nat.lt_of_lt_of_le F217.lt fr230_oc)
        have ne262 := Nat.ne_of_lt (Nat.lt_of_lt_of_le F220.lt fr230_oc)
        have ne263 := Nat.ne_of_lt (Nat.lt_of_lt_of_le u182_0.lt fr230_oc)
        have g264 := Nat.le_trans Z208 fr230_oc
        have sz265 := Nat.le_trans K209.1 fr230_oc
        have Z266 := Nat.le_trans Z208 K230.1
        have K267 := K209.trans K230 own_all0
        have O268 : Old Z n0 T230.heap := O212.keep K230 own_all0
        have hk269 : T230.heap.size ≤ T230.heap.size := Nat.le_refl _
        clear hfx
        show Go p.tables e below P T230 (mkF m 352 #[vi wa, vi wb, vi wc, vi wd, vi (wa &&& (2147483647 : Int32)), vi (nb.toInt32), vi (nw.toInt32), vi (nt.toInt32), vi ch, vi fg, vi qa, vi qb, vi (nc.toInt32), vr b5, vr om_46, vr b67, vr b109, vr oa_182, vu, vu] [(.ref r_230)])
        refine g_astore Xh230 H at_352 rfl #[vi wa, vi wb, vi wc, vi wd, vi (wa &&& (2147483647 : Int32)), vi (nb.toInt32), vi (nw.toInt32), vi (nt.toInt32), vi ch, vi fg, vi qa, vi qb, vi (nc.toInt32), vr b5, vr om_46, vr b67, vr b109, vr oa_182, vr r_230, vu] rfl ?_
        refine g_iload Xh230 H at_354 rfl ?_
        refine g_bipush Xh230 H at_356 8 rfl ?_
        show Go p.tables e below P T230 (mkF m 358 #[vi wa, vi wb, vi wc, vi wd, vi (wa &&& (2147483647 : Int32)), vi (nb.toInt32), vi (nw.toInt32), vi (nt.toInt32), vi ch, vi fg, vi qa, vi qb, vi (nc.toInt32), vr b5, vr om_46, vr b67, vr b109, vr oa_182, vr r_230, vu] [(.int 8), (.int (nt.toInt32))])
        have J271 : ∀ (T271 : State) (locs271 : List Loc) (v271_0 : Int32), Stand p l e room_1 (s.setVm T230.vm) m #[(.int wa), (.int wb), (.int wc), (.int wd)] below meth c T271 locs271 31 296 → T271.heap = T230.heap → Fr n0 locs271 → v271_0 = (if (nt.toInt32) = (8 : Int32) then (1 : Int32) else (if (nt.toInt32) = (9 : Int32) then (1 : Int32) else (if (nt.toInt32) = (35 : Int32) then (1 : Int32) else (if (nt.toInt32) = (10 : Int32) then (1 : Int32) else (if (nt.toInt32) = (nb.toInt32) then (1 : Int32) else (0 : Int32)))))) → Go p.tables e below P T271 (mkF m 394 #[.val (.int wa), .val (.int wb), .val (.int wc), .val (.int wd), .val (.int (wa &&& (2147483647 : Int32))), .val (.int (nb.toInt32)), .val (.int (nw.toInt32)), .val (.int (nt.toInt32)), .val (.int ch), .val (.int fg), .val (.int qa), .val (.int qb), .val (.int (nc.toInt32)), .val (.ref b5), .val (.ref om_46), .val (.ref b67), .val (.ref b109), .val (.ref oa_182), .val (.ref r_230), .unset] [(.int v271_0)]) := by
          intro T271 locs271 v271_0 X271 e271 N271 hv271_0
          have hbv271_0 : v271_0 = 0 ∨ v271_0 = 1 := by (subst hv271_0; (repeat' split) <;> first | (left; rfl) | (right; rfl))
          obtain rfl : v271_0 = (1 : Int32) := hv271_0.trans (own_if5 hpr)
          show Go p.tables e below P T271 (mkF m 394 #[vi wa, vi wb, vi wc, vi wd, vi (wa &&& (2147483647 : Int32)), vi (nb.toInt32), vi (nw.toInt32), vi (nt.toInt32), vi ch, vi fg, vi qa, vi qb, vi (nc.toInt32), vr b5, vr om_46, vr b67, vr b109, vr oa_182, vr r_230, vu] [(.int 1)])
          refine g_istore X271 H at_394 #[vi wa, vi wb, vi wc, vi wd, vi (wa &&& (2147483647 : Int32)), vi (nb.toInt32), vi (nw.toInt32), vi (nt.toInt32), vi ch, vi fg, vi qa, vi qb, vi (nc.toInt32), vr b5, vr om_46, vr b67, vr b109, vr oa_182, vr r_230, vi 1] rfl ?_
          refine g_iload X271 H at_396 rfl ?_
          refine g_ifYes X271 H at_398 412 ((if0 _ _).trans (feq (by decide : ¬ ((1 : Int32) = (0 : Int32)))).2) (by decide) ?_
          refine g_aload X271 H at_412 rfl rfl ?_
          show Go p.tables e below P T271 (mkF m 414 #[vi wa, vi wb, vi wc, vi wd, vi (wa &&& (2147483647 : Int32)), vi (nb.toInt32), vi (nw.toInt32), vi (nt.toInt32), vi ch, vi fg, vi qa, vi qb, vi (nc.toInt32), vr b5, vr om_46, vr b67, vr b109, vr oa_182, vr r_230, vi 1] [(.ref r_230)])
          refine gv (fun t k => XS.ifnullNo X271.here hx rfl (hb hby at_414) rfl k) ?_
          show Go p.tables e below P T271 (mkF m 417 #[vi wa, vi wb, vi wc, vi wd, vi (wa &&& (2147483647 : Int32)), vi (nb.toInt32), vi (nw.toInt32), vi (nt.toInt32), vi ch, vi fg, vi qa, vi qb, vi (nc.toInt32), vr b5, vr om_46, vr b67, vr b109, vr oa_182, vr r_230, vi 1] [])
          refine g_aload X271 H at_417 rfl rfl ?_
          refine g_iload X271 H at_419 rfl ?_
          refine g_iload X271 H at_421 rfl ?_
          refine g_cS X271 H hZ hml rfl hown e271 (rm62 l Z a0 hw [] ch nt cs T230.heap n0 Z266 O268 P1 hcs hcb hnt) (own_g hw 353 rfl) (own_g hw 354 rfl) (own_g hw 355 rfl) (own_g hw 356 rfl) (by decide) own_pd48 at_423 rfl rfl rfl (W := 1) rfl (by decide) ?_
          intro _ T272 Lc272 X272 hQ272
          obtain ⟨r_272, oc_272, kc_272, rfl, Nq272, K272, fr272_r, fr272_oc, u272_0, u272_1, u272_2, u272_3⟩ := hQ272
          obtain ⟨lc272, Xh272, N272⟩ := own_hide X272 (Fr.app N271 Nq272)
          clear X272
          have F274 := (F233.keep K230)
          have ne273 := Nat.ne_of_lt (Nat.lt_of_lt_of_le F274.lt fr272_r)
          have F276 := (F221.keep K230)
          have ne275 := Nat.ne_of_lt (Nat.lt_of_lt_of_le F276.lt fr272_r)
          have F278 := (F226.keep K230 own_nin0)
          have ne277 := Nat.ne_of_lt (Nat.lt_of_lt_of_le F278.lt fr272_r)
          have F280 := (F227.keep K230 own_nin0)
          have ne279 := Nat.ne_of_lt (Nat.lt_of_lt_of_le F280.lt fr272_r)
          have F282 := (F228.keep K230 own_nin0)
          have ne281 := Nat.ne_of_lt (Nat.lt_of_lt_of_le F282.lt fr272_r)
          have F284 := (F229.keep K230 own_nin0)
          have ne283 := Nat.ne_of_lt (Nat.lt_of_lt_of_le F284.lt fr272_r)
          have F286 := (F240.keep K230)
          have ne285 := Nat.ne_of_lt (Nat.lt_of_lt_of_le F286.lt fr272_r)
          have F288 := (F242.keep K230)
          have ne287 := Nat.ne_of_lt (Nat.lt_of_lt_of_le F288.lt fr272_r)
          have F290 := (F244.keep K230 own_nin0)
          have ne289 := Nat.ne_of_lt (Nat.lt_of_lt_of_le F290.lt fr272_r)
          have F292 := (F214.keep K230)
          have ne291 := Nat.ne_of_lt (Nat.lt_of_lt_of_le F292.lt fr272_r)
          have F294 := (F217.keep K230)
          have ne293 := Nat.ne_of_lt (Nat.lt_of_lt_of_le F294.lt fr272_r)
          have F296 := (F220.keep K230 own_nin0)
          have ne295 := Nat.ne_of_lt (Nat.lt_of_lt_of_le F296.lt fr272_r)
          have F298 := (u182_0.keep K230)
          have ne297 := Nat.ne_of_lt (Nat.lt_of_lt_of_le F298.lt fr272_r)
          have ne299 := Nat.ne_of_lt (Nat.lt_of_lt_of_le u230_0.lt fr272_r)
          have ne300 := Nat.ne_of_lt (Nat.lt_of_lt_of_le u230_3.lt fr272_r)
          have g301 := Nat.le_trans Z266 fr272_r
          have sz302 := Nat.le_trans K267.1 fr272_r
          have ne303 := Nat.ne_of_lt (Nat.lt_of_lt_of_le F274.lt fr272_oc)
          have ne304 := Nat.ne_of_lt (Nat.lt_of_lt_of_le F276.lt fr272_oc)
          have ne305 := Nat.ne_of_lt (Nat.lt_of_lt_of_le F278.lt fr272_oc)
          have ne306 := Nat.ne_of_lt (Nat.lt_of_lt_of_le F280.lt fr272_oc)
          have ne307 := Nat.ne_of_lt (Nat.lt_of_lt_of_le F282.lt fr272_oc)
          have ne308 := Nat.ne_of_lt (Nat.lt_of_lt_of_le F284.lt fr272_oc)
          have ne309 := Nat.ne_of_lt (Nat.lt_of_lt_of_le F286.lt fr272_oc)
          have ne310 := Nat.ne_of_lt (Nat.lt_of_lt_of_le F288.lt fr272_oc)
          have ne311 := Nat.ne_of_lt (Nat.lt_of_lt_of_le F290.lt fr272_oc)
          have ne312 := Nat.ne_of_lt (Nat.lt_of_lt_of_le F292.lt fr272_oc)
          have ne313 := Nat.ne_of_lt (Nat.lt_of_lt_of_le F294.lt fr272_oc)
          have ne314 := Nat.ne_of_lt (Nat.lt_of_lt_of_le F296.lt fr272_oc)
          have ne315 := Nat.ne_of_lt (Nat.lt_of_lt_of_le F298.lt fr272_oc)
          have ne316 := Nat.ne_of_lt (Nat.lt_of_lt_of_le u230_0.lt fr272_oc)
          have ne317 := Nat.ne_of_lt (Nat.lt_of_lt_of_le u230_3.lt fr272_oc)
          have g318 := Nat.le_trans Z266 fr272_oc
          have sz319 := Nat.le_trans K267.1 fr272_oc
          have Z320 := Nat.le_trans Z266 K272.1
          have K321 := K267.trans K272 own_all0
          have CR322 := CHr.trans CR231 (CHr.keep K272 sf0 CR231.1)
          have hk323 := Nat.le_trans hk269 K272.1
          have O324 : Old Z n0 T272.heap := O268.keep K272 own_all0
          have F325 := (u230_0.keep K272)
          have F326 := (u230_1.keep K272 own_nin0)
          have F327 := (u230_2.keep K272 own_nin0)
          have F328 := (u230_3.keep K272 own_nin0)
          refine g_cV Xh272 H hZ hml rfl hown rfl F325 (rm68 l Z a0 hw [] r_230 r_272 cs oc_230 oc_272 kc_230 kc_272 (own_ps ([(ch.toInt8.toInt32)] : List Int32) nt) T272.heap n0 Z320 O324 P1 hcs F325 F326 F327 F328 u272_0 u272_1 u272_2 u272_3 (own_psl rfl nt) ne299) (own_g hw 375 rfl) (own_g hw 376 rfl) (notFace_of_selects (args := #[]) (mvT hZ (own_g hw 378 rfl))) (own_g hw 378 rfl) (own_g hw 377 rfl) (own_g hw 85 rfl) (own_g hw 379 rfl) (by decide) own_pd49 at_426 rfl rfl rfl (W := 0) rfl (by decide) ?_
          intro _ T329 Lc329 X329 hQ329
          obtain ⟨rfl, Nq329, hh329⟩ := hQ329
          obtain ⟨lc329, Xh329, N329⟩ := own_hide X329 (Fr.app N272 Nq329)
          clear X329
          refine g_ifNo Xh329 H at_429 ((if0 _ _).trans (feq (by decide : ¬ ((1 : Int32) = (0 : Int32)))).1) ?_
          refine g_iconst Xh329 H at_432 1 rfl ?_
          refine g_goto Xh329 H at_433 437 (by decide) ?_
          show Go p.tables e below P T329 (mkF m 437 #[vi wa, vi wb, vi wc, vi wd, vi (wa &&& (2147483647 : Int32)), vi (nb.toInt32), vi (nw.toInt32), vi (nt.toInt32), vi ch, vi fg, vi qa, vi qb, vi (nc.toInt32), vr b5, vr om_46, vr b67, vr b109, vr oa_182, vr r_230, vi 1] [(.int 1)])
          obtain ⟨fs, hr, hrun, hended, hend⟩ := Xh329.leaveW hS230 (by rw [hh329]; exact hk323) (v := some (.int 1)) (fun h => by rw [Bd.returns] at h; cases h)
          have hCf : CHr Z consts_1 s.vm s.heap (T329.setFrames fs).vm (T329.setFrames fs).heap := by
            rw [hh]
            show CHr Z consts_1 s.vm h0 T329.vm T329.heap
            rw [hh329]
            exact CHr.trans CR322 (CHv.at Xh329 hZ (own_EW hw) CR322.1)
          refine ⟨_, _, retZ Xh329 hx (t := .boolean) Bd.returns (by simp) (hb hby at_437) rfl hr, hrun, hended, hP _ _ ⟨_, _, rfl, ?_, hCf, own_rew hend (by decide) (by decide)⟩⟩
          show Q0 Z wa wb wc wd cs fm och ou oz o1 o2 k1d k2d h0 n0 _ T329.heap _
          rw [hh329]
          exact ⟨rfl, N329, K321⟩
        by_cases hc270 : (nt.toInt32) = (8 : Int32)
        · refine g_icmpYes Xh230 H at_358 389 (teq hc270).1 (by decide) ?_
          refine g_iconst Xh230 H at_389 1 rfl ?_
          refine g_goto Xh230 H at_390 394 (by decide) ?_
          exact J271 T230 _ (1 : Int32) (ownUp Xh230 (by decide) (by decide)) rfl N230 (if_pos hc270).symm
        · refine g_icmpNo Xh230 H at_358 (feq hc270).1 ?_
          refine g_iload Xh230 H at_361 rfl ?_
          refine g_bipush Xh230 H at_363 9 rfl ?_
          by_cases hc331 : (nt.toInt32) = (9 : Int32)
          · refine g_icmpYes Xh230 H at_365 389 (teq hc331).1 (by decide) ?_
            refine g_iconst Xh230 H at_389 1 rfl ?_
            refine g_goto Xh230 H at_390 394 (by decide) ?_
            exact J271 T230 _ (1 : Int32) (ownUp Xh230 (by decide) (by decide)) rfl N230 (Eq.trans (if_neg hc270) (if_pos hc331)).symm
          · refine g_icmpNo Xh230 H at_365 (feq hc331).1 ?_
            refine g_iload Xh230 H at_368 rfl ?_
            refine g_bipush Xh230 H at_370 35 rfl ?_
            by_cases hc332 : (nt.toInt32) = (35 : Int32)
            · refine g_icmpYes Xh230 H at_372 389 (teq hc332).1 (by decide) ?_
              refine g_iconst Xh230 H at_389 1 rfl ?_
              refine g_goto Xh230 H at_390 394 (by decide) ?_
              exact J271 T230 _ (1 : Int32) (ownUp Xh230 (by decide) (by decide)) rfl N230 (Eq.trans (Eq.trans (if_neg hc270) (if_neg hc331)) (if_pos hc332)).symm
            · refine g_icmpNo Xh230 H at_372 (feq hc332).1 ?_
              show Go p.tables e below P T230 (mkF m 375 #[vi wa, vi wb, vi wc, vi wd, vi (wa &&& (2147483647 : Int32)), vi (nb.toInt32), vi (nw.toInt32), vi (nt.toInt32), vi ch, vi fg, vi qa, vi qb, vi (nc.toInt32), vr b5, vr om_46, vr b67, vr b109, vr oa_182, vr r_230, vu] [])
              refine g_iload Xh230 H at_375 rfl ?_
              refine g_bipush Xh230 H at_377 10 rfl ?_
              by_cases hc333 : (nt.toInt32) = (10 : Int32)
              · refine g_icmpYes Xh230 H at_379 389 (teq hc333).1 (by decide) ?_
                refine g_iconst Xh230 H at_389 1 rfl ?_
                refine g_goto Xh230 H at_390 394 (by decide) ?_
                exact J271 T230 _ (1 : Int32) (ownUp Xh230 (by decide) (by decide)) rfl N230 (Eq.trans (Eq.trans (Eq.trans (if_neg hc270) (if_neg hc331)) (if_neg hc332)) (if_pos hc333)).symm
              · refine g_icmpNo Xh230 H at_379 (feq hc333).1 ?_
                refine g_iload Xh230 H at_382 rfl ?_
                refine g_iload Xh230 H at_384 rfl ?_
                by_cases hc334 : (nt.toInt32) = (nb.toInt32)
                · refine g_icmpNo Xh230 H at_386 (teq hc334).2 ?_
                  refine g_iconst Xh230 H at_389 1 rfl ?_
                  refine g_goto Xh230 H at_390 394 (by decide) ?_
                  exact J271 T230 _ (1 : Int32) (ownUp Xh230 (by decide) (by decide)) rfl N230 (Eq.trans (Eq.trans (Eq.trans (Eq.trans (if_neg hc270) (if_neg hc331)) (if_neg hc332)) (if_neg hc333)) (if_pos hc334)).symm
                · refine g_icmpYes Xh230 H at_386 393 (feq hc334).2 (by decide) ?_
                  refine g_iconst Xh230 H at_393 0 rfl ?_
                  exact J271 T230 _ (0 : Int32) (ownUp Xh230 (by decide) (by decide)) rfl N230 (Eq.trans (Eq.trans (Eq.trans (Eq.trans (if_neg hc270) (if_neg hc331)) (if_neg hc332)) (if_neg hc333)) (if_neg hc334)).symm
      · show Go p.tables e below P T213 (mkF m 349 #[vi wa, vi wb, vi wc, vi wd, vi (wa &&& (2147483647 : Int32)), vi (nb.toInt32), vi (nw.toInt32), vi (nt.toInt32), vi ch, vi fg, vi qa, vi qb, vi (nc.toInt32), vr b5, vr om_46, vr b67, vr b109, vr oa_182, vu, vu] [(.ref om_46), (.ref oa_182)])
        have F335 := (u176_0.keep K182)
        have F336 := (u176_1.keep K182 own_nin0)
        have F337 := (F186.keep K182)
        have F338 := (((((((u46_1.ext E67).ext E81).keep K103 (own_ninC ne70 own_nin0)).ext E109).keep K134 own_nin0).keep K176 (own_ninC ne112 own_nin0)).keep K182 own_nin0)
        have F339 := (((((((u46_2.ext E67).ext E81).keep K103 (own_ninC ne70 own_nin0)).ext E109).keep K134 own_nin0).keep K176 (own_ninC ne112 own_nin0)).keep K182 own_nin0)
        have F340 := (((((((u46_3.ext E67).ext E81).keep K103 (own_ninC ne70 own_nin0)).ext E109).keep K134 own_nin0).keep K176 (own_ninC ne112 own_nin0)).keep K182 own_nin0)
        have F341 := (((((((u46_4.ext E67).ext E81).keep K103 (own_ninC ne70 own_nin0)).ext E109).keep K134 own_nin0).keep K176 (own_ninC ne112 own_nin0)).keep K182 own_nin0)
        have F342 := (F188.keep K182 own_nin0)
        have F343 := (F190.keep K182 own_nin0)
        have F344 := (F192.keep K182 own_nin0)
        have F345 := (F194.keep K182 own_nin0)
        refine g_cV Xh213 H hZ hml rfl hown hh213 u182_0 (rm36n l Z a0 hw [] oa_182 om_46 o2_46 os_46 oe_46 k2_46 ks_46 ke_46 ot_46 kt_46 b109 (nt.toInt32) qa qb qv ya yb yc cs fm och ou T182.heap n0 Z208 O212 P1 hcs P3 rfm P5 P6 P7 P8 nou u182_2 F335 F336 F337 F338 F339 F340 F341 F342 F343 F344 F345 hfx) (own_g hw 201 rfl) (own_g hw 202 rfl) (notFace_of_selects (args := #[]) (mvT hZ (own_g hw 204 rfl))) (own_g hw 204 rfl) (own_g hw 203 rfl) (own_g hw 174 rfl) (own_g hw 205 rfl) (by decide) own_pd38 at_349 rfl rfl rfl (W := 0) rfl (by decide) ?_
        intro _ T346 Lc346 X346 hQ346
        obtain ⟨rfl, Nq346, K346⟩ := hQ346
        obtain ⟨lc346, Xh346, N346⟩ := own_hide X346 (Fr.app N213 Nq346)
        clear X346
        have Z347 := Nat.le_trans Z208 K346.1
        have K348 := K209.trans K346 own_all0
        have CR349 := CHr.trans CR210 (CHr.keep K346 sf0 CR210.1)
        have hk350 := Nat.le_trans hk211 K346.1
        have O351 : Old Z n0 T346.heap := O212.keep K346 own_all0
        clear hfx
        refine g_astore Xh346 H at_352 rfl #[vi wa, vi wb, vi wc, vi wd, vi (wa &&& (2147483647 : Int32)), vi (nb.toInt32), vi (nw.toInt32), vi (nt.toInt32), vi ch, vi fg, vi qa, vi qb, vi (nc.toInt32), vr b5, vr om_46, vr b67, vr b109, vr oa_182, .val .null, vu] rfl ?_
        refine g_iload Xh346 H at_354 rfl ?_
        show Go p.tables e below P T346 (mkF m 356 #[vi wa, vi wb, vi wc, vi wd, vi (wa &&& (2147483647 : Int32)), vi (nb.toInt32), vi (nw.toInt32), vi (nt.toInt32), vi ch, vi fg, vi qa, vi qb, vi (nc.toInt32), vr b5, vr om_46, vr b67, vr b109, vr oa_182, .val .null, vu] [(.int (nt.toInt32))])
        refine g_bipush Xh346 H at_356 8 rfl ?_
        refine g_icmpNo Xh346 H at_358 (feq hpr.1).1 ?_
        refine g_iload Xh346 H at_361 rfl ?_
        refine g_bipush Xh346 H at_363 9 rfl ?_
        refine g_icmpNo Xh346 H at_365 (feq hpr.2.1).1 ?_
        refine g_iload Xh346 H at_368 rfl ?_
        refine g_bipush Xh346 H at_370 35 rfl ?_
        refine g_icmpNo Xh346 H at_372 (feq hpr.2.2.1).1 ?_
        refine g_iload Xh346 H at_375 rfl ?_
        refine g_bipush Xh346 H at_377 10 rfl ?_
        refine g_icmpNo Xh346 H at_379 (feq hpr.2.2.2.1).1 ?_
        refine g_iload Xh346 H at_382 rfl ?_
        refine g_iload Xh346 H at_384 rfl ?_
        show Go p.tables e below P T346 (mkF m 386 #[vi wa, vi wb, vi wc, vi wd, vi (wa &&& (2147483647 : Int32)), vi (nb.toInt32), vi (nw.toInt32), vi (nt.toInt32), vi ch, vi fg, vi qa, vi qb, vi (nc.toInt32), vr b5, vr om_46, vr b67, vr b109, vr oa_182, .val .null, vu] [(.int (nb.toInt32)), (.int (nt.toInt32))])
        refine g_icmpYes Xh346 H at_386 393 (feq hpr.2.2.2.2).2 (by decide) ?_
        refine g_iconst Xh346 H at_393 0 rfl ?_
        refine g_istore Xh346 H at_394 #[vi wa, vi wb, vi wc, vi wd, vi (wa &&& (2147483647 : Int32)), vi (nb.toInt32), vi (nw.toInt32), vi (nt.toInt32), vi ch, vi fg, vi qa, vi qb, vi (nc.toInt32), vr b5, vr om_46, vr b67, vr b109, vr oa_182, .val .null, vi 0] rfl ?_
        refine g_iload Xh346 H at_396 rfl ?_
        refine g_ifNo Xh346 H at_398 ((if0 _ _).trans (teq (rfl : (0 : Int32) = (0 : Int32))).2) ?_
        refine g_aload Xh346 H at_401 rfl rfl ?_
        show Go p.tables e below P T346 (mkF m 403 #[vi wa, vi wb, vi wc, vi wd, vi (wa &&& (2147483647 : Int32)), vi (nb.toInt32), vi (nw.toInt32), vi (nt.toInt32), vi ch, vi fg, vi qa, vi qb, vi (nc.toInt32), vr b5, vr om_46, vr b67, vr b109, vr oa_182, .val .null, vi 0] [.null])
        refine gv (fun t k => XS.ifnonnullNo Xh346.here hx rfl (hb hby at_403) rfl k) ?_
        show Go p.tables e below P T346 (mkF m 406 #[vi wa, vi wb, vi wc, vi wd, vi (wa &&& (2147483647 : Int32)), vi (nb.toInt32), vi (nw.toInt32), vi (nt.toInt32), vi ch, vi fg, vi qa, vi qb, vi (nc.toInt32), vr b5, vr om_46, vr b67, vr b109, vr oa_182, .val .null, vi 0] [])
        refine g_iconst Xh346 H at_406 1 rfl ?_
        refine g_goto Xh346 H at_407 411 (by decide) ?_
        show Go p.tables e below P T346 (mkF m 411 #[vi wa, vi wb, vi wc, vi wd, vi (wa &&& (2147483647 : Int32)), vi (nb.toInt32), vi (nw.toInt32), vi (nt.toInt32), vi ch, vi fg, vi qa, vi qb, vi (nc.toInt32), vr b5, vr om_46, vr b67, vr b109, vr oa_182, .val .null, vi 0] [(.int 1)])
        obtain ⟨fs, hr, hrun, hended, hend⟩ := Xh346.leaveW hS81 (by exact hk350) (v := some (.int 1)) (fun h => by rw [Bd.returns] at h; cases h)
        have hCf : CHr Z consts_1 s.vm s.heap (T346.setFrames fs).vm (T346.setFrames fs).heap := by
          rw [hh]
          show CHr Z consts_1 s.vm h0 T346.vm T346.heap
          exact CHr.trans CR349 (CHv.at Xh346 hZ (own_EW hw) CR349.1)
        refine ⟨_, _, retZ Xh346 hx (t := .boolean) Bd.returns (by simp) (hb hby at_411) rfl hr, hrun, hended, hP _ _ ⟨_, _, rfl, ?_, hCf, own_rew hend (by decide) (by decide)⟩⟩
        show Q0 Z wa wb wc wd cs fm och ou oz o1 o2 k1d k2d h0 n0 _ T346.heap _
        exact ⟨rfl, N346, K348⟩
    by_cases hc3 : (wb &&& (1 : Int32)) = (0 : Int32)
    · refine g_ifYes X2 H at_39 47 ((if0 _ _).trans (teq hc3).1) (by decide) ?_
      refine g_iloadN X2 H at_47 rfl ?_
      refine g_iconst X2 H at_48 1 rfl ?_
      show Go p.tables e below P T2 (mkF m 49 #[vi wa, vi wb, vi wc, vi wd, vi (wa &&& (2147483647 : Int32)), vi (nb.toInt32), vi (nw.toInt32), vu, vu, vu, vu, vu, vu, vu, vu, vu, vu, vu, vu, vu] [(.int 1), (.int wb)])
      refine gv (fun t k => XS.iushr X2.here hx rfl (hb hby at_49) rfl k) ?_
      show Go p.tables e below P T2 (mkF m 50 #[vi wa, vi wb, vi wc, vi wd, vi (wa &&& (2147483647 : Int32)), vi (nb.toInt32), vi (nw.toInt32), vu, vu, vu, vu, vu, vu, vu, vu, vu, vu, vu, vu, vu] [(.int ((wb.toUInt32 >>> ((1 : Int32) &&& 31).toUInt32).toInt32))])
      refine g_bipush X2 H at_50 100 rfl ?_
      show Go p.tables e below P T2 (mkF m 52 #[vi wa, vi wb, vi wc, vi wd, vi (wa &&& (2147483647 : Int32)), vi (nb.toInt32), vi (nw.toInt32), vu, vu, vu, vu, vu, vu, vu, vu, vu, vu, vu, vu, vu] [(.int 100), (.int ((wb.toUInt32 >>> ((1 : Int32) &&& 31).toUInt32).toInt32))])
      refine gv (fun t k => iremM X2 hx rfl (hb hby at_52) rfl (by decide) k) ?_
      exact J4 T2 _ (((wb.toUInt32 >>> ((1 : Int32) &&& 31).toUInt32).toInt32) % (100 : Int32)) (ownUp X2 (by decide) (by decide)) e2 N2 (if_pos hc3).symm
    · refine g_ifNo X2 H at_39 ((if0 _ _).trans (feq hc3).1) ?_
      refine g_iload X2 H at_42 rfl ?_
      refine g_goto X2 H at_44 53 (by decide) ?_
      exact J4 T2 _ (nb.toInt32) (ownUp X2 (by decide) (by decide)) e2 N2 (if_neg hc3).symm
  by_cases hc1 : (nv.toInt32) = (1 : Int32)
  · refine g_icmpNo X0 H at_30 (teq hc1).2 ?_
    refine g_iconst X0 H at_33 0 rfl ?_
    refine g_istore X0 H at_34 #[vi wa, vi wb, vi wc, vi wd, vi (wa &&& (2147483647 : Int32)), vi (nb.toInt32), vi 0, vu, vu, vu, vu, vu, vu, vu, vu, vu, vu, vu, vu, vu] rfl ?_
    exact J2 s₁ _ (0 : Int32) X0 e0 N0 (if_pos hc1).symm
  · refine g_icmpYes X0 H at_30 36 (feq hc1).2 (by decide) ?_
    exact J2 s₁ _ (nv.toInt32) X0 e0 N0 (if_neg hc1).symm
set_option maxRecDepth 65536 in
set_option maxHeartbeats 40000000 in
theorem comes_1 {Post : Tables → Env → Array Value → State → Outcome → State → Prop} (hpost : ∀ tb e args s v u, (limb_1_1.after args s (.returned v) u = true ∧ limb_1_2.after args s (.returned v) u = true ∧ True) → ReturnedEndW s (.returned v) u (Jvm.fieldLocs frame_1_writes args s ++ Jvm.arrayLocs frame_1_arrays args s ++ Jvm.staticLocs frame_1_statics s) 72 4608 → Post tb e args s (.returned v) u) :
    ArmFor flags0 classFile x code maxLocals ret World_1 tables_1 room_1 Calls_1 rest_1 Pre_1 Post := by
  intro l hfl _ _ p e ha hc hk s m args below hf hA hF happ hP
  obtain ⟨hcalls, hrest, hpre⟩ := hP
  obtain ⟨-, -, -, hnamed, -, -, -, hat⟩ := (Spec.applies_iff hf).mp happ
  obtain ⟨hg, hn⟩ := and_e (Cond.before_iff.mp (show (Jvm.Cond.and given_1 narrow_1).before args s = true from hpre))
  obtain ⟨hv0, hr0⟩ := and_e hg
  obtain ⟨hv1, hr1⟩ := and_e hr0
  obtain ⟨hv2, hr2⟩ := and_e hr1
  obtain ⟨hv3, hr3⟩ := and_e hr2
  obtain ⟨w0, w1, w2, w3, rfl⟩ : ∃ w0 w1 w2 w3 : Value, args = #[w0, w1, w2, w3] := by
    have hs : args.size = 4 := by simpa [Cond.value, given_1] using hv0
    obtain ⟨L⟩ := args
    match L, hs with
    | [w0, w1, w2, w3], _ => exact ⟨w0, w1, w2, w3, rfl⟩
  have hw := fun d (hd : d ∈ tables_1) => atoms_spec (ws := Jvm.Cond.code x code maxLocals ret :: tables_1) hat d (List.mem_cons_of_mem _ hd)
  have hfit : Fit s := fun {y c} hc i hi => by
    obtain ⟨ha, rfl⟩ := Array.getElem?_eq_some_iff.mp hc
    have q := List.all_eq_true.mp ((Array.all_eq_true_iff_forall_mem.mp hF) _ (Array.getElem_mem ha)) i (List.mem_range.mpr hi)
    simpa [Array.getElem?_eq_getElem hi] using q
  obtain ⟨hsets, hown0⟩ := atoms_of _ (rest_1_c_eq ▸ (show rest_1_c.before _ s = true from hrest))
  have hr00 := Cond.before_iff.mp hown0
  obtain ⟨i0, ei0⟩ := is_v hv1
  obtain rfl : w0 = (.int i0) := Option.some.inj ei0
  obtain ⟨i1, ei1⟩ := is_v hv2
  obtain rfl : w1 = (.int i1) := Option.some.inj ei1
  obtain ⟨i2, ei2⟩ := is_v hv3
  obtain rfl : w2 = (.int i2) := Option.some.inj ei2
  obtain ⟨i3, ei3⟩ := is_v hr3
  obtain rfl : w3 = (.int i3) := Option.some.inj ei3
  have ncs := not_v (Cond.before_iff.mp (hsets _ (List.mem_of_getElem? (i := 8) rfl)))
  obtain ⟨cs, ecs⟩ := is_v (Cond.before_iff.mp (hsets _ (List.mem_of_getElem? (i := 7) rfl)))
  have Scs : Sta s s.heap STn CSn "Z" (.int cs) := Sta.start ecs (Or.inl (hsets _ (List.mem_of_getElem? (i := 6) rfl)))
  have hcs : ¬ (cs = (0 : Int32)) := gotF (Cond.eq_ints ecs (Term.int_eval (0))) ncs
  obtain ⟨fm, efm, rfm⟩ := isR_v (Cond.before_iff.mp (hsets _ (List.mem_of_getElem? (i := 14) rfl)))
  have Sfm : Sta s s.heap PRn SIn BFn fm := Sta.start efm (Or.inl (hsets _ (List.mem_of_getElem? (i := 13) rfl)))
  obtain ⟨och, eoch⟩ := exa_v (Cond.before_iff.mp (hsets _ (List.mem_of_getElem? (i := 5) rfl)))
  have Soch : Sta s s.heap SCn ISn DChn (.ref och) := Sta.start eoch (Or.inl (hsets _ (List.mem_of_getElem? (i := 1) rfl)))
  have Eoch : Exa s s.heap och STIn := Exa.start eoch (Cond.before_iff.mp (hsets _ (List.mem_of_getElem? (i := 5) rfl)))
  obtain ⟨oi, eoi⟩ := exa_v (Cond.before_iff.mp (hsets _ (List.mem_of_getElem? (i := 20) rfl)))
  have Soi : Sta s s.heap STIn INSn DSIn (.ref oi) := Sta.start eoi (Or.inl (hsets _ (List.mem_of_getElem? (i := 3) rfl)))
  have Eoi : Exa s s.heap oi STIn := Exa.start eoi (Cond.before_iff.mp (hsets _ (List.mem_of_getElem? (i := 20) rfl)))
  obtain ⟨ou, eou⟩ := exa_v (Cond.before_iff.mp (hsets _ (List.mem_of_getElem? (i := 17) rfl)))
  have Sou : Sta s s.heap STUn INSn DSUn (.ref ou) := Sta.start eou (Or.inl (hsets _ (List.mem_of_getElem? (i := 16) rfl)))
  have Eou : Exa s s.heap ou STUn := Exa.start eou (Cond.before_iff.mp (hsets _ (List.mem_of_getElem? (i := 17) rfl)))
  obtain ⟨oz, eoz⟩ := exa_v (Cond.before_iff.mp (hsets _ (List.mem_of_getElem? (i := 23) rfl)))
  have Soz : Sta s s.heap "java/util/ImmutableCollections" "EMPTY_SET" "Ljava/util/ImmutableCollections$SetN;" (.ref oz) := Sta.start eoz (Or.inl (hsets _ (List.mem_of_getElem? (i := 22) rfl)))
  have Eoz : Exa s s.heap oz "java/util/ImmutableCollections$SetN" := Exa.start eoz (Cond.before_iff.mp (hsets _ (List.mem_of_getElem? (i := 23) rfl)))
  obtain rfl : och = oi := Value.ref.inj (Option.some.inj (eoch.symm.trans (Cond.eq_refs (hsets _ (List.mem_of_getElem? (i := 4) rfl)) eoi rfl)))
  have Foz : Fld s s.heap oz "java/util/ImmutableCollections$SetN" "size" "I" (.int 0) := Fld.start ((fld_at eoz).symm.trans (own_ieq (Cond.before_iff.mp (hsets _ (List.mem_of_getElem? (i := 27) rfl)))))
  obtain ⟨o1, eo1⟩ := exa_v (Cond.before_iff.mp (hsets _ (List.mem_of_getElem? (i := 31) rfl)))
  have So1 : Sta s s.heap INn "DigitOnes" DBn (.ref o1) := Sta.start eo1 (Or.inl (hsets _ (List.mem_of_getElem? (i := 30) rfl)))
  have Eo1 : Exa s s.heap o1 DBn := Exa.start eo1 (Cond.before_iff.mp (hsets _ (List.mem_of_getElem? (i := 31) rfl)))
  obtain ⟨k1d, Vo1⟩ := own_dgA (t := (Jvm.Term.static INn "DigitOnes" DBn)) (o := o1) (F := fun r => r % 10) (L := own_on) (fun _ => eo1) (hsets _ (List.mem_of_getElem? (i := 31) rfl)) (own_g hw 1 rfl) (hsets _ (List.mem_of_getElem? (i := 32) rfl)) (fun r _ => by omega) (fun r h => by rw [← own_o10 r h]; rfl) (fun r h => own_ong h) (hsets _ (List.mem_of_getElem? (i := 33) rfl))
  obtain ⟨o2, eo2⟩ := exa_v (Cond.before_iff.mp (hsets _ (List.mem_of_getElem? (i := 36) rfl)))
  have So2 : Sta s s.heap INn "DigitTens" DBn (.ref o2) := Sta.start eo2 (Or.inl (hsets _ (List.mem_of_getElem? (i := 35) rfl)))
  have Eo2 : Exa s s.heap o2 DBn := Exa.start eo2 (Cond.before_iff.mp (hsets _ (List.mem_of_getElem? (i := 36) rfl)))
  obtain ⟨k2d, Vo2⟩ := own_dgA (t := (Jvm.Term.static INn "DigitTens" DBn)) (o := o2) (F := fun r => r / 10) (L := own_tn) (fun _ => eo2) (hsets _ (List.mem_of_getElem? (i := 36) rfl)) (own_g hw 1 rfl) (hsets _ (List.mem_of_getElem? (i := 37) rfl)) (fun r _ => by omega) (fun r h => by rw [← own_t10 r h]; rfl) (fun r h => own_tng h) (hsets _ (List.mem_of_getElem? (i := 38) rfl))
  have hCH : CHv s consts_1 s.vm s.heap := CHv.start (own_EW hw) (fun p hp => hcalls.1 p hp) (hsets _ (List.mem_of_getElem? (i := 8) rfl)) (own_g hw 1 rfl) (own_g hw 84 rfl)
  obtain ⟨n, o, h1, h2, h3, _, L, rfl, ⟨rfl, N, -⟩, -, hq⟩ := rm0 l s _ hw tables_1 i0 i1 i2 i3 cs fm och ou oz o1 o2 k1d k2d s.heap s.heap.size (Nat.le_refl _) (Old.start s) Scs hcs Sfm rfm Soch Eoch Soi Sou (own_exne Eoch Eou (by decide)) So1 So2 Vo1 Vo2 Soz Eoz Foz p e ha hc hk s m _ below hf ((Spec.applies_iff_loose hf).mp happ).1 ⟨rfl, State.Warmed39.refl s, rfl, hCH⟩ trivial
  refine ⟨n, _, h1, h2, h3, hpost _ _ _ _ _ _ ⟨Cond.after_iff.mpr rfl, Cond.after_iff.mpr (eq_i res_at (Term.int_eval (1)) rfl), trivial⟩ ⟨hq.1, hq.2.1, hq.2.2.1, (hq.2.2.2.sift fun y hy => Or.inr (N y hy)).mono (by decide) (by decide)⟩⟩
theorem main_1_1 : Claimed_1_1 := comes_1 fun _ _ _ _ _ _ h hF => ⟨h.1, hF⟩
theorem main_1_2 : Claimed_1_2 := comes_1 fun _ _ _ _ _ _ h hF => ⟨h.2.1, hF⟩
end Jvm.Pilot.@@N@@
namespace Jvm.Pilot.@@N@@
open Jvm Jvm.ClassFile Sem Op Lib Jvm.Free Jvm.Stand Jvm.Pilot.@@N@@.Jvm.D
/-! MADE BY PROGRAM (witnessworld.py) out of the Statement's table words and the real class files: 46 classes; the members and pool entries that the words name. The judged class is class 1, her method 1. -/
namespace start1
open Jvm.ClassFile
def u (s : String) : CpInfo := .utf8 (stringToUtf16 s)
/-- a pool by its gaps: so many unusable entries, then the entry; so many at the end -/
def gap : Nat → List CpInfo → List CpInfo
  | 0, r => r
  | n + 1, r => .unusable :: gap n r
def poolList (es : List (Nat × CpInfo)) (last : Nat) : List CpInfo := es.foldr (fun e r => gap e.1 (e.2 :: r)) (gap last [])
def pool (es : List (Nat × CpInfo)) (last : Nat) : Array CpInfo := ⟨poolList es last⟩
def fileOf (pool : Array CpInfo) (this : Nat) (attrs : Array Attribute := #[]) (ms : Array MethodInfo := #[]) (fl : Nat := 33) (sup : Nat := 0) (ifs : Array Nat := #[]) (fds : Array FieldInfo := #[]) : ClassFile where
  minorVersion := 0
  majorVersion := 65
  constantPool := pool
  accessFlags := fl
  thisClass := this
  superClass := sup
  interfaces := ifs
  fields := fds
  methods := ms
  attributes := attrs
def plain (name : String) (sup : Option ClassId) : Class where
  name := name
  kind := .ordinary
  loader := none
  accessFlags := 33
  super := sup
  interfaces := #[]
  cf := none
  fields := #[]
  methods := #[]
  instanceTypes := #[]
  staticTypes := #[]
  resolved := #[]
  callSites := []
  init := .initialized
  statics := none
  mirror := none

def pool0 : Array CpInfo := pool [(5, u "<init>"), (0, u "()V"), (1, .class_ 10), (1, u "java/lang/Object"), (7, u "()Ljava/lang/String;"), (18, u "toString"), (58, u "clone"), (0, u "()Ljava/lang/Object;")] 26

def k0c0 : Code := { maxStack := 0, maxLocals := 1, code := object_method_1_code, exceptionTable := #[], attributes := #[] }
def k0m0 : Method := { name := "<init>", desc := "()V", sig := { parameters := [], returnType := none }, accessFlags := 1, code := some k0c0 }
def k0m1 : Method := { name := "clone", desc := "()Ljava/lang/Object;", sig := { parameters := [], returnType := some (.object "java/lang/Object") }, accessFlags := 260, code := none }
def k0c2 : Code := { maxStack := 2, maxLocals := 1, code := object_method_1_code, exceptionTable := #[], attributes := #[] }
def k0m2 : Method := { name := "toString", desc := "()Ljava/lang/String;", sig := { parameters := [], returnType := some (.object "java/lang/String") }, accessFlags := 1, code := some k0c2 }
/-- java/lang/Object -/
def k0 : Class := { plain "java/lang/Object" none with
  accessFlags := 33
  interfaces := #[]
  cf := some (fileOf pool0 8 #[] #[{ accessFlags := 1, nameIndex := 5, descriptorIndex := 6, attributes := #[] }, { accessFlags := 260, nameIndex := 96, descriptorIndex := 97, attributes := #[] }, { accessFlags := 1, nameIndex := 37, descriptorIndex := 18, attributes := #[] }] 33 0 #[] #[])
  fields := #[]
  methods := #[k0m0, k0m1, k0m2]
  instanceTypes := #[]
  staticTypes := #[]
  resolved := Array.replicate 124 none
  statics := none }

def pool1 : Array CpInfo := pool [(2, .class_ 4), (1, u "java/lang/Object"), (0, u "<init>"), (0, u "()V"), (0, .integer 2147483647), (0, .methodref 9 10), (0, .class_ 11), (0, .nameAndType 12 13), (0, u "com/example/splitbook/splitbook/tagvalue/TagValueMessage"), (0, u "read"), (0, u "([B)Lcom/example/splitbook/splitbook/tagvalue/TagValueMessage;"), (0, .class_ 15), (0, u "com/example/splitbook/splitbook/allocation/Field"), (0, .string 17), (0, u "g"), (0, .methodref 14 19), (0, .nameAndType 5 20), (0, u "(ILjava/lang/String;)V"), (0, .methodref 22 23), (0, .class_ 24), (0, .nameAndType 25 26), (0, u "java/lang/String"), (0, u "valueOf"), (0, u "(C)Ljava/lang/String;"), (0, .methodref 28 29), (0, .class_ 30), (0, .nameAndType 31 32), (0, u "com/example/splitbook/splitbook/allocation/ConditionalField"), (0, u "whenStated"), (0, u "(Lcom/example/splitbook/splitbook/allocation/Field;Lcom/example/splitbook/splitbook/allocation/Field;)Lcom/example/splitbook/splitbook/allocation/ConditionalField;"), (0, .methodref 28 34), (0, .nameAndType 35 36), (0, u "field"), (0, u "()Lcom/example/splitbook/splitbook/allocation/Field;"), (0, .methodref 28 38), (0, .nameAndType 39 40), (0, u "conditionMetIn"), (0, u "(Lcom/example/splitbook/splitbook/tagvalue/TagValueMessage;)Ljava/lang/String;"), (0, .methodref 42 43), (0, .class_ 44), (0, .nameAndType 45 46), (0, u "com/example/splitbook/splitbook/allocation/ConditionalFieldWhenStatedPinLaw"), (0, u "expected"), (0, u "(CI)Ljava/lang/String;"), (0, .methodref 22 48), (0, .nameAndType 49 50), (0, u "equals"), (0, u "(Ljava/lang/Object;)Z"), (0, .methodref 22 52), (0, .nameAndType 5 53), (0, u "([C)V"), (2, u "law"), (0, u "(IIII)Z")] 8

def k1m0 : Method := { name := "<init>", desc := "()V", sig := { parameters := [], returnType := none }, accessFlags := 2, code := none }
def k1c1 : Code := { maxStack := 6, maxLocals := 20, code := code, exceptionTable := #[], attributes := #[] }
def k1m1 : Method := { name := "law", desc := "(IIII)Z", sig := { parameters := [.int, .int, .int, .int], returnType := some .boolean }, accessFlags := 9, code := some k1c1 }
def k1c2 : Code := { maxStack := 8, maxLocals := 2, code := method_3_code, exceptionTable := #[], attributes := #[] }
def k1m2 : Method := { name := "expected", desc := "(CI)Ljava/lang/String;", sig := { parameters := [.char, .int], returnType := some (.object "java/lang/String") }, accessFlags := 10, code := some k1c2 }
/-- com/example/splitbook/splitbook/allocation/ConditionalFieldWhenStatedPinLaw -/
def k1 : Class := { plain "com/example/splitbook/splitbook/allocation/ConditionalFieldWhenStatedPinLaw" (some 0) with
  accessFlags := 49
  interfaces := #[]
  cf := some (fileOf pool1 42 #[] #[{ accessFlags := 2, nameIndex := 5, descriptorIndex := 6, attributes := #[] }, { accessFlags := 9, nameIndex := 56, descriptorIndex := 57, attributes := #[] }, { accessFlags := 10, nameIndex := 45, descriptorIndex := 46, attributes := #[] }] 49 2 #[] #[])
  fields := #[]
  methods := #[k1m0, k1m1, k1m2]
  instanceTypes := #[]
  staticTypes := #[]
  resolved := Array.replicate 66 none
  statics := none }

def pool2 : Array CpInfo := pool [(3, .methodref 4 5), (0, .class_ 6), (0, .nameAndType 7 8), (0, u "java/lang/Object"), (0, u "<init>"), (0, u "()V"), (0, .fieldref 10 11), (0, .class_ 12), (0, .nameAndType 13 14), (0, u "com/example/splitbook/splitbook/tagvalue/TagValueMessage"), (0, u "bytes"), (0, u "[B"), (0, .fieldref 10 16), (0, .nameAndType 17 18), (0, u "tags"), (0, u "[I"), (0, .fieldref 10 20), (0, .nameAndType 21 18), (0, u "valueStarts"), (0, .fieldref 10 23), (0, .nameAndType 24 18), (0, u "valueEnds"), (3, .methodref 10 29), (0, .nameAndType 30 31), (0, u "read"), (0, u "([BII)Lcom/example/splitbook/splitbook/tagvalue/TagValueMessage;"), (0, .methodref 33 34), (0, .class_ 35), (0, .nameAndType 36 37), (0, u "java/util/Objects"), (0, u "checkFromIndexSize"), (0, u "(III)I"), (7, .methodref 46 47), (0, .class_ 48), (0, .nameAndType 49 50), (0, u "java/util/Arrays"), (0, u "copyOfRange"), (0, u "([BII)[B"), (0, .methodref 10 52), (0, .nameAndType 53 54), (0, u "splitFields"), (0, u "([B)Lcom/example/splitbook/splitbook/tagvalue/TagValueMessage;"), (0, .methodref 10 56), (0, .nameAndType 57 8), (0, u "checkFrame"), (0, .methodref 10 59), (0, .nameAndType 60 61), (0, u "isDigit"), (0, u "(B)Z"), (18, .methodref 10 81), (0, .nameAndType 82 83), (0, u "decimal"), (0, u "([BII)J"), (0, .long 2147483648), (1, .class_ 87), (0, u "java/lang/String"), (0, .fieldref 89 90), (0, .class_ 91), (0, .nameAndType 92 93), (0, u "java/nio/charset/StandardCharsets"), (0, u "ISO_8859_1"), (0, u "Ljava/nio/charset/Charset;"), (0, .methodref 86 95), (0, .nameAndType 7 96), (0, u "([BIILjava/nio/charset/Charset;)V"), (6, .methodref 10 104), (0, .nameAndType 7 105), (0, u "([B[I[I[I)V"), (8, .methodref 10 115), (0, .nameAndType 116 117), (0, u "fieldStart"), (0, u "(I)I"), (0, .methodref 10 119), (0, .nameAndType 120 121), (0, u "wholeNumber"), (0, u "(I)J"), (2, .methodref 10 125), (0, .nameAndType 126 127), (0, u "value"), (0, u "(I)Ljava/lang/String;"), (11, .methodref 10 140), (0, .nameAndType 141 142), (0, u "checkSum"), (0, u "([BI)I"), (0, .methodref 86 144), (0, .nameAndType 145 146), (0, u "length"), (0, u "()I"), (11, .long 256), (17, .long 18446744073709551615), (1, .long 10), (1, .methodref 181 182), (0, .class_ 183), (0, .nameAndType 184 185), (0, u "java/lang/Math"), (0, u "min"), (0, u "(JJ)J"), (0, .methodref 10 187), (0, .nameAndType 188 117), (0, u "valueLength"), (5, u "SOH"), (0, u "B"), (2, u "BEGIN_STRING"), (0, u "I"), (1, u "BODY_LENGTH"), (1, u "MSG_TYPE"), (1, u "CHECK_SUM"), (1, u "BEYOND_INT"), (0, u "J"), (7, u "indexOf")] 6

def k2c0 : Code := { maxStack := 2, maxLocals := 5, code := prog_39_method_1_code, exceptionTable := #[], attributes := #[] }
def k2m0 : Method := { name := "<init>", desc := "([B[I[I[I)V", sig := { parameters := [(.array .byte), (.array .int), (.array .int), (.array .int)], returnType := none }, accessFlags := 2, code := some k2c0 }
def k2c1 : Code := { maxStack := 3, maxLocals := 1, code := prog_39_method_2_code, exceptionTable := #[], attributes := #[] }
def k2m1 : Method := { name := "read", desc := "([B)Lcom/example/splitbook/splitbook/tagvalue/TagValueMessage;", sig := { parameters := [(.array .byte)], returnType := some (.object "com/example/splitbook/splitbook/tagvalue/TagValueMessage") }, accessFlags := 9, code := some k2c1 }
def k2c2 : Code := { maxStack := 4, maxLocals := 5, code := prog_39_method_3_code, exceptionTable := #[], attributes := #[] }
def k2m2 : Method := { name := "read", desc := "([BII)Lcom/example/splitbook/splitbook/tagvalue/TagValueMessage;", sig := { parameters := [(.array .byte), .int, .int], returnType := some (.object "com/example/splitbook/splitbook/tagvalue/TagValueMessage") }, accessFlags := 9, code := some k2c2 }
def k2c3 : Code := { maxStack := 6, maxLocals := 12, code := prog_39_method_4_code, exceptionTable := #[], attributes := #[] }
def k2m3 : Method := { name := "splitFields", desc := "([B)Lcom/example/splitbook/splitbook/tagvalue/TagValueMessage;", sig := { parameters := [(.array .byte)], returnType := some (.object "com/example/splitbook/splitbook/tagvalue/TagValueMessage") }, accessFlags := 10, code := some k2c3 }
def k2c4 : Code := { maxStack := 5, maxLocals := 11, code := prog_39_method_5_code, exceptionTable := #[], attributes := #[] }
def k2m4 : Method := { name := "checkFrame", desc := "()V", sig := { parameters := [], returnType := none }, accessFlags := 2, code := some k2c4 }
def k2c5 : Code := { maxStack := 4, maxLocals := 5, code := prog_39_method_6_code, exceptionTable := #[], attributes := #[] }
def k2m5 : Method := { name := "checkSum", desc := "([BI)I", sig := { parameters := [(.array .byte), .int], returnType := some .int }, accessFlags := 8, code := some k2c5 }
def k2c6 : Code := { maxStack := 4, maxLocals := 2, code := prog_39_method_8_code, exceptionTable := #[], attributes := #[] }
def k2m6 : Method := { name := "wholeNumber", desc := "(I)J", sig := { parameters := [.int], returnType := some .long }, accessFlags := 2, code := some k2c6 }
def k2c7 : Code := { maxStack := 4, maxLocals := 6, code := prog_39_method_9_code, exceptionTable := #[], attributes := #[] }
def k2m7 : Method := { name := "decimal", desc := "([BII)J", sig := { parameters := [(.array .byte), .int, .int], returnType := some .long }, accessFlags := 10, code := some k2c7 }
def k2c8 : Code := { maxStack := 3, maxLocals := 2, code := prog_39_method_10_code, exceptionTable := #[], attributes := #[] }
def k2m8 : Method := { name := "fieldStart", desc := "(I)I", sig := { parameters := [.int], returnType := some .int }, accessFlags := 2, code := some k2c8 }
def k2c9 : Code := { maxStack := 2, maxLocals := 1, code := prog_39_method_11_code, exceptionTable := #[], attributes := #[] }
def k2m9 : Method := { name := "isDigit", desc := "(B)Z", sig := { parameters := [.byte], returnType := some .boolean }, accessFlags := 10, code := some k2c9 }
def k2c10 : Code := { maxStack := 6, maxLocals := 2, code := prog_39_method_14_code, exceptionTable := #[], attributes := #[] }
def k2m10 : Method := { name := "value", desc := "(I)Ljava/lang/String;", sig := { parameters := [.int], returnType := some (.object "java/lang/String") }, accessFlags := 1, code := some k2c10 }
def k2c11 : Code := { maxStack := 3, maxLocals := 2, code := prog_39_method_15_code, exceptionTable := #[], attributes := #[] }
def k2m11 : Method := { name := "valueLength", desc := "(I)I", sig := { parameters := [.int], returnType := some .int }, accessFlags := 1, code := some k2c11 }
def k2c12 : Code := { maxStack := 2, maxLocals := 4, code := prog_39_method_16_code, exceptionTable := #[], attributes := #[] }
def k2m12 : Method := { name := "indexOf", desc := "(I)I", sig := { parameters := [.int], returnType := some .int }, accessFlags := 1, code := some k2c12 }
/-- com/example/splitbook/splitbook/tagvalue/TagValueMessage -/
def k2 : Class := { plain "com/example/splitbook/splitbook/tagvalue/TagValueMessage" (some 0) with
  accessFlags := 49
  interfaces := #[]
  cf := some (fileOf pool2 10 #[] #[{ accessFlags := 2, nameIndex := 7, descriptorIndex := 105, attributes := #[] }, { accessFlags := 9, nameIndex := 30, descriptorIndex := 54, attributes := #[] }, { accessFlags := 9, nameIndex := 30, descriptorIndex := 31, attributes := #[] }, { accessFlags := 10, nameIndex := 53, descriptorIndex := 54, attributes := #[] }, { accessFlags := 2, nameIndex := 57, descriptorIndex := 8, attributes := #[] }, { accessFlags := 8, nameIndex := 141, descriptorIndex := 142, attributes := #[] }, { accessFlags := 2, nameIndex := 120, descriptorIndex := 121, attributes := #[] }, { accessFlags := 10, nameIndex := 82, descriptorIndex := 83, attributes := #[] }, { accessFlags := 2, nameIndex := 116, descriptorIndex := 117, attributes := #[] }, { accessFlags := 10, nameIndex := 60, descriptorIndex := 61, attributes := #[] }, { accessFlags := 1, nameIndex := 126, descriptorIndex := 127, attributes := #[] }, { accessFlags := 1, nameIndex := 188, descriptorIndex := 117, attributes := #[] }, { accessFlags := 1, nameIndex := 216, descriptorIndex := 117, attributes := #[] }] 49 4 #[] #[{ accessFlags := 25, nameIndex := 194, descriptorIndex := 195, attributes := #[] }, { accessFlags := 24, nameIndex := 198, descriptorIndex := 199, attributes := #[] }, { accessFlags := 24, nameIndex := 201, descriptorIndex := 199, attributes := #[] }, { accessFlags := 24, nameIndex := 203, descriptorIndex := 199, attributes := #[] }, { accessFlags := 24, nameIndex := 205, descriptorIndex := 199, attributes := #[] }, { accessFlags := 26, nameIndex := 207, descriptorIndex := 208, attributes := #[] }, { accessFlags := 18, nameIndex := 13, descriptorIndex := 14, attributes := #[] }, { accessFlags := 18, nameIndex := 17, descriptorIndex := 18, attributes := #[] }, { accessFlags := 18, nameIndex := 21, descriptorIndex := 18, attributes := #[] }, { accessFlags := 18, nameIndex := 24, descriptorIndex := 18, attributes := #[] }])
  fields := #[{ name := "SOH", type := .byte, accessFlags := 25, slot := 0, constantValue := 0 }, { name := "BEGIN_STRING", type := .int, accessFlags := 24, slot := 1, constantValue := 0 }, { name := "BODY_LENGTH", type := .int, accessFlags := 24, slot := 2, constantValue := 0 }, { name := "MSG_TYPE", type := .int, accessFlags := 24, slot := 3, constantValue := 0 }, { name := "CHECK_SUM", type := .int, accessFlags := 24, slot := 4, constantValue := 0 }, { name := "BEYOND_INT", type := .long, accessFlags := 26, slot := 5, constantValue := 0 }, { name := "bytes", type := (.array .byte), accessFlags := 18, slot := 0, constantValue := 0 }, { name := "tags", type := (.array .int), accessFlags := 18, slot := 1, constantValue := 0 }, { name := "valueStarts", type := (.array .int), accessFlags := 18, slot := 2, constantValue := 0 }, { name := "valueEnds", type := (.array .int), accessFlags := 18, slot := 3, constantValue := 0 }]
  methods := #[k2m0, k2m1, k2m2, k2m3, k2m4, k2m5, k2m6, k2m7, k2m8, k2m9, k2m10, k2m11, k2m12]
  instanceTypes := #[(.array .byte), (.array .int), (.array .int), (.array .int)]
  staticTypes := #[.byte, .int, .int, .int, .int, .long]
  resolved := Array.replicate 223 none
  statics := none }

def pool3 : Array CpInfo := pool [(2, .class_ 4), (1, u "java/lang/Object"), (0, u "<init>"), (0, u "()V"), (35, .class_ 44), (1, u "java/util/Objects"), (0, u "requireNonNull"), (0, u "(Ljava/lang/Object;)Ljava/lang/Object;"), (59, .class_ 108), (1, u "jdk/internal/util/Preconditions"), (5, u "(IIILjava/util/function/BiFunction;)I"), (0, .methodref 106 116), (0, .nameAndType 117 114), (0, u "checkFromIndexSize"), (57, u "(III)I")] 8

def k3m0 : Method := { name := "<init>", desc := "()V", sig := { parameters := [], returnType := none }, accessFlags := 2, code := none }
def k3c1 : Code := { maxStack := 2, maxLocals := 1, code := jdk_31_method_10_code, exceptionTable := #[], attributes := #[] }
def k3m1 : Method := { name := "requireNonNull", desc := "(Ljava/lang/Object;)Ljava/lang/Object;", sig := { parameters := [(.object "java/lang/Object")], returnType := some (.object "java/lang/Object") }, accessFlags := 9, code := some k3c1 }
def k3c2 : Code := { maxStack := 4, maxLocals := 3, code := jdk_31_method_19_code, exceptionTable := #[], attributes := #[] }
def k3m2 : Method := { name := "checkFromIndexSize", desc := "(III)I", sig := { parameters := [.int, .int, .int], returnType := some .int }, accessFlags := 9, code := some k3c2 }
/-- java/util/Objects -/
def k3 : Class := { plain "java/util/Objects" (some 0) with
  accessFlags := 49
  interfaces := #[]
  cf := some (fileOf pool3 42 #[] #[{ accessFlags := 2, nameIndex := 5, descriptorIndex := 6, attributes := #[] }, { accessFlags := 9, nameIndex := 45, descriptorIndex := 46, attributes := #[] }, { accessFlags := 9, nameIndex := 117, descriptorIndex := 175, attributes := #[] }] 49 2 #[] #[])
  fields := #[]
  methods := #[k3m0, k3m1, k3m2]
  instanceTypes := #[]
  staticTypes := #[]
  resolved := Array.replicate 184 none
  statics := none }

def pool4 : Array CpInfo := pool [(2, .class_ 4), (1, u "java/lang/Object"), (0, u "<init>"), (0, u "()V"), (17, .class_ 26), (1, u "jdk/internal/util/Preconditions"), (22, u "checkFromIndexSize"), (5, .class_ 56), (0, u "jdk/internal/util/Preconditions$4"), (57, .class_ 115), (0, u "jdk/internal/util/Preconditions$1"), (7, u "SIOOBE_FORMATTER"), (0, u "Ljava/util/function/BiFunction;"), (0, .class_ 126), (0, u "jdk/internal/util/Preconditions$2"), (3, u "AIOOBE_FORMATTER"), (0, .class_ 132), (0, u "jdk/internal/util/Preconditions$3"), (3, u "IOOBE_FORMATTER"), (46, u "(IIILjava/util/function/BiFunction;)I")] 10

def k4m0 : Method := { name := "<init>", desc := "()V", sig := { parameters := [], returnType := none }, accessFlags := 1, code := none }
def k4c1 : Code := { maxStack := 4, maxLocals := 4, code := jdk_41_method_13_code, exceptionTable := #[], attributes := #[] }
def k4m1 : Method := { name := "checkFromIndexSize", desc := "(IIILjava/util/function/BiFunction;)I", sig := { parameters := [.int, .int, .int, (.object "java/util/function/BiFunction")], returnType := some .int }, accessFlags := 9, code := some k4c1 }
/-- jdk/internal/util/Preconditions -/
def k4 : Class := { plain "jdk/internal/util/Preconditions" (some 0) with
  accessFlags := 33
  interfaces := #[]
  cf := some (fileOf pool4 24 #[.nestMembers #[55, 131, 125, 114]] #[{ accessFlags := 1, nameIndex := 5, descriptorIndex := 6, attributes := #[] }, { accessFlags := 9, nameIndex := 49, descriptorIndex := 183, attributes := #[] }] 33 2 #[] #[{ accessFlags := 25, nameIndex := 123, descriptorIndex := 124, attributes := #[] }, { accessFlags := 25, nameIndex := 130, descriptorIndex := 124, attributes := #[] }, { accessFlags := 25, nameIndex := 136, descriptorIndex := 124, attributes := #[] }])
  fields := #[{ name := "SIOOBE_FORMATTER", type := (.object "java/util/function/BiFunction"), accessFlags := 25, slot := 0, constantValue := 0 }, { name := "AIOOBE_FORMATTER", type := (.object "java/util/function/BiFunction"), accessFlags := 25, slot := 1, constantValue := 0 }, { name := "IOOBE_FORMATTER", type := (.object "java/util/function/BiFunction"), accessFlags := 25, slot := 2, constantValue := 0 }]
  methods := #[k4m0, k4m1]
  instanceTypes := #[]
  staticTypes := #[(.object "java/util/function/BiFunction"), (.object "java/util/function/BiFunction"), (.object "java/util/function/BiFunction")]
  resolved := Array.replicate 194 none
  statics := some 0 }

def pool5 : Array CpInfo := pool [(2, .class_ 4), (1, u "java/lang/Object"), (0, u "<init>"), (0, u "()V"), (7, .class_ 16), (1, u "java/util/Arrays"), (57, .class_ 76), (1, u "java/util/Arrays$NaturalOrder"), (32, u "()Ljava/lang/Object;"), (3, .class_ 115), (1, u "java/util/Arrays$LegacyMergeSort"), (1, u "Z"), (10, .nameAndType 129 109), (0, u "clone"), (9, u "copyOfRange"), (10, .methodref 151 152), (0, .class_ 153), (0, .nameAndType 154 155), (0, u "java/lang/System"), (0, u "arraycopy"), (0, u "(Ljava/lang/Object;ILjava/lang/Object;II)V"), (148, .methodref 305 306), (0, .class_ 307), (0, .nameAndType 308 309), (0, u "java/lang/Math"), (0, u "min"), (0, u "(II)I"), (0, .methodref 311 128), (0, .class_ 312), (0, u "[B"), (26, .methodref 14 340), (0, .nameAndType 341 342), (0, u "copyOfRangeByte"), (0, u "([BII)[B"), (0, .methodref 14 344), (0, .nameAndType 345 346), (0, u "checkLength"), (0, u "(II)V"), (28, .class_ 376), (0, u "java/util/Arrays$ArrayList"), (68, u "$assertionsDisabled"), (269, u "MIN_ARRAY_SORT_GRAN"), (0, u "I"), (2, u "INSERTIONSORT_THRESHOLD"), (255, .class_ 976), (0, u "java/util/Arrays$ArrayItr")] 52

def k5m0 : Method := { name := "<init>", desc := "()V", sig := { parameters := [], returnType := none }, accessFlags := 2, code := none }
def k5c1 : Code := { maxStack := 4, maxLocals := 2, code := jdk_65_method_131_code, exceptionTable := #[], attributes := #[] }
def k5m1 : Method := { name := "checkLength", desc := "(II)V", sig := { parameters := [.int, .int], returnType := none }, accessFlags := 10, code := some k5c1 }
def k5c2 : Code := { maxStack := 3, maxLocals := 3, code := jdk_65_method_132_code, exceptionTable := #[], attributes := #[] }
def k5m2 : Method := { name := "copyOfRange", desc := "([BII)[B", sig := { parameters := [(.array .byte), .int, .int], returnType := some (.array .byte) }, accessFlags := 9, code := some k5c2 }
def k5c3 : Code := { maxStack := 6, maxLocals := 5, code := jdk_65_method_133_code, exceptionTable := #[], attributes := #[] }
def k5m3 : Method := { name := "copyOfRangeByte", desc := "([BII)[B", sig := { parameters := [(.array .byte), .int, .int], returnType := some (.array .byte) }, accessFlags := 10, code := some k5c3 }
/-- java/util/Arrays -/
def k5 : Class := { plain "java/util/Arrays" (some 0) with
  accessFlags := 49
  interfaces := #[]
  cf := some (fileOf pool5 14 #[.nestMembers #[975, 375, 113, 74]] #[{ accessFlags := 2, nameIndex := 5, descriptorIndex := 6, attributes := #[] }, { accessFlags := 10, nameIndex := 345, descriptorIndex := 346, attributes := #[] }, { accessFlags := 9, nameIndex := 139, descriptorIndex := 342, attributes := #[] }, { accessFlags := 10, nameIndex := 341, descriptorIndex := 342, attributes := #[] }] 49 2 #[] #[{ accessFlags := 26, nameIndex := 715, descriptorIndex := 716, attributes := #[] }, { accessFlags := 26, nameIndex := 719, descriptorIndex := 716, attributes := #[] }, { accessFlags := 4120, nameIndex := 445, descriptorIndex := 117, attributes := #[] }])
  fields := #[{ name := "MIN_ARRAY_SORT_GRAN", type := .int, accessFlags := 26, slot := 0, constantValue := 0 }, { name := "INSERTIONSORT_THRESHOLD", type := .int, accessFlags := 26, slot := 1, constantValue := 0 }, { name := "$assertionsDisabled", type := .boolean, accessFlags := 4120, slot := 2, constantValue := 0 }]
  methods := #[k5m0, k5m1, k5m2, k5m3]
  instanceTypes := #[]
  staticTypes := #[.int, .int, .boolean]
  resolved := Array.replicate 1029 none
  statics := none }

def pool6 : Array CpInfo := pool [(1, .class_ 2), (0, u "java/lang/Cloneable"), (0, .class_ 4), (0, u "java/lang/Object")] 2

/-- java/lang/Cloneable -/
def k6 : Class := { plain "java/lang/Cloneable" (some 0) with
  accessFlags := 1537
  interfaces := #[]
  cf := some (fileOf pool6 1 #[] #[] 1537 3 #[] #[])
  fields := #[]
  methods := #[]
  instanceTypes := #[]
  staticTypes := #[]
  resolved := Array.replicate 7 none
  statics := none }

def pool7 : Array CpInfo := pool [(1, .class_ 2), (0, u "java/lang/Math"), (1, .class_ 6), (1, u "java/lang/Object"), (0, u "<init>"), (0, u "()V"), (89, .class_ 100), (1, u "java/lang/Math$RandomNumberGeneratorHolder"), (20, u "(JJ)J"), (50, u "negativeZeroFloatBits"), (0, u "J"), (2, u "negativeZeroDoubleBits"), (24, u "min"), (43, u "$assertionsDisabled"), (0, u "Z"), (88, u "(II)I"), (2, u "twoToTheDoubleScaleDown"), (0, u "D"), (4, u "twoToTheDoubleScaleUp"), (9, u "E"), (3, u "PI"), (2, u "TAU"), (2, u "DEGREES_TO_RADIANS"), (0, u "RADIANS_TO_DEGREES")] 94

def k7m0 : Method := { name := "<init>", desc := "()V", sig := { parameters := [], returnType := none }, accessFlags := 2, code := none }
def k7c1 : Code := { maxStack := 2, maxLocals := 2, code := jdk_29_method_69_code, exceptionTable := #[], attributes := #[] }
def k7m1 : Method := { name := "min", desc := "(II)I", sig := { parameters := [.int, .int], returnType := some .int }, accessFlags := 9, code := some k7c1 }
def k7c2 : Code := { maxStack := 4, maxLocals := 4, code := jdk_29_method_70_code, exceptionTable := #[], attributes := #[] }
def k7m2 : Method := { name := "min", desc := "(JJ)J", sig := { parameters := [.long, .long], returnType := some .long }, accessFlags := 9, code := some k7c2 }
/-- java/lang/Math -/
def k7 : Class := { plain "java/lang/Math" (some 0) with
  accessFlags := 49
  interfaces := #[]
  cf := some (fileOf pool7 1 #[.nestMembers #[98]] #[{ accessFlags := 2, nameIndex := 7, descriptorIndex := 8, attributes := #[] }, { accessFlags := 9, nameIndex := 201, descriptorIndex := 335, attributes := #[] }, { accessFlags := 9, nameIndex := 201, descriptorIndex := 121, attributes := #[] }] 49 4 #[] #[{ accessFlags := 25, nameIndex := 354, descriptorIndex := 339, attributes := #[] }, { accessFlags := 25, nameIndex := 358, descriptorIndex := 339, attributes := #[] }, { accessFlags := 25, nameIndex := 361, descriptorIndex := 339, attributes := #[] }, { accessFlags := 26, nameIndex := 364, descriptorIndex := 339, attributes := #[] }, { accessFlags := 26, nameIndex := 365, descriptorIndex := 339, attributes := #[] }, { accessFlags := 26, nameIndex := 172, descriptorIndex := 173, attributes := #[] }, { accessFlags := 26, nameIndex := 176, descriptorIndex := 173, attributes := #[] }, { accessFlags := 8, nameIndex := 344, descriptorIndex := 339, attributes := #[] }, { accessFlags := 8, nameIndex := 338, descriptorIndex := 339, attributes := #[] }, { accessFlags := 4120, nameIndex := 245, descriptorIndex := 246, attributes := #[] }])
  fields := #[{ name := "E", type := .double, accessFlags := 25, slot := 0, constantValue := 0 }, { name := "PI", type := .double, accessFlags := 25, slot := 1, constantValue := 0 }, { name := "TAU", type := .double, accessFlags := 25, slot := 2, constantValue := 0 }, { name := "DEGREES_TO_RADIANS", type := .double, accessFlags := 26, slot := 3, constantValue := 0 }, { name := "RADIANS_TO_DEGREES", type := .double, accessFlags := 26, slot := 4, constantValue := 0 }, { name := "negativeZeroFloatBits", type := .long, accessFlags := 26, slot := 5, constantValue := 0 }, { name := "negativeZeroDoubleBits", type := .long, accessFlags := 26, slot := 6, constantValue := 0 }, { name := "twoToTheDoubleScaleUp", type := .double, accessFlags := 8, slot := 7, constantValue := 0 }, { name := "twoToTheDoubleScaleDown", type := .double, accessFlags := 8, slot := 8, constantValue := 0 }, { name := "$assertionsDisabled", type := .boolean, accessFlags := 4120, slot := 9, constantValue := 0 }]
  methods := #[k7m0, k7m1, k7m2]
  instanceTypes := #[]
  staticTypes := #[.double, .double, .double, .double, .double, .long, .long, .double, .double, .boolean]
  resolved := Array.replicate 460 none
  statics := none }

def pool8 : Array CpInfo := pool [(1, .class_ 2), (0, u "java/io/Serializable"), (0, .class_ 4), (0, u "java/lang/Object")] 2

/-- java/io/Serializable -/
def k8 : Class := { plain "java/io/Serializable" (some 0) with
  accessFlags := 1537
  interfaces := #[]
  cf := some (fileOf pool8 1 #[] #[] 1537 3 #[] #[])
  fields := #[]
  methods := #[]
  instanceTypes := #[]
  staticTypes := #[]
  resolved := Array.replicate 7 none
  statics := none }

def pool9 : Array CpInfo := pool [(1, .class_ 2), (0, u "java/lang/Comparable"), (0, .class_ 4), (0, u "java/lang/Object")] 7

/-- java/lang/Comparable -/
def k9 : Class := { plain "java/lang/Comparable" (some 0) with
  accessFlags := 1537
  interfaces := #[]
  cf := some (fileOf pool9 1 #[] #[] 1537 3 #[] #[])
  fields := #[]
  methods := #[]
  instanceTypes := #[]
  staticTypes := #[]
  resolved := Array.replicate 12 none
  statics := none }

def pool10 : Array CpInfo := pool [(2, .class_ 4), (1, u "java/lang/CharSequence"), (42, .class_ 48), (0, u "java/lang/CharSequence$1CodePointIterator"), (10, .class_ 60), (0, u "java/lang/CharSequence$1CharIterator"), (5, .class_ 67), (0, u "java/lang/Object")] 63

/-- java/lang/CharSequence -/
def k10 : Class := { plain "java/lang/CharSequence" (some 0) with
  accessFlags := 1537
  interfaces := #[]
  cf := some (fileOf pool10 2 #[.nestMembers #[47, 59]] #[] 1537 66 #[] #[])
  fields := #[]
  methods := #[]
  instanceTypes := #[]
  staticTypes := #[]
  resolved := Array.replicate 131 none
  statics := none }

def pool11 : Array CpInfo := pool [(1, .class_ 2), (0, u "java/lang/constant/Constable"), (0, .class_ 4), (0, u "java/lang/Object")] 6

/-- java/lang/constant/Constable -/
def k11 : Class := { plain "java/lang/constant/Constable" (some 0) with
  accessFlags := 1537
  interfaces := #[]
  cf := some (fileOf pool11 1 #[] #[] 1537 3 #[] #[])
  fields := #[]
  methods := #[]
  instanceTypes := #[]
  staticTypes := #[]
  resolved := Array.replicate 11 none
  statics := none }

def pool12 : Array CpInfo := pool [(1, .class_ 2), (0, u "java/lang/constant/ConstantDesc"), (0, .class_ 4), (0, u "java/lang/Object")] 32

/-- java/lang/constant/ConstantDesc -/
def k12 : Class := { plain "java/lang/constant/ConstantDesc" (some 0) with
  accessFlags := 1537
  interfaces := #[]
  cf := some (fileOf pool12 1 #[] #[] 1537 3 #[] #[])
  fields := #[]
  methods := #[]
  instanceTypes := #[]
  staticTypes := #[]
  resolved := Array.replicate 37 none
  statics := none }

def pool13 : Array CpInfo := pool [(1, .methodref 2 3), (0, .class_ 4), (0, .nameAndType 5 6), (0, u "java/lang/Object"), (0, u "<init>"), (0, u "()V"), (2, .fieldref 10 11), (0, .class_ 12), (0, .nameAndType 13 14), (0, u "java/lang/String"), (0, u "value"), (0, u "[B"), (0, .fieldref 10 16), (0, .nameAndType 17 18), (0, u "coder"), (0, u "B"), (2, u "hash"), (0, u "I"), (2, u "hashIsZero"), (0, u "Z"), (0, .methodref 10 28), (0, .nameAndType 5 29), (0, u "([CIILjava/lang/Void;)V"), (4, .methodref 10 35), (0, .nameAndType 36 37), (0, u "checkBoundsOffCount"), (0, u "(III)I"), (0, .fieldref 10 39), (0, .nameAndType 40 26), (0, u "COMPACT_STRINGS"), (1, .class_ 44), (1, u "java/lang/StringUTF16"), (0, u "compress"), (1, .methodref 42 48), (0, .nameAndType 49 50), (0, u "coderFromArrayLen"), (0, u "([BI)B"), (2, u "toBytes"), (0, .methodref 55 56), (0, .class_ 57), (0, .nameAndType 58 59), (0, u "java/util/Arrays"), (0, u "copyOfRange"), (0, u "([BII)[B"), (15, .methodref 10 76), (0, .nameAndType 5 77), (0, u "(Ljava/nio/charset/Charset;[BII)V"), (0, .methodref 79 80), (0, .class_ 81), (0, .nameAndType 82 83), (0, u "java/util/Objects"), (0, u "requireNonNull"), (0, u "(Ljava/lang/Object;)Ljava/lang/Object;"), (0, .class_ 85), (0, u "java/nio/charset/Charset"), (0, .fieldref 87 88), (0, .class_ 89), (0, .nameAndType 90 91), (0, u "sun/nio/cs/UTF_8"), (0, u "INSTANCE"), (0, u "Lsun/nio/cs/UTF_8;"), (15, .class_ 109), (1, u "java/lang/StringLatin1"), (6, .fieldref 117 118), (0, .class_ 119), (0, .nameAndType 90 120), (0, u "sun/nio/cs/ISO_8859_1"), (0, u "Lsun/nio/cs/ISO_8859_1;"), (21, u "()Z"), (34, .methodref 42 178), (0, .nameAndType 45 179), (0, u "([CII)[B"), (13, .class_ 195), (1, u "java/lang/System"), (13, .methodref 10 210), (0, .nameAndType 5 211), (0, u "([BB)V"), (0, .methodref 193 213), (0, .nameAndType 214 215), (0, u "arraycopy"), (0, u "(Ljava/lang/Object;ILjava/lang/Object;II)V"), (22, u "([BIILjava/nio/charset/Charset;)V"), (95, u "()I"), (0, .methodref 10 336), (0, .nameAndType 17 337), (0, u "()B"), (2, u "()[B"), (28, u "(C)Z"), (92, .nameAndType 463 464), (0, u "toString"), (0, u "()Ljava/lang/String;"), (24, .methodref 10 490), (0, .nameAndType 5 491), (0, u "(Ljava/lang/AbstractStringBuilder;Ljava/lang/Void;)V"), (1, .nameAndType 494 142), (0, u "isLatin1"), (11, .nameAndType 507 334), (0, u "length"), (24, u "getBytes"), (8, .methodref 107 542), (0, .nameAndType 543 544), (0, u "equals"), (0, u "([B[B)Z"), (4, .methodref 550 506), (0, .class_ 551), (0, u "java/lang/AbstractStringBuilder"), (0, .methodref 550 553), (0, .nameAndType 554 340), (0, u "getValue"), (18, u "(Ljava/lang/Object;)Z"), (1, .class_ 576), (0, u "java/lang/CharSequence"), (22, u "CASE_INSENSITIVE_ORDER"), (0, u "Ljava/util/Comparator;"), (181, u "valueOf"), (0, u "(C)Ljava/lang/String;"), (24, u "(Ljava/lang/Object;)Ljava/lang/String;"), (12, u "([BIB)V"), (185, .methodref 2 462), (2, u "([C)V"), (4, .methodref 107 1016), (0, .nameAndType 1017 369), (0, u "canEncode"), (0, .methodref 107 1019), (0, .nameAndType 53 1020), (0, u "(C)[B"), (26, .methodref 550 493), (5, .fieldref 1054 1055), (0, .class_ 1056), (0, .nameAndType 1057 1058), (0, u "jdk/internal/util/Preconditions"), (0, u "SIOOBE_FORMATTER"), (0, u "Ljava/util/function/BiFunction;"), (5, u "(IIILjava/util/function/BiFunction;)I"), (0, .methodref 1054 1066), (0, .nameAndType 1067 1064), (0, u "checkFromIndexSize"), (33, u "serialPersistentFields"), (0, u "[Ljava/io/ObjectStreamField;"), (0, .class_ 1104), (0, u "java/lang/String$CaseInsensitiveComparator"), (1, .class_ 1107), (0, u "java/io/Serializable"), (0, .class_ 1109), (0, u "java/lang/Comparable"), (0, .class_ 1111), (0, u "java/lang/constant/Constable"), (0, .class_ 1113), (0, u "java/lang/constant/ConstantDesc"), (2, u "serialVersionUID"), (0, u "J"), (3, u "REPL"), (0, u "C"), (2, u "LATIN1"), (1, u "UTF16"), (105, u "(Ljava/lang/StringBuilder;)V")] 217

def k13m0 : Method := { name := "<init>", desc := "()V", sig := { parameters := [], returnType := none }, accessFlags := 1, code := none }
def k13c1 : Code := { maxStack := 5, maxLocals := 2, code := jdk_42_method_3_code, exceptionTable := #[], attributes := #[] }
def k13m1 : Method := { name := "<init>", desc := "([C)V", sig := { parameters := [(.array .char)], returnType := none }, accessFlags := 1, code := some k13c1 }
def k13c2 : Code := { maxStack := 6, maxLocals := 5, code := jdk_42_method_10_code, exceptionTable := #[], attributes := #[] }
def k13m2 : Method := { name := "<init>", desc := "([BIILjava/nio/charset/Charset;)V", sig := { parameters := [(.array .byte), .int, .int, (.object "java/nio/charset/Charset")], returnType := none }, accessFlags := 1, code := some k13c2 }
def k13c3 : Code := { maxStack := 6, maxLocals := 11, code := jdk_42_method_11_code, exceptionTable := #[{ startPc := 800, endPc := 813, handlerPc := 816, catchType := 202 }], attributes := #[] }
def k13m3 : Method := { name := "<init>", desc := "(Ljava/nio/charset/Charset;[BII)V", sig := { parameters := [(.object "java/nio/charset/Charset"), (.array .byte), .int, .int], returnType := none }, accessFlags := 2, code := some k13c3 }
def k13c4 : Code := { maxStack := 3, maxLocals := 2, code := jdk_42_method_53_code, exceptionTable := #[], attributes := #[] }
def k13m4 : Method := { name := "<init>", desc := "(Ljava/lang/StringBuilder;)V", sig := { parameters := [(.object "java/lang/StringBuilder")], returnType := none }, accessFlags := 1, code := some k13c4 }
def k13c5 : Code := { maxStack := 2, maxLocals := 1, code := jdk_42_method_54_code, exceptionTable := #[], attributes := #[] }
def k13m5 : Method := { name := "length", desc := "()I", sig := { parameters := [], returnType := some .int }, accessFlags := 1, code := some k13c5 }
def k13c6 : Code := { maxStack := 2, maxLocals := 3, code := jdk_42_method_66_code, exceptionTable := #[], attributes := #[] }
def k13m6 : Method := { name := "equals", desc := "(Ljava/lang/Object;)Z", sig := { parameters := [(.object "java/lang/Object")], returnType := some .boolean }, accessFlags := 1, code := some k13c6 }
def k13c7 : Code := { maxStack := 1, maxLocals := 1, code := jdk_42_method_133_code, exceptionTable := #[], attributes := #[] }
def k13m7 : Method := { name := "valueOf", desc := "(Ljava/lang/Object;)Ljava/lang/String;", sig := { parameters := [(.object "java/lang/Object")], returnType := some (.object "java/lang/String") }, accessFlags := 9, code := some k13c7 }
def k13c8 : Code := { maxStack := 4, maxLocals := 1, code := jdk_42_method_139_code, exceptionTable := #[], attributes := #[] }
def k13m8 : Method := { name := "valueOf", desc := "(C)Ljava/lang/String;", sig := { parameters := [.char], returnType := some (.object "java/lang/String") }, accessFlags := 9, code := some k13c8 }
def k13c9 : Code := { maxStack := 5, maxLocals := 4, code := jdk_42_method_147_code, exceptionTable := #[], attributes := #[] }
def k13m9 : Method := { name := "getBytes", desc := "([BIB)V", sig := { parameters := [(.array .byte), .int, .byte], returnType := none }, accessFlags := 0, code := some k13c9 }
def k13c10 : Code := { maxStack := 4, maxLocals := 6, code := jdk_42_method_149_code, exceptionTable := #[], attributes := #[] }
def k13m10 : Method := { name := "<init>", desc := "([CIILjava/lang/Void;)V", sig := { parameters := [(.array .char), .int, .int, (.object "java/lang/Void")], returnType := none }, accessFlags := 2, code := some k13c10 }
def k13c11 : Code := { maxStack := 5, maxLocals := 5, code := jdk_42_method_150_code, exceptionTable := #[], attributes := #[] }
def k13m11 : Method := { name := "<init>", desc := "(Ljava/lang/AbstractStringBuilder;Ljava/lang/Void;)V", sig := { parameters := [(.object "java/lang/AbstractStringBuilder"), (.object "java/lang/Void")], returnType := none }, accessFlags := 0, code := some k13c11 }
def k13c12 : Code := { maxStack := 2, maxLocals := 3, code := jdk_42_method_151_code, exceptionTable := #[], attributes := #[] }
def k13m12 : Method := { name := "<init>", desc := "([BB)V", sig := { parameters := [(.array .byte), .byte], returnType := none }, accessFlags := 0, code := some k13c12 }
def k13c13 : Code := { maxStack := 1, maxLocals := 1, code := jdk_42_method_152_code, exceptionTable := #[], attributes := #[] }
def k13m13 : Method := { name := "coder", desc := "()B", sig := { parameters := [], returnType := some .byte }, accessFlags := 0, code := some k13c13 }
def k13c14 : Code := { maxStack := 4, maxLocals := 3, code := jdk_42_method_157_code, exceptionTable := #[], attributes := #[] }
def k13m14 : Method := { name := "checkBoundsOffCount", desc := "(III)I", sig := { parameters := [.int, .int, .int], returnType := some .int }, accessFlags := 8, code := some k13c14 }
/-- java/lang/String -/
def k13 : Class := { plain "java/lang/String" (some 0) with
  accessFlags := 49
  interfaces := #[8, 9, 10, 11, 12]
  cf := some (fileOf pool13 10 #[.nestMembers #[1103]] #[{ accessFlags := 1, nameIndex := 5, descriptorIndex := 6, attributes := #[] }, { accessFlags := 1, nameIndex := 5, descriptorIndex := 1010, attributes := #[] }, { accessFlags := 1, nameIndex := 5, descriptorIndex := 238, attributes := #[] }, { accessFlags := 2, nameIndex := 5, descriptorIndex := 77, attributes := #[] }, { accessFlags := 1, nameIndex := 5, descriptorIndex := 1233, attributes := #[] }, { accessFlags := 1, nameIndex := 507, descriptorIndex := 334, attributes := #[] }, { accessFlags := 1, nameIndex := 543, descriptorIndex := 573, attributes := #[] }, { accessFlags := 9, nameIndex := 782, descriptorIndex := 808, attributes := #[] }, { accessFlags := 9, nameIndex := 782, descriptorIndex := 783, attributes := #[] }, { accessFlags := 0, nameIndex := 532, descriptorIndex := 821, attributes := #[] }, { accessFlags := 2, nameIndex := 5, descriptorIndex := 29, attributes := #[] }, { accessFlags := 0, nameIndex := 5, descriptorIndex := 491, attributes := #[] }, { accessFlags := 0, nameIndex := 5, descriptorIndex := 211, attributes := #[] }, { accessFlags := 0, nameIndex := 17, descriptorIndex := 337, attributes := #[] }, { accessFlags := 8, nameIndex := 36, descriptorIndex := 37, attributes := #[] }] 49 2 #[1106, 1108, 575, 1110, 1112] #[{ accessFlags := 18, nameIndex := 13, descriptorIndex := 14, attributes := #[] }, { accessFlags := 18, nameIndex := 17, descriptorIndex := 18, attributes := #[] }, { accessFlags := 2, nameIndex := 21, descriptorIndex := 22, attributes := #[] }, { accessFlags := 2, nameIndex := 25, descriptorIndex := 26, attributes := #[] }, { accessFlags := 26, nameIndex := 1116, descriptorIndex := 1117, attributes := #[] }, { accessFlags := 24, nameIndex := 40, descriptorIndex := 26, attributes := #[] }, { accessFlags := 26, nameIndex := 1101, descriptorIndex := 1102, attributes := #[] }, { accessFlags := 26, nameIndex := 1121, descriptorIndex := 1122, attributes := #[] }, { accessFlags := 25, nameIndex := 599, descriptorIndex := 600, attributes := #[] }, { accessFlags := 24, nameIndex := 1125, descriptorIndex := 18, attributes := #[] }, { accessFlags := 24, nameIndex := 1127, descriptorIndex := 18, attributes := #[] }])
  fields := #[{ name := "value", type := (.array .byte), accessFlags := 18, slot := 0, constantValue := 0 }, { name := "coder", type := .byte, accessFlags := 18, slot := 1, constantValue := 0 }, { name := "hash", type := .int, accessFlags := 2, slot := 2, constantValue := 0 }, { name := "hashIsZero", type := .boolean, accessFlags := 2, slot := 3, constantValue := 0 }, { name := "serialVersionUID", type := .long, accessFlags := 26, slot := 0, constantValue := 0 }, { name := "COMPACT_STRINGS", type := .boolean, accessFlags := 24, slot := 1, constantValue := 0 }, { name := "serialPersistentFields", type := (.array (.object "java/io/ObjectStreamField")), accessFlags := 26, slot := 2, constantValue := 0 }, { name := "REPL", type := .char, accessFlags := 26, slot := 3, constantValue := 0 }, { name := "CASE_INSENSITIVE_ORDER", type := (.object "java/util/Comparator"), accessFlags := 25, slot := 4, constantValue := 0 }, { name := "LATIN1", type := .byte, accessFlags := 24, slot := 5, constantValue := 0 }, { name := "UTF16", type := .byte, accessFlags := 24, slot := 6, constantValue := 0 }]
  methods := #[k13m0, k13m1, k13m2, k13m3, k13m4, k13m5, k13m6, k13m7, k13m8, k13m9, k13m10, k13m11, k13m12, k13m13, k13m14]
  instanceTypes := #[(.array .byte), .byte, .int, .boolean]
  staticTypes := #[.long, .boolean, (.array (.object "java/io/ObjectStreamField")), .char, (.object "java/util/Comparator"), .byte, .byte]
  resolved := Array.replicate 1451 none
  statics := some 1 }

def pool14 : Array CpInfo := pool [(2, .class_ 4), (1, u "java/lang/Object"), (0, u "<init>"), (0, u "()V"), (14, .class_ 23), (1, u "java/nio/charset/StandardCharsets"), (0, u "US_ASCII"), (0, u "Ljava/nio/charset/Charset;"), (7, u "ISO_8859_1"), (7, u "UTF_8"), (5, u "UTF_16BE"), (5, u "UTF_16LE"), (5, u "UTF_16")] 8

def k14m0 : Method := { name := "<init>", desc := "()V", sig := { parameters := [], returnType := none }, accessFlags := 2, code := none }
/-- java/nio/charset/StandardCharsets -/
def k14 : Class := { plain "java/nio/charset/StandardCharsets" (some 0) with
  accessFlags := 49
  interfaces := #[]
  cf := some (fileOf pool14 21 #[] #[{ accessFlags := 2, nameIndex := 5, descriptorIndex := 6, attributes := #[] }] 49 2 #[] #[{ accessFlags := 25, nameIndex := 24, descriptorIndex := 25, attributes := #[] }, { accessFlags := 25, nameIndex := 33, descriptorIndex := 25, attributes := #[] }, { accessFlags := 25, nameIndex := 41, descriptorIndex := 25, attributes := #[] }, { accessFlags := 25, nameIndex := 47, descriptorIndex := 25, attributes := #[] }, { accessFlags := 25, nameIndex := 53, descriptorIndex := 25, attributes := #[] }, { accessFlags := 25, nameIndex := 59, descriptorIndex := 25, attributes := #[] }])
  fields := #[{ name := "US_ASCII", type := (.object "java/nio/charset/Charset"), accessFlags := 25, slot := 0, constantValue := 0 }, { name := "ISO_8859_1", type := (.object "java/nio/charset/Charset"), accessFlags := 25, slot := 1, constantValue := 0 }, { name := "UTF_8", type := (.object "java/nio/charset/Charset"), accessFlags := 25, slot := 2, constantValue := 0 }, { name := "UTF_16BE", type := (.object "java/nio/charset/Charset"), accessFlags := 25, slot := 3, constantValue := 0 }, { name := "UTF_16LE", type := (.object "java/nio/charset/Charset"), accessFlags := 25, slot := 4, constantValue := 0 }, { name := "UTF_16", type := (.object "java/nio/charset/Charset"), accessFlags := 25, slot := 5, constantValue := 0 }]
  methods := #[k14m0]
  instanceTypes := #[]
  staticTypes := #[(.object "java/nio/charset/Charset"), (.object "java/nio/charset/Charset"), (.object "java/nio/charset/Charset"), (.object "java/nio/charset/Charset"), (.object "java/nio/charset/Charset"), (.object "java/nio/charset/Charset")]
  resolved := Array.replicate 68 none
  statics := some 2 }

def pool15 : Array CpInfo := pool [(18, .class_ 20), (1, u "java/nio/charset/Charset"), (0, u "cache1"), (0, u "[Ljava/lang/Object;"), (2, u "cache2"), (0, .class_ 27), (0, u "java/lang/Object"), (0, .class_ 29), (0, u "java/nio/charset/Charset$1"), (4, .class_ 36), (1, u "java/nio/charset/Charset$ThreadTrackHolder"), (21, .class_ 59), (0, u "java/nio/charset/Charset$2"), (11, .class_ 73), (1, u "java/nio/charset/Charset$ExtendedProviderHolder"), (22, u "standardProvider"), (0, u "Ljava/nio/charset/spi/CharsetProvider;"), (29, u "name"), (7, .class_ 136), (0, u "java/nio/charset/Charset$3"), (5, u "defaultCharset"), (0, u "Ljava/nio/charset/Charset;"), (14, u "zeroAliases"), (0, u "[Ljava/lang/String;"), (29, u "Ljava/lang/String;"), (2, u "aliases"), (2, u "aliasSet"), (0, u "Ljava/util/Set;"), (82, .class_ 280), (0, u "java/lang/Comparable"), (84, .class_ 366), (0, u "java/nio/charset/Charset$ExtendedProviderHolder$1")] 3

/-- java/nio/charset/Charset -/
def k15 : Class := { plain "java/nio/charset/Charset" (some 0) with
  accessFlags := 1057
  interfaces := #[9]
  cf := some (fileOf pool15 18 #[.nestMembers #[71, 365, 34, 135, 58, 28]] #[] 1057 26 #[279] #[{ accessFlags := 26, nameIndex := 96, descriptorIndex := 97, attributes := #[] }, { accessFlags := 26, nameIndex := 158, descriptorIndex := 159, attributes := #[] }, { accessFlags := 74, nameIndex := 21, descriptorIndex := 22, attributes := #[] }, { accessFlags := 74, nameIndex := 25, descriptorIndex := 22, attributes := #[] }, { accessFlags := 10, nameIndex := 142, descriptorIndex := 143, attributes := #[] }, { accessFlags := 18, nameIndex := 127, descriptorIndex := 189, attributes := #[] }, { accessFlags := 18, nameIndex := 192, descriptorIndex := 159, attributes := #[] }, { accessFlags := 2, nameIndex := 195, descriptorIndex := 196, attributes := #[] }])
  fields := #[{ name := "standardProvider", type := (.object "java/nio/charset/spi/CharsetProvider"), accessFlags := 26, slot := 0, constantValue := 0 }, { name := "zeroAliases", type := (.array (.object "java/lang/String")), accessFlags := 26, slot := 1, constantValue := 0 }, { name := "cache1", type := (.array (.object "java/lang/Object")), accessFlags := 74, slot := 2, constantValue := 0 }, { name := "cache2", type := (.array (.object "java/lang/Object")), accessFlags := 74, slot := 3, constantValue := 0 }, { name := "defaultCharset", type := (.object "java/nio/charset/Charset"), accessFlags := 10, slot := 4, constantValue := 0 }, { name := "name", type := (.object "java/lang/String"), accessFlags := 18, slot := 0, constantValue := 0 }, { name := "aliases", type := (.array (.object "java/lang/String")), accessFlags := 18, slot := 1, constantValue := 0 }, { name := "aliasSet", type := (.object "java/util/Set"), accessFlags := 2, slot := 2, constantValue := 0 }]
  methods := #[]
  instanceTypes := #[(.object "java/lang/String"), (.array (.object "java/lang/String")), (.object "java/util/Set")]
  staticTypes := #[(.object "java/nio/charset/spi/CharsetProvider"), (.array (.object "java/lang/String")), (.array (.object "java/lang/Object")), (.array (.object "java/lang/Object")), (.object "java/nio/charset/Charset")]
  resolved := Array.replicate 370 none
  statics := none }

def pool16 : Array CpInfo := pool [(1, .class_ 2), (0, u "sun/nio/cs/HistoricallyNamedCharset"), (0, .class_ 4), (0, u "java/lang/Object")] 4

/-- sun/nio/cs/HistoricallyNamedCharset -/
def k16 : Class := { plain "sun/nio/cs/HistoricallyNamedCharset" (some 0) with
  accessFlags := 1537
  interfaces := #[]
  cf := some (fileOf pool16 1 #[] #[] 1537 3 #[] #[])
  fields := #[]
  methods := #[]
  instanceTypes := #[]
  staticTypes := #[]
  resolved := Array.replicate 9 none
  statics := none }

def pool17 : Array CpInfo := pool [(10, .class_ 12), (1, u "java/nio/charset/Charset"), (0, u "<init>"), (5, .class_ 20), (0, u "sun/nio/cs/ISO_8859_1"), (0, .class_ 22), (0, u "sun/nio/cs/ISO_8859_1$Decoder"), (3, .class_ 27), (0, u "sun/nio/cs/ISO_8859_1$Encoder"), (3, u "()V"), (2, u "INSTANCE"), (0, u "Lsun/nio/cs/ISO_8859_1;"), (0, .class_ 37), (0, u "sun/nio/cs/HistoricallyNamedCharset")] 22

def k17m0 : Method := { name := "<init>", desc := "()V", sig := { parameters := [], returnType := none }, accessFlags := 1, code := none }
/-- sun/nio/cs/ISO_8859_1 -/
def k17 : Class := { plain "sun/nio/cs/ISO_8859_1" (some 15) with
  accessFlags := 33
  interfaces := #[16]
  cf := some (fileOf pool17 19 #[.nestMembers #[26, 21]] #[{ accessFlags := 1, nameIndex := 13, descriptorIndex := 31, attributes := #[] }] 33 10 #[36] #[{ accessFlags := 25, nameIndex := 34, descriptorIndex := 35, attributes := #[] }])
  fields := #[{ name := "INSTANCE", type := (.object "sun/nio/cs/ISO_8859_1"), accessFlags := 25, slot := 0, constantValue := 0 }]
  methods := #[k17m0]
  instanceTypes := #[(.object "java/lang/String"), (.array (.object "java/lang/String")), (.object "java/util/Set")]
  staticTypes := #[(.object "sun/nio/cs/ISO_8859_1")]
  resolved := Array.replicate 60 none
  statics := some 3 }

def pool18 : Array CpInfo := pool [(2, .class_ 4), (1, u "java/nio/charset/Charset"), (130, .class_ 136), (0, u "sun/nio/cs/Unicode"), (0, .class_ 138), (0, u "sun/nio/cs/HistoricallyNamedCharset")] 15

/-- sun/nio/cs/Unicode -/
def k18 : Class := { plain "sun/nio/cs/Unicode" (some 15) with
  accessFlags := 1056
  interfaces := #[16]
  cf := some (fileOf pool18 135 #[] #[] 1056 2 #[137] #[])
  fields := #[]
  methods := #[]
  instanceTypes := #[(.object "java/lang/String"), (.array (.object "java/lang/String")), (.object "java/util/Set")]
  staticTypes := #[]
  resolved := Array.replicate 154 none
  statics := none }

def pool19 : Array CpInfo := pool [(10, .class_ 12), (1, u "sun/nio/cs/Unicode"), (0, u "<init>"), (3, .class_ 18), (0, u "sun/nio/cs/UTF_8$Decoder"), (3, .class_ 23), (0, u "sun/nio/cs/UTF_8$Encoder"), (15, .class_ 40), (0, u "sun/nio/cs/UTF_8"), (2, u "()V"), (2, u "INSTANCE"), (0, u "Lsun/nio/cs/UTF_8;"), (8, u "JLA"), (0, u "Ljdk/internal/access/JavaLangAccess;")] 26

def k19m0 : Method := { name := "<init>", desc := "()V", sig := { parameters := [], returnType := none }, accessFlags := 1, code := none }
/-- sun/nio/cs/UTF_8 -/
def k19 : Class := { plain "sun/nio/cs/UTF_8" (some 18) with
  accessFlags := 49
  interfaces := #[]
  cf := some (fileOf pool19 39 #[.nestMembers #[22, 17]] #[{ accessFlags := 1, nameIndex := 13, descriptorIndex := 43, attributes := #[] }] 49 10 #[] #[{ accessFlags := 25, nameIndex := 46, descriptorIndex := 47, attributes := #[] }, { accessFlags := 26, nameIndex := 56, descriptorIndex := 57, attributes := #[] }])
  fields := #[{ name := "INSTANCE", type := (.object "sun/nio/cs/UTF_8"), accessFlags := 25, slot := 0, constantValue := 0 }, { name := "JLA", type := (.object "jdk/internal/access/JavaLangAccess"), accessFlags := 26, slot := 1, constantValue := 0 }]
  methods := #[k19m0]
  instanceTypes := #[(.object "java/lang/String"), (.array (.object "java/lang/String")), (.object "java/util/Set")]
  staticTypes := #[(.object "sun/nio/cs/UTF_8"), (.object "jdk/internal/access/JavaLangAccess")]
  resolved := Array.replicate 84 none
  statics := some 4 }

def pool20 : Array CpInfo := pool [(2, .class_ 4), (1, u "java/lang/Object"), (0, u "<init>"), (0, u "()V"), (1, .class_ 10), (1, u "java/lang/System"), (0, u "allowSecurityManager"), (0, u "I"), (16, u "cons"), (0, u "Ljava/io/Console;"), (77, .class_ 110), (1, u "java/lang/System$CallersHolder"), (43, u "initialErrStream"), (0, u "Ljava/io/PrintStream;"), (19, u "security"), (0, u "Ljava/lang/SecurityManager;"), (31, .class_ 209), (0, u "java/lang/System$1"), (7, u "props"), (0, u "Ljava/util/Properties;"), (2, u "lineSeparator"), (0, u "Ljava/lang/String;"), (96, .class_ 321), (1, u "java/lang/System$LoggerFinder"), (5, .class_ 328), (0, u "java/lang/System$Logger"), (67, u "err"), (2, u "out"), (91, u "notSupportedJnuEncoding"), (15, u "in"), (17, u "initialIn"), (0, u "Ljava/io/InputStream;"), (35, u "bootLayer"), (0, u "Ljava/lang/ModuleLayer;"), (99, .class_ 664), (0, u "java/lang/System$2"), (9, u "NEVER"), (2, u "MAYBE"), (49, u "arraycopy"), (0, u "(Ljava/lang/Object;ILjava/lang/Object;II)V"), (72, .class_ 802), (0, u "java/lang/System$Logger$Level")] 31

def k20m0 : Method := { name := "<init>", desc := "()V", sig := { parameters := [], returnType := none }, accessFlags := 2, code := none }
def k20m1 : Method := { name := "arraycopy", desc := "(Ljava/lang/Object;ILjava/lang/Object;II)V", sig := { parameters := [(.object "java/lang/Object"), .int, (.object "java/lang/Object"), .int, .int], returnType := none }, accessFlags := 265, code := none }
/-- java/lang/System -/
def k20 : Class := { plain "java/lang/System" (some 0) with
  accessFlags := 49
  interfaces := #[]
  cf := some (fileOf pool20 8 #[.nestMembers #[319, 327, 801, 108, 663, 208]] #[{ accessFlags := 2, nameIndex := 5, descriptorIndex := 6, attributes := #[] }, { accessFlags := 265, nameIndex := 727, descriptorIndex := 728, attributes := #[] }] 49 2 #[] #[{ accessFlags := 25, nameIndex := 507, descriptorIndex := 526, attributes := #[] }, { accessFlags := 25, nameIndex := 399, descriptorIndex := 155, attributes := #[] }, { accessFlags := 25, nameIndex := 396, descriptorIndex := 155, attributes := #[] }, { accessFlags := 10, nameIndex := 525, descriptorIndex := 526, attributes := #[] }, { accessFlags := 26, nameIndex := 674, descriptorIndex := 12, attributes := #[] }, { accessFlags := 26, nameIndex := 677, descriptorIndex := 12, attributes := #[] }, { accessFlags := 10, nameIndex := 11, descriptorIndex := 12, attributes := #[] }, { accessFlags := 74, nameIndex := 175, descriptorIndex := 176, attributes := #[] }, { accessFlags := 10, nameIndex := 491, descriptorIndex := 222, attributes := #[] }, { accessFlags := 74, nameIndex := 29, descriptorIndex := 30, attributes := #[] }, { accessFlags := 74, nameIndex := 154, descriptorIndex := 155, attributes := #[] }, { accessFlags := 10, nameIndex := 217, descriptorIndex := 218, attributes := #[] }, { accessFlags := 10, nameIndex := 221, descriptorIndex := 222, attributes := #[] }, { accessFlags := 8, nameIndex := 562, descriptorIndex := 563, attributes := #[] }])
  fields := #[{ name := "in", type := (.object "java/io/InputStream"), accessFlags := 25, slot := 0, constantValue := 0 }, { name := "out", type := (.object "java/io/PrintStream"), accessFlags := 25, slot := 1, constantValue := 0 }, { name := "err", type := (.object "java/io/PrintStream"), accessFlags := 25, slot := 2, constantValue := 0 }, { name := "initialIn", type := (.object "java/io/InputStream"), accessFlags := 10, slot := 3, constantValue := 0 }, { name := "NEVER", type := .int, accessFlags := 26, slot := 4, constantValue := 0 }, { name := "MAYBE", type := .int, accessFlags := 26, slot := 5, constantValue := 0 }, { name := "allowSecurityManager", type := .int, accessFlags := 10, slot := 6, constantValue := 0 }, { name := "security", type := (.object "java/lang/SecurityManager"), accessFlags := 74, slot := 7, constantValue := 0 }, { name := "notSupportedJnuEncoding", type := (.object "java/lang/String"), accessFlags := 10, slot := 8, constantValue := 0 }, { name := "cons", type := (.object "java/io/Console"), accessFlags := 74, slot := 9, constantValue := 0 }, { name := "initialErrStream", type := (.object "java/io/PrintStream"), accessFlags := 74, slot := 10, constantValue := 0 }, { name := "props", type := (.object "java/util/Properties"), accessFlags := 10, slot := 11, constantValue := 0 }, { name := "lineSeparator", type := (.object "java/lang/String"), accessFlags := 10, slot := 12, constantValue := 0 }, { name := "bootLayer", type := (.object "java/lang/ModuleLayer"), accessFlags := 8, slot := 13, constantValue := 0 }]
  methods := #[k20m0, k20m1]
  instanceTypes := #[]
  staticTypes := #[(.object "java/io/InputStream"), (.object "java/io/PrintStream"), (.object "java/io/PrintStream"), (.object "java/io/InputStream"), .int, .int, .int, (.object "java/lang/SecurityManager"), (.object "java/lang/String"), (.object "java/io/Console"), (.object "java/io/PrintStream"), (.object "java/util/Properties"), (.object "java/lang/String"), (.object "java/lang/ModuleLayer")]
  resolved := Array.replicate 834 none
  statics := none }

def pool21 : Array CpInfo := pool [(1, .methodref 2 3), (0, .class_ 4), (0, .nameAndType 5 6), (0, u "java/lang/Object"), (0, u "<init>"), (0, u "()V"), (0, .fieldref 8 9), (0, .class_ 10), (0, .nameAndType 11 12), (0, u "com/example/splitbook/splitbook/allocation/Field"), (0, u "tag"), (0, u "I"), (0, .fieldref 8 14), (0, .nameAndType 15 16), (0, u "name"), (0, u "Ljava/lang/String;"), (0, .methodref 18 19), (0, .class_ 20), (0, .nameAndType 21 22), (0, u "com/example/splitbook/splitbook/tagvalue/TagValueMessage"), (0, u "indexOf"), (0, u "(I)I"), (0, .methodref 18 24), (0, .nameAndType 25 26), (0, u "value"), (0, u "(I)Ljava/lang/String;"), (0, .class_ 28), (0, u "java/lang/StringBuilder"), (0, .methodref 27 3), (0, .methodref 27 31), (0, .nameAndType 32 33), (0, u "append"), (0, u "(Ljava/lang/String;)Ljava/lang/StringBuilder;"), (0, .string 35), (0, u " ("), (0, .methodref 27 37), (0, .nameAndType 32 38), (0, u "(I)Ljava/lang/StringBuilder;"), (0, .string 40), (0, u ")"), (0, .methodref 27 42), (0, .nameAndType 43 44), (0, u "toString"), (0, u "()Ljava/lang/String;"), (4, u "(ILjava/lang/String;)V"), (2, u "NONE"), (0, u "Lcom/example/splitbook/splitbook/allocation/Field;"), (3, u "valueIn"), (0, u "(Lcom/example/splitbook/splitbook/tagvalue/TagValueMessage;)Ljava/lang/String;")] 6

def k21c0 : Code := { maxStack := 2, maxLocals := 3, code := prog_14_method_1_code, exceptionTable := #[], attributes := #[] }
def k21m0 : Method := { name := "<init>", desc := "(ILjava/lang/String;)V", sig := { parameters := [.int, (.object "java/lang/String")], returnType := none }, accessFlags := 0, code := some k21c0 }
def k21c1 : Code := { maxStack := 2, maxLocals := 3, code := prog_14_method_3_code, exceptionTable := #[], attributes := #[] }
def k21m1 : Method := { name := "valueIn", desc := "(Lcom/example/splitbook/splitbook/tagvalue/TagValueMessage;)Ljava/lang/String;", sig := { parameters := [(.object "com/example/splitbook/splitbook/tagvalue/TagValueMessage")], returnType := some (.object "java/lang/String") }, accessFlags := 0, code := some k21c1 }
def k21c2 : Code := { maxStack := 2, maxLocals := 1, code := prog_14_method_4_code, exceptionTable := #[], attributes := #[] }
def k21m2 : Method := { name := "toString", desc := "()Ljava/lang/String;", sig := { parameters := [], returnType := some (.object "java/lang/String") }, accessFlags := 1, code := some k21c2 }
/-- com/example/splitbook/splitbook/allocation/Field -/
def k21 : Class := { plain "com/example/splitbook/splitbook/allocation/Field" (some 0) with
  accessFlags := 48
  interfaces := #[]
  cf := some (fileOf pool21 8 #[] #[{ accessFlags := 0, nameIndex := 5, descriptorIndex := 49, attributes := #[] }, { accessFlags := 0, nameIndex := 57, descriptorIndex := 58, attributes := #[] }, { accessFlags := 1, nameIndex := 43, descriptorIndex := 44, attributes := #[] }] 48 2 #[] #[{ accessFlags := 24, nameIndex := 52, descriptorIndex := 53, attributes := #[] }, { accessFlags := 18, nameIndex := 11, descriptorIndex := 12, attributes := #[] }, { accessFlags := 18, nameIndex := 15, descriptorIndex := 16, attributes := #[] }])
  fields := #[{ name := "NONE", type := (.object "com/example/splitbook/splitbook/allocation/Field"), accessFlags := 24, slot := 0, constantValue := 0 }, { name := "tag", type := .int, accessFlags := 18, slot := 0, constantValue := 0 }, { name := "name", type := (.object "java/lang/String"), accessFlags := 18, slot := 1, constantValue := 0 }]
  methods := #[k21m0, k21m1, k21m2]
  instanceTypes := #[.int, (.object "java/lang/String")]
  staticTypes := #[(.object "com/example/splitbook/splitbook/allocation/Field")]
  resolved := Array.replicate 65 none
  statics := none }

def pool22 : Array CpInfo := pool [(4, .class_ 6), (1, u "java/lang/Object"), (0, u "<init>"), (0, u "()V"), (5, .class_ 16), (1, u "java/lang/StringLatin1"), (73, u "canEncode"), (14, u "(C)Z"), (15, u "$assertionsDisabled"), (0, u "Z"), (98, .class_ 223), (1, u "java/lang/StringLatin1$LinesSpliterator"), (57, u "equals"), (0, u "([B[B)Z"), (97, u "toBytes"), (1, u "(C)[B"), (7, .class_ 391), (0, u "java/lang/StringLatin1$CharsSpliterator")] 3

def k22m0 : Method := { name := "<init>", desc := "()V", sig := { parameters := [], returnType := none }, accessFlags := 0, code := none }
def k22c1 : Code := { maxStack := 2, maxLocals := 1, code := jdk_43_method_3_code, exceptionTable := #[], attributes := #[] }
def k22m1 : Method := { name := "canEncode", desc := "(C)Z", sig := { parameters := [.char], returnType := some .boolean }, accessFlags := 9, code := some k22c1 }
def k22c2 : Code := { maxStack := 3, maxLocals := 3, code := jdk_43_method_13_code, exceptionTable := #[], attributes := #[] }
def k22m2 : Method := { name := "equals", desc := "([B[B)Z", sig := { parameters := [(.array .byte), (.array .byte)], returnType := some .boolean }, accessFlags := 9, code := some k22c2 }
def k22c3 : Code := { maxStack := 4, maxLocals := 1, code := jdk_43_method_46_code, exceptionTable := #[], attributes := #[] }
def k22m3 : Method := { name := "toBytes", desc := "(C)[B", sig := { parameters := [.char], returnType := some (.array .byte) }, accessFlags := 9, code := some k22c3 }
/-- java/lang/StringLatin1 -/
def k22 : Class := { plain "java/lang/StringLatin1" (some 0) with
  accessFlags := 48
  interfaces := #[]
  cf := some (fileOf pool22 14 #[.nestMembers #[390, 221]] #[{ accessFlags := 0, nameIndex := 7, descriptorIndex := 8, attributes := #[] }, { accessFlags := 9, nameIndex := 90, descriptorIndex := 105, attributes := #[] }, { accessFlags := 9, nameIndex := 281, descriptorIndex := 282, attributes := #[] }, { accessFlags := 9, nameIndex := 380, descriptorIndex := 382, attributes := #[] }] 48 4 #[] #[{ accessFlags := 4120, nameIndex := 121, descriptorIndex := 122, attributes := #[] }])
  fields := #[{ name := "$assertionsDisabled", type := .boolean, accessFlags := 4120, slot := 0, constantValue := 0 }]
  methods := #[k22m0, k22m1, k22m2, k22m3]
  instanceTypes := #[]
  staticTypes := #[.boolean]
  resolved := Array.replicate 395 none
  statics := none }

def pool23 : Array CpInfo := pool [(1, .methodref 2 3), (0, .class_ 4), (0, .nameAndType 5 6), (0, u "java/lang/Object"), (0, u "<init>"), (0, u "()V"), (0, .fieldref 8 9), (0, .class_ 10), (0, .nameAndType 11 12), (0, u "com/example/splitbook/splitbook/allocation/ConditionalField"), (0, u "field"), (0, u "Lcom/example/splitbook/splitbook/allocation/Field;"), (0, .fieldref 8 14), (0, .nameAndType 15 12), (0, u "condition"), (0, .fieldref 8 17), (0, .nameAndType 18 19), (0, u "codes"), (0, u "Ljava/util/Set;"), (0, .fieldref 8 21), (0, .nameAndType 22 23), (0, u "exempting"), (0, u "Z"), (0, .interfaceMethodref 25 26), (0, .class_ 27), (0, .nameAndType 28 29), (0, u "java/util/Set"), (0, u "of"), (0, u "()Ljava/util/Set;"), (0, .methodref 8 31), (0, .nameAndType 5 32), (0, u "(Lcom/example/splitbook/splitbook/allocation/Field;Lcom/example/splitbook/splitbook/allocation/Field;Ljava/util/Set;Z)V"), (3, .methodref 37 38), (0, .class_ 39), (0, .nameAndType 40 41), (0, u "com/example/splitbook/splitbook/allocation/Field"), (0, u "valueIn"), (0, u "(Lcom/example/splitbook/splitbook/tagvalue/TagValueMessage;)Ljava/lang/String;"), (0, .interfaceMethodref 25 43), (0, .nameAndType 44 45), (0, u "isEmpty"), (0, u "()Z"), (0, .class_ 47), (0, u "java/lang/StringBuilder"), (0, .methodref 46 3), (0, .methodref 46 50), (0, .nameAndType 51 52), (0, u "append"), (0, u "(Ljava/lang/Object;)Ljava/lang/StringBuilder;"), (0, .string 54), (0, u " is stated"), (0, .methodref 46 56), (0, .nameAndType 51 57), (0, u "(Ljava/lang/String;)Ljava/lang/StringBuilder;"), (0, .methodref 46 59), (0, .nameAndType 60 61), (0, u "toString"), (0, u "()Ljava/lang/String;"), (11, u "whenStated"), (0, u "(Lcom/example/splitbook/splitbook/allocation/Field;Lcom/example/splitbook/splitbook/allocation/Field;)Lcom/example/splitbook/splitbook/allocation/ConditionalField;"), (3, u "()Lcom/example/splitbook/splitbook/allocation/Field;"), (0, u "conditionMetIn")] 5

def k23c0 : Code := { maxStack := 2, maxLocals := 5, code := prog_11_method_1_code, exceptionTable := #[], attributes := #[] }
def k23m0 : Method := { name := "<init>", desc := "(Lcom/example/splitbook/splitbook/allocation/Field;Lcom/example/splitbook/splitbook/allocation/Field;Ljava/util/Set;Z)V", sig := { parameters := [(.object "com/example/splitbook/splitbook/allocation/Field"), (.object "com/example/splitbook/splitbook/allocation/Field"), (.object "java/util/Set"), .boolean], returnType := none }, accessFlags := 2, code := some k23c0 }
def k23c1 : Code := { maxStack := 6, maxLocals := 2, code := prog_11_method_2_code, exceptionTable := #[], attributes := #[] }
def k23m1 : Method := { name := "whenStated", desc := "(Lcom/example/splitbook/splitbook/allocation/Field;Lcom/example/splitbook/splitbook/allocation/Field;)Lcom/example/splitbook/splitbook/allocation/ConditionalField;", sig := { parameters := [(.object "com/example/splitbook/splitbook/allocation/Field"), (.object "com/example/splitbook/splitbook/allocation/Field")], returnType := some (.object "com/example/splitbook/splitbook/allocation/ConditionalField") }, accessFlags := 8, code := some k23c1 }
def k23c2 : Code := { maxStack := 1, maxLocals := 1, code := prog_11_method_5_code, exceptionTable := #[], attributes := #[] }
def k23m2 : Method := { name := "field", desc := "()Lcom/example/splitbook/splitbook/allocation/Field;", sig := { parameters := [], returnType := some (.object "com/example/splitbook/splitbook/allocation/Field") }, accessFlags := 0, code := some k23c2 }
def k23c3 : Code := { maxStack := 2, maxLocals := 4, code := prog_11_method_6_code, exceptionTable := #[], attributes := #[] }
def k23m3 : Method := { name := "conditionMetIn", desc := "(Lcom/example/splitbook/splitbook/tagvalue/TagValueMessage;)Ljava/lang/String;", sig := { parameters := [(.object "com/example/splitbook/splitbook/tagvalue/TagValueMessage")], returnType := some (.object "java/lang/String") }, accessFlags := 0, code := some k23c3 }
/-- com/example/splitbook/splitbook/allocation/ConditionalField -/
def k23 : Class := { plain "com/example/splitbook/splitbook/allocation/ConditionalField" (some 0) with
  accessFlags := 48
  interfaces := #[]
  cf := some (fileOf pool23 8 #[] #[{ accessFlags := 2, nameIndex := 5, descriptorIndex := 32, attributes := #[] }, { accessFlags := 8, nameIndex := 73, descriptorIndex := 74, attributes := #[] }, { accessFlags := 0, nameIndex := 11, descriptorIndex := 78, attributes := #[] }, { accessFlags := 0, nameIndex := 79, descriptorIndex := 41, attributes := #[] }] 48 2 #[] #[{ accessFlags := 18, nameIndex := 11, descriptorIndex := 12, attributes := #[] }, { accessFlags := 18, nameIndex := 15, descriptorIndex := 12, attributes := #[] }, { accessFlags := 18, nameIndex := 18, descriptorIndex := 19, attributes := #[] }, { accessFlags := 18, nameIndex := 22, descriptorIndex := 23, attributes := #[] }])
  fields := #[{ name := "field", type := (.object "com/example/splitbook/splitbook/allocation/Field"), accessFlags := 18, slot := 0, constantValue := 0 }, { name := "condition", type := (.object "com/example/splitbook/splitbook/allocation/Field"), accessFlags := 18, slot := 1, constantValue := 0 }, { name := "codes", type := (.object "java/util/Set"), accessFlags := 18, slot := 2, constantValue := 0 }, { name := "exempting", type := .boolean, accessFlags := 18, slot := 3, constantValue := 0 }]
  methods := #[k23m0, k23m1, k23m2, k23m3]
  instanceTypes := #[(.object "com/example/splitbook/splitbook/allocation/Field"), (.object "com/example/splitbook/splitbook/allocation/Field"), (.object "java/util/Set"), .boolean]
  staticTypes := #[]
  resolved := Array.replicate 85 none
  statics := none }

def pool24 : Array CpInfo := pool [(8, .class_ 10), (1, u "java/lang/Iterable"), (24, .class_ 36), (0, u "java/lang/Object")] 25

/-- java/lang/Iterable -/
def k24 : Class := { plain "java/lang/Iterable" (some 0) with
  accessFlags := 1537
  interfaces := #[]
  cf := some (fileOf pool24 8 #[] #[] 1537 35 #[] #[])
  fields := #[]
  methods := #[]
  instanceTypes := #[]
  staticTypes := #[]
  resolved := Array.replicate 62 none
  statics := none }

def pool25 : Array CpInfo := pool [(10, .class_ 12), (1, u "java/util/Collection"), (47, .class_ 61), (0, u "java/lang/Object"), (0, .class_ 63), (0, u "java/lang/Iterable")] 51

/-- java/util/Collection -/
def k25 : Class := { plain "java/util/Collection" (some 0) with
  accessFlags := 1537
  interfaces := #[24]
  cf := some (fileOf pool25 10 #[] #[] 1537 60 #[62] #[])
  fields := #[]
  methods := #[]
  instanceTypes := #[]
  staticTypes := #[]
  resolved := Array.replicate 115 none
  statics := none }

def pool26 : Array CpInfo := pool [(9, .fieldref 10 11), (0, .class_ 12), (0, .nameAndType 13 14), (0, u "java/util/ImmutableCollections"), (0, u "EMPTY_SET"), (0, u "Ljava/util/ImmutableCollections$SetN;"), (11, .class_ 27), (0, u "java/lang/Object"), (5, .class_ 34), (0, u "java/util/Set"), (1, .class_ 38), (1, u "java/util/Collection"), (0, u "isEmpty"), (0, u "()Z"), (2, u "of"), (0, u "()Ljava/util/Set;")] 99

def k26m0 : Method := { name := "isEmpty", desc := "()Z", sig := { parameters := [], returnType := some .boolean }, accessFlags := 1025, code := none }
def k26c1 : Code := { maxStack := 1, maxLocals := 0, code := jdk_96_method_17_code, exceptionTable := #[], attributes := #[] }
def k26m1 : Method := { name := "of", desc := "()Ljava/util/Set;", sig := { parameters := [], returnType := some (.object "java/util/Set") }, accessFlags := 9, code := some k26c1 }
/-- java/util/Set -/
def k26 : Class := { plain "java/util/Set" (some 0) with
  accessFlags := 1537
  interfaces := #[25]
  cf := some (fileOf pool26 33 #[] #[{ accessFlags := 1025, nameIndex := 39, descriptorIndex := 40, attributes := #[] }, { accessFlags := 9, nameIndex := 43, descriptorIndex := 44, attributes := #[] }] 1537 26 #[36] #[])
  fields := #[]
  methods := #[k26m0, k26m1]
  instanceTypes := #[]
  staticTypes := #[]
  resolved := Array.replicate 144 none
  statics := none }

def pool27 : Array CpInfo := pool [(2, .class_ 4), (1, u "java/lang/Object"), (0, u "<init>"), (0, u "()V"), (3, .class_ 11), (0, u "java/util/ImmutableCollections$List12"), (0, .class_ 13), (0, u "java/util/ImmutableCollections$ListN"), (3, u "Z"), (29, .class_ 49), (1, u "java/util/ImmutableCollections"), (0, u "$assertionsDisabled"), (5, u "[Ljava/lang/Object;"), (5, u "EMPTY_LIST"), (0, u "Ljava/util/ImmutableCollections$ListN;"), (8, u "EMPTY_LIST_NULLS"), (22, u "SALT32L"), (0, u "J"), (2, u "REVERSE"), (6, u "archivedObjects"), (2, u "EMPTY"), (0, u "Ljava/lang/Object;"), (0, .class_ 112), (0, u "java/util/ImmutableCollections$SetN"), (5, u "EMPTY_SET"), (0, u "Ljava/util/ImmutableCollections$SetN;"), (0, .class_ 121), (0, u "java/util/ImmutableCollections$MapN"), (3, u "EMPTY_MAP"), (0, u "Ljava/util/ImmutableCollections$MapN;"), (4, u "EXPAND_FACTOR"), (0, u "I"), (36, .class_ 170), (0, u "java/util/ImmutableCollections$MapN$MapNIterator"), (0, .class_ 172), (0, u "java/util/ImmutableCollections$MapN$1"), (0, .class_ 174), (0, u "java/util/ImmutableCollections$Map1"), (0, .class_ 176), (0, u "java/util/ImmutableCollections$AbstractImmutableMap"), (0, .class_ 178), (0, u "java/util/ImmutableCollections$SetN$SetNIterator"), (0, .class_ 180), (0, u "java/util/ImmutableCollections$Set12"), (0, .class_ 182), (0, u "java/util/ImmutableCollections$Set12$1"), (0, .class_ 184), (0, u "java/util/ImmutableCollections$AbstractImmutableSet"), (0, .class_ 186), (0, u "java/util/ImmutableCollections$SubList"), (0, .class_ 188), (0, u "java/util/ImmutableCollections$ListItr"), (0, .class_ 190), (0, u "java/util/ImmutableCollections$AbstractImmutableList"), (0, .class_ 192), (0, u "java/util/ImmutableCollections$AbstractImmutableCollection"), (0, .class_ 194), (0, u "java/util/ImmutableCollections$Access"), (0, .class_ 196), (0, u "java/util/ImmutableCollections$Access$1")] 16

def k27m0 : Method := { name := "<init>", desc := "()V", sig := { parameters := [], returnType := none }, accessFlags := 2, code := none }
/-- java/util/ImmutableCollections -/
def k27 : Class := { plain "java/util/ImmutableCollections" (some 0) with
  accessFlags := 32
  interfaces := #[]
  cf := some (fileOf pool27 47 #[.nestMembers #[120, 169, 171, 173, 175, 111, 177, 179, 181, 183, 12, 10, 185, 187, 189, 191, 193, 195]] #[{ accessFlags := 2, nameIndex := 5, descriptorIndex := 6, attributes := #[] }] 32 2 #[] #[{ accessFlags := 26, nameIndex := 95, descriptorIndex := 96, attributes := #[] }, { accessFlags := 26, nameIndex := 99, descriptorIndex := 17, attributes := #[] }, { accessFlags := 10, nameIndex := 106, descriptorIndex := 56, attributes := #[] }, { accessFlags := 26, nameIndex := 109, descriptorIndex := 110, attributes := #[] }, { accessFlags := 24, nameIndex := 62, descriptorIndex := 63, attributes := #[] }, { accessFlags := 24, nameIndex := 72, descriptorIndex := 63, attributes := #[] }, { accessFlags := 24, nameIndex := 118, descriptorIndex := 119, attributes := #[] }, { accessFlags := 24, nameIndex := 125, descriptorIndex := 126, attributes := #[] }, { accessFlags := 24, nameIndex := 131, descriptorIndex := 132, attributes := #[] }, { accessFlags := 4120, nameIndex := 50, descriptorIndex := 17, attributes := #[] }])
  fields := #[{ name := "SALT32L", type := .long, accessFlags := 26, slot := 0, constantValue := 0 }, { name := "REVERSE", type := .boolean, accessFlags := 26, slot := 1, constantValue := 0 }, { name := "archivedObjects", type := (.array (.object "java/lang/Object")), accessFlags := 10, slot := 2, constantValue := 0 }, { name := "EMPTY", type := (.object "java/lang/Object"), accessFlags := 26, slot := 3, constantValue := 0 }, { name := "EMPTY_LIST", type := (.object "java/util/ImmutableCollections$ListN"), accessFlags := 24, slot := 4, constantValue := 0 }, { name := "EMPTY_LIST_NULLS", type := (.object "java/util/ImmutableCollections$ListN"), accessFlags := 24, slot := 5, constantValue := 0 }, { name := "EMPTY_SET", type := (.object "java/util/ImmutableCollections$SetN"), accessFlags := 24, slot := 6, constantValue := 0 }, { name := "EMPTY_MAP", type := (.object "java/util/ImmutableCollections$MapN"), accessFlags := 24, slot := 7, constantValue := 0 }, { name := "EXPAND_FACTOR", type := .int, accessFlags := 24, slot := 8, constantValue := 0 }, { name := "$assertionsDisabled", type := .boolean, accessFlags := 4120, slot := 9, constantValue := 0 }]
  methods := #[k27m0]
  instanceTypes := #[]
  staticTypes := #[.long, .boolean, (.array (.object "java/lang/Object")), (.object "java/lang/Object"), (.object "java/util/ImmutableCollections$ListN"), (.object "java/util/ImmutableCollections$ListN"), (.object "java/util/ImmutableCollections$SetN"), (.object "java/util/ImmutableCollections$MapN"), .int, .boolean]
  resolved := Array.replicate 213 none
  statics := some 5 }

def pool28 : Array CpInfo := pool [(2, .class_ 4), (1, u "java/lang/Object"), (0, u "<init>"), (0, u "()V"), (1, .class_ 10), (1, u "java/util/AbstractCollection"), (66, .class_ 78), (0, u "java/util/Collection")] 81

def k28m0 : Method := { name := "<init>", desc := "()V", sig := { parameters := [], returnType := none }, accessFlags := 4, code := none }
/-- java/util/AbstractCollection -/
def k28 : Class := { plain "java/util/AbstractCollection" (some 0) with
  accessFlags := 1057
  interfaces := #[25]
  cf := some (fileOf pool28 8 #[] #[{ accessFlags := 4, nameIndex := 5, descriptorIndex := 6, attributes := #[] }] 1057 2 #[77] #[])
  fields := #[]
  methods := #[k28m0]
  instanceTypes := #[]
  staticTypes := #[]
  resolved := Array.replicate 160 none
  statics := none }

def pool29 : Array CpInfo := pool [(2, .class_ 4), (1, u "java/util/AbstractCollection"), (0, u "<init>"), (0, u "()V"), (1, .class_ 10), (1, u "java/util/ImmutableCollections"), (2, .class_ 14), (0, u "java/util/ImmutableCollections$AbstractImmutableCollection")] 41

def k29m0 : Method := { name := "<init>", desc := "()V", sig := { parameters := [], returnType := none }, accessFlags := 0, code := none }
/-- java/util/ImmutableCollections$AbstractImmutableCollection -/
def k29 : Class := { plain "java/util/ImmutableCollections$AbstractImmutableCollection" (some 28) with
  accessFlags := 1056
  interfaces := #[]
  cf := some (fileOf pool29 13 #[.nestHost 8] #[{ accessFlags := 0, nameIndex := 5, descriptorIndex := 6, attributes := #[] }] 1056 2 #[] #[])
  fields := #[]
  methods := #[k29m0]
  instanceTypes := #[]
  staticTypes := #[]
  resolved := Array.replicate 56 none
  statics := none }

def pool30 : Array CpInfo := pool [(2, .class_ 4), (1, u "java/util/ImmutableCollections$AbstractImmutableCollection"), (0, u "<init>"), (0, u "()V"), (0, .class_ 8), (0, u "java/util/Set"), (7, .class_ 17), (0, u "java/util/ImmutableCollections$AbstractImmutableSet"), (43, .class_ 62), (0, u "java/util/ImmutableCollections")] 3

def k30m0 : Method := { name := "<init>", desc := "()V", sig := { parameters := [], returnType := none }, accessFlags := 0, code := none }
/-- java/util/ImmutableCollections$AbstractImmutableSet -/
def k30 : Class := { plain "java/util/ImmutableCollections$AbstractImmutableSet" (some 29) with
  accessFlags := 1056
  interfaces := #[26]
  cf := some (fileOf pool30 16 #[.nestHost 61] #[{ accessFlags := 0, nameIndex := 5, descriptorIndex := 6, attributes := #[] }] 1056 2 #[7] #[])
  fields := #[]
  methods := #[k30m0]
  instanceTypes := #[]
  staticTypes := #[]
  resolved := Array.replicate 66 none
  statics := none }

def pool31 : Array CpInfo := pool [(1, .class_ 2), (0, u "java/util/ImmutableCollections"), (1, .class_ 6), (1, u "java/util/ImmutableCollections$AbstractImmutableSet"), (2, .fieldref 10 11), (0, .class_ 12), (0, .nameAndType 13 14), (0, u "java/util/ImmutableCollections$SetN"), (0, u "size"), (0, u "I"), (4, u "elements"), (0, u "[Ljava/lang/Object;"), (86, .class_ 108), (0, u "java/io/Serializable"), (21, u "isEmpty"), (0, u "()Z")] 36

def k31c0 : Code := { maxStack := 1, maxLocals := 1, code := jdk_132_method_3_code, exceptionTable := #[], attributes := #[] }
def k31m0 : Method := { name := "isEmpty", desc := "()Z", sig := { parameters := [], returnType := some .boolean }, accessFlags := 1, code := some k31c0 }
/-- java/util/ImmutableCollections$SetN -/
def k31 : Class := { plain "java/util/ImmutableCollections$SetN" (some 30) with
  accessFlags := 48
  interfaces := #[8]
  cf := some (fileOf pool31 10 #[.nestHost 1] #[{ accessFlags := 1, nameIndex := 130, descriptorIndex := 131, attributes := #[] }] 48 4 #[107] #[{ accessFlags := 16, nameIndex := 19, descriptorIndex := 20, attributes := #[] }, { accessFlags := 16, nameIndex := 13, descriptorIndex := 14, attributes := #[] }])
  fields := #[{ name := "elements", type := (.array (.object "java/lang/Object")), accessFlags := 16, slot := 0, constantValue := 0 }, { name := "size", type := .int, accessFlags := 16, slot := 1, constantValue := 0 }]
  methods := #[k31m0]
  instanceTypes := #[(.array (.object "java/lang/Object")), .int]
  staticTypes := #[]
  resolved := Array.replicate 168 none
  statics := none }

def pool32 : Array CpInfo := pool [(1, .class_ 2), (0, u "java/lang/Appendable"), (0, .class_ 4), (0, u "java/lang/Object")] 9

/-- java/lang/Appendable -/
def k32 : Class := { plain "java/lang/Appendable" (some 0) with
  accessFlags := 1537
  interfaces := #[]
  cf := some (fileOf pool32 1 #[] #[] 1537 3 #[] #[])
  fields := #[]
  methods := #[]
  instanceTypes := #[]
  staticTypes := #[]
  resolved := Array.replicate 14 none
  statics := none }

def pool33 : Array CpInfo := pool [(1, .class_ 2), (0, u "java/lang/String"), (0, .methodref 4 5), (0, .class_ 6), (0, .nameAndType 7 8), (0, u "java/lang/Object"), (0, u "<init>"), (0, u "()V"), (1, .class_ 12), (1, u "java/lang/AbstractStringBuilder"), (0, u "EMPTYVALUE"), (0, u "[B"), (0, .fieldref 10 16), (0, .nameAndType 17 14), (0, u "value"), (0, .fieldref 1 19), (0, .nameAndType 20 21), (0, u "COMPACT_STRINGS"), (0, u "Z"), (0, .fieldref 10 23), (0, .nameAndType 24 25), (0, u "coder"), (0, u "B"), (6, .methodref 1 33), (0, .nameAndType 34 35), (0, u "length"), (0, u "()I"), (0, .class_ 37), (0, u "java/lang/Integer"), (2, .methodref 1 41), (0, .nameAndType 24 42), (0, u "()B"), (2, u "append"), (0, u "(Ljava/lang/String;)Ljava/lang/AbstractStringBuilder;"), (1, .class_ 49), (0, u "java/lang/CharSequence"), (19, u "(Ljava/lang/String;)V"), (5, u "maybeLatin1"), (3, .fieldref 10 80), (0, .nameAndType 81 82), (0, u "count"), (0, u "I"), (0, .methodref 10 84), (0, .nameAndType 85 86), (0, u "isLatin1"), (0, u "()Z"), (13, .methodref 10 101), (0, .nameAndType 102 103), (0, u "ensureCapacityInternal"), (0, u "(I)V"), (3, u "(I)I"), (80, u "getChars"), (19, .methodref 10 209), (0, .nameAndType 210 211), (0, u "putStringAt"), (0, u "(ILjava/lang/String;)V"), (5, u "inflateIfNeededFor"), (2, .nameAndType 221 222), (0, u "getBytes"), (0, u "([BIB)V"), (22, .methodref 36 246), (0, .nameAndType 247 107), (0, u "stringSize"), (0, .methodref 36 249), (0, .nameAndType 188 250), (0, u "(II[B)I"), (146, .methodref 10 398), (0, .nameAndType 217 69), (0, .methodref 1 220), (3, u "()[B"), (40, .class_ 445), (0, u "java/lang/Appendable"), (65, u "(I)Ljava/lang/AbstractStringBuilder;"), (40, u "getValue")] 56

def k33m0 : Method := { name := "<init>", desc := "()V", sig := { parameters := [], returnType := none }, accessFlags := 0, code := none }
def k33c1 : Code := { maxStack := 2, maxLocals := 2, code := jdk_68_method_2_code, exceptionTable := #[], attributes := #[] }
def k33m1 : Method := { name := "<init>", desc := "(I)V", sig := { parameters := [.int], returnType := none }, accessFlags := 0, code := some k33c1 }
def k33c2 : Code := { maxStack := 1, maxLocals := 1, code := jdk_68_method_6_code, exceptionTable := #[], attributes := #[] }
def k33m2 : Method := { name := "length", desc := "()I", sig := { parameters := [], returnType := some .int }, accessFlags := 1, code := some k33c2 }
def k33c3 : Code := { maxStack := 4, maxLocals := 3, code := jdk_68_method_9_code, exceptionTable := #[], attributes := #[] }
def k33m3 : Method := { name := "ensureCapacityInternal", desc := "(I)V", sig := { parameters := [.int], returnType := none }, accessFlags := 2, code := some k33c3 }
def k33c4 : Code := { maxStack := 3, maxLocals := 3, code := jdk_68_method_22_code, exceptionTable := #[], attributes := #[] }
def k33m4 : Method := { name := "append", desc := "(Ljava/lang/String;)Ljava/lang/AbstractStringBuilder;", sig := { parameters := [(.object "java/lang/String")], returnType := some (.object "java/lang/AbstractStringBuilder") }, accessFlags := 1, code := some k33c4 }
def k33c5 : Code := { maxStack := 4, maxLocals := 4, code := jdk_68_method_32_code, exceptionTable := #[], attributes := #[] }
def k33m5 : Method := { name := "append", desc := "(I)Ljava/lang/AbstractStringBuilder;", sig := { parameters := [.int], returnType := some (.object "java/lang/AbstractStringBuilder") }, accessFlags := 1, code := some k33c5 }
def k33c6 : Code := { maxStack := 1, maxLocals := 1, code := jdk_68_method_64_code, exceptionTable := #[], attributes := #[] }
def k33m6 : Method := { name := "getValue", desc := "()[B", sig := { parameters := [], returnType := some (.array .byte) }, accessFlags := 16, code := some k33c6 }
def k33c7 : Code := { maxStack := 1, maxLocals := 1, code := jdk_68_method_68_code, exceptionTable := #[], attributes := #[] }
def k33m7 : Method := { name := "isLatin1", desc := "()Z", sig := { parameters := [], returnType := some .boolean }, accessFlags := 16, code := some k33c7 }
def k33c8 : Code := { maxStack := 2, maxLocals := 2, code := jdk_68_method_71_code, exceptionTable := #[], attributes := #[] }
def k33m8 : Method := { name := "inflateIfNeededFor", desc := "(Ljava/lang/String;)V", sig := { parameters := [(.object "java/lang/String")], returnType := none }, accessFlags := 2, code := some k33c8 }
def k33c9 : Code := { maxStack := 4, maxLocals := 3, code := jdk_68_method_73_code, exceptionTable := #[], attributes := #[] }
def k33m9 : Method := { name := "putStringAt", desc := "(ILjava/lang/String;)V", sig := { parameters := [.int, (.object "java/lang/String")], returnType := none }, accessFlags := 2, code := some k33c9 }
/-- java/lang/AbstractStringBuilder -/
def k33 : Class := { plain "java/lang/AbstractStringBuilder" (some 0) with
  accessFlags := 1056
  interfaces := #[32, 10]
  cf := some (fileOf pool33 10 #[] #[{ accessFlags := 0, nameIndex := 7, descriptorIndex := 8, attributes := #[] }, { accessFlags := 0, nameIndex := 7, descriptorIndex := 103, attributes := #[] }, { accessFlags := 1, nameIndex := 34, descriptorIndex := 35, attributes := #[] }, { accessFlags := 2, nameIndex := 102, descriptorIndex := 103, attributes := #[] }, { accessFlags := 1, nameIndex := 45, descriptorIndex := 46, attributes := #[] }, { accessFlags := 1, nameIndex := 45, descriptorIndex := 511, attributes := #[] }, { accessFlags := 16, nameIndex := 552, descriptorIndex := 403, attributes := #[] }, { accessFlags := 16, nameIndex := 85, descriptorIndex := 86, attributes := #[] }, { accessFlags := 2, nameIndex := 217, descriptorIndex := 69, attributes := #[] }, { accessFlags := 2, nameIndex := 210, descriptorIndex := 211, attributes := #[] }] 1056 4 #[444, 48] #[{ accessFlags := 0, nameIndex := 17, descriptorIndex := 14, attributes := #[] }, { accessFlags := 0, nameIndex := 24, descriptorIndex := 25, attributes := #[] }, { accessFlags := 0, nameIndex := 75, descriptorIndex := 21, attributes := #[] }, { accessFlags := 0, nameIndex := 81, descriptorIndex := 82, attributes := #[] }, { accessFlags := 26, nameIndex := 13, descriptorIndex := 14, attributes := #[] }])
  fields := #[{ name := "value", type := (.array .byte), accessFlags := 0, slot := 0, constantValue := 0 }, { name := "coder", type := .byte, accessFlags := 0, slot := 1, constantValue := 0 }, { name := "maybeLatin1", type := .boolean, accessFlags := 0, slot := 2, constantValue := 0 }, { name := "count", type := .int, accessFlags := 0, slot := 3, constantValue := 0 }, { name := "EMPTYVALUE", type := (.array .byte), accessFlags := 26, slot := 0, constantValue := 0 }]
  methods := #[k33m0, k33m1, k33m2, k33m3, k33m4, k33m5, k33m6, k33m7, k33m8, k33m9]
  instanceTypes := #[(.array .byte), .byte, .boolean, .int]
  staticTypes := #[(.array .byte)]
  resolved := Array.replicate 609 none
  statics := none }

def pool34 : Array CpInfo := pool [(1, .methodref 2 3), (0, .class_ 4), (0, .nameAndType 5 6), (0, u "java/lang/AbstractStringBuilder"), (0, u "<init>"), (0, u "(I)V"), (10, .methodref 18 19), (0, .class_ 20), (0, .nameAndType 21 22), (0, u "java/lang/String"), (0, u "valueOf"), (0, u "(Ljava/lang/Object;)Ljava/lang/String;"), (0, .methodref 24 25), (0, .class_ 26), (0, .nameAndType 27 28), (0, u "java/lang/StringBuilder"), (0, u "append"), (0, u "(Ljava/lang/String;)Ljava/lang/StringBuilder;"), (0, .methodref 2 30), (0, .nameAndType 27 31), (0, u "(Ljava/lang/String;)Ljava/lang/AbstractStringBuilder;"), (21, .methodref 2 54), (0, .nameAndType 27 55), (0, u "(I)Ljava/lang/AbstractStringBuilder;"), (81, .methodref 18 138), (0, .nameAndType 5 139), (0, u "(Ljava/lang/StringBuilder;)V"), (5, u "()V"), (10, u "()I"), (111, u "(I)Ljava/lang/StringBuilder;"), (38, u "(Ljava/lang/Object;)Ljava/lang/StringBuilder;"), (35, .methodref 2 344), (0, .nameAndType 345 156), (0, u "length"), (3, .class_ 350), (0, u "java/lang/Appendable"), (0, .class_ 352), (0, u "java/io/Serializable"), (0, .class_ 354), (0, u "java/lang/Comparable"), (0, .class_ 356), (0, u "java/lang/CharSequence"), (0, u "serialVersionUID"), (0, u "J"), (40, u "toString"), (0, u "()Ljava/lang/String;")] 21

def k34c0 : Code := { maxStack := 2, maxLocals := 1, code := jdk_67_method_1_code, exceptionTable := #[], attributes := #[] }
def k34m0 : Method := { name := "<init>", desc := "()V", sig := { parameters := [], returnType := none }, accessFlags := 1, code := some k34c0 }
def k34c1 : Code := { maxStack := 2, maxLocals := 2, code := jdk_67_method_6_code, exceptionTable := #[], attributes := #[] }
def k34m1 : Method := { name := "append", desc := "(Ljava/lang/Object;)Ljava/lang/StringBuilder;", sig := { parameters := [(.object "java/lang/Object")], returnType := some (.object "java/lang/StringBuilder") }, accessFlags := 1, code := some k34c1 }
def k34c2 : Code := { maxStack := 2, maxLocals := 2, code := jdk_67_method_7_code, exceptionTable := #[], attributes := #[] }
def k34m2 : Method := { name := "append", desc := "(Ljava/lang/String;)Ljava/lang/StringBuilder;", sig := { parameters := [(.object "java/lang/String")], returnType := some (.object "java/lang/StringBuilder") }, accessFlags := 1, code := some k34c2 }
def k34c3 : Code := { maxStack := 2, maxLocals := 2, code := jdk_67_method_15_code, exceptionTable := #[], attributes := #[] }
def k34m3 : Method := { name := "append", desc := "(I)Ljava/lang/StringBuilder;", sig := { parameters := [.int], returnType := some (.object "java/lang/StringBuilder") }, accessFlags := 1, code := some k34c3 }
def k34c4 : Code := { maxStack := 3, maxLocals := 1, code := jdk_67_method_42_code, exceptionTable := #[], attributes := #[] }
def k34m4 : Method := { name := "toString", desc := "()Ljava/lang/String;", sig := { parameters := [], returnType := some (.object "java/lang/String") }, accessFlags := 1, code := some k34c4 }
def k34c5 : Code := { maxStack := 1, maxLocals := 1, code := jdk_67_method_93_code, exceptionTable := #[], attributes := #[] }
def k34m5 : Method := { name := "length", desc := "()I", sig := { parameters := [], returnType := some .int }, accessFlags := 4161, code := some k34c5 }
/-- java/lang/StringBuilder -/
def k34 : Class := { plain "java/lang/StringBuilder" (some 33) with
  accessFlags := 49
  interfaces := #[32, 8, 9, 10]
  cf := some (fileOf pool34 24 #[] #[{ accessFlags := 1, nameIndex := 5, descriptorIndex := 145, attributes := #[] }, { accessFlags := 1, nameIndex := 27, descriptorIndex := 307, attributes := #[] }, { accessFlags := 1, nameIndex := 27, descriptorIndex := 28, attributes := #[] }, { accessFlags := 1, nameIndex := 27, descriptorIndex := 268, attributes := #[] }, { accessFlags := 1, nameIndex := 399, descriptorIndex := 400, attributes := #[] }, { accessFlags := 4161, nameIndex := 345, descriptorIndex := 156, attributes := #[] }] 49 2 #[349, 351, 353, 355] #[{ accessFlags := 24, nameIndex := 357, descriptorIndex := 358, attributes := #[] }])
  fields := #[{ name := "serialVersionUID", type := .long, accessFlags := 24, slot := 0, constantValue := 0 }]
  methods := #[k34m0, k34m1, k34m2, k34m3, k34m4, k34m5]
  instanceTypes := #[(.array .byte), .byte, .boolean, .int]
  staticTypes := #[.long]
  resolved := Array.replicate 422 none
  statics := none }

def pool35 : Array CpInfo := pool [(2, .class_ 4), (1, u "java/lang/Object"), (0, u "<init>"), (0, u "()V"), (1, .class_ 10), (1, u "java/lang/Number"), (2, .class_ 14), (0, u "java/io/Serializable"), (0, u "serialVersionUID"), (0, u "J")] 20

def k35m0 : Method := { name := "<init>", desc := "()V", sig := { parameters := [], returnType := none }, accessFlags := 1, code := none }
/-- java/lang/Number -/
def k35 : Class := { plain "java/lang/Number" (some 0) with
  accessFlags := 1057
  interfaces := #[8]
  cf := some (fileOf pool35 8 #[] #[{ accessFlags := 1, nameIndex := 5, descriptorIndex := 6, attributes := #[] }] 1057 2 #[13] #[{ accessFlags := 26, nameIndex := 15, descriptorIndex := 16, attributes := #[] }])
  fields := #[{ name := "serialVersionUID", type := .long, accessFlags := 26, slot := 0, constantValue := 0 }]
  methods := #[k35m0]
  instanceTypes := #[]
  staticTypes := #[.long]
  resolved := Array.replicate 37 none
  statics := none }

def pool36 : Array CpInfo := pool [(1, .class_ 2), (0, u "java/lang/Integer"), (16, u "digits"), (0, u "[C"), (33, u "(I)I"), (19, u "stringSize"), (2, u "getChars"), (0, u "(II[B)I"), (4, .fieldref 1 84), (0, .nameAndType 85 86), (0, u "DigitOnes"), (0, u "[B"), (0, .fieldref 1 88), (0, .nameAndType 89 86), (0, u "DigitTens"), (99, .class_ 190), (0, u "java/lang/Integer$IntegerCache"), (3, u "I"), (8, .class_ 204), (0, u "java/lang/Number"), (2, u "value"), (94, u "TYPE"), (0, u "Ljava/lang/Class;"), (0, .class_ 305), (0, u "java/lang/Comparable"), (0, .class_ 307), (0, u "java/lang/constant/Constable"), (0, .class_ 309), (0, u "java/lang/constant/ConstantDesc"), (0, u "MIN_VALUE"), (1, u "MAX_VALUE"), (3, u "SIZE"), (1, u "BYTES"), (1, u "serialVersionUID"), (0, u "J")] 131

def k36c0 : Code := { maxStack := 4, maxLocals := 7, code := jdk_33_method_12_code, exceptionTable := #[], attributes := #[] }
def k36m0 : Method := { name := "getChars", desc := "(II[B)I", sig := { parameters := [.int, .int, (.array .byte)], returnType := some .int }, accessFlags := 8, code := some k36c0 }
def k36c1 : Code := { maxStack := 2, maxLocals := 4, code := jdk_33_method_13_code, exceptionTable := #[], attributes := #[] }
def k36m1 : Method := { name := "stringSize", desc := "(I)I", sig := { parameters := [.int], returnType := some .int }, accessFlags := 8, code := some k36c1 }
/-- java/lang/Integer -/
def k36 : Class := { plain "java/lang/Integer" (some 35) with
  accessFlags := 49
  interfaces := #[9, 11, 12]
  cf := some (fileOf pool36 1 #[.nestMembers #[189]] #[{ accessFlags := 8, nameIndex := 77, descriptorIndex := 78, attributes := #[] }, { accessFlags := 8, nameIndex := 74, descriptorIndex := 54, attributes := #[] }] 49 203 #[304, 306, 308] #[{ accessFlags := 25, nameIndex := 310, descriptorIndex := 194, attributes := #[] }, { accessFlags := 25, nameIndex := 312, descriptorIndex := 194, attributes := #[] }, { accessFlags := 25, nameIndex := 302, descriptorIndex := 303, attributes := #[] }, { accessFlags := 24, nameIndex := 19, descriptorIndex := 20, attributes := #[] }, { accessFlags := 24, nameIndex := 89, descriptorIndex := 86, attributes := #[] }, { accessFlags := 24, nameIndex := 85, descriptorIndex := 86, attributes := #[] }, { accessFlags := 18, nameIndex := 207, descriptorIndex := 194, attributes := #[] }, { accessFlags := 25, nameIndex := 316, descriptorIndex := 194, attributes := #[] }, { accessFlags := 25, nameIndex := 318, descriptorIndex := 194, attributes := #[] }, { accessFlags := 26, nameIndex := 320, descriptorIndex := 321, attributes := #[] }])
  fields := #[{ name := "MIN_VALUE", type := .int, accessFlags := 25, slot := 0, constantValue := 0 }, { name := "MAX_VALUE", type := .int, accessFlags := 25, slot := 1, constantValue := 0 }, { name := "TYPE", type := (.object "java/lang/Class"), accessFlags := 25, slot := 2, constantValue := 0 }, { name := "digits", type := (.array .char), accessFlags := 24, slot := 3, constantValue := 0 }, { name := "DigitTens", type := (.array .byte), accessFlags := 24, slot := 4, constantValue := 0 }, { name := "DigitOnes", type := (.array .byte), accessFlags := 24, slot := 5, constantValue := 0 }, { name := "value", type := .int, accessFlags := 18, slot := 0, constantValue := 0 }, { name := "SIZE", type := .int, accessFlags := 25, slot := 6, constantValue := 0 }, { name := "BYTES", type := .int, accessFlags := 25, slot := 7, constantValue := 0 }, { name := "serialVersionUID", type := .long, accessFlags := 26, slot := 8, constantValue := 0 }]
  methods := #[k36m0, k36m1]
  instanceTypes := #[.int]
  staticTypes := #[.int, .int, (.object "java/lang/Class"), (.array .char), (.array .byte), (.array .byte), .int, .int, .long]
  resolved := Array.replicate 453 none
  statics := some 6 }

def pool37 : Array CpInfo := pool [(6, .class_ 8), (1, u "java/lang/Object"), (0, u "<init>"), (0, u "()V"), (1, .class_ 14), (1, u "java/lang/StringUTF16"), (31, u "$assertionsDisabled"), (0, u "Z"), (13, u "HI_BYTE_SHIFT"), (0, u "I"), (2, u "LO_BYTE_SHIFT"), (49, .methodref 12 116), (0, .nameAndType 117 118), (0, u "compress"), (0, u "([CI[BII)I"), (3, u "([CII)[B"), (138, u "coderFromArrayLen"), (0, u "([BI)B"), (106, .class_ 371), (1, u "java/lang/StringUTF16$LinesSpliterator"), (58, u "MAX_LENGTH"), (196, .class_ 628), (0, u "java/lang/StringUTF16$CodePointsSpliterator"), (0, .class_ 630), (0, u "java/lang/StringUTF16$CharsSpliterator")] 4

def k37m0 : Method := { name := "<init>", desc := "()V", sig := { parameters := [], returnType := none }, accessFlags := 0, code := none }
def k37c1 : Code := { maxStack := 2, maxLocals := 2, code := jdk_52_method_15_code, exceptionTable := #[], attributes := #[] }
def k37m1 : Method := { name := "coderFromArrayLen", desc := "([BI)B", sig := { parameters := [(.array .byte), .int], returnType := some .byte }, accessFlags := 8, code := some k37c1 }
def k37c2 : Code := { maxStack := 5, maxLocals := 6, code := jdk_52_method_16_code, exceptionTable := #[], attributes := #[] }
def k37m2 : Method := { name := "compress", desc := "([CII)[B", sig := { parameters := [(.array .char), .int, .int], returnType := some (.array .byte) }, accessFlags := 9, code := some k37c2 }
def k37c3 : Code := { maxStack := 3, maxLocals := 7, code := jdk_52_method_21_code, exceptionTable := #[], attributes := #[] }
def k37m3 : Method := { name := "compress", desc := "([CI[BII)I", sig := { parameters := [(.array .char), .int, (.array .byte), .int, .int], returnType := some .int }, accessFlags := 9, code := some k37c3 }
/-- java/lang/StringUTF16 -/
def k37 : Class := { plain "java/lang/StringUTF16" (some 0) with
  accessFlags := 48
  interfaces := #[]
  cf := some (fileOf pool37 12 #[.nestMembers #[627, 629, 369]] #[{ accessFlags := 0, nameIndex := 9, descriptorIndex := 10, attributes := #[] }, { accessFlags := 8, nameIndex := 261, descriptorIndex := 262, attributes := #[] }, { accessFlags := 9, nameIndex := 117, descriptorIndex := 122, attributes := #[] }, { accessFlags := 9, nameIndex := 117, descriptorIndex := 118, attributes := #[] }] 48 6 #[] #[{ accessFlags := 26, nameIndex := 61, descriptorIndex := 62, attributes := #[] }, { accessFlags := 26, nameIndex := 65, descriptorIndex := 62, attributes := #[] }, { accessFlags := 24, nameIndex := 430, descriptorIndex := 62, attributes := #[] }, { accessFlags := 4120, nameIndex := 46, descriptorIndex := 47, attributes := #[] }])
  fields := #[{ name := "HI_BYTE_SHIFT", type := .int, accessFlags := 26, slot := 0, constantValue := 0 }, { name := "LO_BYTE_SHIFT", type := .int, accessFlags := 26, slot := 1, constantValue := 0 }, { name := "MAX_LENGTH", type := .int, accessFlags := 24, slot := 2, constantValue := 0 }, { name := "$assertionsDisabled", type := .boolean, accessFlags := 4120, slot := 3, constantValue := 0 }]
  methods := #[k37m0, k37m1, k37m2, k37m3]
  instanceTypes := #[]
  staticTypes := #[.int, .int, .int, .boolean]
  resolved := Array.replicate 635 none
  statics := none }

def pool38 : Array CpInfo := pool [(9, u "<init>"), (6, .class_ 18), (1, u "java/lang/Object"), (0, u "()V"), (1, .class_ 23), (1, u "jdk/internal/util/ArraysSupport"), (0, u "LOG2_ARRAY_LONG_INDEX_SCALE"), (0, u "I"), (2, u "U"), (0, u "Ljdk/internal/misc/Unsafe;"), (8, u "BIG_ENDIAN"), (0, u "Z"), (8, u "LOG2_BYTE_BIT_SIZE"), (4, u "LOG2_ARRAY_INT_INDEX_SCALE"), (54, u "JLA"), (0, u "Ljdk/internal/access/JavaLangAccess;"), (11, u "LOG2_ARRAY_BOOLEAN_INDEX_SCALE"), (9, u "LOG2_ARRAY_BYTE_INDEX_SCALE"), (5, u "LOG2_ARRAY_CHAR_INDEX_SCALE"), (5, u "LOG2_ARRAY_SHORT_INDEX_SCALE"), (18, u "LOG2_ARRAY_FLOAT_INDEX_SCALE"), (24, u "LOG2_ARRAY_DOUBLE_INDEX_SCALE"), (89, u "T_BOOLEAN"), (2, u "T_CHAR"), (1, u "T_FLOAT"), (1, u "T_DOUBLE"), (1, u "T_BYTE"), (1, u "T_SHORT"), (1, u "T_INT"), (1, u "T_LONG"), (1, u "SOFT_MAX_ARRAY_LENGTH")] 83

def k38m0 : Method := { name := "<init>", desc := "()V", sig := { parameters := [], returnType := none }, accessFlags := 2, code := none }
/-- jdk/internal/util/ArraysSupport -/
def k38 : Class := { plain "jdk/internal/util/ArraysSupport" (some 0) with
  accessFlags := 33
  interfaces := #[]
  cf := some (fileOf pool38 21 #[] #[{ accessFlags := 2, nameIndex := 9, descriptorIndex := 19, attributes := #[] }] 33 16 #[] #[{ accessFlags := 24, nameIndex := 28, descriptorIndex := 29, attributes := #[] }, { accessFlags := 26, nameIndex := 38, descriptorIndex := 39, attributes := #[] }, { accessFlags := 25, nameIndex := 121, descriptorIndex := 25, attributes := #[] }, { accessFlags := 25, nameIndex := 131, descriptorIndex := 25, attributes := #[] }, { accessFlags := 25, nameIndex := 137, descriptorIndex := 25, attributes := #[] }, { accessFlags := 25, nameIndex := 143, descriptorIndex := 25, attributes := #[] }, { accessFlags := 25, nameIndex := 53, descriptorIndex := 25, attributes := #[] }, { accessFlags := 25, nameIndex := 24, descriptorIndex := 25, attributes := #[] }, { accessFlags := 25, nameIndex := 162, descriptorIndex := 25, attributes := #[] }, { accessFlags := 25, nameIndex := 187, descriptorIndex := 25, attributes := #[] }, { accessFlags := 26, nameIndex := 48, descriptorIndex := 25, attributes := #[] }, { accessFlags := 25, nameIndex := 277, descriptorIndex := 25, attributes := #[] }, { accessFlags := 25, nameIndex := 280, descriptorIndex := 25, attributes := #[] }, { accessFlags := 25, nameIndex := 282, descriptorIndex := 25, attributes := #[] }, { accessFlags := 25, nameIndex := 284, descriptorIndex := 25, attributes := #[] }, { accessFlags := 25, nameIndex := 286, descriptorIndex := 25, attributes := #[] }, { accessFlags := 25, nameIndex := 288, descriptorIndex := 25, attributes := #[] }, { accessFlags := 25, nameIndex := 290, descriptorIndex := 25, attributes := #[] }, { accessFlags := 25, nameIndex := 292, descriptorIndex := 25, attributes := #[] }, { accessFlags := 26, nameIndex := 108, descriptorIndex := 109, attributes := #[] }, { accessFlags := 25, nameIndex := 294, descriptorIndex := 25, attributes := #[] }])
  fields := #[{ name := "U", type := (.object "jdk/internal/misc/Unsafe"), accessFlags := 24, slot := 0, constantValue := 0 }, { name := "BIG_ENDIAN", type := .boolean, accessFlags := 26, slot := 1, constantValue := 0 }, { name := "LOG2_ARRAY_BOOLEAN_INDEX_SCALE", type := .int, accessFlags := 25, slot := 2, constantValue := 0 }, { name := "LOG2_ARRAY_BYTE_INDEX_SCALE", type := .int, accessFlags := 25, slot := 3, constantValue := 0 }, { name := "LOG2_ARRAY_CHAR_INDEX_SCALE", type := .int, accessFlags := 25, slot := 4, constantValue := 0 }, { name := "LOG2_ARRAY_SHORT_INDEX_SCALE", type := .int, accessFlags := 25, slot := 5, constantValue := 0 }, { name := "LOG2_ARRAY_INT_INDEX_SCALE", type := .int, accessFlags := 25, slot := 6, constantValue := 0 }, { name := "LOG2_ARRAY_LONG_INDEX_SCALE", type := .int, accessFlags := 25, slot := 7, constantValue := 0 }, { name := "LOG2_ARRAY_FLOAT_INDEX_SCALE", type := .int, accessFlags := 25, slot := 8, constantValue := 0 }, { name := "LOG2_ARRAY_DOUBLE_INDEX_SCALE", type := .int, accessFlags := 25, slot := 9, constantValue := 0 }, { name := "LOG2_BYTE_BIT_SIZE", type := .int, accessFlags := 26, slot := 10, constantValue := 0 }, { name := "T_BOOLEAN", type := .int, accessFlags := 25, slot := 11, constantValue := 0 }, { name := "T_CHAR", type := .int, accessFlags := 25, slot := 12, constantValue := 0 }, { name := "T_FLOAT", type := .int, accessFlags := 25, slot := 13, constantValue := 0 }, { name := "T_DOUBLE", type := .int, accessFlags := 25, slot := 14, constantValue := 0 }, { name := "T_BYTE", type := .int, accessFlags := 25, slot := 15, constantValue := 0 }, { name := "T_SHORT", type := .int, accessFlags := 25, slot := 16, constantValue := 0 }, { name := "T_INT", type := .int, accessFlags := 25, slot := 17, constantValue := 0 }, { name := "T_LONG", type := .int, accessFlags := 25, slot := 18, constantValue := 0 }, { name := "JLA", type := (.object "jdk/internal/access/JavaLangAccess"), accessFlags := 26, slot := 19, constantValue := 0 }, { name := "SOFT_MAX_ARRAY_LENGTH", type := .int, accessFlags := 25, slot := 20, constantValue := 0 }]
  methods := #[k38m0]
  instanceTypes := #[]
  staticTypes := #[(.object "jdk/internal/misc/Unsafe"), .boolean, .int, .int, .int, .int, .int, .int, .int, .int, .int, .int, .int, .int, .int, .int, .int, .int, .int, (.object "jdk/internal/access/JavaLangAccess"), .int]
  resolved := Array.replicate 378 none
  statics := none }

/-- the primitive byte -/
def k39 : Class := { plain "byte" none with kind := .primitive 'B', accessFlags := 0x411 }
/-- [B -/
def k40 : Class := { plain "[B" (some 0) with kind := .array 39 .byte, interfaces := #[6, 8], accessFlags := 1041 }

/-- the primitive char -/
def k41 : Class := { plain "char" none with kind := .primitive 'C', accessFlags := 0x411 }
/-- [C -/
def k42 : Class := { plain "[C" (some 0) with kind := .array 41 .char, interfaces := #[6, 8], accessFlags := 1041 }

/-- the primitive int -/
def k43 : Class := { plain "int" none with kind := .primitive 'I', accessFlags := 0x411 }
/-- [I -/
def k44 : Class := { plain "[I" (some 0) with kind := .array 43 .int, interfaces := #[6, 8], accessFlags := 1041 }

/-- [Ljava/lang/Object; -/
def k45 : Class := { plain "[Ljava/lang/Object;" (some 0) with kind := .array 0 (.object "java/lang/Object"), interfaces := #[6, 8], accessFlags := 1041 }

def heap : Heap := #[{ cls := 4, slots := #[.null, .null, .null], vm := .statics 4 },
  { cls := 13, slots := #[.long 0, .int 1, .null, .int 0, .null, .int 0, .int 0], vm := .statics 13 },
  { cls := 14, slots := #[.null, .ref 11, .null, .null, .null, .null], vm := .statics 14 },
  { cls := 17, slots := #[.ref 11], vm := .statics 17 },
  { cls := 19, slots := #[.ref 12, .null], vm := .statics 19 },
  { cls := 27, slots := #[.long 0, .int 0, .null, .null, .null, .null, .ref 8, .null, .int 0, .int 0], vm := .statics 27 },
  { cls := 36, slots := #[.int 0, .int 0, .null, .null, .ref 10, .ref 9, .int 0, .int 0, .long 0], vm := .statics 36 },
  { cls := 45, slots := #[], vm := .none },
  { cls := 31, slots := #[.ref 7, .int 0], vm := .none },
  { cls := 40, slots := #[.int 48, .int 49, .int 50, .int 51, .int 52, .int 53, .int 54, .int 55, .int 56, .int 57, .int 48, .int 49, .int 50, .int 51, .int 52, .int 53, .int 54, .int 55, .int 56, .int 57, .int 48, .int 49, .int 50, .int 51, .int 52, .int 53, .int 54, .int 55, .int 56, .int 57, .int 48, .int 49, .int 50, .int 51, .int 52, .int 53, .int 54, .int 55, .int 56, .int 57, .int 48, .int 49, .int 50, .int 51, .int 52, .int 53, .int 54, .int 55, .int 56, .int 57, .int 48, .int 49, .int 50, .int 51, .int 52, .int 53, .int 54, .int 55, .int 56, .int 57, .int 48, .int 49, .int 50, .int 51, .int 52, .int 53, .int 54, .int 55, .int 56, .int 57, .int 48, .int 49, .int 50, .int 51, .int 52, .int 53, .int 54, .int 55, .int 56, .int 57, .int 48, .int 49, .int 50, .int 51, .int 52, .int 53, .int 54, .int 55, .int 56, .int 57, .int 48, .int 49, .int 50, .int 51, .int 52, .int 53, .int 54, .int 55, .int 56, .int 57], vm := .none },
  { cls := 40, slots := #[.int 48, .int 48, .int 48, .int 48, .int 48, .int 48, .int 48, .int 48, .int 48, .int 48, .int 49, .int 49, .int 49, .int 49, .int 49, .int 49, .int 49, .int 49, .int 49, .int 49, .int 50, .int 50, .int 50, .int 50, .int 50, .int 50, .int 50, .int 50, .int 50, .int 50, .int 51, .int 51, .int 51, .int 51, .int 51, .int 51, .int 51, .int 51, .int 51, .int 51, .int 52, .int 52, .int 52, .int 52, .int 52, .int 52, .int 52, .int 52, .int 52, .int 52, .int 53, .int 53, .int 53, .int 53, .int 53, .int 53, .int 53, .int 53, .int 53, .int 53, .int 54, .int 54, .int 54, .int 54, .int 54, .int 54, .int 54, .int 54, .int 54, .int 54, .int 55, .int 55, .int 55, .int 55, .int 55, .int 55, .int 55, .int 55, .int 55, .int 55, .int 56, .int 56, .int 56, .int 56, .int 56, .int 56, .int 56, .int 56, .int 56, .int 56, .int 57, .int 57, .int 57, .int 57, .int 57, .int 57, .int 57, .int 57, .int 57, .int 57], vm := .none },
  { cls := 17, slots := #[.null, .null, .null], vm := .none },
  { cls := 19, slots := #[.null, .null, .null], vm := .none }]
def classes : Array Class := #[k0, k1, k2, k3, k4, k5, k6, k7, k8, k9, k10, k11, k12, k13, k14, k15, k16, k17, k18, k19, k20, k21, k22, k23, k24, k25, k26, k27, k28, k29, k30, k31, k32, k33, k34, k35, k36, k37, k38, k39, k40, k41, k42, k43, k44, k45]
def interned : List (Array UInt16 × Addr) := []
def slotsUsed : Nat := 246
def theMethod : MethodId := ⟨1, 1⟩
def args0 : Array Value := #[.int 5, .int 5, .int 5, .int 5]
def aboutOver (below : List Frame) : State where
  vm := { classes := classes, interned := interned.toArray }
  heap := heap
  slotsUsed := slotsUsed
  threads := #[{ frames := .invoking theMethod args0 :: below }]
def below0 : List Frame := [.native { method := ⟨0, 0⟩, args := #[] }]
def about1 : State := aboutOver below0
def p0 : Program := .bare "" "" ""
def e0 : Env := launch0.env 0 0 0
theorem w_frames : about1.frames = Frame.invoking theMethod args0 :: below0 := rfl
set_option maxRecDepth 65536 in
theorem w_args : argsFit about1.vm theMethod args0 = true := by decide +kernel
set_option maxRecDepth 65536 in
theorem w_heap : heapFits about1 = true := by decide +kernel
set_option maxRecDepth 65536 in
theorem w_runnable : about1.curStatus? = some .runnable := by decide +kernel
set_option maxRecDepth 65536 in
theorem w_alone : about1.alone = true := by decide +kernel
set_option maxRecDepth 65536 in
theorem w_named : about1.methodNamed? x = some theMethod := by decide +kernel
set_option maxRecDepth 65536 in
theorem w_hears : about1.hears theMethod below0 = true := by decide +kernel
set_option maxRecDepth 65536 in
theorem w_ripe : about1.ripe theMethod args0 below0 = true := by decide +kernel
theorem w_running : about1.status = .running := rfl
set_option maxRecDepth 65536 in
theorem w_room : about1.hasRoom e0.platform room_1 = true :=
  launch0.hasRoom_least _ room_1 (by decide +kernel) (by decide +kernel) (by decide +kernel) (by decide +kernel) (by decide +kernel) (by decide +kernel)
theorem allAtoms_all (ts : List Jvm.Cond) (a : Array Jvm.Value) (st : Jvm.State) : (allAtoms ts).before a st = ts.all (fun c => c.before a st) := by
  induction ts with
  | nil => rfl
  | cons c t ih =>
    show (Jvm.Cond.and c (allAtoms t)).before a st = _
    rw [Jvm.Cond.before_and, ih, List.all_cons]
def words1 : List Jvm.Cond := Jvm.Cond.code x code maxLocals ret :: tables_1
/-- a 'code' word, met by the world's own term for the bytes: nothing is compared byte by byte -/
theorem code_word {y : MethodName} {bytes : ByteArray} {mx : Nat} {rt : Option FieldType} {a : Array Value} {s : State} {m : MethodId} {meth : Method} {c : Code} (h1 : s.methodNamed? y = some m) (h2 : s.vm.method? m = some meth) (h3 : meth.code = some c) (h4 : c.code = bytes)
    (h5 : (c.maxLocals == mx && c.exceptionTable.isEmpty && decide (c.maxStack ≤ mostOperands) && decide (meth.sig.returnType = rt) && !meth.locks && decide (parseMethodDescriptor y.desc = some meth.sig)) = true) : (Jvm.Cond.code y bytes mx rt).before a s = true := by
  simp only [Bool.and_eq_true, beq_iff_eq, Bool.not_eq_true', decide_eq_true_eq] at h5
  obtain ⟨⟨⟨⟨⟨g1, g2⟩, g3⟩, g4⟩, g5⟩, g6⟩ := h5
  simp [Cond.before, Cond.holds, Cond.value, h1, h2, h3, h4, g1, g2, g3, g4, g5, g6]
def isCode : Jvm.Cond → Bool
  | .code _ _ _ _ => true
  | _ => false
theorem all_split {L : List Jvm.Cond} {P : Jvm.Cond → Bool} (h1 : L.all (fun c => isCode c || P c) = true) (h2 : ∀ c ∈ L.filter isCode, P c = true) : L.all P = true := by
  refine List.all_eq_true.mpr fun c hc => ?_
  have h := List.all_eq_true.mp h1 c hc
  rcases Bool.eq_false_or_eq_true (isCode c) with hi | hi
  · exact h2 c (List.mem_filter.mpr ⟨hc, hi⟩)
  · simpa [hi] using h
set_option maxRecDepth 65536 in
theorem w_c0 : (Jvm.Cond.code x code maxLocals ret).before args0 about1 = true := code_word (m := ⟨1, 1⟩) (meth := k1m1) (c := k1c1) (by decide +kernel) rfl rfl rfl (by decide +kernel)
set_option maxRecDepth 65536 in
theorem w_c1 : (Jvm.Cond.code ({ cls := "com/example/splitbook/splitbook/tagvalue/TagValueMessage", name := "read", desc := "([B)Lcom/example/splitbook/splitbook/tagvalue/TagValueMessage;" } : Jvm.MethodName) prog_39_method_2_code (1 : Nat) (Option.some (Jvm.ClassFile.FieldType.object "com/example/splitbook/splitbook/tagvalue/TagValueMessage"))).before args0 about1 = true := code_word (m := ⟨2, 1⟩) (meth := k2m1) (c := k2c1) (by decide +kernel) rfl rfl rfl (by decide +kernel)
set_option maxRecDepth 65536 in
theorem w_c2 : (Jvm.Cond.code ({ cls := "com/example/splitbook/splitbook/tagvalue/TagValueMessage", name := "read", desc := "([BII)Lcom/example/splitbook/splitbook/tagvalue/TagValueMessage;" } : Jvm.MethodName) prog_39_method_3_code (5 : Nat) (Option.some (Jvm.ClassFile.FieldType.object "com/example/splitbook/splitbook/tagvalue/TagValueMessage"))).before args0 about1 = true := code_word (m := ⟨2, 2⟩) (meth := k2m2) (c := k2c2) (by decide +kernel) rfl rfl rfl (by decide +kernel)
set_option maxRecDepth 65536 in
theorem w_c3 : (Jvm.Cond.code ({ cls := "java/util/Objects", name := "checkFromIndexSize", desc := "(III)I" } : Jvm.MethodName) jdk_31_method_19_code (3 : Nat) (Option.some Jvm.ClassFile.FieldType.int)).before args0 about1 = true := code_word (m := ⟨3, 2⟩) (meth := k3m2) (c := k3c2) (by decide +kernel) rfl rfl rfl (by decide +kernel)
set_option maxRecDepth 65536 in
theorem w_c4 : (Jvm.Cond.code ({ cls := "jdk/internal/util/Preconditions", name := "checkFromIndexSize", desc := "(IIILjava/util/function/BiFunction;)I" } : Jvm.MethodName) jdk_41_method_13_code (4 : Nat) (Option.some Jvm.ClassFile.FieldType.int)).before args0 about1 = true := code_word (m := ⟨4, 1⟩) (meth := k4m1) (c := k4c1) (by decide +kernel) rfl rfl rfl (by decide +kernel)
set_option maxRecDepth 65536 in
theorem w_c5 : (Jvm.Cond.code ({ cls := "java/util/Arrays", name := "copyOfRange", desc := "([BII)[B" } : Jvm.MethodName) jdk_65_method_132_code (3 : Nat) (Option.some (Jvm.ClassFile.FieldType.array Jvm.ClassFile.FieldType.byte))).before args0 about1 = true := code_word (m := ⟨5, 2⟩) (meth := k5m2) (c := k5c2) (by decide +kernel) rfl rfl rfl (by decide +kernel)
set_option maxRecDepth 65536 in
theorem w_c6 : (Jvm.Cond.code ({ cls := "com/example/splitbook/splitbook/tagvalue/TagValueMessage", name := "splitFields", desc := "([B)Lcom/example/splitbook/splitbook/tagvalue/TagValueMessage;" } : Jvm.MethodName) prog_39_method_4_code (12 : Nat) (Option.some (Jvm.ClassFile.FieldType.object "com/example/splitbook/splitbook/tagvalue/TagValueMessage"))).before args0 about1 = true := code_word (m := ⟨2, 3⟩) (meth := k2m3) (c := k2c3) (by decide +kernel) rfl rfl rfl (by decide +kernel)
set_option maxRecDepth 65536 in
theorem w_c7 : (Jvm.Cond.code ({ cls := "com/example/splitbook/splitbook/tagvalue/TagValueMessage", name := "isDigit", desc := "(B)Z" } : Jvm.MethodName) prog_39_method_11_code (1 : Nat) (Option.some Jvm.ClassFile.FieldType.boolean)).before args0 about1 = true := code_word (m := ⟨2, 9⟩) (meth := k2m9) (c := k2c9) (by decide +kernel) rfl rfl rfl (by decide +kernel)
set_option maxRecDepth 65536 in
theorem w_c8 : (Jvm.Cond.code ({ cls := "com/example/splitbook/splitbook/tagvalue/TagValueMessage", name := "decimal", desc := "([BII)J" } : Jvm.MethodName) prog_39_method_9_code (6 : Nat) (Option.some Jvm.ClassFile.FieldType.long)).before args0 about1 = true := code_word (m := ⟨2, 7⟩) (meth := k2m7) (c := k2c7) (by decide +kernel) rfl rfl rfl (by decide +kernel)
set_option maxRecDepth 65536 in
theorem w_c9 : (Jvm.Cond.code ({ cls := "java/lang/Math", name := "min", desc := "(JJ)J" } : Jvm.MethodName) jdk_29_method_70_code (4 : Nat) (Option.some Jvm.ClassFile.FieldType.long)).before args0 about1 = true := code_word (m := ⟨7, 2⟩) (meth := k7m2) (c := k7c2) (by decide +kernel) rfl rfl rfl (by decide +kernel)
set_option maxRecDepth 65536 in
theorem w_c10 : (Jvm.Cond.code ({ cls := "com/example/splitbook/splitbook/tagvalue/TagValueMessage", name := "<init>", desc := "([B[I[I[I)V" } : Jvm.MethodName) prog_39_method_1_code (5 : Nat) (Option.none : Option Jvm.ClassFile.FieldType)).before args0 about1 = true := code_word (m := ⟨2, 0⟩) (meth := k2m0) (c := k2c0) (by decide +kernel) rfl rfl rfl (by decide +kernel)
set_option maxRecDepth 65536 in
theorem w_c11 : (Jvm.Cond.code ({ cls := "java/lang/Object", name := "<init>", desc := "()V" } : Jvm.MethodName) object_method_1_code (1 : Nat) (Option.none : Option Jvm.ClassFile.FieldType)).before args0 about1 = true := code_word (m := ⟨0, 0⟩) (meth := k0m0) (c := k0c0) (by decide +kernel) rfl rfl rfl (by decide +kernel)
set_option maxRecDepth 65536 in
theorem w_c12 : (Jvm.Cond.code ({ cls := "com/example/splitbook/splitbook/tagvalue/TagValueMessage", name := "checkFrame", desc := "()V" } : Jvm.MethodName) prog_39_method_5_code (11 : Nat) (Option.none : Option Jvm.ClassFile.FieldType)).before args0 about1 = true := code_word (m := ⟨2, 4⟩) (meth := k2m4) (c := k2c4) (by decide +kernel) rfl rfl rfl (by decide +kernel)
set_option maxRecDepth 65536 in
theorem w_c13 : (Jvm.Cond.code ({ cls := "com/example/splitbook/splitbook/tagvalue/TagValueMessage", name := "fieldStart", desc := "(I)I" } : Jvm.MethodName) prog_39_method_10_code (2 : Nat) (Option.some Jvm.ClassFile.FieldType.int)).before args0 about1 = true := code_word (m := ⟨2, 8⟩) (meth := k2m8) (c := k2c8) (by decide +kernel) rfl rfl rfl (by decide +kernel)
set_option maxRecDepth 65536 in
theorem w_c14 : (Jvm.Cond.code ({ cls := "com/example/splitbook/splitbook/tagvalue/TagValueMessage", name := "wholeNumber", desc := "(I)J" } : Jvm.MethodName) prog_39_method_8_code (2 : Nat) (Option.some Jvm.ClassFile.FieldType.long)).before args0 about1 = true := code_word (m := ⟨2, 6⟩) (meth := k2m6) (c := k2c6) (by decide +kernel) rfl rfl rfl (by decide +kernel)
set_option maxRecDepth 65536 in
theorem w_c15 : (Jvm.Cond.code ({ cls := "com/example/splitbook/splitbook/tagvalue/TagValueMessage", name := "checkSum", desc := "([BI)I" } : Jvm.MethodName) prog_39_method_6_code (5 : Nat) (Option.some Jvm.ClassFile.FieldType.int)).before args0 about1 = true := code_word (m := ⟨2, 5⟩) (meth := k2m5) (c := k2c5) (by decide +kernel) rfl rfl rfl (by decide +kernel)
set_option maxRecDepth 65536 in
theorem w_c16 : (Jvm.Cond.code ({ cls := "com/example/splitbook/splitbook/tagvalue/TagValueMessage", name := "value", desc := "(I)Ljava/lang/String;" } : Jvm.MethodName) prog_39_method_14_code (2 : Nat) (Option.some (Jvm.ClassFile.FieldType.object "java/lang/String"))).before args0 about1 = true := code_word (m := ⟨2, 10⟩) (meth := k2m10) (c := k2c10) (by decide +kernel) rfl rfl rfl (by decide +kernel)
set_option maxRecDepth 65536 in
theorem w_c17 : (Jvm.Cond.code ({ cls := "com/example/splitbook/splitbook/tagvalue/TagValueMessage", name := "valueLength", desc := "(I)I" } : Jvm.MethodName) prog_39_method_15_code (2 : Nat) (Option.some Jvm.ClassFile.FieldType.int)).before args0 about1 = true := code_word (m := ⟨2, 11⟩) (meth := k2m11) (c := k2c11) (by decide +kernel) rfl rfl rfl (by decide +kernel)
set_option maxRecDepth 65536 in
theorem w_c18 : (Jvm.Cond.code ({ cls := "java/lang/String", name := "<init>", desc := "([BIILjava/nio/charset/Charset;)V" } : Jvm.MethodName) jdk_42_method_10_code (5 : Nat) (Option.none : Option Jvm.ClassFile.FieldType)).before args0 about1 = true := code_word (m := ⟨13, 2⟩) (meth := k13m2) (c := k13c2) (by decide +kernel) rfl rfl rfl (by decide +kernel)
set_option maxRecDepth 65536 in
theorem w_c19 : (Jvm.Cond.code ({ cls := "java/util/Objects", name := "requireNonNull", desc := "(Ljava/lang/Object;)Ljava/lang/Object;" } : Jvm.MethodName) jdk_31_method_10_code (1 : Nat) (Option.some (Jvm.ClassFile.FieldType.object "java/lang/Object"))).before args0 about1 = true := code_word (m := ⟨3, 1⟩) (meth := k3m1) (c := k3c1) (by decide +kernel) rfl rfl rfl (by decide +kernel)
set_option maxRecDepth 65536 in
theorem w_c20 : (Jvm.Cond.code ({ cls := "java/lang/String", name := "checkBoundsOffCount", desc := "(III)I" } : Jvm.MethodName) jdk_42_method_157_code (3 : Nat) (Option.some Jvm.ClassFile.FieldType.int)).before args0 about1 = true := code_word (m := ⟨13, 14⟩) (meth := k13m14) (c := k13c14) (by decide +kernel) rfl rfl rfl (by decide +kernel)
set_option maxRecDepth 65536 in
theorem w_c21 : (Jvm.Cond.code ({ cls := "java/util/Arrays", name := "copyOfRangeByte", desc := "([BII)[B" } : Jvm.MethodName) jdk_65_method_133_code (5 : Nat) (Option.some (Jvm.ClassFile.FieldType.array Jvm.ClassFile.FieldType.byte))).before args0 about1 = true := code_word (m := ⟨5, 3⟩) (meth := k5m3) (c := k5c3) (by decide +kernel) rfl rfl rfl (by decide +kernel)
set_option maxRecDepth 65536 in
theorem w_c22 : (Jvm.Cond.code ({ cls := "java/util/Arrays", name := "checkLength", desc := "(II)V" } : Jvm.MethodName) jdk_65_method_131_code (2 : Nat) (Option.none : Option Jvm.ClassFile.FieldType)).before args0 about1 = true := code_word (m := ⟨5, 1⟩) (meth := k5m1) (c := k5c1) (by decide +kernel) rfl rfl rfl (by decide +kernel)
set_option maxRecDepth 65536 in
theorem w_c23 : (Jvm.Cond.code ({ cls := "java/lang/Math", name := "min", desc := "(II)I" } : Jvm.MethodName) jdk_29_method_69_code (2 : Nat) (Option.some Jvm.ClassFile.FieldType.int)).before args0 about1 = true := code_word (m := ⟨7, 1⟩) (meth := k7m1) (c := k7c1) (by decide +kernel) rfl rfl rfl (by decide +kernel)
set_option maxRecDepth 65536 in
theorem w_c24 : (Jvm.Cond.code ({ cls := "java/lang/String", name := "length", desc := "()I" } : Jvm.MethodName) jdk_42_method_54_code (1 : Nat) (Option.some Jvm.ClassFile.FieldType.int)).before args0 about1 = true := code_word (m := ⟨13, 5⟩) (meth := k13m5) (c := k13c5) (by decide +kernel) rfl rfl rfl (by decide +kernel)
set_option maxRecDepth 65536 in
theorem w_c25 : (Jvm.Cond.code ({ cls := "java/lang/String", name := "coder", desc := "()B" } : Jvm.MethodName) jdk_42_method_152_code (1 : Nat) (Option.some Jvm.ClassFile.FieldType.byte)).before args0 about1 = true := code_word (m := ⟨13, 13⟩) (meth := k13m13) (c := k13c13) (by decide +kernel) rfl rfl rfl (by decide +kernel)
set_option maxRecDepth 65536 in
theorem w_c26 : (Jvm.Cond.code ({ cls := "com/example/splitbook/splitbook/allocation/Field", name := "<init>", desc := "(ILjava/lang/String;)V" } : Jvm.MethodName) prog_14_method_1_code (3 : Nat) (Option.none : Option Jvm.ClassFile.FieldType)).before args0 about1 = true := code_word (m := ⟨21, 0⟩) (meth := k21m0) (c := k21c0) (by decide +kernel) rfl rfl rfl (by decide +kernel)
set_option maxRecDepth 65536 in
theorem w_c27 : (Jvm.Cond.code ({ cls := "java/lang/String", name := "valueOf", desc := "(C)Ljava/lang/String;" } : Jvm.MethodName) jdk_42_method_139_code (1 : Nat) (Option.some (Jvm.ClassFile.FieldType.object "java/lang/String"))).before args0 about1 = true := code_word (m := ⟨13, 8⟩) (meth := k13m8) (c := k13c8) (by decide +kernel) rfl rfl rfl (by decide +kernel)
set_option maxRecDepth 65536 in
theorem w_c28 : (Jvm.Cond.code ({ cls := "java/lang/StringLatin1", name := "canEncode", desc := "(C)Z" } : Jvm.MethodName) jdk_43_method_3_code (1 : Nat) (Option.some Jvm.ClassFile.FieldType.boolean)).before args0 about1 = true := code_word (m := ⟨22, 1⟩) (meth := k22m1) (c := k22c1) (by decide +kernel) rfl rfl rfl (by decide +kernel)
set_option maxRecDepth 65536 in
theorem w_c29 : (Jvm.Cond.code ({ cls := "java/lang/StringLatin1", name := "toBytes", desc := "(C)[B" } : Jvm.MethodName) jdk_43_method_46_code (1 : Nat) (Option.some (Jvm.ClassFile.FieldType.array Jvm.ClassFile.FieldType.byte))).before args0 about1 = true := code_word (m := ⟨22, 3⟩) (meth := k22m3) (c := k22c3) (by decide +kernel) rfl rfl rfl (by decide +kernel)
set_option maxRecDepth 65536 in
theorem w_c30 : (Jvm.Cond.code ({ cls := "java/lang/String", name := "<init>", desc := "([BB)V" } : Jvm.MethodName) jdk_42_method_151_code (3 : Nat) (Option.none : Option Jvm.ClassFile.FieldType)).before args0 about1 = true := code_word (m := ⟨13, 12⟩) (meth := k13m12) (c := k13c12) (by decide +kernel) rfl rfl rfl (by decide +kernel)
set_option maxRecDepth 65536 in
theorem w_c31 : (Jvm.Cond.code ({ cls := "com/example/splitbook/splitbook/allocation/ConditionalField", name := "whenStated", desc := "(Lcom/example/splitbook/splitbook/allocation/Field;Lcom/example/splitbook/splitbook/allocation/Field;)Lcom/example/splitbook/splitbook/allocation/ConditionalField;" } : Jvm.MethodName) prog_11_method_2_code (2 : Nat) (Option.some (Jvm.ClassFile.FieldType.object "com/example/splitbook/splitbook/allocation/ConditionalField"))).before args0 about1 = true := code_word (m := ⟨23, 1⟩) (meth := k23m1) (c := k23c1) (by decide +kernel) rfl rfl rfl (by decide +kernel)
set_option maxRecDepth 65536 in
theorem w_c32 : (Jvm.Cond.code ({ cls := "java/util/Set", name := "of", desc := "()Ljava/util/Set;" } : Jvm.MethodName) jdk_96_method_17_code (0 : Nat) (Option.some (Jvm.ClassFile.FieldType.object "java/util/Set"))).before args0 about1 = true := code_word (m := ⟨26, 1⟩) (meth := k26m1) (c := k26c1) (by decide +kernel) rfl rfl rfl (by decide +kernel)
set_option maxRecDepth 65536 in
theorem w_c33 : (Jvm.Cond.code ({ cls := "com/example/splitbook/splitbook/allocation/ConditionalField", name := "<init>", desc := "(Lcom/example/splitbook/splitbook/allocation/Field;Lcom/example/splitbook/splitbook/allocation/Field;Ljava/util/Set;Z)V" } : Jvm.MethodName) prog_11_method_1_code (5 : Nat) (Option.none : Option Jvm.ClassFile.FieldType)).before args0 about1 = true := code_word (m := ⟨23, 0⟩) (meth := k23m0) (c := k23c0) (by decide +kernel) rfl rfl rfl (by decide +kernel)
set_option maxRecDepth 65536 in
theorem w_c34 : (Jvm.Cond.code ({ cls := "com/example/splitbook/splitbook/allocation/ConditionalField", name := "field", desc := "()Lcom/example/splitbook/splitbook/allocation/Field;" } : Jvm.MethodName) prog_11_method_5_code (1 : Nat) (Option.some (Jvm.ClassFile.FieldType.object "com/example/splitbook/splitbook/allocation/Field"))).before args0 about1 = true := code_word (m := ⟨23, 2⟩) (meth := k23m2) (c := k23c2) (by decide +kernel) rfl rfl rfl (by decide +kernel)
set_option maxRecDepth 65536 in
theorem w_c35 : (Jvm.Cond.code ({ cls := "com/example/splitbook/splitbook/allocation/ConditionalField", name := "conditionMetIn", desc := "(Lcom/example/splitbook/splitbook/tagvalue/TagValueMessage;)Ljava/lang/String;" } : Jvm.MethodName) prog_11_method_6_code (4 : Nat) (Option.some (Jvm.ClassFile.FieldType.object "java/lang/String"))).before args0 about1 = true := code_word (m := ⟨23, 3⟩) (meth := k23m3) (c := k23c3) (by decide +kernel) rfl rfl rfl (by decide +kernel)
set_option maxRecDepth 65536 in
theorem w_c36 : (Jvm.Cond.code ({ cls := "com/example/splitbook/splitbook/allocation/Field", name := "valueIn", desc := "(Lcom/example/splitbook/splitbook/tagvalue/TagValueMessage;)Ljava/lang/String;" } : Jvm.MethodName) prog_14_method_3_code (3 : Nat) (Option.some (Jvm.ClassFile.FieldType.object "java/lang/String"))).before args0 about1 = true := code_word (m := ⟨21, 1⟩) (meth := k21m1) (c := k21c1) (by decide +kernel) rfl rfl rfl (by decide +kernel)
set_option maxRecDepth 65536 in
theorem w_c37 : (Jvm.Cond.code ({ cls := "com/example/splitbook/splitbook/tagvalue/TagValueMessage", name := "indexOf", desc := "(I)I" } : Jvm.MethodName) prog_39_method_16_code (4 : Nat) (Option.some Jvm.ClassFile.FieldType.int)).before args0 about1 = true := code_word (m := ⟨2, 12⟩) (meth := k2m12) (c := k2c12) (by decide +kernel) rfl rfl rfl (by decide +kernel)
set_option maxRecDepth 65536 in
theorem w_c38 : (Jvm.Cond.code ({ cls := "java/util/ImmutableCollections$SetN", name := "isEmpty", desc := "()Z" } : Jvm.MethodName) jdk_132_method_3_code (1 : Nat) (Option.some Jvm.ClassFile.FieldType.boolean)).before args0 about1 = true := code_word (m := ⟨31, 0⟩) (meth := k31m0) (c := k31c0) (by decide +kernel) rfl rfl rfl (by decide +kernel)
set_option maxRecDepth 65536 in
theorem w_c39 : (Jvm.Cond.code ({ cls := "java/lang/StringBuilder", name := "<init>", desc := "()V" } : Jvm.MethodName) jdk_67_method_1_code (1 : Nat) (Option.none : Option Jvm.ClassFile.FieldType)).before args0 about1 = true := code_word (m := ⟨34, 0⟩) (meth := k34m0) (c := k34c0) (by decide +kernel) rfl rfl rfl (by decide +kernel)
set_option maxRecDepth 65536 in
theorem w_c40 : (Jvm.Cond.code ({ cls := "java/lang/AbstractStringBuilder", name := "<init>", desc := "(I)V" } : Jvm.MethodName) jdk_68_method_2_code (2 : Nat) (Option.none : Option Jvm.ClassFile.FieldType)).before args0 about1 = true := code_word (m := ⟨33, 1⟩) (meth := k33m1) (c := k33c1) (by decide +kernel) rfl rfl rfl (by decide +kernel)
set_option maxRecDepth 65536 in
theorem w_c41 : (Jvm.Cond.code ({ cls := "java/lang/StringBuilder", name := "append", desc := "(Ljava/lang/Object;)Ljava/lang/StringBuilder;" } : Jvm.MethodName) jdk_67_method_6_code (2 : Nat) (Option.some (Jvm.ClassFile.FieldType.object "java/lang/StringBuilder"))).before args0 about1 = true := code_word (m := ⟨34, 1⟩) (meth := k34m1) (c := k34c1) (by decide +kernel) rfl rfl rfl (by decide +kernel)
set_option maxRecDepth 65536 in
theorem w_c42 : (Jvm.Cond.code ({ cls := "java/lang/String", name := "valueOf", desc := "(Ljava/lang/Object;)Ljava/lang/String;" } : Jvm.MethodName) jdk_42_method_133_code (1 : Nat) (Option.some (Jvm.ClassFile.FieldType.object "java/lang/String"))).before args0 about1 = true := code_word (m := ⟨13, 7⟩) (meth := k13m7) (c := k13c7) (by decide +kernel) rfl rfl rfl (by decide +kernel)
set_option maxRecDepth 65536 in
theorem w_c43 : (Jvm.Cond.code ({ cls := "com/example/splitbook/splitbook/allocation/Field", name := "toString", desc := "()Ljava/lang/String;" } : Jvm.MethodName) prog_14_method_4_code (1 : Nat) (Option.some (Jvm.ClassFile.FieldType.object "java/lang/String"))).before args0 about1 = true := code_word (m := ⟨21, 2⟩) (meth := k21m2) (c := k21c2) (by decide +kernel) rfl rfl rfl (by decide +kernel)
set_option maxRecDepth 65536 in
theorem w_c44 : (Jvm.Cond.code ({ cls := "java/lang/StringBuilder", name := "append", desc := "(Ljava/lang/String;)Ljava/lang/StringBuilder;" } : Jvm.MethodName) jdk_67_method_7_code (2 : Nat) (Option.some (Jvm.ClassFile.FieldType.object "java/lang/StringBuilder"))).before args0 about1 = true := code_word (m := ⟨34, 2⟩) (meth := k34m2) (c := k34c2) (by decide +kernel) rfl rfl rfl (by decide +kernel)
set_option maxRecDepth 65536 in
theorem w_c45 : (Jvm.Cond.code ({ cls := "java/lang/AbstractStringBuilder", name := "append", desc := "(Ljava/lang/String;)Ljava/lang/AbstractStringBuilder;" } : Jvm.MethodName) jdk_68_method_22_code (3 : Nat) (Option.some (Jvm.ClassFile.FieldType.object "java/lang/AbstractStringBuilder"))).before args0 about1 = true := code_word (m := ⟨33, 4⟩) (meth := k33m4) (c := k33c4) (by decide +kernel) rfl rfl rfl (by decide +kernel)
set_option maxRecDepth 65536 in
theorem w_c46 : (Jvm.Cond.code ({ cls := "java/lang/AbstractStringBuilder", name := "ensureCapacityInternal", desc := "(I)V" } : Jvm.MethodName) jdk_68_method_9_code (3 : Nat) (Option.none : Option Jvm.ClassFile.FieldType)).before args0 about1 = true := code_word (m := ⟨33, 3⟩) (meth := k33m3) (c := k33c3) (by decide +kernel) rfl rfl rfl (by decide +kernel)
set_option maxRecDepth 65536 in
theorem w_c47 : (Jvm.Cond.code ({ cls := "java/lang/AbstractStringBuilder", name := "putStringAt", desc := "(ILjava/lang/String;)V" } : Jvm.MethodName) jdk_68_method_73_code (3 : Nat) (Option.none : Option Jvm.ClassFile.FieldType)).before args0 about1 = true := code_word (m := ⟨33, 9⟩) (meth := k33m9) (c := k33c9) (by decide +kernel) rfl rfl rfl (by decide +kernel)
set_option maxRecDepth 65536 in
theorem w_c48 : (Jvm.Cond.code ({ cls := "java/lang/AbstractStringBuilder", name := "inflateIfNeededFor", desc := "(Ljava/lang/String;)V" } : Jvm.MethodName) jdk_68_method_71_code (2 : Nat) (Option.none : Option Jvm.ClassFile.FieldType)).before args0 about1 = true := code_word (m := ⟨33, 8⟩) (meth := k33m8) (c := k33c8) (by decide +kernel) rfl rfl rfl (by decide +kernel)
set_option maxRecDepth 65536 in
theorem w_c49 : (Jvm.Cond.code ({ cls := "java/lang/String", name := "getBytes", desc := "([BIB)V" } : Jvm.MethodName) jdk_42_method_147_code (4 : Nat) (Option.none : Option Jvm.ClassFile.FieldType)).before args0 about1 = true := code_word (m := ⟨13, 9⟩) (meth := k13m9) (c := k13c9) (by decide +kernel) rfl rfl rfl (by decide +kernel)
set_option maxRecDepth 65536 in
theorem w_c50 : (Jvm.Cond.code ({ cls := "java/lang/StringBuilder", name := "append", desc := "(I)Ljava/lang/StringBuilder;" } : Jvm.MethodName) jdk_67_method_15_code (2 : Nat) (Option.some (Jvm.ClassFile.FieldType.object "java/lang/StringBuilder"))).before args0 about1 = true := code_word (m := ⟨34, 3⟩) (meth := k34m3) (c := k34c3) (by decide +kernel) rfl rfl rfl (by decide +kernel)
set_option maxRecDepth 65536 in
theorem w_c51 : (Jvm.Cond.code ({ cls := "java/lang/AbstractStringBuilder", name := "append", desc := "(I)Ljava/lang/AbstractStringBuilder;" } : Jvm.MethodName) jdk_68_method_32_code (4 : Nat) (Option.some (Jvm.ClassFile.FieldType.object "java/lang/AbstractStringBuilder"))).before args0 about1 = true := code_word (m := ⟨33, 5⟩) (meth := k33m5) (c := k33c5) (by decide +kernel) rfl rfl rfl (by decide +kernel)
set_option maxRecDepth 65536 in
theorem w_c52 : (Jvm.Cond.code ({ cls := "java/lang/Integer", name := "stringSize", desc := "(I)I" } : Jvm.MethodName) jdk_33_method_13_code (4 : Nat) (Option.some Jvm.ClassFile.FieldType.int)).before args0 about1 = true := code_word (m := ⟨36, 1⟩) (meth := k36m1) (c := k36c1) (by decide +kernel) rfl rfl rfl (by decide +kernel)
set_option maxRecDepth 65536 in
theorem w_c53 : (Jvm.Cond.code ({ cls := "java/lang/AbstractStringBuilder", name := "isLatin1", desc := "()Z" } : Jvm.MethodName) jdk_68_method_68_code (1 : Nat) (Option.some Jvm.ClassFile.FieldType.boolean)).before args0 about1 = true := code_word (m := ⟨33, 7⟩) (meth := k33m7) (c := k33c7) (by decide +kernel) rfl rfl rfl (by decide +kernel)
set_option maxRecDepth 65536 in
theorem w_c54 : (Jvm.Cond.code ({ cls := "java/lang/Integer", name := "getChars", desc := "(II[B)I" } : Jvm.MethodName) jdk_33_method_12_code (7 : Nat) (Option.some Jvm.ClassFile.FieldType.int)).before args0 about1 = true := code_word (m := ⟨36, 0⟩) (meth := k36m0) (c := k36c0) (by decide +kernel) rfl rfl rfl (by decide +kernel)
set_option maxRecDepth 65536 in
theorem w_c55 : (Jvm.Cond.code ({ cls := "java/lang/StringBuilder", name := "toString", desc := "()Ljava/lang/String;" } : Jvm.MethodName) jdk_67_method_42_code (1 : Nat) (Option.some (Jvm.ClassFile.FieldType.object "java/lang/String"))).before args0 about1 = true := code_word (m := ⟨34, 4⟩) (meth := k34m4) (c := k34c4) (by decide +kernel) rfl rfl rfl (by decide +kernel)
set_option maxRecDepth 65536 in
theorem w_c56 : (Jvm.Cond.code ({ cls := "java/lang/String", name := "<init>", desc := "(Ljava/lang/StringBuilder;)V" } : Jvm.MethodName) jdk_42_method_53_code (2 : Nat) (Option.none : Option Jvm.ClassFile.FieldType)).before args0 about1 = true := code_word (m := ⟨13, 4⟩) (meth := k13m4) (c := k13c4) (by decide +kernel) rfl rfl rfl (by decide +kernel)
set_option maxRecDepth 65536 in
theorem w_c57 : (Jvm.Cond.code ({ cls := "java/lang/String", name := "<init>", desc := "(Ljava/lang/AbstractStringBuilder;Ljava/lang/Void;)V" } : Jvm.MethodName) jdk_42_method_150_code (5 : Nat) (Option.none : Option Jvm.ClassFile.FieldType)).before args0 about1 = true := code_word (m := ⟨13, 11⟩) (meth := k13m11) (c := k13c11) (by decide +kernel) rfl rfl rfl (by decide +kernel)
set_option maxRecDepth 65536 in
theorem w_c58 : (Jvm.Cond.code ({ cls := "java/lang/AbstractStringBuilder", name := "getValue", desc := "()[B" } : Jvm.MethodName) jdk_68_method_64_code (1 : Nat) (Option.some (Jvm.ClassFile.FieldType.array Jvm.ClassFile.FieldType.byte))).before args0 about1 = true := code_word (m := ⟨33, 6⟩) (meth := k33m6) (c := k33c6) (by decide +kernel) rfl rfl rfl (by decide +kernel)
set_option maxRecDepth 65536 in
theorem w_c59 : (Jvm.Cond.code ({ cls := "java/lang/StringBuilder", name := "length", desc := "()I" } : Jvm.MethodName) jdk_67_method_93_code (1 : Nat) (Option.some Jvm.ClassFile.FieldType.int)).before args0 about1 = true := code_word (m := ⟨34, 5⟩) (meth := k34m5) (c := k34c5) (by decide +kernel) rfl rfl rfl (by decide +kernel)
set_option maxRecDepth 65536 in
theorem w_c60 : (Jvm.Cond.code ({ cls := "java/lang/AbstractStringBuilder", name := "length", desc := "()I" } : Jvm.MethodName) jdk_68_method_6_code (1 : Nat) (Option.some Jvm.ClassFile.FieldType.int)).before args0 about1 = true := code_word (m := ⟨33, 2⟩) (meth := k33m2) (c := k33c2) (by decide +kernel) rfl rfl rfl (by decide +kernel)
set_option maxRecDepth 65536 in
theorem w_c61 : (Jvm.Cond.code ({ cls := "com/example/splitbook/splitbook/allocation/ConditionalFieldWhenStatedPinLaw", name := "expected", desc := "(CI)Ljava/lang/String;" } : Jvm.MethodName) method_3_code (2 : Nat) (Option.some (Jvm.ClassFile.FieldType.object "java/lang/String"))).before args0 about1 = true := code_word (m := ⟨1, 2⟩) (meth := k1m2) (c := k1c2) (by decide +kernel) rfl rfl rfl (by decide +kernel)
set_option maxRecDepth 65536 in
theorem w_c62 : (Jvm.Cond.code ({ cls := "java/lang/String", name := "<init>", desc := "([C)V" } : Jvm.MethodName) jdk_42_method_3_code (2 : Nat) (Option.none : Option Jvm.ClassFile.FieldType)).before args0 about1 = true := code_word (m := ⟨13, 1⟩) (meth := k13m1) (c := k13c1) (by decide +kernel) rfl rfl rfl (by decide +kernel)
set_option maxRecDepth 65536 in
theorem w_c63 : (Jvm.Cond.code ({ cls := "java/lang/String", name := "<init>", desc := "([CIILjava/lang/Void;)V" } : Jvm.MethodName) jdk_42_method_149_code (6 : Nat) (Option.none : Option Jvm.ClassFile.FieldType)).before args0 about1 = true := code_word (m := ⟨13, 10⟩) (meth := k13m10) (c := k13c10) (by decide +kernel) rfl rfl rfl (by decide +kernel)
set_option maxRecDepth 65536 in
theorem w_c64 : (Jvm.Cond.code ({ cls := "java/lang/StringUTF16", name := "compress", desc := "([CII)[B" } : Jvm.MethodName) jdk_52_method_16_code (6 : Nat) (Option.some (Jvm.ClassFile.FieldType.array Jvm.ClassFile.FieldType.byte))).before args0 about1 = true := code_word (m := ⟨37, 2⟩) (meth := k37m2) (c := k37c2) (by decide +kernel) rfl rfl rfl (by decide +kernel)
set_option maxRecDepth 65536 in
theorem w_c65 : (Jvm.Cond.code ({ cls := "java/lang/StringUTF16", name := "compress", desc := "([CI[BII)I" } : Jvm.MethodName) jdk_52_method_21_code (7 : Nat) (Option.some Jvm.ClassFile.FieldType.int)).before args0 about1 = true := code_word (m := ⟨37, 3⟩) (meth := k37m3) (c := k37c3) (by decide +kernel) rfl rfl rfl (by decide +kernel)
set_option maxRecDepth 65536 in
theorem w_c66 : (Jvm.Cond.code ({ cls := "java/lang/StringUTF16", name := "coderFromArrayLen", desc := "([BI)B" } : Jvm.MethodName) jdk_52_method_15_code (2 : Nat) (Option.some Jvm.ClassFile.FieldType.byte)).before args0 about1 = true := code_word (m := ⟨37, 1⟩) (meth := k37m1) (c := k37c1) (by decide +kernel) rfl rfl rfl (by decide +kernel)
set_option maxRecDepth 65536 in
theorem w_c67 : (Jvm.Cond.code ({ cls := "java/lang/String", name := "equals", desc := "(Ljava/lang/Object;)Z" } : Jvm.MethodName) jdk_42_method_66_code (3 : Nat) (Option.some Jvm.ClassFile.FieldType.boolean)).before args0 about1 = true := code_word (m := ⟨13, 6⟩) (meth := k13m6) (c := k13c6) (by decide +kernel) rfl rfl rfl (by decide +kernel)
set_option maxRecDepth 65536 in
theorem w_c68 : (Jvm.Cond.code ({ cls := "java/lang/StringLatin1", name := "equals", desc := "([B[B)Z" } : Jvm.MethodName) jdk_43_method_13_code (3 : Nat) (Option.some Jvm.ClassFile.FieldType.boolean)).before args0 about1 = true := code_word (m := ⟨22, 2⟩) (meth := k22m2) (c := k22c2) (by decide +kernel) rfl rfl rfl (by decide +kernel)
def codes1 : List Jvm.Cond := [Jvm.Cond.code x code maxLocals ret, Jvm.Cond.code ({ cls := "com/example/splitbook/splitbook/tagvalue/TagValueMessage", name := "read", desc := "([B)Lcom/example/splitbook/splitbook/tagvalue/TagValueMessage;" } : Jvm.MethodName) prog_39_method_2_code (1 : Nat) (Option.some (Jvm.ClassFile.FieldType.object "com/example/splitbook/splitbook/tagvalue/TagValueMessage")), Jvm.Cond.code ({ cls := "com/example/splitbook/splitbook/tagvalue/TagValueMessage", name := "read", desc := "([BII)Lcom/example/splitbook/splitbook/tagvalue/TagValueMessage;" } : Jvm.MethodName) prog_39_method_3_code (5 : Nat) (Option.some (Jvm.ClassFile.FieldType.object "com/example/splitbook/splitbook/tagvalue/TagValueMessage")), Jvm.Cond.code ({ cls := "java/util/Objects", name := "checkFromIndexSize", desc := "(III)I" } : Jvm.MethodName) jdk_31_method_19_code (3 : Nat) (Option.some Jvm.ClassFile.FieldType.int), Jvm.Cond.code ({ cls := "jdk/internal/util/Preconditions", name := "checkFromIndexSize", desc := "(IIILjava/util/function/BiFunction;)I" } : Jvm.MethodName) jdk_41_method_13_code (4 : Nat) (Option.some Jvm.ClassFile.FieldType.int), Jvm.Cond.code ({ cls := "java/util/Arrays", name := "copyOfRange", desc := "([BII)[B" } : Jvm.MethodName) jdk_65_method_132_code (3 : Nat) (Option.some (Jvm.ClassFile.FieldType.array Jvm.ClassFile.FieldType.byte)), Jvm.Cond.code ({ cls := "com/example/splitbook/splitbook/tagvalue/TagValueMessage", name := "splitFields", desc := "([B)Lcom/example/splitbook/splitbook/tagvalue/TagValueMessage;" } : Jvm.MethodName) prog_39_method_4_code (12 : Nat) (Option.some (Jvm.ClassFile.FieldType.object "com/example/splitbook/splitbook/tagvalue/TagValueMessage")), Jvm.Cond.code ({ cls := "com/example/splitbook/splitbook/tagvalue/TagValueMessage", name := "isDigit", desc := "(B)Z" } : Jvm.MethodName) prog_39_method_11_code (1 : Nat) (Option.some Jvm.ClassFile.FieldType.boolean), Jvm.Cond.code ({ cls := "com/example/splitbook/splitbook/tagvalue/TagValueMessage", name := "decimal", desc := "([BII)J" } : Jvm.MethodName) prog_39_method_9_code (6 : Nat) (Option.some Jvm.ClassFile.FieldType.long), Jvm.Cond.code ({ cls := "java/lang/Math", name := "min", desc := "(JJ)J" } : Jvm.MethodName) jdk_29_method_70_code (4 : Nat) (Option.some Jvm.ClassFile.FieldType.long), Jvm.Cond.code ({ cls := "com/example/splitbook/splitbook/tagvalue/TagValueMessage", name := "<init>", desc := "([B[I[I[I)V" } : Jvm.MethodName) prog_39_method_1_code (5 : Nat) (Option.none : Option Jvm.ClassFile.FieldType), Jvm.Cond.code ({ cls := "java/lang/Object", name := "<init>", desc := "()V" } : Jvm.MethodName) object_method_1_code (1 : Nat) (Option.none : Option Jvm.ClassFile.FieldType), Jvm.Cond.code ({ cls := "com/example/splitbook/splitbook/tagvalue/TagValueMessage", name := "checkFrame", desc := "()V" } : Jvm.MethodName) prog_39_method_5_code (11 : Nat) (Option.none : Option Jvm.ClassFile.FieldType), Jvm.Cond.code ({ cls := "com/example/splitbook/splitbook/tagvalue/TagValueMessage", name := "fieldStart", desc := "(I)I" } : Jvm.MethodName) prog_39_method_10_code (2 : Nat) (Option.some Jvm.ClassFile.FieldType.int), Jvm.Cond.code ({ cls := "com/example/splitbook/splitbook/tagvalue/TagValueMessage", name := "wholeNumber", desc := "(I)J" } : Jvm.MethodName) prog_39_method_8_code (2 : Nat) (Option.some Jvm.ClassFile.FieldType.long), Jvm.Cond.code ({ cls := "com/example/splitbook/splitbook/tagvalue/TagValueMessage", name := "checkSum", desc := "([BI)I" } : Jvm.MethodName) prog_39_method_6_code (5 : Nat) (Option.some Jvm.ClassFile.FieldType.int), Jvm.Cond.code ({ cls := "com/example/splitbook/splitbook/tagvalue/TagValueMessage", name := "value", desc := "(I)Ljava/lang/String;" } : Jvm.MethodName) prog_39_method_14_code (2 : Nat) (Option.some (Jvm.ClassFile.FieldType.object "java/lang/String")), Jvm.Cond.code ({ cls := "com/example/splitbook/splitbook/tagvalue/TagValueMessage", name := "valueLength", desc := "(I)I" } : Jvm.MethodName) prog_39_method_15_code (2 : Nat) (Option.some Jvm.ClassFile.FieldType.int), Jvm.Cond.code ({ cls := "java/lang/String", name := "<init>", desc := "([BIILjava/nio/charset/Charset;)V" } : Jvm.MethodName) jdk_42_method_10_code (5 : Nat) (Option.none : Option Jvm.ClassFile.FieldType), Jvm.Cond.code ({ cls := "java/util/Objects", name := "requireNonNull", desc := "(Ljava/lang/Object;)Ljava/lang/Object;" } : Jvm.MethodName) jdk_31_method_10_code (1 : Nat) (Option.some (Jvm.ClassFile.FieldType.object "java/lang/Object")), Jvm.Cond.code ({ cls := "java/lang/String", name := "checkBoundsOffCount", desc := "(III)I" } : Jvm.MethodName) jdk_42_method_157_code (3 : Nat) (Option.some Jvm.ClassFile.FieldType.int), Jvm.Cond.code ({ cls := "java/util/Arrays", name := "copyOfRangeByte", desc := "([BII)[B" } : Jvm.MethodName) jdk_65_method_133_code (5 : Nat) (Option.some (Jvm.ClassFile.FieldType.array Jvm.ClassFile.FieldType.byte)), Jvm.Cond.code ({ cls := "java/util/Arrays", name := "checkLength", desc := "(II)V" } : Jvm.MethodName) jdk_65_method_131_code (2 : Nat) (Option.none : Option Jvm.ClassFile.FieldType), Jvm.Cond.code ({ cls := "java/lang/Math", name := "min", desc := "(II)I" } : Jvm.MethodName) jdk_29_method_69_code (2 : Nat) (Option.some Jvm.ClassFile.FieldType.int), Jvm.Cond.code ({ cls := "java/lang/String", name := "length", desc := "()I" } : Jvm.MethodName) jdk_42_method_54_code (1 : Nat) (Option.some Jvm.ClassFile.FieldType.int), Jvm.Cond.code ({ cls := "java/lang/String", name := "coder", desc := "()B" } : Jvm.MethodName) jdk_42_method_152_code (1 : Nat) (Option.some Jvm.ClassFile.FieldType.byte), Jvm.Cond.code ({ cls := "com/example/splitbook/splitbook/allocation/Field", name := "<init>", desc := "(ILjava/lang/String;)V" } : Jvm.MethodName) prog_14_method_1_code (3 : Nat) (Option.none : Option Jvm.ClassFile.FieldType), Jvm.Cond.code ({ cls := "java/lang/String", name := "valueOf", desc := "(C)Ljava/lang/String;" } : Jvm.MethodName) jdk_42_method_139_code (1 : Nat) (Option.some (Jvm.ClassFile.FieldType.object "java/lang/String")), Jvm.Cond.code ({ cls := "java/lang/StringLatin1", name := "canEncode", desc := "(C)Z" } : Jvm.MethodName) jdk_43_method_3_code (1 : Nat) (Option.some Jvm.ClassFile.FieldType.boolean), Jvm.Cond.code ({ cls := "java/lang/StringLatin1", name := "toBytes", desc := "(C)[B" } : Jvm.MethodName) jdk_43_method_46_code (1 : Nat) (Option.some (Jvm.ClassFile.FieldType.array Jvm.ClassFile.FieldType.byte)), Jvm.Cond.code ({ cls := "java/lang/String", name := "<init>", desc := "([BB)V" } : Jvm.MethodName) jdk_42_method_151_code (3 : Nat) (Option.none : Option Jvm.ClassFile.FieldType), Jvm.Cond.code ({ cls := "com/example/splitbook/splitbook/allocation/ConditionalField", name := "whenStated", desc := "(Lcom/example/splitbook/splitbook/allocation/Field;Lcom/example/splitbook/splitbook/allocation/Field;)Lcom/example/splitbook/splitbook/allocation/ConditionalField;" } : Jvm.MethodName) prog_11_method_2_code (2 : Nat) (Option.some (Jvm.ClassFile.FieldType.object "com/example/splitbook/splitbook/allocation/ConditionalField")), Jvm.Cond.code ({ cls := "java/util/Set", name := "of", desc := "()Ljava/util/Set;" } : Jvm.MethodName) jdk_96_method_17_code (0 : Nat) (Option.some (Jvm.ClassFile.FieldType.object "java/util/Set")), Jvm.Cond.code ({ cls := "com/example/splitbook/splitbook/allocation/ConditionalField", name := "<init>", desc := "(Lcom/example/splitbook/splitbook/allocation/Field;Lcom/example/splitbook/splitbook/allocation/Field;Ljava/util/Set;Z)V" } : Jvm.MethodName) prog_11_method_1_code (5 : Nat) (Option.none : Option Jvm.ClassFile.FieldType), Jvm.Cond.code ({ cls := "com/example/splitbook/splitbook/allocation/ConditionalField", name := "field", desc := "()Lcom/example/splitbook/splitbook/allocation/Field;" } : Jvm.MethodName) prog_11_method_5_code (1 : Nat) (Option.some (Jvm.ClassFile.FieldType.object "com/example/splitbook/splitbook/allocation/Field")), Jvm.Cond.code ({ cls := "com/example/splitbook/splitbook/allocation/ConditionalField", name := "conditionMetIn", desc := "(Lcom/example/splitbook/splitbook/tagvalue/TagValueMessage;)Ljava/lang/String;" } : Jvm.MethodName) prog_11_method_6_code (4 : Nat) (Option.some (Jvm.ClassFile.FieldType.object "java/lang/String")), Jvm.Cond.code ({ cls := "com/example/splitbook/splitbook/allocation/Field", name := "valueIn", desc := "(Lcom/example/splitbook/splitbook/tagvalue/TagValueMessage;)Ljava/lang/String;" } : Jvm.MethodName) prog_14_method_3_code (3 : Nat) (Option.some (Jvm.ClassFile.FieldType.object "java/lang/String")), Jvm.Cond.code ({ cls := "com/example/splitbook/splitbook/tagvalue/TagValueMessage", name := "indexOf", desc := "(I)I" } : Jvm.MethodName) prog_39_method_16_code (4 : Nat) (Option.some Jvm.ClassFile.FieldType.int), Jvm.Cond.code ({ cls := "java/util/ImmutableCollections$SetN", name := "isEmpty", desc := "()Z" } : Jvm.MethodName) jdk_132_method_3_code (1 : Nat) (Option.some Jvm.ClassFile.FieldType.boolean), Jvm.Cond.code ({ cls := "java/lang/StringBuilder", name := "<init>", desc := "()V" } : Jvm.MethodName) jdk_67_method_1_code (1 : Nat) (Option.none : Option Jvm.ClassFile.FieldType), Jvm.Cond.code ({ cls := "java/lang/AbstractStringBuilder", name := "<init>", desc := "(I)V" } : Jvm.MethodName) jdk_68_method_2_code (2 : Nat) (Option.none : Option Jvm.ClassFile.FieldType), Jvm.Cond.code ({ cls := "java/lang/StringBuilder", name := "append", desc := "(Ljava/lang/Object;)Ljava/lang/StringBuilder;" } : Jvm.MethodName) jdk_67_method_6_code (2 : Nat) (Option.some (Jvm.ClassFile.FieldType.object "java/lang/StringBuilder")), Jvm.Cond.code ({ cls := "java/lang/String", name := "valueOf", desc := "(Ljava/lang/Object;)Ljava/lang/String;" } : Jvm.MethodName) jdk_42_method_133_code (1 : Nat) (Option.some (Jvm.ClassFile.FieldType.object "java/lang/String")), Jvm.Cond.code ({ cls := "com/example/splitbook/splitbook/allocation/Field", name := "toString", desc := "()Ljava/lang/String;" } : Jvm.MethodName) prog_14_method_4_code (1 : Nat) (Option.some (Jvm.ClassFile.FieldType.object "java/lang/String")), Jvm.Cond.code ({ cls := "java/lang/StringBuilder", name := "append", desc := "(Ljava/lang/String;)Ljava/lang/StringBuilder;" } : Jvm.MethodName) jdk_67_method_7_code (2 : Nat) (Option.some (Jvm.ClassFile.FieldType.object "java/lang/StringBuilder")), Jvm.Cond.code ({ cls := "java/lang/AbstractStringBuilder", name := "append", desc := "(Ljava/lang/String;)Ljava/lang/AbstractStringBuilder;" } : Jvm.MethodName) jdk_68_method_22_code (3 : Nat) (Option.some (Jvm.ClassFile.FieldType.object "java/lang/AbstractStringBuilder")), Jvm.Cond.code ({ cls := "java/lang/AbstractStringBuilder", name := "ensureCapacityInternal", desc := "(I)V" } : Jvm.MethodName) jdk_68_method_9_code (3 : Nat) (Option.none : Option Jvm.ClassFile.FieldType), Jvm.Cond.code ({ cls := "java/lang/AbstractStringBuilder", name := "putStringAt", desc := "(ILjava/lang/String;)V" } : Jvm.MethodName) jdk_68_method_73_code (3 : Nat) (Option.none : Option Jvm.ClassFile.FieldType), Jvm.Cond.code ({ cls := "java/lang/AbstractStringBuilder", name := "inflateIfNeededFor", desc := "(Ljava/lang/String;)V" } : Jvm.MethodName) jdk_68_method_71_code (2 : Nat) (Option.none : Option Jvm.ClassFile.FieldType), Jvm.Cond.code ({ cls := "java/lang/String", name := "getBytes", desc := "([BIB)V" } : Jvm.MethodName) jdk_42_method_147_code (4 : Nat) (Option.none : Option Jvm.ClassFile.FieldType), Jvm.Cond.code ({ cls := "java/lang/StringBuilder", name := "append", desc := "(I)Ljava/lang/StringBuilder;" } : Jvm.MethodName) jdk_67_method_15_code (2 : Nat) (Option.some (Jvm.ClassFile.FieldType.object "java/lang/StringBuilder")), Jvm.Cond.code ({ cls := "java/lang/AbstractStringBuilder", name := "append", desc := "(I)Ljava/lang/AbstractStringBuilder;" } : Jvm.MethodName) jdk_68_method_32_code (4 : Nat) (Option.some (Jvm.ClassFile.FieldType.object "java/lang/AbstractStringBuilder")), Jvm.Cond.code ({ cls := "java/lang/Integer", name := "stringSize", desc := "(I)I" } : Jvm.MethodName) jdk_33_method_13_code (4 : Nat) (Option.some Jvm.ClassFile.FieldType.int), Jvm.Cond.code ({ cls := "java/lang/AbstractStringBuilder", name := "isLatin1", desc := "()Z" } : Jvm.MethodName) jdk_68_method_68_code (1 : Nat) (Option.some Jvm.ClassFile.FieldType.boolean), Jvm.Cond.code ({ cls := "java/lang/Integer", name := "getChars", desc := "(II[B)I" } : Jvm.MethodName) jdk_33_method_12_code (7 : Nat) (Option.some Jvm.ClassFile.FieldType.int), Jvm.Cond.code ({ cls := "java/lang/StringBuilder", name := "toString", desc := "()Ljava/lang/String;" } : Jvm.MethodName) jdk_67_method_42_code (1 : Nat) (Option.some (Jvm.ClassFile.FieldType.object "java/lang/String")), Jvm.Cond.code ({ cls := "java/lang/String", name := "<init>", desc := "(Ljava/lang/StringBuilder;)V" } : Jvm.MethodName) jdk_42_method_53_code (2 : Nat) (Option.none : Option Jvm.ClassFile.FieldType), Jvm.Cond.code ({ cls := "java/lang/String", name := "<init>", desc := "(Ljava/lang/AbstractStringBuilder;Ljava/lang/Void;)V" } : Jvm.MethodName) jdk_42_method_150_code (5 : Nat) (Option.none : Option Jvm.ClassFile.FieldType), Jvm.Cond.code ({ cls := "java/lang/AbstractStringBuilder", name := "getValue", desc := "()[B" } : Jvm.MethodName) jdk_68_method_64_code (1 : Nat) (Option.some (Jvm.ClassFile.FieldType.array Jvm.ClassFile.FieldType.byte)), Jvm.Cond.code ({ cls := "java/lang/StringBuilder", name := "length", desc := "()I" } : Jvm.MethodName) jdk_67_method_93_code (1 : Nat) (Option.some Jvm.ClassFile.FieldType.int), Jvm.Cond.code ({ cls := "java/lang/AbstractStringBuilder", name := "length", desc := "()I" } : Jvm.MethodName) jdk_68_method_6_code (1 : Nat) (Option.some Jvm.ClassFile.FieldType.int), Jvm.Cond.code ({ cls := "com/example/splitbook/splitbook/allocation/ConditionalFieldWhenStatedPinLaw", name := "expected", desc := "(CI)Ljava/lang/String;" } : Jvm.MethodName) method_3_code (2 : Nat) (Option.some (Jvm.ClassFile.FieldType.object "java/lang/String")), Jvm.Cond.code ({ cls := "java/lang/String", name := "<init>", desc := "([C)V" } : Jvm.MethodName) jdk_42_method_3_code (2 : Nat) (Option.none : Option Jvm.ClassFile.FieldType), Jvm.Cond.code ({ cls := "java/lang/String", name := "<init>", desc := "([CIILjava/lang/Void;)V" } : Jvm.MethodName) jdk_42_method_149_code (6 : Nat) (Option.none : Option Jvm.ClassFile.FieldType), Jvm.Cond.code ({ cls := "java/lang/StringUTF16", name := "compress", desc := "([CII)[B" } : Jvm.MethodName) jdk_52_method_16_code (6 : Nat) (Option.some (Jvm.ClassFile.FieldType.array Jvm.ClassFile.FieldType.byte)), Jvm.Cond.code ({ cls := "java/lang/StringUTF16", name := "compress", desc := "([CI[BII)I" } : Jvm.MethodName) jdk_52_method_21_code (7 : Nat) (Option.some Jvm.ClassFile.FieldType.int), Jvm.Cond.code ({ cls := "java/lang/StringUTF16", name := "coderFromArrayLen", desc := "([BI)B" } : Jvm.MethodName) jdk_52_method_15_code (2 : Nat) (Option.some Jvm.ClassFile.FieldType.byte), Jvm.Cond.code ({ cls := "java/lang/String", name := "equals", desc := "(Ljava/lang/Object;)Z" } : Jvm.MethodName) jdk_42_method_66_code (3 : Nat) (Option.some Jvm.ClassFile.FieldType.boolean), Jvm.Cond.code ({ cls := "java/lang/StringLatin1", name := "equals", desc := "([B[B)Z" } : Jvm.MethodName) jdk_43_method_13_code (3 : Nat) (Option.some Jvm.ClassFile.FieldType.boolean)]
set_option maxRecDepth 65536 in
theorem codes_eq : words1.filter isCode = codes1 := rfl
theorem w_codes : ∀ c ∈ words1.filter isCode, c.before args0 about1 = true := by
  rw [codes_eq]
  intro c hc
  simp only [codes1, List.mem_cons, List.not_mem_nil, or_false] at hc
  rcases hc with rfl | rfl | rfl | rfl | rfl | rfl | rfl | rfl | rfl | rfl | rfl | rfl | rfl | rfl | rfl | rfl | rfl | rfl | rfl | rfl | rfl | rfl | rfl | rfl | rfl | rfl | rfl | rfl | rfl | rfl | rfl | rfl | rfl | rfl | rfl | rfl | rfl | rfl | rfl | rfl | rfl | rfl | rfl | rfl | rfl | rfl | rfl | rfl | rfl | rfl | rfl | rfl | rfl | rfl | rfl | rfl | rfl | rfl | rfl | rfl | rfl | rfl | rfl | rfl | rfl | rfl | rfl | rfl | rfl
  · exact w_c0
  · exact w_c1
  · exact w_c2
  · exact w_c3
  · exact w_c4
  · exact w_c5
  · exact w_c6
  · exact w_c7
  · exact w_c8
  · exact w_c9
  · exact w_c10
  · exact w_c11
  · exact w_c12
  · exact w_c13
  · exact w_c14
  · exact w_c15
  · exact w_c16
  · exact w_c17
  · exact w_c18
  · exact w_c19
  · exact w_c20
  · exact w_c21
  · exact w_c22
  · exact w_c23
  · exact w_c24
  · exact w_c25
  · exact w_c26
  · exact w_c27
  · exact w_c28
  · exact w_c29
  · exact w_c30
  · exact w_c31
  · exact w_c32
  · exact w_c33
  · exact w_c34
  · exact w_c35
  · exact w_c36
  · exact w_c37
  · exact w_c38
  · exact w_c39
  · exact w_c40
  · exact w_c41
  · exact w_c42
  · exact w_c43
  · exact w_c44
  · exact w_c45
  · exact w_c46
  · exact w_c47
  · exact w_c48
  · exact w_c49
  · exact w_c50
  · exact w_c51
  · exact w_c52
  · exact w_c53
  · exact w_c54
  · exact w_c55
  · exact w_c56
  · exact w_c57
  · exact w_c58
  · exact w_c59
  · exact w_c60
  · exact w_c61
  · exact w_c62
  · exact w_c63
  · exact w_c64
  · exact w_c65
  · exact w_c66
  · exact w_c67
  · exact w_c68
set_option maxRecDepth 65536 in
theorem w_t1 : (words1.take 24).all (fun c => isCode c || c.before args0 about1) = true := by decide +kernel
set_option maxRecDepth 65536 in
theorem w_t2 : ((words1.drop 24).take 24).all (fun c => isCode c || c.before args0 about1) = true := by decide +kernel
set_option maxRecDepth 65536 in
theorem w_t3 : (((words1.drop 24).drop 24).take 24).all (fun c => isCode c || c.before args0 about1) = true := by decide +kernel
set_option maxRecDepth 65536 in
theorem w_t4 : ((((words1.drop 24).drop 24).drop 24).take 24).all (fun c => isCode c || c.before args0 about1) = true := by decide +kernel
theorem own_cw {y : MethodName} {bytes : ByteArray} {mx : Nat} {rt : Option FieldType} {hs : List (Nat × Nat × Nat × Nat)} {a : Array Value} {s : State} {m : MethodId} {meth : Method} {c : Code} (h1 : s.methodNamed? y = some m) (h2 : s.vm.method? m = some meth) (h3 : meth.code = some c) (h4 : c.code = bytes)
    (h5 : (c.maxLocals == mx && decide (c.exceptionTable.toList.map (fun h => (h.startPc, h.endPc, h.handlerPc, h.catchType)) = hs) && decide (c.maxStack ≤ mostOperands) && decide (meth.sig.returnType = rt) && !meth.locks && decide (parseMethodDescriptor y.desc = some meth.sig)) = true) : (Jvm.Cond.codeWith y bytes mx rt hs).before a s = true := by
  simp only [Bool.and_eq_true, beq_iff_eq, Bool.not_eq_true', decide_eq_true_eq] at h5
  obtain ⟨⟨⟨⟨⟨g1, g2⟩, g3⟩, g4⟩, g5⟩, g6⟩ := h5
  simp only [Cond.before, Cond.holds, Cond.value, h1, h2, h3, h4, g1, g2, g3, g4, g5, g6, Option.bind_some, Option.map_some, Option.any_some, decide_true, beq_self_eq_true, Bool.and_true, Bool.not_false, Bool.true_and, Option.getD_some]
set_option maxRecDepth 65536 in
theorem w_u1 : ((((((words1.drop 24).drop 24).drop 24).drop 24).take 24).take 14).all (fun c => isCode c || c.before args0 about1) = true := by decide +kernel
set_option maxRecDepth 65536 in
theorem w_u2 : (Jvm.Cond.codeWith ({ cls := "java/lang/String", name := "<init>", desc := "(Ljava/nio/charset/Charset;[BII)V" } : Jvm.MethodName) jdk_42_method_11_code (11 : Nat) (Option.none : Option Jvm.ClassFile.FieldType) [((800 : Nat), (813 : Nat), (816 : Nat), (202 : Nat))]).before args0 about1 = true := own_cw (m := ⟨13, 3⟩) (meth := k13m3) (c := k13c3) (by decide +kernel) rfl rfl rfl (by decide +kernel)
set_option maxRecDepth 65536 in
theorem w_u3 : ((((((words1.drop 24).drop 24).drop 24).drop 24).take 24).drop 15).all (fun c => isCode c || c.before args0 about1) = true := by decide +kernel
set_option maxRecDepth 65536 in
theorem w_t5 : (((((words1.drop 24).drop 24).drop 24).drop 24).take 24).all (fun c => isCode c || c.before args0 about1) = true := by
  rw [← List.take_append_drop 14 (((((words1.drop 24).drop 24).drop 24).drop 24).take 24), List.all_append, w_u1, show (((((words1.drop 24).drop 24).drop 24).drop 24).take 24).drop 14 = (Jvm.Cond.codeWith ({ cls := "java/lang/String", name := "<init>", desc := "(Ljava/nio/charset/Charset;[BII)V" } : Jvm.MethodName) jdk_42_method_11_code (11 : Nat) (Option.none : Option Jvm.ClassFile.FieldType) [((800 : Nat), (813 : Nat), (816 : Nat), (202 : Nat))]) :: (((((words1.drop 24).drop 24).drop 24).drop 24).take 24).drop 15 from rfl, List.all_cons, w_u3, w_u2, Bool.or_true]; rfl
set_option maxRecDepth 65536 in
theorem w_t6 : ((((((words1.drop 24).drop 24).drop 24).drop 24).drop 24).take 24).all (fun c => isCode c || c.before args0 about1) = true := by decide +kernel
set_option maxRecDepth 65536 in
theorem w_t7 : (((((((words1.drop 24).drop 24).drop 24).drop 24).drop 24).drop 24).take 24).all (fun c => isCode c || c.before args0 about1) = true := by decide +kernel
set_option maxRecDepth 65536 in
theorem w_t8 : ((((((((words1.drop 24).drop 24).drop 24).drop 24).drop 24).drop 24).drop 24).take 24).all (fun c => isCode c || c.before args0 about1) = true := by decide +kernel
set_option maxRecDepth 65536 in
theorem w_t9 : (((((((((words1.drop 24).drop 24).drop 24).drop 24).drop 24).drop 24).drop 24).drop 24).take 24).all (fun c => isCode c || c.before args0 about1) = true := by decide +kernel
set_option maxRecDepth 65536 in
theorem w_t10 : ((((((((((words1.drop 24).drop 24).drop 24).drop 24).drop 24).drop 24).drop 24).drop 24).drop 24).take 24).all (fun c => isCode c || c.before args0 about1) = true := by decide +kernel
set_option maxRecDepth 65536 in
theorem w_t11 : (((((((((((words1.drop 24).drop 24).drop 24).drop 24).drop 24).drop 24).drop 24).drop 24).drop 24).drop 24).take 24).all (fun c => isCode c || c.before args0 about1) = true := by decide +kernel
set_option maxRecDepth 65536 in
theorem w_t12 : ((((((((((((words1.drop 24).drop 24).drop 24).drop 24).drop 24).drop 24).drop 24).drop 24).drop 24).drop 24).drop 24).take 24).all (fun c => isCode c || c.before args0 about1) = true := by decide +kernel
set_option maxRecDepth 65536 in
theorem w_t13 : (((((((((((((words1.drop 24).drop 24).drop 24).drop 24).drop 24).drop 24).drop 24).drop 24).drop 24).drop 24).drop 24).drop 24).take 24).all (fun c => isCode c || c.before args0 about1) = true := by decide +kernel
set_option maxRecDepth 65536 in
theorem w_t14 : ((((((((((((((words1.drop 24).drop 24).drop 24).drop 24).drop 24).drop 24).drop 24).drop 24).drop 24).drop 24).drop 24).drop 24).drop 24).take 24).all (fun c => isCode c || c.before args0 about1) = true := by decide +kernel
set_option maxRecDepth 65536 in
theorem w_t15 : (((((((((((((((words1.drop 24).drop 24).drop 24).drop 24).drop 24).drop 24).drop 24).drop 24).drop 24).drop 24).drop 24).drop 24).drop 24).drop 24).take 24).all (fun c => isCode c || c.before args0 about1) = true := by decide +kernel
set_option maxRecDepth 65536 in
theorem w_t16 : ((((((((((((((((words1.drop 24).drop 24).drop 24).drop 24).drop 24).drop 24).drop 24).drop 24).drop 24).drop 24).drop 24).drop 24).drop 24).drop 24).drop 24).take 24).all (fun c => isCode c || c.before args0 about1) = true := by decide +kernel
set_option maxRecDepth 65536 in
theorem w_t17 : ((((((((((((((((words1.drop 24).drop 24).drop 24).drop 24).drop 24).drop 24).drop 24).drop 24).drop 24).drop 24).drop 24).drop 24).drop 24).drop 24).drop 24).drop 24).all (fun c => isCode c || c.before args0 about1) = true := by decide +kernel
theorem w_tables : (allAtoms (Jvm.Cond.code x code maxLocals ret :: tables_1)).before args0 about1 = true := by
  rw [allAtoms_all]
  show words1.all (fun c => c.before args0 about1) = true
  refine all_split ?_ w_codes
  rw [← List.take_append_drop 24 words1, List.all_append, w_t1, ← List.take_append_drop 24 (words1.drop 24), List.all_append, w_t2, ← List.take_append_drop 24 ((words1.drop 24).drop 24), List.all_append, w_t3, ← List.take_append_drop 24 (((words1.drop 24).drop 24).drop 24), List.all_append, w_t4, ← List.take_append_drop 24 ((((words1.drop 24).drop 24).drop 24).drop 24), List.all_append, w_t5, ← List.take_append_drop 24 (((((words1.drop 24).drop 24).drop 24).drop 24).drop 24), List.all_append, w_t6, ← List.take_append_drop 24 ((((((words1.drop 24).drop 24).drop 24).drop 24).drop 24).drop 24), List.all_append, w_t7, ← List.take_append_drop 24 (((((((words1.drop 24).drop 24).drop 24).drop 24).drop 24).drop 24).drop 24), List.all_append, w_t8, ← List.take_append_drop 24 ((((((((words1.drop 24).drop 24).drop 24).drop 24).drop 24).drop 24).drop 24).drop 24), List.all_append, w_t9, ← List.take_append_drop 24 (((((((((words1.drop 24).drop 24).drop 24).drop 24).drop 24).drop 24).drop 24).drop 24).drop 24), List.all_append, w_t10, ← List.take_append_drop 24 ((((((((((words1.drop 24).drop 24).drop 24).drop 24).drop 24).drop 24).drop 24).drop 24).drop 24).drop 24), List.all_append, w_t11, ← List.take_append_drop 24 (((((((((((words1.drop 24).drop 24).drop 24).drop 24).drop 24).drop 24).drop 24).drop 24).drop 24).drop 24).drop 24), List.all_append, w_t12, ← List.take_append_drop 24 ((((((((((((words1.drop 24).drop 24).drop 24).drop 24).drop 24).drop 24).drop 24).drop 24).drop 24).drop 24).drop 24).drop 24), List.all_append, w_t13, ← List.take_append_drop 24 (((((((((((((words1.drop 24).drop 24).drop 24).drop 24).drop 24).drop 24).drop 24).drop 24).drop 24).drop 24).drop 24).drop 24).drop 24), List.all_append, w_t14, ← List.take_append_drop 24 ((((((((((((((words1.drop 24).drop 24).drop 24).drop 24).drop 24).drop 24).drop 24).drop 24).drop 24).drop 24).drop 24).drop 24).drop 24).drop 24), List.all_append, w_t15, ← List.take_append_drop 24 (((((((((((((((words1.drop 24).drop 24).drop 24).drop 24).drop 24).drop 24).drop 24).drop 24).drop 24).drop 24).drop 24).drop 24).drop 24).drop 24).drop 24), List.all_append, w_t16, w_t17]
  rfl
set_option maxRecDepth 65536 in
theorem w_rest : rest_1_c.before args0 about1 = true := by decide +kernel
set_option maxRecDepth 65536 in
theorem w_case : (Jvm.Cond.and given_1 narrow_1).before args0 about1 = true := by decide +kernel
set_option maxRecDepth 65536 in
theorem w_consts : constsHeld consts_1 about1 := Jvm.Lit.constsHeldB_iff.mp (by decide +kernel)
theorem w_applies : (headSpec (Jvm.Cond.code x code maxLocals ret :: tables_1) room_1).applies x e0.platform about1 = true :=
  (Spec.applies_iff w_frames).mpr ⟨w_running, w_runnable, w_alone, w_named, w_hears, w_ripe, w_room, w_tables⟩
theorem atStart : AtStart classFile x code maxLocals ret World_1 tables_1 room_1 Calls_1 rest_1 Pre_1 launch0 p0 e0 about1 theMethod args0 below0 :=
  ⟨lists_1, trivial, launch0.admits_env _ _ _, launch0.least_env, fairChoices_fair.cas, fairChoices_fair.clock, w_frames, w_args, w_heap, w_applies, ⟨w_consts, trivial⟩, w_rest, w_case⟩
end start1
theorem witness_1 : WitnessClaimed_1 := ⟨start1.p0, start1.e0, start1.about1, start1.theMethod, start1.args0, start1.below0, start1.atStart⟩
end Jvm.Pilot.@@N@@
