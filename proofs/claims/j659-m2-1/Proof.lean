import JvmDerived
import JvmDerived.Pilot.@@N@@Statement
import JvmDerived.Pilot.@@N@@Code
set_option linter.unusedVariables false
set_option linter.unusedSimpArgs false
/- laws to paste: Road.backV (cut by pick.py; bodies as the Statement names them) -/
namespace Jvm.Pilot.@@N@@
namespace StrChars
open Jvm Sem ClassFile Op Lib Jvm.Stand Jvm.Free.XT Jvm.Free.ALB Jvm.Free.JM Jvm.Free
open Jvm.Lib.Cold (StaticIs)
/-- a char array whose places are chars -/
def Ch (a : Addr) (A : Cell) (U : State) : Prop := Arr .char a A U ∧ Typed .char A
theorem Ch.mv {a : Addr} {A : Cell} {U U' : State} (h : Ch a A U) (hal : U.vm.Alike U'.vm) (hh : U'.heap = U.heap) : Ch a A U' := ⟨h.1.mv hal hh, h.2⟩
theorem Ch.keep {a : Addr} {A : Cell} {U U' : State} (h : Ch a A U) (hal : U.vm.Alike U'.vm) (hk : U'.heap[a]? = some A) : Ch a A U' := ⟨h.1.keep hal hk, h.2⟩
/-- what place i of a char[]'s cell holds -/
def cv (A : Cell) (i : Nat) : Int32 := match A.slots[i]? with | some (.int x) => x | _ => 0
theorem Ch.get {a : Addr} {A : Cell} {U : State} (h : Ch a A U) {i : Nat} (hi : i < A.slots.size) : A.slots[i]? = some (.int (cv A i)) := by
  have e := Array.getElem?_eq_getElem hi
  have f := h.2 i _ e
  unfold cv; rw [e]
  generalize A.slots[i] = v at f
  cases v <;> simp [fits] at f ⊢
/-- the byte that i2b leaves of a char -/
def lo8 (x : Int32) : Int32 := x.toInt8.toInt32
theorem fits_lo8 (y : Int32) : fits .byte (.int (lo8 y)) = true := by
  have h1 := y.toInt8.le_toInt
  have h2 := y.toInt8.toInt_lt
  simp only [lo8, fits, Bool.and_eq_true, decide_eq_true_eq, Int32.le_iff_toInt_le, Int8.toInt_toInt32, show (-128 : Int32).toInt = -128 from by decide, show (127 : Int32).toInt = 127 from by decide]
  omega
/-- A' is A but that each place j of lo .. hi - 1 holds f j -/
def Laid (A A' : Cell) (lo hi : Nat) (f : Nat → Value) : Prop := A'.cls = A.cls ∧ A'.vm = A.vm ∧ A'.slots.size = A.slots.size ∧ ∀ i, A'.slots[i]? = if lo ≤ i ∧ i < hi then some (f i) else A.slots[i]?
theorem Laid.zero (A : Cell) (lo : Nat) (f : Nat → Value) : Laid A A lo (lo + 0) f := ⟨rfl, rfl, rfl, fun i => by rw [if_neg (by omega)]⟩
theorem Laid.step {A Ak : Cell} {lo k : Nat} {f : Nat → Value} {v : Value} (h : Laid A Ak lo k f) (hlo : lo ≤ k) (hk : k < Ak.slots.size) (hv : v = f k) : Laid A (Ak.setSlot k v) lo (k + 1) f := by
  refine ⟨h.1, h.2.1, by simpa [Cell.setSlot] using h.2.2.1, fun i => ?_⟩
  by_cases e : k = i
  · subst e; rw [Cell.slots_setSlot_self v hk, if_pos (by omega), hv]
  · rw [Cell.slots_setSlot_ne v e, h.2.2.2 i]
    by_cases q : lo ≤ i ∧ i < k
    · rw [if_pos q, if_pos (by omega)]
    · rw [if_neg q, if_neg (by omega)]
def U16 : String := "java/lang/StringUTF16"
namespace Cmp5
def yN : MethodName := ⟨"java/lang/StringUTF16", "compress", "([CI[BII)I"⟩
abbrev yB : ByteArray := jdk_52_method_21_code
theorem d0 : decode yB 0 = .ok (.iconst 0, 1) := by decide +kernel
theorem d1 : decode yB 1 = .ok (.istore 5, 2) := by decide +kernel
theorem d3 : decode yB 3 = .ok (.iload 5, 2) := by decide +kernel
theorem d5 : decode yB 5 = .ok (.iload 4, 2) := by decide +kernel
theorem d7 : decode yB 7 = .ok (.if_icmp (.ge) 37, 3) := by decide +kernel
theorem d10 : decode yB 10 = .ok (.aload_n 0, 1) := by decide +kernel
theorem d11 : decode yB 11 = .ok (.iload_n 1, 1) := by decide +kernel
theorem d12 : decode yB 12 = .ok (.caload, 1) := by decide +kernel
theorem d13 : decode yB 13 = .ok (.istore 6, 2) := by decide +kernel
theorem d15 : decode yB 15 = .ok (.iload 6, 2) := by decide +kernel
theorem d17 : decode yB 17 = .ok (.sipush 255, 3) := by decide +kernel
theorem d20 : decode yB 20 = .ok (.if_icmp (.le) 6, 3) := by decide +kernel
theorem d26 : decode yB 26 = .ok (.aload_n 2, 1) := by decide +kernel
theorem d27 : decode yB 27 = .ok (.iload_n 3, 1) := by decide +kernel
theorem d28 : decode yB 28 = .ok (.iload 6, 2) := by decide +kernel
theorem d30 : decode yB 30 = .ok (.i2b, 1) := by decide +kernel
theorem d31 : decode yB 31 = .ok (.bastore, 1) := by decide +kernel
theorem d32 : decode yB 32 = .ok (.iinc 1 1, 3) := by decide +kernel
theorem d35 : decode yB 35 = .ok (.iinc 3 1, 3) := by decide +kernel
theorem d38 : decode yB 38 = .ok (.iinc 5 1, 3) := by decide +kernel
theorem d41 : decode yB 41 = .ok (.goto (-38), 3) := by decide +kernel
theorem d44 : decode yB 44 = .ok (.iload 4, 2) := by decide +kernel
theorem d46 : decode yB 46 = .ok (.ireturn, 1) := by decide +kernel
def site : List Cond := []
def tab : Cond := tabOf yN yB 7 (some .int) site
def P (b : Addr) (A : Cell) (d : Addr) (B : Cell) (o q len : Nat) (args : Array Value) (s : State) : Prop := args = #[.ref b, .int (Int32.ofNat o), .ref d, .int (Int32.ofNat q), .int (Int32.ofNat len)] ∧ Ch b A s ∧ Arr .byte d B s ∧ b ≠ d ∧ o + len ≤ A.slots.size ∧ q + len ≤ B.slots.size ∧ ∀ i, i < len → ¬ 255 < cv A (o + i)
def E (b : Addr) (A : Cell) (d : Addr) (B : Cell) (o q len : Nat) (r : Option Value) (s u : State) : Prop := r = some (.int (Int32.ofNat len)) ∧ ∃ B', Put d B' s u ∧ Laid B B' q (q + len) (fun j => Value.int (lo8 (cv A (o + (j - q)))))
/-- no char of the range above 255: len; the places written hold each char's low byte -/
theorem law (l : Launch) (b : Addr) (A : Cell) (d : Addr) (B : Cell) (o q len : Nat) : Law l yN 5 5 0 0 yB 7 (some .int) site (P b A d B o q len) (E b A d B o q len) (copyLocs d q len) 0 0 := by
  refine Law.of_walk (plainFor_of_name (by decide +kernel)) (by decide +kernel) (by decide +kernel) (by decide) (fun _ _ h => by rw [h.1]; rfl) (fun _ U U' hal hh h => ⟨h.1, h.2.1.mv hal hh, h.2.2.1.mv hal hh, h.2.2.2⟩) (fun r U U' V V' h1 hal h2 h => ⟨h.1, h.2.elim fun B' q => ⟨B', q.1.mv h1 h2, q.2⟩⟩) ?_
  intro p e s m args below meth c s₁ X0 hexec hbytes hml hret hlk hnm hown hh0 W hP
  obtain ⟨rfl, hA, hB, hne, l1, l2, hp⟩ := hP
  have c1 : Steps p.tables e below (s₁.setTop (entryFrame m #[.ref b, .int (Int32.ofNat o), .ref d, .int (Int32.ofNat q), .int (Int32.ofNat len)] 7)) (s₁.setTop (mkF m 0 #[.val (.ref b), .val (.int (Int32.ofNat o)), .val (.ref d), .val (.int (Int32.ofNat q)), .val (.int (Int32.ofNat len)), .unset, .unset] [])) := entry rfl
  have hA0 := hA.1.mv X0.warmed.alike hh0
  have hB0 := hB.mv X0.warmed.alike hh0
  have a31 := hA.1.2.2.2
  have c2 : Steps p.tables e below (s₁.setTop (entryFrame m #[.ref b, .int (Int32.ofNat o), .ref d, .int (Int32.ofNat q), .int (Int32.ofNat len)] 7)) (s₁.setTop (mkF m 3 #[.val (.ref b), .val (.int (Int32.ofNat o)), .val (.ref d), .val (.int (Int32.ofNat q)), .val (.int (Int32.ofNat len)), .val (.int 0), .unset] [])) := c1.trans (by
    refine iconstV X0.here hexec rfl 0 (hb hbytes d0) (by decide) ?_
    refine XS.istore X0.here hexec rfl (hb hbytes d1) rfl rfl ?_
    exact Steps.refl _)
  have loop : ∀ (r i : Nat), i + r = len → ∀ (z : Slot), (z = .unset ∨ ∃ w, z = .val w ∧ w.category = 1) → ∀ (Tl : State) (Bk : Cell), Stand p l e { frames := 0, locals := 0, cells := 0, slots := 0 } s m #[.ref b, .int (Int32.ofNat o), .ref d, .int (Int32.ofNat q), .int (Int32.ofNat len)] below meth c Tl ([] ++ copyLocs d q i) 0 0 → Put d Bk s₁ Tl → Laid B Bk q (q + i) (fun j => Value.int (lo8 (cv A (o + (j - q))))) →
      Steps p.tables e below (s₁.setTop (entryFrame m #[.ref b, .int (Int32.ofNat o), .ref d, .int (Int32.ofNat q), .int (Int32.ofNat len)] 7)) (Tl.setTop (mkF m 3 #[.val (.ref b), .val (.int (Int32.ofNat (o + i))), .val (.ref d), .val (.int (Int32.ofNat (q + i))), .val (.int (Int32.ofNat len)), .val (.int (Int32.ofNat i)), z] [])) → ∃ (T' : State) (B' : Cell) (z' : Slot), Stand p l e { frames := 0, locals := 0, cells := 0, slots := 0 } s m #[.ref b, .int (Int32.ofNat o), .ref d, .int (Int32.ofNat q), .int (Int32.ofNat len)] below meth c T' ([] ++ copyLocs d q len) 0 0 ∧ Put d B' s₁ T' ∧ Laid B B' q (q + len) (fun j => Value.int (lo8 (cv A (o + (j - q))))) ∧
      Steps p.tables e below (s₁.setTop (entryFrame m #[.ref b, .int (Int32.ofNat o), .ref d, .int (Int32.ofNat q), .int (Int32.ofNat len)] 7)) (T'.setTop (mkF m 3 #[.val (.ref b), .val (.int (Int32.ofNat (o + len))), .val (.ref d), .val (.int (Int32.ofNat (q + len))), .val (.int (Int32.ofNat len)), .val (.int (Int32.ofNat len)), z'] [])) := by
    intro r
    induction r with
    | zero =>
      intro i hi z hz Tl Bk Xl pl fl cl
      have hil : i = len := by omega
      rw [hil] at Xl fl cl
      exact ⟨Tl, Bk, z, Xl, pl, fl, cl⟩
    | succ r ih =>
      intro i hi z hz Tl Bk Xl pl fl cl
      have all := X0.warmed.alike.symm.trans Xl.warmed.alike
      have hAl := hA0.keep all (pl.other hne hA0.1)
      have hBk := hB0.like all pl.1 fl.1 fl.2.1 fl.2.2.1
      have hlt : q + i < Bk.slots.size := by rw [fl.2.2.1]; omega
      have c3 : Steps p.tables e below (s₁.setTop (entryFrame m #[.ref b, .int (Int32.ofNat o), .ref d, .int (Int32.ofNat q), .int (Int32.ofNat len)] 7)) (Tl.setTop (mkF m 12 #[.val (.ref b), .val (.int (Int32.ofNat (o + i))), .val (.ref d), .val (.int (Int32.ofNat (q + i))), .val (.int (Int32.ofNat len)), .val (.int (Int32.ofNat i)), z] [.int (Int32.ofNat (o + i)), .ref b])) := cl.trans (by
        refine XS.iload Xl.here hexec rfl (hb hbytes d3) rfl ?_
        refine XS.iload Xl.here hexec rfl (hb hbytes d5) rfl ?_
        refine XS.icmpNo Xl.here hexec rfl (hb hbytes d7) rfl (ii_ge_f (lt32 (by omega) (by omega))) ?_
        refine XS.aloadN Xl.here hexec rfl (hb hbytes d10) rfl rfl ?_
        refine XS.iloadN Xl.here hexec rfl (hb hbytes d11) rfl ?_
        exact Steps.refl _)
      have c4 : Steps p.tables e below (s₁.setTop (entryFrame m #[.ref b, .int (Int32.ofNat o), .ref d, .int (Int32.ofNat q), .int (Int32.ofNat len)] 7)) (Tl.setTop (mkF m 13 #[.val (.ref b), .val (.int (Int32.ofNat (o + i))), .val (.ref d), .val (.int (Int32.ofNat (q + i))), .val (.int (Int32.ofNat len)), .val (.int (Int32.ofNat i)), z] [.int (cv A (o + i))])) := c3.trans (by
        refine Xl.aget hexec hAl rfl (hA.get (i := o + i) (by omega)) rfl rfl (hb hbytes d12) ?_
        exact Steps.refl _)
      have c5 : Steps p.tables e below (s₁.setTop (entryFrame m #[.ref b, .int (Int32.ofNat o), .ref d, .int (Int32.ofNat q), .int (Int32.ofNat len)] 7)) (Tl.setTop (mkF m 15 #[.val (.ref b), .val (.int (Int32.ofNat (o + i))), .val (.ref d), .val (.int (Int32.ofNat (q + i))), .val (.int (Int32.ofNat len)), .val (.int (Int32.ofNat i)), .val (.int (cv A (o + i)))] [])) := c4.trans (by
        refine XS.istoreS Xl.here hexec rfl (hb hbytes d13) rfl rfl hz ?_
        exact Steps.refl _)
      have c6 : Steps p.tables e below (s₁.setTop (entryFrame m #[.ref b, .int (Int32.ofNat o), .ref d, .int (Int32.ofNat q), .int (Int32.ofNat len)] 7)) (Tl.setTop (mkF m 31 #[.val (.ref b), .val (.int (Int32.ofNat (o + i))), .val (.ref d), .val (.int (Int32.ofNat (q + i))), .val (.int (Int32.ofNat len)), .val (.int (Int32.ofNat i)), .val (.int (cv A (o + i)))] [.int (lo8 (cv A (o + i))), .int (Int32.ofNat (q + i)), .ref d])) := c5.trans (by
        refine XS.iload Xl.here hexec rfl (hb hbytes d15) rfl ?_
        refine sipushV Xl.here hexec rfl 255 (hb hbytes d17) (by decide) ?_
        refine XS.icmpYes Xl.here hexec rfl (pc0 := 20) rfl (hb hbytes d20) rfl (ii_le_t (hp i (by omega))) (by decide) rfl ?_
        refine XS.aloadN Xl.here hexec rfl (hb hbytes d26) rfl rfl ?_
        refine XS.iloadN Xl.here hexec rfl (hb hbytes d27) rfl ?_
        refine XS.iload Xl.here hexec rfl (hb hbytes d28) rfl ?_
        refine i2b Xl.here hexec rfl (hb hbytes d30) rfl ?_
        exact Steps.refl _)
      obtain ⟨T7, X7, p7, st7⟩ := Xl.aput hexec hBk rfl hlt rfl (fits_lo8 (cv A (o + i))) (g := (mkF m 31 #[.val (.ref b), .val (.int (Int32.ofNat (o + i))), .val (.ref d), .val (.int (Int32.ofNat (q + i))), .val (.int (Int32.ofNat len)), .val (.int (Int32.ofNat i)), .val (.int (cv A (o + i)))] [.int (lo8 (cv A (o + i))), .int (Int32.ofNat (q + i)), .ref d])) rfl (rest := []) rfl (hb hbytes d31)
      have c8 : Steps p.tables e below (s₁.setTop (entryFrame m #[.ref b, .int (Int32.ofNat o), .ref d, .int (Int32.ofNat q), .int (Int32.ofNat len)] 7)) (T7.setTop (mkF m 32 #[.val (.ref b), .val (.int (Int32.ofNat (o + i))), .val (.ref d), .val (.int (Int32.ofNat (q + i))), .val (.int (Int32.ofNat len)), .val (.int (Int32.ofNat i)), .val (.int (cv A (o + i)))] [])) := c6.trans (st7 _ (Steps.refl _))
      have c9 : Steps p.tables e below (s₁.setTop (entryFrame m #[.ref b, .int (Int32.ofNat o), .ref d, .int (Int32.ofNat q), .int (Int32.ofNat len)] 7)) (T7.setTop (mkF m 3 #[.val (.ref b), .val (.int (Int32.ofNat (o + i) + 1)), .val (.ref d), .val (.int (Int32.ofNat (q + i) + 1)), .val (.int (Int32.ofNat len)), .val (.int (Int32.ofNat i + 1)), .val (.int (cv A (o + i)))] [])) := c8.trans (by
        refine iincV X7.here hexec rfl 1 (hb hbytes d32) (by decide) rfl rfl ?_
        refine iincV X7.here hexec rfl 1 (hb hbytes d35) (by decide) rfl rfl ?_
        refine iincV X7.here hexec rfl 1 (hb hbytes d38) (by decide) rfl rfl ?_
        refine XS.goto X7.here hexec rfl (pc0 := 41) rfl (hb hbytes d41) (by decide) rfl ?_
        exact Steps.refl _)
      have c10 : Steps p.tables e below (s₁.setTop (entryFrame m #[.ref b, .int (Int32.ofNat o), .ref d, .int (Int32.ofNat q), .int (Int32.ofNat len)] 7)) (T7.setTop (mkF m 3 #[.val (.ref b), .val (.int (Int32.ofNat (o + (i + 1)))), .val (.ref d), .val (.int (Int32.ofNat (q + (i + 1)))), .val (.int (Int32.ofNat len)), .val (.int (Int32.ofNat (i + 1))), .val (.int (cv A (o + i)))] [])) := by
        have := c9
        rw [succ32, succ32, succ32] at this
        exact this
      exact ih (i + 1) (by omega) _ (Or.inr ⟨_, rfl, rfl⟩) T7 _ (by rw [copyLocs_step, ← List.append_assoc]; exact X7) (pl.trans p7) (fl.step (by omega) hlt (by simp)) c10
  obtain ⟨T9, B9, z9, X9, p9, f9, g9⟩ := loop len 0 (by omega) .unset (Or.inl rfl) s₁ B (by simpa [copyLocs] using X0) ⟨hB0.1, fun _ _ => rfl, rfl⟩ (Laid.zero _ _ _) c2
  have c11 : Steps p.tables e below (s₁.setTop (entryFrame m #[.ref b, .int (Int32.ofNat o), .ref d, .int (Int32.ofNat q), .int (Int32.ofNat len)] 7)) (T9.setTop (mkF m 46 #[.val (.ref b), .val (.int (Int32.ofNat (o + len))), .val (.ref d), .val (.int (Int32.ofNat (q + len))), .val (.int (Int32.ofNat len)), .val (.int (Int32.ofNat len)), z9] [.int (Int32.ofNat len)])) := g9.trans (by
    refine XS.iload X9.here hexec rfl (hb hbytes d3) rfl ?_
    refine XS.iload X9.here hexec rfl (hb hbytes d5) rfl ?_
    refine XS.icmpYes X9.here hexec rfl (pc0 := 7) rfl (hb hbytes d7) rfl (ii_ge_t (nlt32 (by omega) (Nat.le_refl _))) (by decide) rfl ?_
    refine XS.iload X9.here hexec rfl (hb hbytes d44) rfl ?_
    exact Steps.refl _)
  exact ⟨T9, some (.int (Int32.ofNat len)), _, _, _, X9, by simp, rfl, rfl, (fun h => by cases h), ⟨rfl, B9, p9.from hh0, f9⟩, fun fs hl => c11.trans (X9.ireturnOut hexec hret rfl (Or.inl rfl) (hb hbytes d46) hl)⟩
end Cmp5
namespace Cmp3
def yN : MethodName := ⟨"java/lang/StringUTF16", "compress", "([CII)[B"⟩
abbrev yB : ByteArray := jdk_52_method_16_code
theorem d0 : decode yB 0 = .ok (.iload_n 2, 1) := by decide +kernel
theorem d1 : decode yB 1 = .ok (.newarray .byte, 2) := by decide +kernel
theorem d3 : decode yB 3 = .ok (.astore_n 3, 1) := by decide +kernel
theorem d4 : decode yB 4 = .ok (.aload_n 0, 1) := by decide +kernel
theorem d5 : decode yB 5 = .ok (.iload_n 1, 1) := by decide +kernel
theorem d6 : decode yB 6 = .ok (.aload_n 3, 1) := by decide +kernel
theorem d7 : decode yB 7 = .ok (.iconst 0, 1) := by decide +kernel
theorem d8 : decode yB 8 = .ok (.iload_n 2, 1) := by decide +kernel
theorem d9 : decode yB 9 = .ok (.invokestatic 115, 3) := by decide +kernel
theorem d12 : decode yB 12 = .ok (.istore 4, 2) := by decide +kernel
theorem d14 : decode yB 14 = .ok (.iload 4, 2) := by decide +kernel
theorem d16 : decode yB 16 = .ok (.iload_n 2, 1) := by decide +kernel
theorem d17 : decode yB 17 = .ok (.if_icmp (.eq) 40, 3) := by decide +kernel
theorem d57 : decode yB 57 = .ok (.aload_n 3, 1) := by decide +kernel
theorem d58 : decode yB 58 = .ok (.areturn, 1) := by decide +kernel
def site : List Cond := [.arrayClass .byte, Cmp5.tab] ++ staticW U16 115 Cmp5.yN
def tab : Cond := tabOf yN yB 6 (some (.array .byte)) site
def P (b : Addr) (A : Cell) (o len : Nat) (args : Array Value) (s : State) : Prop := args = #[.ref b, .int (Int32.ofNat o), .int (Int32.ofNat len)] ∧ Ch b A s ∧ o + len ≤ A.slots.size ∧ len ≤ 536870912 ∧ ∀ i, i < len → ¬ 255 < cv A (o + i)
def E (b : Addr) (A : Cell) (o len : Nat) (r : Option Value) (s u : State) : Prop := NewArr .byte "[B" len (fun j => .int (lo8 (cv A (o + j)))) r s u ∧ u.heap.size = s.heap.size + 1
/-- no char of the range above 255: a new byte[] of their low bytes -/
theorem law (l : Launch) (b : Addr) (A : Cell) (o len : Nat) : Law l yN 3 3 1 18 yB 6 (some (.array .byte)) site (P b A o len) (E b A o len) [] 1 len := by
  refine Law.of_walk (plainFor_of_name (by decide +kernel)) (by decide +kernel) (by decide +kernel) (by decide) (fun _ _ h => by rw [h.1]; rfl) (fun _ U U' hal hh h => ⟨h.1, h.2.1.mv hal hh, h.2.2⟩) (fun r U U' V V' h1 hal h2 h => ⟨NewArr.mv r U U' V V' h1 hal h2 h.1, by rw [h1, h2]; exact h.2⟩) ?_
  intro p e s m args below meth c s₁ X0 hexec hbytes hml hret hlk hnm hown hh0 W hP
  obtain ⟨rfl, hA, l1, l2, hp⟩ := hP
  have a31 := hA.1.2.2.2
  have c1 : Steps p.tables e below (s₁.setTop (entryFrame m #[.ref b, .int (Int32.ofNat o), .int (Int32.ofNat len)] 6)) (s₁.setTop (mkF m 0 #[.val (.ref b), .val (.int (Int32.ofNat o)), .val (.int (Int32.ofNat len)), .unset, .unset, .unset] [])) := entry rfl
  have c2 : Steps p.tables e below (s₁.setTop (entryFrame m #[.ref b, .int (Int32.ofNat o), .int (Int32.ofNat len)] 6)) (s₁.setTop (mkF m 1 #[.val (.ref b), .val (.int (Int32.ofNat o)), .val (.int (Int32.ofNat len)), .unset, .unset, .unset] [.int (Int32.ofNat len)])) := c1.trans (by
    refine XS.iloadN X0.here hexec rfl (hb hbytes d0) rfl ?_
    exact Steps.refl _)
  obtain ⟨T3, B3, X3, ba3, bs3, bv3, bh3, bf3, st3⟩ := X0.anew hexec (atype := .byte) (wk W (.arrayClass .byte)) rfl (by show len * 1 ≤ _; omega) (by omega) (g := (mkF m 1 #[.val (.ref b), .val (.int (Int32.ofNat o)), .val (.int (Int32.ofNat len)), .unset, .unset, .unset] [.int (Int32.ofNat len)])) rfl (hb hbytes d1) (rest := []) rfl (Nat.le_refl _) (by show 0 + len ≤ len; omega)
  rw [hh0] at ba3 st3
  have kp3 : XT.Kept s T3 := (XT.Kept.of_eq hh0).push bh3
  have hA3 := hA.keep X3.warmed.alike (kp3 _ _ hA.1.1)
  have hne : b ≠ s.heap.size := hA.1.ne
  have c4 : Steps p.tables e below (s₁.setTop (entryFrame m #[.ref b, .int (Int32.ofNat o), .int (Int32.ofNat len)] 6)) (T3.setTop (mkF m 3 #[.val (.ref b), .val (.int (Int32.ofNat o)), .val (.int (Int32.ofNat len)), .unset, .unset, .unset] [.ref s.heap.size])) := c2.trans (st3 _ (Steps.refl _))
  have c5 : Steps p.tables e below (s₁.setTop (entryFrame m #[.ref b, .int (Int32.ofNat o), .int (Int32.ofNat len)] 6)) (T3.setTop (mkF m 9 #[.val (.ref b), .val (.int (Int32.ofNat o)), .val (.int (Int32.ofNat len)), .val (.ref s.heap.size), .unset, .unset] [.int (Int32.ofNat len), .int 0, .ref s.heap.size, .int (Int32.ofNat o), .ref b])) := c4.trans (by
    refine XS.astoreN X3.here hexec rfl (hb hbytes d3) rfl rfl rfl ?_
    refine XS.aloadN X3.here hexec rfl (hb hbytes d4) rfl rfl ?_
    refine XS.iloadN X3.here hexec rfl (hb hbytes d5) rfl ?_
    refine XS.aloadN X3.here hexec rfl (hb hbytes d6) rfl rfl ?_
    refine iconstV X3.here hexec rfl 0 (hb hbytes d7) (by decide) ?_
    refine XS.iloadN X3.here hexec rfl (hb hbytes d8) rfl ?_
    exact Steps.refl _)
  obtain ⟨v6, T6, X6, E6, g6⟩ := X3.callS hexec (Cmp5.law l b A s.heap.size B3 o 0 len) hown (wks W (staticW U16 115 Cmp5.yN)) (wk W Cmp5.tab) (W := 0) (Nat.le_of_ble_eq_true rfl) (Nat.le_of_ble_eq_true rfl) (Nat.le_refl _) (by show 0 + len + 0 ≤ len; omega) (g := (mkF m 9 #[.val (.ref b), .val (.int (Int32.ofNat o)), .val (.int (Int32.ofNat len)), .val (.ref s.heap.size), .unset, .unset] [.int (Int32.ofNat len), .int (Int32.ofNat 0), .ref s.heap.size, .int (Int32.ofNat o), .ref b])) rfl (by rw [hml]; rfl) c5 (argsL := [.ref b, .int (Int32.ofNat o), .ref s.heap.size, .int (Int32.ofNat 0), .int (Int32.ofNat len)]) (rest := []) rfl rfl (by show 2 * 0 + 0 ≤ _; decide) (hb hbytes d9) (⟨rfl, hA3, ba3, hne, l1, by rw [bs3]; simp, hp⟩)
  obtain ⟨rfl, B6, p6, f6⟩ := E6
  have c7 : Steps p.tables e below (s₁.setTop (entryFrame m #[.ref b, .int (Int32.ofNat o), .int (Int32.ofNat len)] 6)) (T6.setTop (mkF m 12 #[.val (.ref b), .val (.int (Int32.ofNat o)), .val (.int (Int32.ofNat len)), .val (.ref s.heap.size), .unset, .unset] [.int (Int32.ofNat len)])) := g6
  have c8 : Steps p.tables e below (s₁.setTop (entryFrame m #[.ref b, .int (Int32.ofNat o), .int (Int32.ofNat len)] 6)) (T6.setTop (mkF m 58 #[.val (.ref b), .val (.int (Int32.ofNat o)), .val (.int (Int32.ofNat len)), .val (.ref s.heap.size), .val (.int (Int32.ofNat len)), .unset] [.ref s.heap.size])) := c7.trans (by
    refine XS.istore X6.here hexec rfl (hb hbytes d12) rfl rfl ?_
    refine XS.iload X6.here hexec rfl (hb hbytes d14) rfl ?_
    refine XS.iloadN X6.here hexec rfl (hb hbytes d16) rfl ?_
    refine XS.icmpYes X6.here hexec rfl (pc0 := 17) rfl (hb hbytes d17) rfl (ii_eq_t rfl) (by decide) rfl ?_
    refine XS.aloadN X6.here hexec rfl (hb hbytes d57) rfl rfl ?_
    exact Steps.refl _)
  have X8 := X6.wide (L' := []) (cells' := 1) (slots' := len) (fun x hx hlt => by
    simp only [List.nil_append, copyLocs, List.mem_map, List.mem_range] at hx
    obtain ⟨i, -, rfl⟩ := hx
    exact absurd hlt (Nat.lt_irrefl _)) (Nat.le_refl _) (by omega)
  exact ⟨T6, some (.ref s.heap.size), _, _, _, X8, rfl, rfl, rfl, (fun h => by cases h), ⟨⟨rfl, B6, ba3.like (X3.warmed.alike.symm.trans X6.warmed.alike) p6.1 f6.1 f6.2.1 f6.2.2.1, f6.2.1.trans bv3, by rw [X6.warmed.alike.findClass, f6.1]; exact bf3, by rw [f6.2.2.1, bs3]; simp, fun j hj => by rw [f6.2.2.2 j, if_pos (by omega)]; rfl, kp3.put p6 (Nat.le_refl _)⟩, by rw [p6.2.2, bh3, hh0]; simp⟩, fun fs hl => c8.trans (X8.areturnOut hexec rfl hret rfl (hb hbytes d58) hl)⟩
end Cmp3
namespace CodL
def yN : MethodName := ⟨"java/lang/StringUTF16", "coderFromArrayLen", "([BI)B"⟩
abbrev yB : ByteArray := jdk_52_method_15_code
theorem d0 : decode yB 0 = .ok (.iload_n 1, 1) := by decide +kernel
theorem d1 : decode yB 1 = .ok (.aload_n 0, 1) := by decide +kernel
theorem d2 : decode yB 2 = .ok (.arraylength, 1) := by decide +kernel
theorem d3 : decode yB 3 = .ok (.isub, 1) := by decide +kernel
theorem d4 : decode yB 4 = .ok (.bipush 31, 2) := by decide +kernel
theorem d6 : decode yB 6 = .ok (.iushr, 1) := by decide +kernel
theorem d7 : decode yB 7 = .ok (.i2b, 1) := by decide +kernel
theorem d8 : decode yB 8 = .ok (.ireturn, 1) := by decide +kernel
def site : List Cond := []
def tab : Cond := tabOf yN yB 2 (some .byte) site
def P (d : Addr) (B : Cell) (args : Array Value) (s : State) : Prop := args = #[.ref d, .int (Int32.ofNat B.slots.size)] ∧ Arr .byte d B s
def E (r : Option Value) (s u : State) : Prop := XT.PureE (some (.int 0)) r s u
/-- an array as long as the number of chars: LATIN1 -/
theorem law (l : Launch) (d : Addr) (B : Cell) : Law l yN 2 2 0 0 yB 2 (some .byte) site (P d B) E [] 0 0 := by
  refine Law.of_walk (plainFor_of_name (by decide +kernel)) (by decide +kernel) (by decide +kernel) (by decide) (fun _ _ h => by rw [h.1]; rfl) (fun _ U U' hal hh h => ⟨h.1, h.2.mv hal hh⟩) (fun r U U' V V' h1 hal h2 h => XT.PureE.mv r U U' V V' h1 hal h2 h) ?_
  intro p e s m args below meth c s₁ X0 hexec hbytes hml hret hlk hnm hown hh0 W hP
  obtain ⟨rfl, hB⟩ := hP
  have hB0 := hB.mv X0.warmed.alike hh0
  have c1 : Steps p.tables e below (s₁.setTop (entryFrame m #[.ref d, .int (Int32.ofNat B.slots.size)] 2)) (s₁.setTop (mkF m 0 #[.val (.ref d), .val (.int (Int32.ofNat B.slots.size))] [])) := entry rfl
  have c2 : Steps p.tables e below (s₁.setTop (entryFrame m #[.ref d, .int (Int32.ofNat B.slots.size)] 2)) (s₁.setTop (mkF m 2 #[.val (.ref d), .val (.int (Int32.ofNat B.slots.size))] [.ref d, .int (Int32.ofNat B.slots.size)])) := c1.trans (by
    refine XS.iloadN X0.here hexec rfl (hb hbytes d0) rfl ?_
    refine XS.aloadN X0.here hexec rfl (hb hbytes d1) rfl rfl ?_
    exact Steps.refl _)
  have c3 : Steps p.tables e below (s₁.setTop (entryFrame m #[.ref d, .int (Int32.ofNat B.slots.size)] 2)) (s₁.setTop (mkF m 8 #[.val (.ref d), .val (.int (Int32.ofNat B.slots.size))] [.int (lo8 (ushr (Int32.ofNat B.slots.size - Int32.ofNat B.slots.size) 31))])) := c2.trans (by
    refine X0.alen hexec hB0 rfl rfl (hb hbytes d2) ?_
    refine XS.isub X0.here hexec rfl (hb hbytes d3) rfl ?_
    refine bipushV X0.here hexec rfl 31 (hb hbytes d4) (by decide) ?_
    refine iushr X0.here hexec rfl (hb hbytes d6) rfl ?_
    refine i2b X0.here hexec rfl (hb hbytes d7) rfl ?_
    exact Steps.refl _)
  have e0 : lo8 (ushr (Int32.ofNat B.slots.size - Int32.ofNat B.slots.size) 31) = 0 := by rw [Int32.sub_self]; decide
  rw [e0] at c3
  exact ⟨s₁, some (.int 0), _, _, _, X0, rfl, rfl, rfl, (fun h => by cases h), ⟨rfl, hh0⟩, fun fs hl => c3.trans (X0.ireturnOut hexec hret rfl (Or.inr (Or.inr (Or.inl rfl))) (hb hbytes d8) hl)⟩
end CodL
/-- the String at a is Latin-1 over a new byte[] (the heap's one new cell): the low bytes of the len chars of A from o on; every cell but a is kept -/
def Got (a : Addr) (D : Cell) (fV fC : Field) (A : Cell) (o len : Nat) (r : Option Value) (s u : State) : Prop := r = none ∧ ∃ D' V : Cell, Blank "java/lang/String" a D' u ∧ Same D D' [fV.slot, fC.slot] ∧ D'.slots[fV.slot]? = some (.ref s.heap.size) ∧ D'.slots[fC.slot]? = some (.int 0) ∧ Arr .byte s.heap.size V u ∧ V.vm = .none ∧ u.vm.findClass "[B" = some V.cls ∧ V.slots.size = len ∧ (∀ j, j < len → V.slots[j]? = some (.int (lo8 (cv A (o + j))))) ∧ (∀ (y : Addr) (c : Cell), y ≠ a → s.heap[y]? = some c → u.heap[y]? = some c) ∧ u.heap.size = s.heap.size + 1
theorem Got.mv {a : Addr} {D A : Cell} {fV fC : Field} {o len : Nat} : ∀ r (U U' V V' : State), U'.heap = U.heap → V.vm.Alike V'.vm → V'.heap = V.heap → Got a D fV fC A o len r U V → Got a D fV fC A o len r U' V' :=
  fun r U U' V V' h1 hal h2 ⟨e0, D', X, a1, a2, a3, a4, a5, a6, a7, a8, a9, a10, a11⟩ => ⟨e0, D', X, a1.mv hal h2, a2, by rw [h1]; exact a3, a4, by rw [h1]; exact a5.mv hal h2, a6, by rw [hal.findClass]; exact a7, a8, a9, by rw [h1, h2]; exact a10, by rw [h1, h2]; exact a11⟩
namespace New4
def yN : MethodName := ⟨"java/lang/String", "<init>", "([CIILjava/lang/Void;)V"⟩
abbrev yB : ByteArray := jdk_42_method_149_code
theorem d0 : decode yB 0 = .ok (.aload_n 0, 1) := by decide +kernel
theorem d1 : decode yB 1 = .ok (.invokespecial 1, 3) := by decide +kernel
theorem d4 : decode yB 4 = .ok (.iload_n 3, 1) := by decide +kernel
theorem d5 : decode yB 5 = .ok (.ifCond (.ne) 22, 3) := by decide +kernel
theorem d27 : decode yB 27 = .ok (.getstatic 38, 3) := by decide +kernel
theorem d30 : decode yB 30 = .ok (.ifCond (.eq) 28, 3) := by decide +kernel
theorem d33 : decode yB 33 = .ok (.aload_n 1, 1) := by decide +kernel
theorem d34 : decode yB 34 = .ok (.iload_n 2, 1) := by decide +kernel
theorem d35 : decode yB 35 = .ok (.iload_n 3, 1) := by decide +kernel
theorem d36 : decode yB 36 = .ok (.invokestatic 177, 3) := by decide +kernel
theorem d39 : decode yB 39 = .ok (.astore 5, 2) := by decide +kernel
theorem d41 : decode yB 41 = .ok (.aload_n 0, 1) := by decide +kernel
theorem d42 : decode yB 42 = .ok (.aload 5, 2) := by decide +kernel
theorem d44 : decode yB 44 = .ok (.iload_n 3, 1) := by decide +kernel
theorem d45 : decode yB 45 = .ok (.invokestatic 47, 3) := by decide +kernel
theorem d48 : decode yB 48 = .ok (.putfield 15, 3) := by decide +kernel
theorem d51 : decode yB 51 = .ok (.aload_n 0, 1) := by decide +kernel
theorem d52 : decode yB 52 = .ok (.aload 5, 2) := by decide +kernel
theorem d54 : decode yB 54 = .ok (.putfield 9, 3) := by decide +kernel
theorem d57 : decode yB 57 = .ok (.return_, 1) := by decide +kernel
def site : List Cond := [.fieldLink "java/lang/String" 38 "java/lang/String" "COMPACT_STRINGS" "Z", Cmp3.tab, CodL.tab, .laysFinal "java/lang/String" "java/lang/String" "value" "[B", .fieldLink "java/lang/String" 9 "java/lang/String" "value" "[B", .laysFinal "java/lang/String" "java/lang/String" "coder" "B", .fieldLink "java/lang/String" 15 "java/lang/String" "coder" "B"] ++ objW "java/lang/String" 1 ++ staticW "java/lang/String" 177 Cmp3.yN ++ staticW "java/lang/String" 47 CodL.yN
def tab : Cond := tabOf yN yB 6 none site
def P (a : Addr) (D : Cell) (fV fC : Field) (b : Addr) (A : Cell) (z : Int32) (o len : Nat) (args : Array Value) (s : State) : Prop := args = #[.ref a, .ref b, .int (Int32.ofNat o), .int (Int32.ofNat len), .null] ∧ Blank "java/lang/String" a D s ∧ Found "java/lang/String" "value" "[B" fV s ∧ Found "java/lang/String" "coder" "B" fC s ∧ Ch b A s ∧ StaticIs s "java/lang/String" "COMPACT_STRINGS" "Z" (.int z) ∧ ¬ z = 0 ∧ 0 < len ∧ o + len ≤ A.slots.size ∧ len ≤ 536870912 ∧ ∀ i, i < len → ¬ 255 < cv A (o + i)
def E (a : Addr) (D : Cell) (fV fC : Field) (A : Cell) (o len : Nat) (r : Option Value) (s u : State) : Prop := Got a D fV fC A o len r s u
/-- len > 0, no char of the range above 255: a Latin-1 String of their low bytes -/
theorem law (l : Launch) (a : Addr) (D : Cell) (fV fC : Field) (b : Addr) (A : Cell) (z : Int32) (o len : Nat) : Law l yN 5 4 2 35 yB 6 none site (P a D fV fC b A z o len) (E a D fV fC A o len) [⟨a, fC.slot⟩, ⟨a, fV.slot⟩] 1 len := by
  refine Law.of_walk (plainFor_of_name (by decide +kernel)) (by decide +kernel) (by decide +kernel) (by decide) (fun _ _ h => by rw [h.1]; rfl) (fun _ U U' hal hh h => ⟨h.1, h.2.1.mv hal hh, h.2.2.1.al hal, h.2.2.2.1.al hal, h.2.2.2.2.1.mv hal hh, h.2.2.2.2.2.1.there hal hh, h.2.2.2.2.2.2⟩) (fun r U U' V V' h1 hal h2 h => Got.mv r U U' V V' h1 hal h2 h) ?_
  intro p e s m args below meth c s₁ X0 hexec hbytes hml hret hlk hnm hown hh0 W hP
  obtain ⟨rfl, hB, f1, f2, hA, s1, hz, l0, l1, l2, hp⟩ := hP
  have a31 := hA.1.2.2.2
  have c1 : Steps p.tables e below (s₁.setTop (entryFrame m #[.ref a, .ref b, .int (Int32.ofNat o), .int (Int32.ofNat len), .null] 6)) (s₁.setTop (mkF m 0 #[.val (.ref a), .val (.ref b), .val (.int (Int32.ofNat o)), .val (.int (Int32.ofNat len)), .val .null, .unset] [])) := entry rfl
  have c2 : Steps p.tables e below (s₁.setTop (entryFrame m #[.ref a, .ref b, .int (Int32.ofNat o), .int (Int32.ofNat len), .null] 6)) (s₁.setTop (mkF m 1 #[.val (.ref a), .val (.ref b), .val (.int (Int32.ofNat o)), .val (.int (Int32.ofNat len)), .val .null, .unset] [.ref a])) := c1.trans (by
    refine XS.aloadN X0.here hexec rfl (hb hbytes d0) rfl rfl ?_
    exact Steps.refl _)
  obtain ⟨T3, X3, q3, st3⟩ := X0.oinit hexec hown (wks W (objW "java/lang/String" 1)) (g := (mkF m 1 #[.val (.ref a), .val (.ref b), .val (.int (Int32.ofNat o)), .val (.int (Int32.ofNat len)), .val .null, .unset] [.ref a])) rfl (by rw [hml]; rfl) (rest := []) rfl (hb hbytes d1) (W := 0) (by show 2 * 0 + 0 ≤ _; decide) (Nat.le_of_ble_eq_true rfl) (Nat.le_of_ble_eq_true rfl)
  have hh3 := q3.trans hh0
  have c4 : Steps p.tables e below (s₁.setTop (entryFrame m #[.ref a, .ref b, .int (Int32.ofNat o), .int (Int32.ofNat len), .null] 6)) (T3.setTop (mkF m 27 #[.val (.ref a), .val (.ref b), .val (.int (Int32.ofNat o)), .val (.int (Int32.ofNat len)), .val .null, .unset] [])) := (c2.trans (st3 _ (Steps.refl _))).trans (by
    refine XS.iloadN X3.here hexec rfl (hb hbytes d4) rfl ?_
    refine XS.ifYes X3.here hexec rfl (pc0 := 5) rfl (hb hbytes d5) rfl (i0_ne_t (nz32 (by omega) l0)) (by decide) rfl ?_
    exact Steps.refl _)
  obtain ⟨T5, X5, q5, st5⟩ := X3.sget hexec hown (wk W (.fieldLink "java/lang/String" 38 "java/lang/String" "COMPACT_STRINGS" "Z")) s1 (fun _ _ h => by rw [hh3]; exact h) (g := (mkF m 27 #[.val (.ref a), .val (.ref b), .val (.int (Int32.ofNat o)), .val (.int (Int32.ofNat len)), .val .null, .unset] [])) rfl (hb hbytes d27)
  have hh5 := q5.trans hh3
  have c6 : Steps p.tables e below (s₁.setTop (entryFrame m #[.ref a, .ref b, .int (Int32.ofNat o), .int (Int32.ofNat len), .null] 6)) (T5.setTop (mkF m 30 #[.val (.ref a), .val (.ref b), .val (.int (Int32.ofNat o)), .val (.int (Int32.ofNat len)), .val .null, .unset] [.int z])) := c4.trans (st5 _ (Steps.refl _))
  have c7 : Steps p.tables e below (s₁.setTop (entryFrame m #[.ref a, .ref b, .int (Int32.ofNat o), .int (Int32.ofNat len), .null] 6)) (T5.setTop (mkF m 36 #[.val (.ref a), .val (.ref b), .val (.int (Int32.ofNat o)), .val (.int (Int32.ofNat len)), .val .null, .unset] [.int (Int32.ofNat len), .int (Int32.ofNat o), .ref b])) := c6.trans (by
    refine XS.ifNo X5.here hexec rfl (hb hbytes d30) rfl (i0_eq_f hz) ?_
    refine XS.aloadN X5.here hexec rfl (hb hbytes d33) rfl rfl ?_
    refine XS.iloadN X5.here hexec rfl (hb hbytes d34) rfl ?_
    refine XS.iloadN X5.here hexec rfl (hb hbytes d35) rfl ?_
    exact Steps.refl _)
  obtain ⟨v8, T8, X8, E8, g8⟩ := X5.callS hexec (Cmp3.law l b A o len) hown (wks W (staticW "java/lang/String" 177 Cmp3.yN)) (wk W Cmp3.tab) (W := 0) (Nat.le_of_ble_eq_true rfl) (Nat.le_of_ble_eq_true rfl) (Nat.le_refl _) (by show 0 + len ≤ len; omega) (g := (mkF m 36 #[.val (.ref a), .val (.ref b), .val (.int (Int32.ofNat o)), .val (.int (Int32.ofNat len)), .val .null, .unset] [.int (Int32.ofNat len), .int (Int32.ofNat o), .ref b])) rfl (by rw [hml]; rfl) c7 (argsL := [.ref b, .int (Int32.ofNat o), .int (Int32.ofNat len)]) (rest := []) rfl rfl (by show 2 * 0 + 0 ≤ _; decide) (hb hbytes d36) (⟨rfl, hA.mv X5.warmed.alike hh5, l1, l2, hp⟩)
  obtain ⟨e8, z8⟩ := E8
  obtain ⟨rfl, N, n1, n2, n3, n4, n5, n6⟩ := NewArr.mv _ T5 s _ _ hh5.symm (Vm.Alike.refl _) rfl e8
  rw [hh5] at z8
  have hB1 := hB.keep X8.warmed.alike (n6 _ _ hB.1)
  have hne : s.heap.size ≠ a := (Nat.ne_of_lt (Array.getElem?_eq_some_iff.mp hB.1).1).symm
  have c9 : Steps p.tables e below (s₁.setTop (entryFrame m #[.ref a, .ref b, .int (Int32.ofNat o), .int (Int32.ofNat len), .null] 6)) (T8.setTop (mkF m 39 #[.val (.ref a), .val (.ref b), .val (.int (Int32.ofNat o)), .val (.int (Int32.ofNat len)), .val .null, .unset] [.ref s.heap.size])) := g8
  have c10 : Steps p.tables e below (s₁.setTop (entryFrame m #[.ref a, .ref b, .int (Int32.ofNat o), .int (Int32.ofNat len), .null] 6)) (T8.setTop (mkF m 45 #[.val (.ref a), .val (.ref b), .val (.int (Int32.ofNat o)), .val (.int (Int32.ofNat len)), .val .null, .val (.ref s.heap.size)] [.int (Int32.ofNat N.slots.size), .ref s.heap.size, .ref a])) := by
    have hc : Steps p.tables e below (s₁.setTop (entryFrame m #[.ref a, .ref b, .int (Int32.ofNat o), .int (Int32.ofNat len), .null] 6)) (T8.setTop (mkF m 45 #[.val (.ref a), .val (.ref b), .val (.int (Int32.ofNat o)), .val (.int (Int32.ofNat len)), .val .null, .val (.ref s.heap.size)] [.int (Int32.ofNat len), .ref s.heap.size, .ref a])) := c9.trans (by
      refine XS.astore X8.here hexec rfl (hb hbytes d39) rfl rfl rfl ?_
      refine XS.aloadN X8.here hexec rfl (hb hbytes d41) rfl rfl ?_
      refine XS.aload X8.here hexec rfl (hb hbytes d42) rfl rfl ?_
      refine XS.iloadN X8.here hexec rfl (hb hbytes d44) rfl ?_
      exact Steps.refl _)
    rw [n4]; exact hc
  obtain ⟨v11, T11, X11, E11, g11⟩ := X8.callS hexec (CodL.law l s.heap.size N) hown (wks W (staticW "java/lang/String" 47 CodL.yN)) (wk W CodL.tab) (W := 1) (Nat.le_of_ble_eq_true rfl) (Nat.le_of_ble_eq_true rfl) (Nat.le_refl _) (by show 0 + len + 0 ≤ len; omega) (g := (mkF m 45 #[.val (.ref a), .val (.ref b), .val (.int (Int32.ofNat o)), .val (.int (Int32.ofNat len)), .val .null, .val (.ref s.heap.size)] [.int (Int32.ofNat N.slots.size), .ref s.heap.size, .ref a])) rfl (by rw [hml]; rfl) c10 (argsL := [.ref s.heap.size, .int (Int32.ofNat N.slots.size)]) (rest := [.ref a]) rfl rfl (by show 2 * 0 + (1 + 0) ≤ _; decide) (hb hbytes d45) (⟨rfl, n1⟩)
  obtain ⟨rfl, q11⟩ := E11
  have hB11 := hB1.mv (X8.warmed.alike.symm.trans X11.warmed.alike) q11
  have c12 : Steps p.tables e below (s₁.setTop (entryFrame m #[.ref a, .ref b, .int (Int32.ofNat o), .int (Int32.ofNat len), .null] 6)) (T11.setTop (mkF m 48 #[.val (.ref a), .val (.ref b), .val (.int (Int32.ofNat o)), .val (.int (Int32.ofNat len)), .val .null, .val (.ref s.heap.size)] [.int 0, .ref a])) := g11
  obtain ⟨T13, X13, p13, bl13, sl13, st13⟩ := X11.finit hexec hown (wk W (.fieldLink "java/lang/String" 15 "java/lang/String" "coder" "B")) (Or.inr ⟨_, (wk W (.laysFinal "java/lang/String" "java/lang/String" "coder" "B"))⟩) (Or.inl ⟨rfl, hnm⟩) f2 (Or.inl rfl) hB11 (t := .byte) (by decide +kernel) rfl (g := (mkF m 48 #[.val (.ref a), .val (.ref b), .val (.int (Int32.ofNat o)), .val (.int (Int32.ofNat len)), .val .null, .val (.ref s.heap.size)] [.int 0, .ref a])) rfl (rest := []) rfl (hb hbytes d48)
  have c14 : Steps p.tables e below (s₁.setTop (entryFrame m #[.ref a, .ref b, .int (Int32.ofNat o), .int (Int32.ofNat len), .null] 6)) (T13.setTop (mkF m 54 #[.val (.ref a), .val (.ref b), .val (.int (Int32.ofNat o)), .val (.int (Int32.ofNat len)), .val .null, .val (.ref s.heap.size)] [.ref s.heap.size, .ref a])) := (c12.trans (st13 _ (Steps.refl _))).trans (by
    refine XS.aloadN X13.here hexec rfl (hb hbytes d51) rfl rfl ?_
    refine XS.aload X13.here hexec rfl (hb hbytes d52) rfl rfl ?_
    exact Steps.refl _)
  obtain ⟨T15, X15, p15, bl15, sl15, st15⟩ := X13.finit hexec hown (wk W (.fieldLink "java/lang/String" 9 "java/lang/String" "value" "[B")) (Or.inr ⟨_, (wk W (.laysFinal "java/lang/String" "java/lang/String" "value" "[B"))⟩) (Or.inl ⟨rfl, hnm⟩) f1 (Or.inl rfl) bl13 (t := (.array .byte)) (by decide +kernel) rfl (g := (mkF m 54 #[.val (.ref a), .val (.ref b), .val (.int (Int32.ofNat o)), .val (.int (Int32.ofNat len)), .val .null, .val (.ref s.heap.size)] [.ref s.heap.size, .ref a])) rfl (rest := []) rfl (hb hbytes d54)
  have c16 : Steps p.tables e below (s₁.setTop (entryFrame m #[.ref a, .ref b, .int (Int32.ofNat o), .int (Int32.ofNat len), .null] 6)) (T15.setTop (mkF m 57 #[.val (.ref a), .val (.ref b), .val (.int (Int32.ofNat o)), .val (.int (Int32.ofNat len)), .val .null, .val (.ref s.heap.size)] [])) := c14.trans (st15 _ (Steps.refl _))
  have ap := apart (Or.inr ⟨_, (wk W (.laysFinal "java/lang/String" "java/lang/String" "value" "[B"))⟩) (Or.inr ⟨_, (wk W (.laysFinal "java/lang/String" "java/lang/String" "coder" "B"))⟩) f1 f2 (t₁ := .array .byte) (t₂ := .byte) (by decide +kernel) (by decide +kernel) (by decide)
  have al := X8.warmed.alike.symm.trans X15.warmed.alike
  have n7 : T11.heap[s.heap.size]? = some N := by rw [q11]; exact n1.1
  exact ⟨T15, none, _, _, _, X15, by simp, rfl, by omega, (fun _ => rfl), ⟨rfl, _, N, bl15, ((Same.refl D _).set _ (by simp)).set _ (by simp), sl15, (Cell.slots_setSlot_ne _ ap).trans sl13, n1.keep al (p15.other hne (p13.other hne n7)), n2, by rw [al.findClass]; exact n3, n4, n5, fun y c h1 h2 => p15.other h1 (p13.other h1 (by rw [q11]; exact n6 y c h2)), by rw [p15.2.2, p13.2.2, q11]; exact z8⟩, fun fs hl => c16.trans (X15.returnOut hexec hret (hb hbytes d57) hl)⟩
end New4
namespace New1
def yN : MethodName := ⟨"java/lang/String", "<init>", "([C)V"⟩
abbrev yB : ByteArray := jdk_42_method_3_code
theorem d0 : decode yB 0 = .ok (.aload_n 0, 1) := by decide +kernel
theorem d1 : decode yB 1 = .ok (.aload_n 1, 1) := by decide +kernel
theorem d2 : decode yB 2 = .ok (.iconst 0, 1) := by decide +kernel
theorem d3 : decode yB 3 = .ok (.aload_n 1, 1) := by decide +kernel
theorem d4 : decode yB 4 = .ok (.arraylength, 1) := by decide +kernel
theorem d5 : decode yB 5 = .ok (.aconst_null, 1) := by decide +kernel
theorem d6 : decode yB 6 = .ok (.invokespecial 27, 3) := by decide +kernel
theorem d9 : decode yB 9 = .ok (.return_, 1) := by decide +kernel
def site : List Cond := [New4.tab] ++ initW "java/lang/String" 27 New4.yN
def tab : Cond := tabOf yN yB 2 none site
def P (a : Addr) (D : Cell) (fV fC : Field) (b : Addr) (A : Cell) (z : Int32) (args : Array Value) (s : State) : Prop := args = #[.ref a, .ref b] ∧ Blank "java/lang/String" a D s ∧ Found "java/lang/String" "value" "[B" fV s ∧ Found "java/lang/String" "coder" "B" fC s ∧ Ch b A s ∧ StaticIs s "java/lang/String" "COMPACT_STRINGS" "Z" (.int z) ∧ ¬ z = 0 ∧ 0 < A.slots.size ∧ A.slots.size ≤ 536870912 ∧ ∀ i, i < A.slots.size → ¬ 255 < cv A i
def E (a : Addr) (D : Cell) (fV fC : Field) (A : Cell) (r : Option Value) (s u : State) : Prop := Got a D fV fC A 0 A.slots.size r s u
/-- new String(chars), not empty, no char above 255: a Latin-1 String of their low bytes -/
theorem law (l : Launch) (a : Addr) (D : Cell) (fV fC : Field) (b : Addr) (A : Cell) (z : Int32) : Law l yN 2 1 3 52 yB 2 none site (P a D fV fC b A z) (E a D fV fC A) [⟨a, fC.slot⟩, ⟨a, fV.slot⟩] 1 A.slots.size := by
  refine Law.of_walk (plainFor_of_name (by decide +kernel)) (by decide +kernel) (by decide +kernel) (by decide) (fun _ _ h => by rw [h.1]; rfl) (fun _ U U' hal hh h => ⟨h.1, h.2.1.mv hal hh, h.2.2.1.al hal, h.2.2.2.1.al hal, h.2.2.2.2.1.mv hal hh, h.2.2.2.2.2.1.there hal hh, h.2.2.2.2.2.2⟩) (fun r U U' V V' h1 hal h2 h => Got.mv r U U' V V' h1 hal h2 h) ?_
  intro p e s m args below meth c s₁ X0 hexec hbytes hml hret hlk hnm hown hh0 W hP
  obtain ⟨rfl, hB, f1, f2, hA, s1, hz, l0, l2, hp⟩ := hP
  have c1 : Steps p.tables e below (s₁.setTop (entryFrame m #[.ref a, .ref b] 2)) (s₁.setTop (mkF m 0 #[.val (.ref a), .val (.ref b)] [])) := entry rfl
  have c2 : Steps p.tables e below (s₁.setTop (entryFrame m #[.ref a, .ref b] 2)) (s₁.setTop (mkF m 6 #[.val (.ref a), .val (.ref b)] [.null, .int (Int32.ofNat A.slots.size), .int 0, .ref b, .ref a])) := c1.trans (by
    refine XS.aloadN X0.here hexec rfl (hb hbytes d0) rfl rfl ?_
    refine XS.aloadN X0.here hexec rfl (hb hbytes d1) rfl rfl ?_
    refine iconstV X0.here hexec rfl 0 (hb hbytes d2) (by decide) ?_
    refine XS.aloadN X0.here hexec rfl (hb hbytes d3) rfl rfl ?_
    refine X0.alen hexec (hA.1.mv X0.warmed.alike hh0) rfl rfl (hb hbytes d4) ?_
    refine XS.aconstNull X0.here hexec rfl (hb hbytes d5) ?_
    exact Steps.refl _)
  obtain ⟨v3, T3, X3, E3, g3⟩ := X0.callN hexec (New4.law l a D fV fC b A z 0 A.slots.size) rfl hown (wks W (initW "java/lang/String" 27 New4.yN)) (W New4.tab (by simp only [site, List.mem_cons, List.mem_append, true_or, or_true])) (W := 0) (Nat.le_of_ble_eq_true rfl) (Nat.le_of_ble_eq_true rfl) (Nat.le_refl _) (by show 0 + A.slots.size ≤ A.slots.size; omega) (g := (mkF m 6 #[.val (.ref a), .val (.ref b)] [.null, .int (Int32.ofNat A.slots.size), .int (Int32.ofNat 0), .ref b, .ref a])) rfl (by rw [hml]; rfl) c2 (argsL := [.ref b, .int (Int32.ofNat 0), .int (Int32.ofNat A.slots.size), .null]) (rest := []) rfl rfl (by show 2 * 0 + 0 ≤ _; decide) (hb hbytes d6) (⟨rfl, hB.mv X0.warmed.alike hh0, f1.al X0.warmed.alike, f2.al X0.warmed.alike, hA.mv X0.warmed.alike hh0, s1.there X0.warmed.alike hh0, hz, l0, by omega, l2, fun i hi => by rw [Nat.zero_add]; exact hp i hi⟩)
  have e0 := Got.mv _ s₁ s _ _ hh0.symm (Vm.Alike.refl _) rfl E3
  obtain rfl := e0.1
  have c4 : Steps p.tables e below (s₁.setTop (entryFrame m #[.ref a, .ref b] 2)) (T3.setTop (mkF m 9 #[.val (.ref a), .val (.ref b)] [])) := g3
  exact ⟨T3, none, _, _, _, X3, by simp, rfl, by omega, (fun _ => rfl), e0, fun fs hl => c4.trans (X3.returnOut hexec hret (hb hbytes d9) hl)⟩
theorem pays {l : Launch} {R : Room} {p : Program} {e : Env} {below : List Frame} {s : State} {sargs : Array Value} {len W : Nat} (a : Addr) (D : Cell) (fV fC : Field) (b : Addr) (A : Cell) (z : Int32) (htab : tab.before sargs s = true) (hfr : 4 ≤ R.frames) (hlo : W + 65 ≤ R.locals) :
    Back l R p e below s sargs yN len W (fun A₁ a₁ => A₁.cells + 1 ≤ R.cells ∧ A₁.slots + A.slots.size ≤ R.slots ∧ P a D fV fC b A z a₁ A₁.U) (fun A₁ _ v₁ B₁ => E a D fV fC A v₁ A₁.U B₁.U ∧ B₁.locs = A₁.locs ++ [⟨a, fC.slot⟩, ⟨a, fV.slot⟩] ∧ B₁.cells = A₁.cells + 1 ∧ B₁.slots = A₁.slots + A.slots.size) :=
  (law l a D fV fC b A z).pays htab hfr (by omega)
end New1
end StrChars
namespace StrChars.Road
open Jvm Sem ClassFile Op Lib Jvm.Stand Jvm.Free Jvm.Free.XT
open Jvm.Lib.Cold (StaticIs)
abbrev ST : String := "java/lang/String"
/-- every table word that New1's law asks, flat -/
abbrev words : List Jvm.Cond := [.code New1.yN New1.yB 2 none, .initialized ST, .methodLink ST 27 New4.yN, .instanceMethod New4.yN,
  .code New4.yN New4.yB 6 none, .fieldLink ST 38 ST "COMPACT_STRINGS" "Z", .laysFinal ST ST "value" "[B", .fieldLink ST 9 ST "value" "[B", .laysFinal ST ST "coder" "B", .fieldLink ST 15 ST "coder" "B",
  .methodLink ST 1 Lib.objectInit, .instanceMethod Lib.objectInit, .code Lib.objectInit ⟨#[0xb1]⟩ 1 none, .methodLink ST 177 Cmp3.yN, .static Cmp3.yN, .methodLink ST 47 CodL.yN, .static CodL.yN,
  .code Cmp3.yN Cmp3.yB 6 (some (.array .byte)), .initialized U16, .arrayClass .byte, .methodLink U16 115 Cmp5.yN, .static Cmp5.yN, .code Cmp5.yN Cmp5.yB 7 (some .int), .code CodL.yN CodL.yB 2 (some .byte)]
theorem tab_of {a : Array Value} {s : State} (h : ∀ w ∈ words, w.before a s = true) : New1.tab.before a s = true := by
  have h5 : Cmp5.tab.before a s = true := unparts (wk h (.code Cmp5.yN Cmp5.yB 7 (some .int))) (wks h (.initialized Cmp5.yN.cls :: Cmp5.site))
  have hc : CodL.tab.before a s = true := unparts (wk h (.code CodL.yN CodL.yB 2 (some .byte))) (wks h (.initialized CodL.yN.cls :: CodL.site))
  have q5 : ∀ w ∈ Cmp5.tab :: words, w.before a s = true := fun w hw => (List.mem_cons.mp hw).elim (fun e => e ▸ h5) (h w)
  have h3 : Cmp3.tab.before a s = true := unparts (wk q5 (.code Cmp3.yN Cmp3.yB 6 (some (.array .byte)))) (wks q5 (.initialized Cmp3.yN.cls :: Cmp3.site))
  have q3 : ∀ w ∈ Cmp3.tab :: CodL.tab :: words, w.before a s = true := fun w hw => (List.mem_cons.mp hw).elim (fun e => e ▸ h3) fun hw => (List.mem_cons.mp hw).elim (fun e => e ▸ hc) (h w)
  have h4 : New4.tab.before a s = true := unparts (wk q3 (.code New4.yN New4.yB 6 none)) (wks q3 (.initialized New4.yN.cls :: New4.site))
  have q4 : ∀ w ∈ New4.tab :: words, w.before a s = true := fun w hw => (List.mem_cons.mp hw).elim (fun e => e ▸ h4) (h w)
  exact unparts (wk q4 (.code New1.yN New1.yB 2 none)) (wks q4 (.initialized New1.yN.cls :: New1.site))
/-- the words ride from the start Z to the walk's own state -/
theorem moved {Z s : State} {a0 args : Array Value} (hZ : Z.Warmed39 s.vm) (hw : ∀ d ∈ words, d.before a0 Z = true) : ∀ d ∈ words, d.before args s = true := fun d hd => by
  have q := hw d hd
  have t : ∀ d ∈ words, d = .arrayClass .byte ∨ (d.onTables && d.keepsFace) = true := by decide +kernel
  rcases t d hd with rfl | t
  · exact RoadKit.mvA hZ q
  · exact RoadKit.mv hZ q t
/-- WHAT COMES BACK, over the tables of the start Z: h the heap at the call, h' behind it -/
def Q (Z : State) (x : Addr) (A : Cell) (h : Heap) (v : Option Value) (h' : Heap) (L : List Loc) : Prop := v = none ∧ (∀ y ∈ L, y.base = x) ∧ RoadKit.Keep h h' [x] ∧ h'.size = h.size + 1 ∧ RoadKit.Exa Z h' x ST ∧ RoadKit.Fld Z h' x ST "value" "[B" (.ref h.size) ∧ RoadKit.Fld Z h' x ST "coder" "B" (.int 0) ∧
  (∃ V : Cell, RoadKit.Arr Z h' h.size V .byte ∧ V.vm = .none ∧ Z.vm.findClass "[B" = some V.cls ∧ V.slots.size = A.slots.size ∧ ∀ j, j < A.slots.size → V.slots[j]? = some (.int (lo8 (cv A j)))) ∧
  ∀ (O n d : String) (w : Value), RoadKit.Fld Z h x O n d w → RoadKit.slotOf Z O n d ≠ RoadKit.slotOf Z ST "value" "[B" → RoadKit.slotOf Z O n d ≠ RoadKit.slotOf Z ST "coder" "B" → RoadKit.Fld Z h' x O n d w
/-- **new String(chars) AT A CALL, IN THE ROAD'S FORM**: for specialBack behind newO: x the fresh String, b the char[] with the cell A -/
theorem back {p : Program} {l : Launch} {e : Env} {R : Room} {s : State} {args : Array Value} {below : List Frame} {len W : Nat} {Z : State} {a0 : Array Value} {h : Heap} (hZ : Z.Warmed39 s.vm) (hw : ∀ d ∈ words, d.before a0 Z = true) {kI : Nat} (wi : (Jvm.Cond.instantiable ST kI).before a0 Z = true)
    {x b : Addr} {A : Cell} {z : Int32} {v0 c0 : Value} (E : RoadKit.Exa Z h x ST) (V : RoadKit.Fld Z h x ST "value" "[B" v0) (C : RoadKit.Fld Z h x ST "coder" "B" c0) (K : RoadKit.Arr Z h b A .char) (hty : Typed .char A) (S : RoadKit.Sta Z h ST "COMPACT_STRINGS" "Z" (.int z)) (hz : ¬ z = 0)
    (l0 : 0 < A.slots.size) (l2 : A.slots.size ≤ 536870912) (hp : ∀ i, i < A.slots.size → ¬ 255 < cv A i) (hfr : 4 ≤ R.frames) (hlo : W + 65 ≤ R.locals) :
    Back l R p e below s args New1.yN len W (fun P a => a = #[.ref x, .ref b] ∧ P.U.heap = h ∧ P.cells + 1 ≤ R.cells ∧ P.slots + A.slots.size ≤ R.slots)
      (fun P _ v B => ∃ L, Q Z x A h v B.U.heap L ∧ B.locs = P.locs ++ L ∧ B.cells = P.cells + 1 ∧ B.slots = P.slots + A.slots.size) := by
  intro m meth c P g ig mk a X hg hsize hdg hW hn hp'
  obtain ⟨rfl, rfl, r1, r2⟩ := hp'
  have al : Z.vm.Alike P.U.vm := hZ.alike.trans X.warmed.alike
  obtain ⟨D, cfV, kV, iV, fV, hD, gV, stV, knV, obV, asV, slV⟩ := id V
  obtain ⟨D', cfC, kC, iC, fC, hD', gC, stC, -, -, asC, slC⟩ := id C
  cases hD.symm.trans hD'
  obtain ⟨D2, kD, e1, e2, e3, e4, e5⟩ := id E
  cases hD.symm.trans e1
  obtain ⟨c2, k2, i1, i2, i3, -⟩ := Cond.instantiable_spec wi
  cases e2.symm.trans i1
  cases e3.symm.trans i2
  obtain ⟨kU, u1, u2⟩ := al.2.2 _ _ e3
  have hB : Blank ST x D P.U := ⟨hD, ⟨knV, fun q hq => by rw [hq] at obV; cases obV⟩, by rw [al.findClass]; exact e2, kU, u1, by rw [u2]; exact i3, by rw [u2]; exact e5 i3⟩
  have F1 : Found ST "value" "[B" fV P.U := ⟨SBG.found_only al ⟨cfV, kV, iV, gV⟩, stV⟩
  have F2 : Found ST "coder" "B" fC P.U := ⟨SBG.found_only al ⟨cfC, kC, iC, gC⟩, stC⟩
  have hA : Ch b A P.U := ⟨⟨K.1, State.isArrayOf_alike al K.2.1, K.2.2, by omega⟩, hty⟩
  have hS : StaticIs P.U ST "COMPACT_STRINGS" "Z" (.int z) := by
    obtain ⟨cfS, iS, kS, fS, st, cS, t1, t2, t3, t4, t5, t6, t7⟩ := S
    exact StaticIs.there (s := { Z with heap := P.U.heap }) ⟨cfS, iS, kS, fS, st, cS, t1, t2, t3, t4, t5, (fun q => by rw [q] at t6; cases t6), t7⟩ al rfl
  obtain ⟨v, B, X', ⟨⟨hv, E', V', q1, q2, q3, q4, q5, q6, q7, q8, q9, q10, q11⟩, hl, hc, hs⟩, st⟩ := New1.pays x D fV fC b A z (tab_of (moved hZ hw)) hfr hlo m meth c P g ig mk _ X hg hsize hdg hW hn ⟨r1, r2, rfl, hB, F1, F2, hA, hS, hz, l0, l2, hp⟩
  have al' : Z.vm.Alike B.U.vm := hZ.alike.trans X'.warmed.alike
  have hsz : E'.slots.size = D.slots.size := by
    obtain ⟨-, -, -, kB, w1, w2, w3⟩ := q1
    obtain ⟨kB', y1, y2⟩ := al'.2.2 _ _ e3
    rw [q2.2.1] at w1
    cases w1.symm.trans y1
    rw [w3, e5 i3, y2]
  refine ⟨v, B, X', ⟨_, ⟨hv, ?_, ⟨by omega, fun y cy hy hn' => q10 y cy (by simpa using hn') hy, fun y cy hy => ?_⟩, q11, ⟨E', _, q1.1, by rw [q2.2.1]; exact e2, by rw [q2.2.1]; exact e3, by rw [q2.1]; exact obV, fun _ => by rw [hsz]; exact e5 i3⟩,
    ⟨E', cfV, kV, iV, fV, q1.1, gV, stV, by rw [q2.1]; exact knV, by rw [q2.1]; exact obV, by rw [q2.2.1]; exact asV, q3⟩, ⟨E', cfC, kC, iC, fC, q1.1, gC, stC, by rw [q2.1]; exact knV, by rw [q2.1]; exact obV, by rw [q2.2.1]; exact asC, q4⟩,
    ⟨V', ⟨q5.1, State.isArrayOf_alike al'.symm q5.2.1, q5.2.2.1⟩, q6, by rw [← al'.findClass]; exact q7, q8, fun j hj => by have := q9 j hj; rwa [Nat.zero_add] at this⟩, fun O n d w F n1 n2 => ?_⟩, hl, hc, hs⟩, st⟩
  · intro y hy
    simp only [List.mem_cons, List.not_mem_nil, or_false] at hy
    rcases hy with rfl | rfl <;> rfl
  · by_cases q : y = x
    · subst q
      cases hD.symm.trans hy
      exact ⟨E', q1.1, q2.2.1, q2.1, hsz⟩
    · exact ⟨cy, q10 y cy q hy, rfl, rfl, rfl⟩
  · obtain ⟨D3, cf, k, i, f, g1, g2, g3, g4, g5, g6, g7⟩ := F
    cases hD.symm.trans g1
    simp only [RoadKit.slotOf, g2, gV, gC, Option.map_some, Option.getD_some] at n1 n2
    exact ⟨E', cf, k, i, f, q1.1, g2, g3, by rw [q2.1]; exact g4, by rw [q2.1]; exact g5, by rw [q2.2.1]; exact g6, by rw [q2.2.2 f.slot (by simp [n1, n2])]; exact g7⟩
end StrChars.Road
namespace StrChars.Road
open Jvm Sem ClassFile Op Lib Jvm.Stand Jvm.Free Jvm.Free.XT
/-- WHAT COMES BACK, the byte[] as a list of values -/
def QA (Z : State) (x : Addr) (zn : Int32) (cs : List Int32) (h : Heap) (v : Option Value) (h' : Heap) (L : List Loc) : Prop := v = none ∧ (∀ y ∈ L, y.base = x) ∧ RoadKit.Keep h h' [x] ∧ h'.size = h.size + 1 ∧ RoadKit.Exa Z h' x ST ∧ RoadKit.Fld Z h' x ST "value" "[B" (.ref h.size) ∧ RoadKit.Fld Z h' x ST "coder" "B" (.int 0) ∧
  (∃ kb, Z.vm.findClass "[B" = some kb ∧ RoadKit.Arv Z h' h.size kb .byte zn (cs.map fun c => .int (lo8 c)) (.int 0)) ∧
  ∀ (O n d : String) (w : Value), RoadKit.Fld Z h x O n d w → RoadKit.slotOf Z O n d ≠ RoadKit.slotOf Z ST "value" "[B" → RoadKit.slotOf Z O n d ≠ RoadKit.slotOf Z ST "coder" "B" → RoadKit.Fld Z h' x O n d w
/-- **new String(chars) AT A CALL, THE ARRAYS AS LISTS**: the char[] at b holds cs, not empty, no char above 255 -/
theorem backArv {p : Program} {l : Launch} {e : Env} {R : Room} {s : State} {args : Array Value} {below : List Frame} {len W : Nat} {Z : State} {a0 : Array Value} {h : Heap} (hZ : Z.Warmed39 s.vm) (hw : ∀ d ∈ words, d.before a0 Z = true) {kI : Nat} (wi : (Jvm.Cond.instantiable ST kI).before a0 Z = true)
    {x b : Addr} {k : ClassId} {zn z : Int32} {cs : List Int32} {dv v0 c0 : Value} (E : RoadKit.Exa Z h x ST) (V : RoadKit.Fld Z h x ST "value" "[B" v0) (C : RoadKit.Fld Z h x ST "coder" "B" c0) (K : RoadKit.Arv Z h b k .char zn (cs.map Value.int) dv) (S : RoadKit.Sta Z h ST "COMPACT_STRINGS" "Z" (.int z)) (hz : ¬ z = 0)
    (hlen : zn.toNatClampNeg = cs.length) (h0 : 0 < cs.length) (hbig : cs.length ≤ 536870912) (hall : ∀ c ∈ cs, ¬ 255 < c) (hfr : 4 ≤ R.frames) (hlo : W + 65 ≤ R.locals) :
    Back l R p e below s args New1.yN len W (fun P a => a = #[.ref x, .ref b] ∧ P.U.heap = h ∧ P.cells + 1 ≤ R.cells ∧ P.slots + cs.length ≤ R.slots)
      (fun P _ v B => ∃ L, QA Z x zn cs h v B.U.heap L ∧ B.locs = P.locs ++ L ∧ B.cells = P.cells + 1 ∧ B.slots = P.slots + cs.length) := by
  obtain ⟨A, K1, K2, K3, K4, K5, K6⟩ := K
  have e : A.slots.size = cs.length := K3.trans hlen
  have hat : ∀ (i : Nat) (hi : i < cs.length), A.slots[i]? = some (.int cs[i]) := fun i hi => by rw [K5 i (by omega)]; simp [List.getD_eq_getElem?_getD, hi]
  have hcv : ∀ (i : Nat) (hi : i < cs.length), cv A i = cs[i] := fun i hi => by unfold cv; rw [hat i hi]
  have hty : Typed .char A := fun i v hv => by
    have hi : i < A.slots.size := (Array.getElem?_eq_some_iff.mp hv).1
    have q := K5 i hi
    rw [hv] at q
    rw [Option.some.inj q]
    exact K6 i hi
  refine Back.mono (back hZ hw wi E V C K1 hty S hz (by omega) (by omega) (fun i hi => by rw [hcv i (by omega)]; exact hall _ (List.getElem_mem _)) hfr hlo) (fun P a hp => ⟨hp.1, hp.2.1, hp.2.2.1, by rw [e]; exact hp.2.2.2⟩) (fun P a v B hp hq => ?_)
  obtain ⟨L, ⟨q1, q2, q3, q4, q5, q6, q7, ⟨V', v1, v2, v3, v4, v5⟩, q9⟩, hl, hc, hs⟩ := hq
  refine ⟨L, ⟨q1, q2, q3, q4, q5, q6, q7, ⟨V'.cls, v3, V', v1, rfl, by rw [v4, e, hlen], K4, fun i hi => ?_, fun i hi => ?_⟩, q9⟩, hl, hc, by rw [hs, e]⟩
  · have hi' : i < cs.length := by omega
    rw [v5 i (by omega), hcv i hi']; simp [List.getD_eq_getElem?_getD, hi']
  · have hi' : i < cs.length := by omega
    simp only [List.getD_eq_getElem?_getD, List.getElem?_map, List.getElem?_eq_getElem hi', Option.map_some, Option.getD_some]
    exact fits_lo8 _
end StrChars.Road
namespace StrChars.Road
open Jvm Sem ClassFile Op Lib Jvm.Stand Jvm.Free Jvm.Free.XT
/-- WHAT COMES BACK, in the writer's own shape -/
def QV (Z : State) (x : Addr) (N : Int32) (bs : List Int32) (h : Heap) (n0 : Nat) (v : Option Value) (h' : Heap) (L : List Loc) : Prop := v = none ∧ RoadKit.Fr n0 L ∧ RoadKit.Keep h h' [x] ∧ RoadKit.Exa Z h' x ST ∧ RoadKit.Fld Z h' x ST "coder" "B" (.int 0) ∧
  ∃ (t : Addr) (kb : ClassId), n0 ≤ t ∧ h.size ≤ t ∧ ¬ t = x ∧ RoadKit.Fld Z h' x ST "value" "[B" (.ref t) ∧ RoadKit.Arv Z h' t kb .byte N (bs.map Value.int) (.int 0)
/-- **new String(chars) AT A CALL, FOR THE WRITER**: a char[] of n known ints, each 0 to 255 -/
theorem backV {p : Program} {l : Launch} {e : Env} {R : Room} {s : State} {args : Array Value} {below : List Frame} {len W : Nat} {Z : State} {a0 : Array Value} {h : Heap} (hZ : Z.Warmed39 s.vm) (hw : ∀ d ∈ words, d.before a0 Z = true) {kI : Nat} (wi : (Jvm.Cond.instantiable ST kI).before a0 Z = true)
    {x b : Addr} {kC : ClassId} {cs bs : List Int32} {d v0 c0 : Value} {z N : Int32} {n n0 : Nat} (hx0 : n0 ≤ x) (hh0 : n0 ≤ h.size) (E : RoadKit.Exa Z h x ST) (V : RoadKit.Fld Z h x ST "value" "[B" v0) (C : RoadKit.Fld Z h x ST "coder" "B" c0) (K : RoadKit.Arv Z h b kC .char N (cs.map Value.int) d) (S : RoadKit.Sta Z h ST "COMPACT_STRINGS" "Z" (.int z)) (hz : ¬ z = 0)
    (hn : cs.length = n) (hN : N = Int32.ofNat n) (l0 : 0 < n) (l2 : n ≤ 4000) (hp : ∀ c ∈ cs, ¬ c < 0 ∧ ¬ (255 : Int32) < c) (hb : bs = cs.map (fun c => c.toInt8.toInt32)) (hfr : 4 ≤ R.frames) (hlo : W + 65 ≤ R.locals) :
    Back l R p e below s args (⟨"java/lang/String", "<init>", "([C)V"⟩ : MethodName) len W (fun P a => a = #[.ref x, .ref b] ∧ P.U.heap = h ∧ P.cells + 1 ≤ R.cells ∧ P.slots + n ≤ R.slots)
      (fun P _ v B => ∃ L, QV Z x N bs h n0 v B.U.heap L ∧ B.locs = P.locs ++ L ∧ B.cells = P.cells + 1 ∧ B.slots = P.slots + n) := by
  subst hn hN hb
  refine Back.mono (backArv hZ hw wi E V C K S hz (n32 (by omega)) l0 (by omega) (fun c hc => (hp c hc).2) hfr hlo) (fun P a hp => hp) (fun P a v B hp hq => ?_)
  obtain ⟨L, ⟨q1, q2, q3, q4, q5, q6, q7, ⟨kb, v1, v2⟩, q9⟩, hl, hc, hs⟩ := hq
  exact ⟨L, ⟨q1, fun y hy => by rw [q2 y hy]; exact hx0, q3, q5, q7, h.size, kb, hh0, Nat.le_refl _, Nat.ne_of_gt E.lt, q6, by rw [List.map_map]; exact v2⟩, hl, hc, hs⟩
end StrChars.Road
end Jvm.Pilot.@@N@@
namespace Jvm.RoadKit
open Sem ClassFile Op Lib Jvm.Stand Jvm.Free Jvm.LawKit
section Own
variable {p : Program} {l : Launch} {e : Env} {R : Room} {s : State} {m : MethodId} {args : Array Value} {below : List Frame} {meth : Method} {c : Code} {T : State} {locs : List Loc} {cells slots : Nat}
theorem retI (X : Stand p l e R s m args below meth c T locs cells slots) (hx : p.tables.exec = Jvm.exec) {pc : Nat} {Ls : Array Slot} {z : Int32} {rest : List Value} (hret : meth.sig.returnType = some .int) (hd : decode c.code pc = .ok (.ireturn, 1)) {fs : List Frame}
    (hl : ∀ (f : JFrame) (acts : List Action), f.method = m → f.locked = none → f.entered = [] → (doReturn e (T.setTop f) acts (some (.int z))).1 = T.setFrames fs) : Steps p.tables e below (T.setTop (mkF m pc Ls (.int z :: rest))) (T.setFrames fs) :=
  retOut X hx hret rfl (Or.inl ⟨rfl, Or.inl rfl, _, rfl⟩) hd hl
theorem retJ (X : Stand p l e R s m args below meth c T locs cells slots) (hx : p.tables.exec = Jvm.exec) {pc : Nat} {Ls : Array Slot} {z : Int64} {rest : List Value} (hret : meth.sig.returnType = some .long) (hd : decode c.code pc = .ok (.lreturn, 1)) {fs : List Frame}
    (hl : ∀ (f : JFrame) (acts : List Action), f.method = m → f.locked = none → f.entered = [] → (doReturn e (T.setTop f) acts (some (.long z))).1 = T.setFrames fs) : Steps p.tables e below (T.setTop (mkF m pc Ls (.long z :: rest))) (T.setFrames fs) :=
  retOut X hx hret rfl (Or.inr (Or.inl ⟨rfl, rfl, _, rfl⟩)) hd hl
theorem retA (X : Stand p l e R s m args below meth c T locs cells slots) (hx : p.tables.exec = Jvm.exec) {pc : Nat} {Ls : Array Slot} {t : FieldType} {z : Value} {rest : List Value} (hret : meth.sig.returnType = some t) (hn : narrow t z = z) (ht : t.isReference = true) (hz : z.isRef = true) (hd : decode c.code pc = .ok (.areturn, 1)) {fs : List Frame}
    (hl : ∀ (f : JFrame) (acts : List Action), f.method = m → f.locked = none → f.entered = [] → (doReturn e (T.setTop f) acts (some z)).1 = T.setFrames fs) : Steps p.tables e below (T.setTop (mkF m pc Ls (z :: rest))) (T.setFrames fs) :=
  retOut X hx hret hn (Or.inr (Or.inr (Or.inr (Or.inr ⟨rfl, ht, hz⟩)))) hd hl
theorem retZ (X : Stand p l e R s m args below meth c T locs cells slots) (hx : p.tables.exec = Jvm.exec) {pc : Nat} {Ls : Array Slot} {z r : Int32} {t : FieldType} {rest : List Value} (hret : meth.sig.returnType = some t) (ht : t = .boolean ∨ t = .byte ∨ t = .char ∨ t = .short)
    (hd : decode c.code pc = .ok (.ireturn, 1)) (hn : nar t z = r) {fs : List Frame} (hl : ∀ (f : JFrame) (acts : List Action), f.method = m → f.locked = none → f.entered = [] → (doReturn e (T.setTop f) acts (some (.int r))).1 = T.setFrames fs) :
    Steps p.tables e below (T.setTop (mkF m pc Ls (.int z :: rest))) (T.setFrames fs) := retN X hx hret ht hd (by rw [hn]; exact hl)
theorem ownUp (X : Stand p l e R s m args below meth c T locs cells slots) {cells' slots' : Nat} (h1 : cells ≤ cells') (h2 : slots ≤ slots') : Stand p l e R s m args below meth c T locs cells' slots' :=
  ⟨X.admits, X.cas, X.clock, X.frames, X.room, X.hears, X.method, X.code, X.here, X.tail, X.warmed, X.limits, X.bytes, X.same.mono h1 h2⟩
theorem own_hide (X : Stand p l e R s m args below meth c T locs cells slots) {n0 : Nat} (N : Fr n0 locs) : ∃ L, Stand p l e R s m args below meth c T L cells slots ∧ Fr n0 L := ⟨_, X, N⟩
end Own
def Go (tb : Tables) (e : Env) (below : List Frame) (P : Outcome → State → Prop) (T : State) (f : JFrame) : Prop :=
  ∃ s₂ o, Steps tb e below (T.setTop f) s₂ ∧ s₂.status = .running ∧ Ended s₂ below o ∧ P o s₂
theorem Go.via {tb : Tables} {e : Env} {below : List Frame} {P : Outcome → State → Prop} {T T' : State} {f f' : JFrame} (st : ∀ t, Steps tb e below (T'.setTop f') t → Steps tb e below (T.setTop f) t) (k : Go tb e below P T' f') : Go tb e below P T f := by
  obtain ⟨s₂, o, h, r⟩ := k; exact ⟨s₂, o, st _ h, r⟩
theorem Go.hop {tb : Tables} {e : Env} {below : List Frame} {P : Outcome → State → Prop} {T T' : State} {f f' : JFrame} (st : Steps tb e below (T.setTop f) (T'.setTop f')) (k : Go tb e below P T' f') : Go tb e below P T f := by
  obtain ⟨s₂, o, h, r⟩ := k; exact ⟨s₂, o, st.trans h, r⟩
theorem own_nin0 {a : Addr} : a ∉ ([] : List Addr) := fun q => nomatch q
theorem own_ninC {a b : Addr} {l : List Addr} (h : a ≠ b) (h' : a ∉ l) : a ∉ b :: l := fun q => (List.mem_cons.mp q).elim h h'
theorem own_nb {x : Int32} (h : x = 0 ∨ x = 1) : nar .boolean x = x := by rcases h with rfl | rfl <;> rfl
theorem own_nnb {x : Int32} (h : x = 0 ∨ x = 1) : narrow .boolean (.int x) = .int x := by rcases h with rfl | rfl <;> rfl
theorem own_fb {x : Int32} (h : x = 0 ∨ x = 1) : fits .boolean (.int x) = true := by rcases h with rfl | rfl <;> rfl
theorem own_all0 {P : Addr → Prop} : ∀ x ∈ ([] : List Addr), P x := fun _ q => nomatch q
theorem own_allC {P : Addr → Prop} {a : Addr} {l : List Addr} (h : P a) (h' : ∀ x ∈ l, P x) : ∀ x ∈ a :: l, P x := fun x q => (List.mem_cons.mp q).elim (fun e => e ▸ h) (h' x)
theorem own_dc0 : FP.dconst0 = FP.l2d (0 : Int64) := by decide +kernel
theorem own_dc1 : FP.dconst1 = FP.l2d (1 : Int64) := by decide +kernel
theorem own_m0 {k : Int32} : ∀ p ∈ ([] : List (Int × Int)), p.1 ≠ k.toInt := fun _ q => nomatch q
theorem own_mC {k x : Int32} {a o : Int} {l : List (Int × Int)} (h : ¬ k = x) (hx : x.toInt = a) (t : ∀ p ∈ l, p.1 ≠ k.toInt) : ∀ p ∈ (a, o) :: l, p.1 ≠ k.toInt := fun p q => (List.mem_cons.mp q).elim (fun e r => h (Int32.toInt_inj.mp (by rw [hx, ← r, e]))) (t p)
theorem own_cat {v : Value} (h : v.isRef = true) : v.category = 1 := by rcases ref_cases h with rfl | ⟨a, rfl⟩ <;> rfl
theorem own_nat {n : Nat} (h : n < 2147483648) : n.toInt32.toInt = n := len_toInt h
theorem own_ltN {i n : Nat} (hi : i < 2147483648) (hn : n < 2147483648) : i.toInt32 < n.toInt32 ↔ i < n := by
  rw [Int32.lt_iff_toInt_lt, own_nat hi, own_nat hn]; omega
theorem own_succ (i : Nat) : i.toInt32 + 1 = (i + 1).toInt32 := (Int32.ofNat_add i 1).symm
theorem own_nneg {i : Nat} (hi : i < 2147483648) : ¬ i.toInt32 < 0 := by
  rw [Int32.lt_iff_toInt_lt, own_nat hi]; simp
theorem own_clamp {i : Nat} (hi : i < 2147483648) : i.toInt32.toNatClampNeg = i := by
  show i.toInt32.toInt.toNat = i
  rw [own_nat hi]; rfl
end Jvm.RoadKit
namespace Jvm.Pilot.@@N@@
open Jvm Jvm.ClassFile Sem Op Lib Jvm.Free Jvm.Stand Jvm.LawKit Jvm.RoadKit Bundle Jvm.Pilot.@@N@@.Jvm.D
theorem own_ieq {t : Term} {args : Array Value} {s : State} {k : Int32} (h : (Jvm.Cond.eq t (.int k)).value args s none s [] = some true) : t.eval args s none [] s = some (.int k) := by
  obtain ⟨x, y, e1, e2, k1, k2⟩ := cmp_v (Or.inl h)
  cases (Term.int_eval k).symm.trans e2
  obtain ⟨z, rfl⟩ := k2
  have q := gotT (Cond.eq_ints e1 (Term.int_eval k)) h
  rw [e1, q]
theorem own_len {t : Term} {args : Array Value} {s : State} {k : Int32} {a : Addr} {c : Cell} {ty : FieldType} (ev : t.eval args s none [] s = some (.ref a)) (A : Arr s s.heap a c ty) (h : (Jvm.Cond.eq (.length t) (.int k)).value args s none s [] = some true) : c.slots.size < 2 ^ 31 ∧ c.slots.size.toInt32 = k := by
  have e1 := own_ieq h
  obtain ⟨x, c', e2, e3, e4, e5⟩ := Jvm.Free.SB.Term.length_small e1
  cases ev.symm.trans e2
  cases (IntBox.arrayAt_of A.1 A.2.1 A.2.2).symm.trans e3
  exact ⟨e5, (Value.int.inj e4).symm⟩
theorem own_el {t : Term} {args : Array Value} {s : State} {j k : Int32} {a : Addr} {c : Cell} {ty : FieldType} (ev : t.eval args s none [] s = some (.ref a)) (A : Arr s s.heap a c ty) (h : (Jvm.Cond.eq (.elem t (.int j)) (.int k)).value args s none s [] = some true) : c.slots[j.toNatClampNeg]? = some (.int k) := by
  have e1 := own_ieq h
  exact (elem_in e1 ev (Term.int_eval j) A.1).2
theorem own_ch (x : Int32) : ¬ nar .char ((x &&& (255 : Int32)).toUInt32.toUInt16.toUInt32.toInt32) < 0 ∧ ¬ (255 : Int32) < nar .char ((x &&& (255 : Int32)).toUInt32.toUInt16.toUInt32.toInt32) := by
  show ¬ ((x &&& (255 : Int32)).toUInt32.toUInt16.toUInt32.toInt32).toUInt32.toUInt16.toUInt32.toInt32 < 0 ∧ ¬ (255 : Int32) < ((x &&& (255 : Int32)).toUInt32.toUInt16.toUInt32.toInt32).toUInt32.toUInt16.toUInt32.toInt32
  rw [i2c_mask, i2c_mask, Int32.lt_iff_toInt_lt, Int32.lt_iff_toInt_lt]
  have := c_and x 255 (by decide)
  have e1 : (255 : Int32).toInt = 255 := rfl
  have e2 : (0 : Int32).toInt = 0 := rfl
  omega
theorem own_al0 {P : Int32 → Prop} : ∀ c ∈ ([] : List Int32), P c := fun _ q => nomatch q
theorem own_alC {P : Int32 → Prop} {a : Int32} {l : List Int32} (h : P a) (h' : ∀ x ∈ l, P x) : ∀ x ∈ a :: l, P x := fun x q => (List.mem_cons.mp q).elim (fun e => e ▸ h) (h' x)
theorem own_ws {a0 : Array Value} {Z : State} (hw : ∀ d ∈ tables_1, d.before a0 Z = true) : ∀ d ∈ StrChars.Road.words, d.before a0 Z = true := fun d hd => hw d ((by decide +kernel : ∀ d ∈ StrChars.Road.words, d ∈ tables_1) d hd)
theorem own_shr0 (x : Int32) : x >>> ((0 : Int32) &&& 31) = x := by
  rw [← Int32.toInt_inj, c_ishr x 0 0 (by decide)]; simp
theorem own_b2c (x : Int32) : nar .char ((x &&& (255 : Int32)).toUInt32.toUInt16.toUInt32.toInt32) = x &&& 255 := by
  show ((x &&& (255 : Int32)).toUInt32.toUInt16.toUInt32.toInt32).toUInt32.toUInt16.toUInt32.toInt32 = _
  rw [i2c_mask, i2c_mask]
theorem own_nc (x : Int32) : nar .char (x &&& (255 : Int32)) = x &&& 255 := by
  show (x &&& (255 : Int32)).toUInt32.toUInt16.toUInt32.toInt32 = _
  rw [i2c_mask]
theorem own_sa {a0 : Array Value} {Z : State} (hw : ∀ d ∈ tables_1, d.before a0 Z = true) : ∀ a ∈ Bundle.stringAtoms, a.before a0 Z = true := fun d hd => by
  simp only [Bundle.stringAtoms, List.mem_cons, List.not_mem_nil, or_false] at hd
  rcases hd with rfl | rfl | rfl | rfl | rfl | rfl | rfl
  · exact hw _ (List.mem_of_getElem? (i := 13) rfl)
  · exact hw _ (List.mem_of_getElem? (i := 12) rfl)
  · exact hw _ (List.mem_of_getElem? (i := 30) rfl)
  · exact hw _ (List.mem_of_getElem? (i := 40) rfl)
  · exact hw _ (List.mem_of_getElem? (i := 38) rfl)
  · exact hw _ (List.mem_of_getElem? (i := 42) rfl)
  · exact hw _ (List.mem_of_getElem? (i := 43) rfl)
theorem own_EW {a0 : Array Value} {Z : State} (hw : ∀ d ∈ tables_1, d.before a0 Z = true) : EW Z a0 consts_1 := (EW.cons (hw _ (List.mem_of_getElem? (i := 50) rfl)) (by decide) (EW.cons (hw _ (List.mem_of_getElem? (i := 41) rfl)) (by decide) EW.nil))
theorem own_rew {s t : State} {o : Outcome} {L : List Loc} {k n k' n' : Nat} (h : ReturnedEndW s o t L k n) (h1 : k ≤ k') (h2 : n ≤ n') : ReturnedEndW s o t L k' n' := ⟨h.1, h.2.1, h.2.2.1, h.2.2.2.mono h1 h2⟩
theorem own_safeS {Z : State} {EL : List (String × Nat)} {vm : Vm} {h : Heap} {x : Addr} (hal : Z.vm.Alike vm) (E : Exa Z h x "java/lang/String") (F : Fld Z h x "java/lang/String" "value" "[B" .null) : Safe Z EL vm h x := fun B => by
  obtain ⟨cell, k, e1, e2, e3, -, -⟩ := E
  obtain ⟨cell', cf, kf, i, f, f1, f2, -, -, -, -, f7⟩ := F
  cases e1.symm.trans f1
  obtain ⟨p, -, u, a, -, q, -, G, rfl | rfl⟩ := B
  · cases (show h[q.sa]? = some q.sC from G.ha).symm.trans e1
    obtain ⟨cS, ⟨⟨s1, s2, s3, ⟨cv, kv, iv, s4, s4'⟩, -, -, -, s8, -⟩, -⟩, -⟩ := G
    obtain ⟨kv', z4⟩ := ff_back (U := Wst Z vm h) hal s4
    cases f2.symm.trans z4
    cases f7.symm.trans s8
  · cases (show h[q.sd]? = some q.SA from G.hd).symm.trans e1
    obtain ⟨cS, -, -, hf, -⟩ := G
    have hf : vm.findClass "[B" = some q.SA.cls := hf
    rw [hal.findClass] at hf
    obtain ⟨k1, q1, q2⟩ := Vm.findClass_spec hf
    obtain ⟨k2, q3, q4⟩ := Vm.findClass_spec e2
    cases q1.symm.trans q3
    exact absurd (q2.symm.trans q4) (by decide)
def own_lg (bl : List Int32) : Int32 := bl.length.toInt32
theorem own_gD (l : List Int32) (i : Nat) : (l.map Value.int).getD i (.int (0 : Int32)) = .int (l.getD i 0) := by
  induction l generalizing i with
  | nil => rfl
  | cons a l ih => cases i with
    | zero => rfl
    | succ i => exact ih i
theorem own_lgj {x z : List Int32} (hx : x.length ≤ 1000) (hz : z.length ≤ 1000) (h : own_lg x = own_lg z) : x.length = z.length := by
  have q := congrArg Int32.toInt h
  unfold own_lg at q
  rw [own_nat (by omega), own_nat (by omega)] at q
  omega
theorem own_eqg {x z : List Int32} (hl : x.length = z.length) (h : ∀ j, j < x.length → x.getD j 0 = z.getD j 0) : x = z :=
  List.ext_getElem hl fun j h1 h2 => by
    have q := h j h1
    rwa [List.getD_eq_getElem?_getD, List.getD_eq_getElem?_getD, List.getElem?_eq_getElem h1, List.getElem?_eq_getElem h2] at q
theorem own_pre {x z : List Int32} {i : Nat} (h : ∀ j, j < i → x.getD j 0 = z.getD j 0) (h1 : x.getD i 0 = z.getD i 0) : ∀ j, j < i + 1 → x.getD j 0 = z.getD j 0 := fun j q => by
  by_cases e : j = i
  · subst e; exact h1
  · exact h j (by omega)
theorem own_i0 {p : Prop} [Decidable p] (h : (if p then (1 : Int32) else (0 : Int32)) = 0) : ¬ p := fun q => by rw [if_pos q] at h; exact absurd h (by decide)
theorem own_i1 {p : Prop} [Decidable p] (h : ¬ (if p then (1 : Int32) else (0 : Int32)) = 0) : p := Decidable.byContradiction fun q => h (if_neg q)
def own_B (c : Int32) : Int32 := (nar .char c).toInt8.toInt32
def own_mk (n a b c : Int32) : List Int32 := if n = (0 : Int32) then [] else if n = (1 : Int32) then [own_B a] else if n = (2 : Int32) then [own_B a, own_B b] else [own_B a, own_B b, own_B c]
def own_by (c : Int32) : Prop := 0 ≤ c.toInt ∧ c.toInt ≤ 255
theorem own_byc (x : Int32) : own_by ((x &&& (255 : Int32)).toUInt32.toUInt16.toUInt32.toInt32) := by
  rw [i2c_mask]; exact c_and x 255 (by decide)
theorem own_nby {c : Int32} (h : own_by c) : nar .char c = c := by
  show c.toUInt32.toUInt16.toUInt32.toInt32 = c
  have q := c_i2c c
  obtain ⟨h1, h2⟩ := h
  rw [← Int32.toInt_inj]; omega
theorem own_hp {c : Int32} (h : own_by c) : ¬ nar .char c < 0 ∧ ¬ (255 : Int32) < nar .char c := by
  rw [own_nby h, Int32.lt_iff_toInt_lt, Int32.lt_iff_toInt_lt]
  obtain ⟨h1, h2⟩ := h
  have e1 : (255 : Int32).toInt = 255 := rfl
  have e2 : (0 : Int32).toInt = 0 := rfl
  omega
theorem own_Binj {a b : Int32} (ha : own_by a) (hb : own_by b) (h : own_B a = own_B b) : a = b := by
  unfold own_B at h
  rw [own_nby ha, own_nby hb] at h
  have q := congrArg Int32.toInt h
  have q1 := c_i2b a
  have q2 := c_i2b b
  obtain ⟨h1, h2⟩ := ha
  obtain ⟨h3, h4⟩ := hb
  rw [← Int32.toInt_inj]; omega
theorem own_n4 (x : Int32) : (x &&& (3 : Int32)) = 0 ∨ (x &&& (3 : Int32)) = 1 ∨ (x &&& (3 : Int32)) = 2 ∨ (x &&& (3 : Int32)) = 3 := by
  have q := c_and x 3 (by decide)
  have e3 : (3 : Int32).toInt = 3 := rfl
  have : (x &&& (3 : Int32)).toInt = 0 ∨ (x &&& (3 : Int32)).toInt = 1 ∨ (x &&& (3 : Int32)).toInt = 2 ∨ (x &&& (3 : Int32)).toInt = 3 := by omega
  rcases this with h | h | h | h
  · exact Or.inl (Int32.toInt_inj.mp h)
  · exact Or.inr (Or.inl (Int32.toInt_inj.mp h))
  · exact Or.inr (Or.inr (Or.inl (Int32.toInt_inj.mp h)))
  · exact Or.inr (Or.inr (Or.inr (Int32.toInt_inj.mp h)))
def own_four (n : Int32) : Prop := n = 0 ∨ n = 1 ∨ n = 2 ∨ n = 3
theorem own_mkl (n a b c : Int32) : (own_mk n a b c).length ≤ 1000 := by
  unfold own_mk; split
  · simp
  · split
    · simp
    · split <;> simp
theorem own_mkq (n a b c : Int32) : (own_mk n a b c).length = if n = (0 : Int32) then 0 else if n = (1 : Int32) then 1 else if n = (2 : Int32) then 2 else 3 := by
  unfold own_mk; split
  · rfl
  · split
    · rfl
    · split <;> rfl
theorem own_e0 (a b c : Int32) : own_mk 0 a b c = [] := if_pos rfl
theorem own_e1 (a b c : Int32) : own_mk 1 a b c = [own_B a] := by unfold own_mk; rw [if_neg (by decide), if_pos rfl]
theorem own_e2 (a b c : Int32) : own_mk 2 a b c = [own_B a, own_B b] := by unfold own_mk; rw [if_neg (by decide), if_neg (by decide), if_pos rfl]
theorem own_e3 (a b c : Int32) : own_mk 3 a b c = [own_B a, own_B b, own_B c] := by unfold own_mk; rw [if_neg (by decide), if_neg (by decide), if_neg (by decide)]
theorem own_mkn {n m a b c d e f : Int32} (h1 : own_four n) (h2 : own_four m) (h : own_mk n a b c = own_mk m d e f) : n = m := by
  rcases h1 with rfl | rfl | rfl | rfl <;> rcases h2 with rfl | rfl | rfl | rfl <;> first
    | rfl
    | (exfalso; have q := congrArg List.length h; rw [own_mkq, own_mkq] at q; revert q; decide)
theorem own_mk0 {n m a b c d e f : Int32} (h1 : own_four n) (hm : n = m) (hl : ¬ n < 1) (h : own_mk n a b c = own_mk m d e f) : own_B a = own_B d := by
  subst hm
  rcases h1 with rfl | rfl | rfl | rfl
  · exact absurd hl (by decide)
  all_goals exact (List.cons.inj h).1
theorem own_mk1 {n m a b c d e f : Int32} (h1 : own_four n) (hm : n = m) (hl : ¬ n < 2) (h : own_mk n a b c = own_mk m d e f) : own_B b = own_B e := by
  subst hm
  rcases h1 with rfl | rfl | rfl | rfl
  · exact absurd hl (by decide)
  · exact absurd hl (by decide)
  all_goals exact (List.cons.inj (List.cons.inj h).2).1
theorem own_mk2 {n m a b c d e f : Int32} (h1 : own_four n) (hm : n = m) (hl : ¬ n < 3) (h : own_mk n a b c = own_mk m d e f) : own_B c = own_B f := by
  subst hm
  rcases h1 with rfl | rfl | rfl | rfl
  · exact absurd hl (by decide)
  · exact absurd hl (by decide)
  · exact absurd hl (by decide)
  all_goals exact (List.cons.inj (List.cons.inj (List.cons.inj h).2).2).1
theorem own_mke {n m a b c d e f : Int32} (h1 : own_four n) (hm : n = m) (ha : n < 1 ∨ a = d) (hb : n < 2 ∨ b = e) (hc : n < 3 ∨ c = f) : own_mk n a b c = own_mk m d e f := by
  subst hm
  rcases h1 with rfl | rfl | rfl | rfl
  · rw [own_e0, own_e0]
  · rw [own_e1, own_e1, ha.resolve_left (by decide)]
  · rw [own_e2, own_e2, ha.resolve_left (by decide), hb.resolve_left (by decide)]
  · rw [own_e3, own_e3, ha.resolve_left (by decide), hb.resolve_left (by decide), hc.resolve_left (by decide)]
theorem own_fne {Z : State} {h : Heap} {a b : Addr} {C f d : String} {x y : Int32} (F : Fld Z h a C f d (.int x)) (G : Fld Z h b C f d (.int y)) (hn : x ≠ y) : a ≠ b := fun e => by
  subst e
  obtain ⟨cell, cf, kf, i, g, f1, f2, -, -, -, -, f7⟩ := F
  obtain ⟨cell', cf', kf', i', g', g1, g2, -, -, -, -, g7⟩ := G
  cases f1.symm.trans g1
  cases f2.symm.trans g2
  exact hn (Value.int.inj (Option.some.inj (f7.symm.trans g7)))
theorem own_rem6 (x : Int32) : True := trivial
theorem own_pn0 : plainName "java/lang/String" = true := by first | (simp [plainName, overriddenIn]; done) | decide +kernel
theorem d4_0 : decode jdk_42_method_149_code 0 = .ok (.aload_n 0, 1) := by decide +kernel
theorem d4_1 : decode jdk_42_method_149_code 1 = .ok (.invokespecial 1, 3) := by decide +kernel
theorem d4_4 : decode jdk_42_method_149_code 4 = .ok (.iload_n 3, 1) := by decide +kernel
theorem d4_5 : decode jdk_42_method_149_code 5 = .ok (.ifCond .ne 22, 3) := by decide +kernel
theorem d4_8 : decode jdk_42_method_149_code 8 = .ok (.aload_n 0, 1) := by decide +kernel
theorem d4_9 : decode jdk_42_method_149_code 9 = .ok (.ldc 7, 2) := by decide +kernel
theorem d4_11 : decode jdk_42_method_149_code 11 = .ok (.getfield 9, 3) := by decide +kernel
theorem d4_14 : decode jdk_42_method_149_code 14 = .ok (.putfield 9, 3) := by decide +kernel
theorem d4_17 : decode jdk_42_method_149_code 17 = .ok (.aload_n 0, 1) := by decide +kernel
theorem d4_18 : decode jdk_42_method_149_code 18 = .ok (.ldc 7, 2) := by decide +kernel
theorem d4_20 : decode jdk_42_method_149_code 20 = .ok (.getfield 15, 3) := by decide +kernel
theorem d4_23 : decode jdk_42_method_149_code 23 = .ok (.putfield 15, 3) := by decide +kernel
theorem d4_26 : decode jdk_42_method_149_code 26 = .ok (.return_, 1) := by decide +kernel
theorem ef_4 (m : MethodId) (x0 : Addr) (x1 : Addr) : entryFrame m #[(.ref x0), (.ref x1), (.int (0 : Int32)), (.int (0 : Int32)), .null] 6 = mkF m 0 #[.val (.ref x0), .val (.ref x1), .val (.int (0 : Int32)), .val (.int (0 : Int32)), .val .null, .unset] [] := by first | (simp [entryFrame, mkF, argsToLocals, Value.category]; done) | rfl
def Q4 (Z : State) (oa : Addr) (ob : Addr) (h0 : Heap) (n0 : Nat) (v : Option Value) (h : Heap) (L : List Loc) : Prop := ∃ (tb : Addr) (kk : ClassId), v = none ∧ Fr n0 L ∧ Keep h0 h [oa] ∧ Exa Z h oa "java/lang/String" ∧ Fld Z h oa "java/lang/String" "value" "[B" (.ref tb) ∧ Fld Z h oa "java/lang/String" "coder" "B" (.int (0 : Int32)) ∧ Arv Z h tb kk .byte (0 : Int32) [] (.int (0 : Int32)) ∧ (tb < h.size) ∧ (oa ≠ tb)
set_option maxRecDepth 65536 in
set_option maxHeartbeats 40000000 in
theorem rm4 (l : Launch) (Z : State) (a0 : Array Value) (hw : ∀ d ∈ tables_1, d.before a0 Z = true) (ws : List Jvm.Cond) (oa : Addr) (ob : Addr) (h0 : Heap) (n0 : Nat) (Z0 : n0 ≤ h0.size) (P0 : Exa Z h0 oa "java/lang/String") (P1 : Fld Z h0 oa "java/lang/String" "value" "[B" .null) (P2 : Fld Z h0 oa "java/lang/String" "coder" "B" (.int (0 : Int32))) (ga : n0 ≤ oa) :
    MetFree l (⟨"java/lang/String", "<init>", "([CIILjava/lang/Void;)V"⟩ : MethodName) (head1 (Jvm.Cond.code (⟨"java/lang/String", "<init>", "([CIILjava/lang/Void;)V"⟩ : MethodName) jdk_42_method_149_code 6 none :: ws) ({ frames := 1, cells := 4, slots := 8, locals := 12 } : Room)) (fun a U => a = #[(.ref oa), (.ref ob), (.int (0 : Int32)), (.int (0 : Int32)), .null] ∧ Z.Warmed39 U.vm ∧ U.heap = h0 ∧ CHv Z consts_1 U.vm h0) (fun _ _ _ _ _ => True) (fun _ U o U' => ∃ v L, o = .returned v ∧ Q4 Z oa ob h0 n0 v U'.heap L ∧ CHr Z consts_1 U.vm U.heap U'.vm U'.heap ∧ ReturnedEndW U o U' L ({ frames := 1, cells := 4, slots := 8, locals := 12 } : Room).cells ({ frames := 1, cells := 4, slots := 8, locals := 12 } : Room).slots) := by
  refine MetFree.of_bodySF (plainFor_of_name own_pn0) hisR ?_
  intro p e s m args below meth c s₁ Bd hml0 hP hK
  obtain ⟨rfl, hZ, hh, hCH0⟩ := hP
  have hx := Bd.exec
  have hby := Bd.bytes
  have hml : c.maxLocals = 6 := hml0
  have hown : s.vm.findClass "java/lang/String" = some m.cls := findClass_of_methodNamed Bd.named
  have hnm := (name_of_methodNamed Bd.named Bd.method).1
  have X0 : Stand p l e ({ frames := 1, cells := 4, slots := 8, locals := 12 } : Room) s m #[(.ref oa), (.ref ob), (.int (0 : Int32)), (.int (0 : Int32)), .null] below meth c s₁ [] 0 0 := Stand.of_body Bd
  have X0 : Stand p l e ({ frames := 1, cells := 4, slots := 8, locals := 12 } : Room) (s.setVm s.vm) m #[(.ref oa), (.ref ob), (.int (0 : Int32)), (.int (0 : Int32)), .null] below meth c s₁ [] 0 0 := X0
  have hZ : Z.Warmed39 (s.setVm s.vm).vm := hZ
  have hown : (s.setVm s.vm).vm.findClass "java/lang/String" = some m.cls := hown
  have hS0 : s.Since s.vm 0 := State.WarmedH.since (State.WarmedH.refl s) 0
  have CR0 : CHr Z consts_1 s.vm h0 s.vm h0 := CHr.refl hCH0
  have e0 : s₁.heap = h0 := by rw [← hh, Bd.state]; rfl
  have N0 := Fr.nil n0
  have K0 : Keep h0 h0 [oa] := Keep.refl _ _
  suffices GO : ∀ P : Outcome → State → Prop, (∀ o U', (∃ v L, o = .returned v ∧ Q4 Z oa ob h0 n0 v U'.heap L ∧ CHr Z consts_1 s.vm s.heap U'.vm U'.heap ∧ ReturnedEndW s o U' L ({ frames := 1, cells := 4, slots := 8, locals := 12 } : Room).cells ({ frames := 1, cells := 4, slots := 8, locals := 12 } : Room).slots) → P o U') → Go p.tables e below P s₁ (mkF m 0 #[.val (.ref oa), .val (.ref ob), .val (.int (0 : Int32)), .val (.int (0 : Int32)), .val .null, .unset] []) by
    obtain ⟨s2, o, st, r⟩ := GO _ (fun _ _ q => q)
    exact ⟨s2, o, castTop (ef_4 m oa ob) st, r⟩
  intro P hP
  show Go p.tables e below P s₁ (mkF m 0 #[.val (.ref oa), .val (.ref ob), .val (.int (0 : Int32)), .val (.int (0 : Int32)), .val .null, .unset] [])
  refine Go.via (fun t k => XS.aloadN X0.here hx rfl (hb hby d4_0) rfl rfl k) ?_
  show Go p.tables e below P s₁ (mkF m 1 #[.val (.ref oa), .val (.ref ob), .val (.int (0 : Int32)), .val (.int (0 : Int32)), .val .null, .unset] [(.ref oa)])
  obtain ⟨T1, X1, e1, st1⟩ := initO X0 hx hZ hown (hw _ (List.mem_of_getElem? (i := 22) rfl)) (hw _ (List.mem_of_getElem? (i := 23) rfl)) (hw _ (List.mem_of_getElem? (i := 24) rfl)) e0 (g := (mkF m 1 #[.val (.ref oa), .val (.ref ob), .val (.int (0 : Int32)), .val (.int (0 : Int32)), .val .null, .unset] [(.ref oa)])) rfl (by rw [hml]; rfl) rfl (hb hby d4_1) (by decide) (W := 0) (by show 2 * 0 + _ ≤ _; exact Nat.le_of_eq rfl) (by decide)
  refine Go.via st1 ?_
  show Go p.tables e below P T1 (mkF m 4 #[.val (.ref oa), .val (.ref ob), .val (.int (0 : Int32)), .val (.int (0 : Int32)), .val .null, .unset] [])
  refine Go.via (fun t k => XS.iloadN X1.here hx rfl (hb hby d4_4) rfl k) ?_
  show Go p.tables e below P T1 (mkF m 5 #[.val (.ref oa), .val (.ref ob), .val (.int (0 : Int32)), .val (.int (0 : Int32)), .val .null, .unset] [(.int (0 : Int32))])
  refine Go.via (fun t k => XS.ifNo X1.here hx rfl (hb hby d4_5) rfl ((if0 _ _).trans (teq (rfl : (0 : Int32) = (0 : Int32))).2) k) ?_
  show Go p.tables e below P T1 (mkF m 8 #[.val (.ref oa), .val (.ref ob), .val (.int (0 : Int32)), .val (.int (0 : Int32)), .val .null, .unset] [])
  refine Go.via (fun t k => XS.aloadN X1.here hx rfl (hb hby d4_8) rfl rfl k) ?_
  show Go p.tables e below P T1 (mkF m 9 #[.val (.ref oa), .val (.ref ob), .val (.int (0 : Int32)), .val (.int (0 : Int32)), .val .null, .unset] [(.ref oa)])
  obtain ⟨a2, T2, h2, kn2, b2, kb2, X2, e2, E2, hS2, hk2, hZ, hown, Ex2, Fc2, Fv2, Va2, lta2, ltb2, hC2, -, ne2, st2⟩ := ldcCH X1 hx hZ hown (hw _ (List.mem_of_getElem? (i := 41) rfl)) (own_sa hw) e1 hS0 (Nat.zero_le _) (own_EW hw) (by decide : (("java/lang/String", 7) : String × Nat) ∈ consts_1) CR0.1 (vs := []) (z := (0 : Int32)) ⟨by decide, rfl⟩ (by decide) rfl (g := (mkF m 9 #[.val (.ref oa), .val (.ref ob), .val (.int (0 : Int32)), .val (.int (0 : Int32)), .val .null, .unset] [(.ref oa)])) rfl (hb hby d4_9) (n := 0) (by decide) (by decide) (by decide) (by decide)
  refine Go.via st2 ?_
  have CR3 := CHr.trans CR0 hC2
  have Z4 : n0 ≤ h2.size := Nat.le_trans Z0 E2.1
  have K5 : Keep h0 h2 [oa] := K0.ext E2
  have F6 : Exa Z h2 oa "java/lang/String" := (P0.ext E2)
  have F7 : Fld Z h2 oa "java/lang/String" "value" "[B" .null := (P1.ext E2)
  have nq8 := (ne2 _ (own_safeS hZ.alike F6 F7)).1
  have nq9 := (ne2 _ (own_safeS hZ.alike F6 F7)).2
  show Go p.tables e below P T2 (mkF m 11 #[.val (.ref oa), .val (.ref ob), .val (.int (0 : Int32)), .val (.int (0 : Int32)), .val .null, .unset] [(.ref a2), (.ref oa)])
  obtain ⟨T10, X10, e10, st10⟩ := getF X2 hx hZ hown (host := "") (Or.inl (hw _ (List.mem_of_getElem? (i := 39) rfl))) Via.refl e2 Fv2 (g := (mkF m 11 #[.val (.ref oa), .val (.ref ob), .val (.int (0 : Int32)), .val (.int (0 : Int32)), .val .null, .unset] [(.ref a2), (.ref oa)])) rfl rfl (hb hby d4_11)
  refine Go.via st10 ?_
  show Go p.tables e below P T10 (mkF m 14 #[.val (.ref oa), .val (.ref ob), .val (.int (0 : Int32)), .val (.int (0 : Int32)), .val .null, .unset] [(.ref b2), (.ref oa)])
  have F11 : Fld Z h2 oa "java/lang/String" "coder" "B" (.int (0 : Int32)) := (P2.ext E2)
  obtain ⟨T12, h12, X12, e12, W12, st12⟩ := putF X10 hx hZ hown (host := "") (Or.inl (hw _ (List.mem_of_getElem? (i := 39) rfl))) Via.refl e10 F7 F6 (Or.inr ⟨(hw _ (List.mem_of_getElem? (i := 40) rfl)), rfl, hnm⟩) (hw _ (List.mem_of_getElem? (i := 12) rfl)) (ty := (.array .byte)) (by decide) rfl rfl (g := (mkF m 14 #[.val (.ref oa), .val (.ref ob), .val (.int (0 : Int32)), .val (.int (0 : Int32)), .val .null, .unset] [(.ref b2), (.ref oa)])) rfl rfl (hb hby d4_14)
  refine Go.via st12 ?_
  have Z13 : n0 ≤ h12.size := Nat.le_trans Z4 (Nat.le_of_eq W12.size.symm)
  have K14 : Keep h0 h12 [oa] := K5.wr W12 (Or.inl (List.mem_of_getElem? (i := 0) rfl))
  obtain ⟨lc12, Xh12, N15⟩ := own_hide X12 (Fr.snoc X12 N0 ga)
  clear X12
  have Sf12 := Safe.wr W12 (own_safeS hZ.alike F6 F7) CR3.1 (own_safeS hZ.alike F6 F7)
  have CR16 := CHr.trans CR3 (CHr.wr W12 (own_safeS hZ.alike F6 F7) CR3.1)
  have hk17 := Nat.le_trans hk2 (Nat.le_of_eq W12.size.symm)
  have Fw12 := F7.same W12
  show Go p.tables e below P T12 (mkF m 17 #[.val (.ref oa), .val (.ref ob), .val (.int (0 : Int32)), .val (.int (0 : Int32)), .val .null, .unset] [])
  refine Go.via (fun t k => XS.aloadN Xh12.here hx rfl (hb hby d4_17) rfl rfl k) ?_
  show Go p.tables e below P T12 (mkF m 18 #[.val (.ref oa), .val (.ref ob), .val (.int (0 : Int32)), .val (.int (0 : Int32)), .val .null, .unset] [(.ref oa)])
  have F18 : Exa Z h12 oa "java/lang/String" := (F6.wr W12)
  have F19 : Fld Z h12 oa "java/lang/String" "coder" "B" (.int (0 : Int32)) := (F11.other W12 (Or.inr (slot_ne (Or.inr (hw _ (List.mem_of_getElem? (i := 38) rfl))) (Or.inr (hw _ (List.mem_of_getElem? (i := 40) rfl))) (by decide) (t := .byte) (t' := (.array .byte)) (by decide) (by decide))))
  have F20 : Exa Z h12 a2 "java/lang/String" := (Ex2.wr W12)
  have F21 : Fld Z h12 a2 "java/lang/String" "coder" "B" (.int (0 : Int32)) := (Fc2.other W12 (Or.inl (Ne.symm nq8)))
  have F22 : Fld Z h12 a2 "java/lang/String" "value" "[B" (.ref b2) := (Fv2.other W12 (Or.inl (Ne.symm nq8)))
  have F23 : Arv Z h12 b2 kb2 .byte (0 : Int32) [] (.int (0 : Int32)) := (Va2.other W12 (Ne.symm nq9))
  obtain ⟨a24, T24, h24, kn24, b24, kb24, X24, e24, E24, hS24, hk24, hZ, hown, Ex24, Fc24, Fv24, Va24, lta24, ltb24, hC24, -, ne24, st24⟩ := ldcCH Xh12 hx hZ hown (hw _ (List.mem_of_getElem? (i := 41) rfl)) (own_sa hw) e12 hS2 hk17 (own_EW hw) (by decide : (("java/lang/String", 7) : String × Nat) ∈ consts_1) CR16.1 (vs := []) (z := (0 : Int32)) ⟨by decide, rfl⟩ (by decide) rfl (g := (mkF m 18 #[.val (.ref oa), .val (.ref ob), .val (.int (0 : Int32)), .val (.int (0 : Int32)), .val .null, .unset] [(.ref oa)])) rfl (hb hby d4_18) (n := 0) (by decide) (by decide) (by decide) (by decide)
  refine Go.via st24 ?_
  have Sf25 := CHr.safe hC24 F18.lt Sf12
  have CR26 := CHr.trans CR16 hC24
  have Z27 : n0 ≤ h24.size := Nat.le_trans Z13 E24.1
  have K28 : Keep h0 h24 [oa] := K14.ext E24
  have nq29 := (ne24 _ Sf25).1
  have nq30 := (ne24 _ Sf25).2
  show Go p.tables e below P T24 (mkF m 20 #[.val (.ref oa), .val (.ref ob), .val (.int (0 : Int32)), .val (.int (0 : Int32)), .val .null, .unset] [(.ref a24), (.ref oa)])
  obtain ⟨T31, X31, e31, st31⟩ := getF X24 hx hZ hown (host := "") (Or.inl (hw _ (List.mem_of_getElem? (i := 37) rfl))) Via.refl e24 Fc24 (g := (mkF m 20 #[.val (.ref oa), .val (.ref ob), .val (.int (0 : Int32)), .val (.int (0 : Int32)), .val .null, .unset] [(.ref a24), (.ref oa)])) rfl rfl (hb hby d4_20)
  refine Go.via st31 ?_
  show Go p.tables e below P T31 (mkF m 23 #[.val (.ref oa), .val (.ref ob), .val (.int (0 : Int32)), .val (.int (0 : Int32)), .val .null, .unset] [(.int (0 : Int32)), (.ref oa)])
  have F32 : Exa Z h24 oa "java/lang/String" := (F18.ext E24)
  have F33 : Fld Z h24 oa "java/lang/String" "coder" "B" (.int (0 : Int32)) := (F19.ext E24)
  have F34 : Fld Z h24 oa "java/lang/String" "value" "[B" (.ref b2) := (Fw12.ext E24)
  have F35 : Exa Z h24 a2 "java/lang/String" := (F20.ext E24)
  have F36 : Fld Z h24 a2 "java/lang/String" "coder" "B" (.int (0 : Int32)) := (F21.ext E24)
  have F37 : Fld Z h24 a2 "java/lang/String" "value" "[B" (.ref b2) := (F22.ext E24)
  have F38 : Arv Z h24 b2 kb2 .byte (0 : Int32) [] (.int (0 : Int32)) := (F23.ext E24)
  obtain ⟨T39, h39, X39, e39, W39, st39⟩ := putF X31 hx hZ hown (host := "") (Or.inl (hw _ (List.mem_of_getElem? (i := 37) rfl))) Via.refl e31 F33 F32 (Or.inr ⟨(hw _ (List.mem_of_getElem? (i := 38) rfl)), rfl, hnm⟩) (hw _ (List.mem_of_getElem? (i := 12) rfl)) (ty := .byte) (by decide) rfl rfl (g := (mkF m 23 #[.val (.ref oa), .val (.ref ob), .val (.int (0 : Int32)), .val (.int (0 : Int32)), .val .null, .unset] [(.int (0 : Int32)), (.ref oa)])) rfl rfl (hb hby d4_23)
  refine Go.via st39 ?_
  have Z40 : n0 ≤ h39.size := Nat.le_trans Z27 (Nat.le_of_eq W39.size.symm)
  have K41 : Keep h0 h39 [oa] := K28.wr W39 (Or.inl (List.mem_of_getElem? (i := 0) rfl))
  obtain ⟨lc39, Xh39, N42⟩ := own_hide X39 (Fr.snoc X39 N15 ga)
  clear X39
  have Sf39 := Safe.wr W39 Sf25 CR26.1 Sf25
  have CR43 := CHr.trans CR26 (CHr.wr W39 Sf25 CR26.1)
  have hk44 := Nat.le_trans hk24 (Nat.le_of_eq W39.size.symm)
  have Fw39 := F33.same W39
  show Go p.tables e below P T39 (mkF m 26 #[.val (.ref oa), .val (.ref ob), .val (.int (0 : Int32)), .val (.int (0 : Int32)), .val .null, .unset] [])
  have F46 : Arv Z h39 b2 kb2 .byte (0 : Int32) [] (.int (0 : Int32)) := (F38.other W39 (Ne.symm nq9))
  obtain ⟨fs, hr, hrun, hended, hend⟩ := Xh39.leaveW hS24 (by rw [e39]; exact hk44) (v := none) (fun _ => rfl)
  have F47 : Exa Z h39 oa "java/lang/String" := (F32.wr W39)
  have F48 : Fld Z h39 oa "java/lang/String" "value" "[B" (.ref b2) := (F34.other W39 (Or.inr (slot_ne (Or.inr (hw _ (List.mem_of_getElem? (i := 40) rfl))) (Or.inr (hw _ (List.mem_of_getElem? (i := 38) rfl))) (by decide) (t := (.array .byte)) (t' := .byte) (by decide) (by decide))))
  have hCf : CHr Z consts_1 s.vm s.heap (T39.setFrames fs).vm (T39.setFrames fs).heap := by
    rw [hh]
    show CHr Z consts_1 s.vm h0 T39.vm T39.heap
    rw [e39]
    exact CHr.trans CR43 (CHv.at Xh39 hZ (own_EW hw) CR43.1)
  refine ⟨_, _, Xh39.returnOut hx Bd.returns (hb hby d4_26) hr, hrun, hended, hP _ _ ⟨_, _, rfl, ?_, hCf, own_rew hend (by decide) (by decide)⟩⟩
  show Q4 Z oa ob h0 n0 _ T39.heap _
  rw [e39]
  exact ⟨b2, kb2, rfl, N42, K41, F47, F48, Fw39, F46, (F46.lt), nq9⟩
theorem own_pd0 : parseMethodDescriptor "([CIILjava/lang/Void;)V" = some ⟨[(.array .char), .int, .int, (.object "java/lang/Void")], none⟩ := by decide +kernel
theorem d3_0 : decode jdk_42_method_3_code 0 = .ok (.aload_n 0, 1) := by decide +kernel
theorem d3_1 : decode jdk_42_method_3_code 1 = .ok (.aload_n 1, 1) := by decide +kernel
theorem d3_2 : decode jdk_42_method_3_code 2 = .ok (.iconst 0, 1) := by decide +kernel
theorem d3_3 : decode jdk_42_method_3_code 3 = .ok (.aload_n 1, 1) := by decide +kernel
theorem d3_4 : decode jdk_42_method_3_code 4 = .ok (.arraylength, 1) := by decide +kernel
theorem d3_5 : decode jdk_42_method_3_code 5 = .ok (.aconst_null, 1) := by decide +kernel
theorem d3_6 : decode jdk_42_method_3_code 6 = .ok (.invokespecial 27, 3) := by decide +kernel
theorem d3_9 : decode jdk_42_method_3_code 9 = .ok (.return_, 1) := by decide +kernel
theorem ef_3 (m : MethodId) (x0 : Addr) (x1 : Addr) : entryFrame m #[(.ref x0), (.ref x1)] 2 = mkF m 0 #[.val (.ref x0), .val (.ref x1)] [] := by first | (simp [entryFrame, mkF, argsToLocals, Value.category]; done) | rfl
def Q3 (Z : State) (oa : Addr) (ob : Addr) (kc : ClassId) (vs : List Value) (dv : Value) (h0 : Heap) (n0 : Nat) (v : Option Value) (h : Heap) (L : List Loc) : Prop := ∃ (tb : Addr) (kk : ClassId), v = none ∧ Fr n0 L ∧ Keep h0 h [oa] ∧ Exa Z h oa "java/lang/String" ∧ Fld Z h oa "java/lang/String" "value" "[B" (.ref tb) ∧ Fld Z h oa "java/lang/String" "coder" "B" (.int (0 : Int32)) ∧ Arv Z h tb kk .byte (0 : Int32) [] (.int (0 : Int32)) ∧ (tb < h.size) ∧ (oa ≠ tb)
set_option maxRecDepth 65536 in
set_option maxHeartbeats 40000000 in
theorem rm3 (l : Launch) (Z : State) (a0 : Array Value) (hw : ∀ d ∈ tables_1, d.before a0 Z = true) (ws : List Jvm.Cond) (oa : Addr) (ob : Addr) (kc : ClassId) (vs : List Value) (dv : Value) (h0 : Heap) (n0 : Nat) (Z0 : n0 ≤ h0.size) (P0 : Exa Z h0 oa "java/lang/String") (P1 : Fld Z h0 oa "java/lang/String" "value" "[B" .null) (P2 : Fld Z h0 oa "java/lang/String" "coder" "B" (.int (0 : Int32))) (ga : n0 ≤ oa) (P4 : Arv Z h0 ob kc .char (0 : Int32) vs dv) :
    MetFree l (⟨"java/lang/String", "<init>", "([C)V"⟩ : MethodName) (head1 (Jvm.Cond.code (⟨"java/lang/String", "<init>", "([C)V"⟩ : MethodName) jdk_42_method_3_code 2 none :: ws) ({ frames := 2, cells := 4, slots := 8, locals := 29 } : Room)) (fun a U => a = #[(.ref oa), (.ref ob)] ∧ Z.Warmed39 U.vm ∧ U.heap = h0 ∧ CHv Z consts_1 U.vm h0) (fun _ _ _ _ _ => True) (fun _ U o U' => ∃ v L, o = .returned v ∧ Q3 Z oa ob kc vs dv h0 n0 v U'.heap L ∧ CHr Z consts_1 U.vm U.heap U'.vm U'.heap ∧ ReturnedEndW U o U' L ({ frames := 2, cells := 4, slots := 8, locals := 29 } : Room).cells ({ frames := 2, cells := 4, slots := 8, locals := 29 } : Room).slots) := by
  refine MetFree.of_bodySF (plainFor_of_name own_pn0) hisR ?_
  intro p e s m args below meth c s₁ Bd hml0 hP hK
  obtain ⟨rfl, hZ, hh, hCH0⟩ := hP
  have hx := Bd.exec
  have hby := Bd.bytes
  have hml : c.maxLocals = 2 := hml0
  have hown : s.vm.findClass "java/lang/String" = some m.cls := findClass_of_methodNamed Bd.named
  have hnm := (name_of_methodNamed Bd.named Bd.method).1
  have X0 : Stand p l e ({ frames := 2, cells := 4, slots := 8, locals := 29 } : Room) s m #[(.ref oa), (.ref ob)] below meth c s₁ [] 0 0 := Stand.of_body Bd
  have X0 : Stand p l e ({ frames := 2, cells := 4, slots := 8, locals := 29 } : Room) (s.setVm s.vm) m #[(.ref oa), (.ref ob)] below meth c s₁ [] 0 0 := X0
  have hZ : Z.Warmed39 (s.setVm s.vm).vm := hZ
  have hown : (s.setVm s.vm).vm.findClass "java/lang/String" = some m.cls := hown
  have hS0 : s.Since s.vm 0 := State.WarmedH.since (State.WarmedH.refl s) 0
  have CR0 : CHr Z consts_1 s.vm h0 s.vm h0 := CHr.refl hCH0
  have e0 : s₁.heap = h0 := by rw [← hh, Bd.state]; rfl
  have N0 := Fr.nil n0
  have K0 : Keep h0 h0 [oa] := Keep.refl _ _
  suffices GO : ∀ P : Outcome → State → Prop, (∀ o U', (∃ v L, o = .returned v ∧ Q3 Z oa ob kc vs dv h0 n0 v U'.heap L ∧ CHr Z consts_1 s.vm s.heap U'.vm U'.heap ∧ ReturnedEndW s o U' L ({ frames := 2, cells := 4, slots := 8, locals := 29 } : Room).cells ({ frames := 2, cells := 4, slots := 8, locals := 29 } : Room).slots) → P o U') → Go p.tables e below P s₁ (mkF m 0 #[.val (.ref oa), .val (.ref ob)] []) by
    obtain ⟨s2, o, st, r⟩ := GO _ (fun _ _ q => q)
    exact ⟨s2, o, castTop (ef_3 m oa ob) st, r⟩
  intro P hP
  show Go p.tables e below P s₁ (mkF m 0 #[.val (.ref oa), .val (.ref ob)] [])
  refine Go.via (fun t k => XS.aloadN X0.here hx rfl (hb hby d3_0) rfl rfl k) ?_
  refine Go.via (fun t k => XS.aloadN X0.here hx rfl (hb hby d3_1) rfl rfl k) ?_
  refine Go.via (fun t k => XS.iconst X0.here hx rfl (hb hby d3_2) k) ?_
  show Go p.tables e below P s₁ (mkF m 3 #[.val (.ref oa), .val (.ref ob)] [(.int (0 : Int32)), (.ref ob), (.ref oa)])
  refine Go.via (fun t k => XS.aloadN X0.here hx rfl (hb hby d3_3) rfl rfl k) ?_
  show Go p.tables e below P s₁ (mkF m 4 #[.val (.ref oa), .val (.ref ob)] [(.ref ob), (.int (0 : Int32)), (.ref ob), (.ref oa)])
  obtain ⟨c1, A1, -, S1, N1, -, -⟩ := id P4
  refine Go.via (fun t k => X0.arraylength hx (by rw [e0]; exact A1.1) (State.isArrayOf_alike hZ.alike A1.2.1) (g := (mkF m 4 #[.val (.ref oa), .val (.ref ob)] [(.ref ob), (.int (0 : Int32)), (.ref ob), (.ref oa)])) rfl rfl (hb hby d3_4) t (by rw [len_of S1 N1]; exact k)) ?_
  show Go p.tables e below P s₁ (mkF m 5 #[.val (.ref oa), .val (.ref ob)] [(.int (0 : Int32)), (.int (0 : Int32)), (.ref ob), (.ref oa)])
  refine Go.via (fun t k => XS.aconstNull X0.here hx rfl (hb hby d3_5) k) ?_
  show Go p.tables e below P s₁ (mkF m 6 #[.val (.ref oa), .val (.ref ob)] [.null, (.int (0 : Int32)), (.int (0 : Int32)), (.ref ob), (.ref oa)])
  obtain ⟨_, _, ⟨T2, L2, k2, n2⟩, -, X2, hSn2, hgn2, ⟨Lc2, hQ2, l2, y2, z2, hC2⟩, st2⟩ := X0.specialBackS hx (y := (⟨"java/lang/String", "<init>", "([CIILjava/lang/Void;)V"⟩ : MethodName)) rfl hown (mvT hZ (hw _ (List.mem_of_getElem? (i := 18) rfl))) (mvT hZ (hw _ (List.mem_of_getElem? (i := 19) rfl))) (mvT hZ (hw _ (List.mem_of_getElem? (i := 21) rfl))) (by decide) (backOfSH (W := 0) (rm4 l Z a0 hw [] oa ob h0 n0 Z0 P0 P1 P2 ga) hZ (hw _ (List.mem_of_getElem? (i := 21) rfl)) (hw _ (List.mem_of_getElem? (i := 13) rfl)) (by decide) (by decide) (own_EW hw) CR0.1) (g := (mkF m 6 #[.val (.ref oa), .val (.ref ob)] [.null, (.int (0 : Int32)), (.int (0 : Int32)), (.ref ob), (.ref oa)])) rfl (by rw [hml]; rfl) (Steps.refl _) (a := oa) (argsL := [(.ref ob), (.int (0 : Int32)), (.int (0 : Int32)), .null]) (rest := []) (lenOf own_pd0 rfl) rfl (by show 2 * 0 + _ ≤ _; exact Nat.le_of_eq rfl) (hb hby d3_6) (fun _ _ => ⟨rfl, e0, (by decide : 0 + 4 ≤ _), (by decide : 0 + 8 ≤ _)⟩)
  dsimp only [Pt.U, Pt.locs, Pt.cells, Pt.slots] at X2 l2 y2 z2 st2 hQ2 hSn2 hgn2 hC2
  subst l2 y2 z2
  have hS2 : s.Since T2.vm T2.heap.size := foldS hS0 (by rw [e0]; exact (Nat.zero_le _)) hSn2 hgn2
  have X2 : Stand p l e ({ frames := 2, cells := 4, slots := 8, locals := 29 } : Room) (s.setVm T2.vm) m #[(.ref oa), (.ref ob)] below meth c T2 _ _ _ := X2
  have hown : (s.setVm T2.vm).vm.findClass "java/lang/String" = some m.cls := by rw [show (s.setVm T2.vm).vm = T2.vm from rfl, hSn2.1.alike.findClass]; exact hown
  have hZ : Z.Warmed39 (s.setVm T2.vm).vm := State.Warmed39.trans (t := s.setVm s.vm) hZ hSn2.1
  obtain ⟨tb_2, kk_2, rfl, Nq2, K2, u2_0, u2_1, u2_2, u2_3, u2_4, u2_5⟩ := hQ2
  obtain ⟨lc2, Xh2, N2⟩ := own_hide X2 (Fr.app N0 Nq2)
  clear X2
  refine Go.hop st2 ?_
  have CR3 := CHr.trans CR0 hC2
  have Z4 : n0 ≤ T2.heap.size := Nat.le_trans Z0 K2.1
  have K5 : Keep h0 T2.heap [oa] := K0.trans K2 (own_allC (Or.inl (List.mem_of_getElem? (i := 0) rfl)) own_all0)
  have hk6 : T2.heap.size ≤ T2.heap.size := Nat.le_refl _
  show Go p.tables e below P T2 (mkF m 9 #[.val (.ref oa), .val (.ref ob)] [])
  obtain ⟨fs, hr, hrun, hended, hend⟩ := Xh2.leaveW hS2 (by exact hk6) (v := none) (fun _ => rfl)
  have hCf : CHr Z consts_1 s.vm s.heap (T2.setFrames fs).vm (T2.setFrames fs).heap := by
    rw [hh]
    show CHr Z consts_1 s.vm h0 T2.vm T2.heap
    exact CHr.trans CR3 (CHv.at Xh2 hZ (own_EW hw) CR3.1)
  refine ⟨_, _, Xh2.returnOut hx Bd.returns (hb hby d3_9) hr, hrun, hended, hP _ _ ⟨_, _, rfl, ?_, hCf, own_rew hend (by decide) (by decide)⟩⟩
  show Q3 Z oa ob kc vs dv h0 n0 _ T2.heap _
  exact ⟨tb_2, kk_2, rfl, N2, K5, u2_0, u2_1, u2_2, u2_3, (u2_3.lt), u2_5⟩
theorem own_pn1 : plainName "com/example/numeric_planner/numericplanner/rddl/TokenIsPinLaw" = true := by first | (simp [plainName, overriddenIn]; done) | decide +kernel
theorem d1_0 : decode method_3_code 0 = .ok (.iload_n 0, 1) := by decide +kernel
theorem d1_1 : decode method_3_code 1 = .ok (.ifCond .ne 7, 3) := by decide +kernel
theorem d1_4 : decode method_3_code 4 = .ok (.getstatic 34, 3) := by decide +kernel
theorem d1_7 : decode method_3_code 7 = .ok (.areturn, 1) := by decide +kernel
theorem d1_8 : decode method_3_code 8 = .ok (.iload_n 0, 1) := by decide +kernel
theorem d1_9 : decode method_3_code 9 = .ok (.iconst 1, 1) := by decide +kernel
theorem d1_10 : decode method_3_code 10 = .ok (.if_icmp .ne 7, 3) := by decide +kernel
theorem d1_13 : decode method_3_code 13 = .ok (.getstatic 40, 3) := by decide +kernel
theorem d1_16 : decode method_3_code 16 = .ok (.areturn, 1) := by decide +kernel
theorem d1_17 : decode method_3_code 17 = .ok (.iload_n 0, 1) := by decide +kernel
theorem d1_18 : decode method_3_code 18 = .ok (.iconst 2, 1) := by decide +kernel
theorem d1_19 : decode method_3_code 19 = .ok (.if_icmp .ne 7, 3) := by decide +kernel
theorem d1_22 : decode method_3_code 22 = .ok (.getstatic 43, 3) := by decide +kernel
theorem d1_25 : decode method_3_code 25 = .ok (.areturn, 1) := by decide +kernel
theorem d1_26 : decode method_3_code 26 = .ok (.iload_n 0, 1) := by decide +kernel
theorem d1_27 : decode method_3_code 27 = .ok (.iconst 3, 1) := by decide +kernel
theorem d1_28 : decode method_3_code 28 = .ok (.if_icmp .ne 7, 3) := by decide +kernel
theorem d1_31 : decode method_3_code 31 = .ok (.getstatic 46, 3) := by decide +kernel
theorem d1_34 : decode method_3_code 34 = .ok (.areturn, 1) := by decide +kernel
theorem d1_35 : decode method_3_code 35 = .ok (.iload_n 0, 1) := by decide +kernel
theorem d1_36 : decode method_3_code 36 = .ok (.iconst 4, 1) := by decide +kernel
theorem d1_37 : decode method_3_code 37 = .ok (.if_icmp .ne 7, 3) := by decide +kernel
theorem d1_40 : decode method_3_code 40 = .ok (.getstatic 49, 3) := by decide +kernel
theorem d1_43 : decode method_3_code 43 = .ok (.areturn, 1) := by decide +kernel
theorem d1_44 : decode method_3_code 44 = .ok (.getstatic 52, 3) := by decide +kernel
theorem d1_47 : decode method_3_code 47 = .ok (.areturn, 1) := by decide +kernel
theorem ef_1 (m : MethodId) (x0 : Int32) : entryFrame m #[(.int x0)] 1 = mkF m 0 #[.val (.int x0)] [] := by first | (simp [entryFrame, mkF, argsToLocals, Value.category]; done) | rfl
def Q1 (Z : State) (kn : Int32) (aNAME : Addr) (aPRIMED_NAME : Addr) (aNUMBER : Addr) (aSYMBOL : Addr) (aINVALID : Addr) (aEND : Addr) (h0 : Heap) (n0 : Nat) (v : Option Value) (h : Heap) (L : List Loc) : Prop := ∃ (r : Addr), v = some (.ref r) ∧ Fr n0 L ∧ h = h0 ∧ ((kn = (0 : Int32) ∧ r = aNAME) ∨ (kn = (3 : Int32) ∧ r = aSYMBOL) ∨ (¬ kn = (0 : Int32) ∧ ¬ kn = (3 : Int32) ∧ r ≠ aNAME ∧ r ≠ aSYMBOL))
set_option maxRecDepth 65536 in
set_option maxHeartbeats 40000000 in
theorem rm1 (l : Launch) (Z : State) (a0 : Array Value) (hw : ∀ d ∈ tables_1, d.before a0 Z = true) (ws : List Jvm.Cond) (kn : Int32) (aNAME : Addr) (aPRIMED_NAME : Addr) (aNUMBER : Addr) (aSYMBOL : Addr) (aINVALID : Addr) (aEND : Addr) (h0 : Heap) (n0 : Nat) (Z0 : n0 ≤ h0.size) (O0 : Old Z n0 h0) (P1 : Sta Z Z.heap "com/example/numeric_planner/numericplanner/rddl/Token$Kind" "NAME" "Lcom/example/numeric_planner/numericplanner/rddl/Token$Kind;" (.ref aNAME)) (P2 : Sta Z Z.heap "com/example/numeric_planner/numericplanner/rddl/Token$Kind" "PRIMED_NAME" "Lcom/example/numeric_planner/numericplanner/rddl/Token$Kind;" (.ref aPRIMED_NAME)) (P3 : Sta Z Z.heap "com/example/numeric_planner/numericplanner/rddl/Token$Kind" "NUMBER" "Lcom/example/numeric_planner/numericplanner/rddl/Token$Kind;" (.ref aNUMBER)) (P4 : Sta Z Z.heap "com/example/numeric_planner/numericplanner/rddl/Token$Kind" "SYMBOL" "Lcom/example/numeric_planner/numericplanner/rddl/Token$Kind;" (.ref aSYMBOL)) (P5 : Sta Z Z.heap "com/example/numeric_planner/numericplanner/rddl/Token$Kind" "INVALID" "Lcom/example/numeric_planner/numericplanner/rddl/Token$Kind;" (.ref aINVALID)) (P6 : Sta Z Z.heap "com/example/numeric_planner/numericplanner/rddl/Token$Kind" "END" "Lcom/example/numeric_planner/numericplanner/rddl/Token$Kind;" (.ref aEND)) (nNPRIMED_NAME : aPRIMED_NAME ≠ aNAME) (nNNUMBER : aNUMBER ≠ aNAME) (nNINVALID : aINVALID ≠ aNAME) (nNEND : aEND ≠ aNAME) (nSPRIMED_NAME : aPRIMED_NAME ≠ aSYMBOL) (nSNUMBER : aNUMBER ≠ aSYMBOL) (nSINVALID : aINVALID ≠ aSYMBOL) (nSEND : aEND ≠ aSYMBOL) :
    MetFree l (⟨"com/example/numeric_planner/numericplanner/rddl/TokenIsPinLaw", "kindOf", "(I)Lcom/example/numeric_planner/numericplanner/rddl/Token$Kind;"⟩ : MethodName) (head1 (Jvm.Cond.code (⟨"com/example/numeric_planner/numericplanner/rddl/TokenIsPinLaw", "kindOf", "(I)Lcom/example/numeric_planner/numericplanner/rddl/Token$Kind;"⟩ : MethodName) method_3_code 1 (some (.object "com/example/numeric_planner/numericplanner/rddl/Token$Kind")) :: ws) ({ frames := 0, cells := 0, slots := 0, locals := 0 } : Room)) (fun a U => a = #[(.int kn)] ∧ Z.Warmed39 U.vm ∧ U.heap = h0) (fun _ _ _ _ _ => True) (fun _ U o U' => ∃ v L, o = .returned v ∧ Q1 Z kn aNAME aPRIMED_NAME aNUMBER aSYMBOL aINVALID aEND h0 n0 v U'.heap L ∧ FrameEnd U o U' L ({ frames := 0, cells := 0, slots := 0, locals := 0 } : Room).cells ({ frames := 0, cells := 0, slots := 0, locals := 0 } : Room).slots) := by
  refine MetFree.of_bodySF (plainFor_of_name own_pn1) hisR ?_
  intro p e s m args below meth c s₁ Bd hml0 hP hK
  obtain ⟨rfl, hZ, hh⟩ := hP
  have hx := Bd.exec
  have hby := Bd.bytes
  have hml : c.maxLocals = 1 := hml0
  have hown : s.vm.findClass "com/example/numeric_planner/numericplanner/rddl/TokenIsPinLaw" = some m.cls := findClass_of_methodNamed Bd.named
  have hnm := (name_of_methodNamed Bd.named Bd.method).1
  have X0 : Stand p l e ({ frames := 0, cells := 0, slots := 0, locals := 0 } : Room) s m #[(.int kn)] below meth c s₁ [] 0 0 := Stand.of_body Bd
  have e0 : s₁.heap = h0 := by rw [← hh, Bd.state]; rfl
  have N0 := Fr.nil n0
  have K0 : Keep h0 h0 [] := Keep.refl _ _
  suffices GO : ∀ P : Outcome → State → Prop, (∀ o U', (∃ v L, o = .returned v ∧ Q1 Z kn aNAME aPRIMED_NAME aNUMBER aSYMBOL aINVALID aEND h0 n0 v U'.heap L ∧ FrameEnd s o U' L ({ frames := 0, cells := 0, slots := 0, locals := 0 } : Room).cells ({ frames := 0, cells := 0, slots := 0, locals := 0 } : Room).slots) → P o U') → Go p.tables e below P s₁ (mkF m 0 #[.val (.int kn)] []) by
    obtain ⟨s2, o, st, r⟩ := GO _ (fun _ _ q => q)
    exact ⟨s2, o, castTop (ef_1 m kn) st, r⟩
  clear hh
  intro P hP
  show Go p.tables e below P s₁ (mkF m 0 #[.val (.int kn)] [])
  refine Go.via (fun t k => XS.iloadN X0.here hx rfl (hb hby d1_0) rfl k) ?_
  show Go p.tables e below P s₁ (mkF m 1 #[.val (.int kn)] [(.int kn)])
  by_cases hc1 : kn = (0 : Int32)
  · refine Go.via (fun t k => XS.ifNo X0.here hx rfl (hb hby d1_1) rfl ((if0 _ _).trans (teq hc1).2) k) ?_
    show Go p.tables e below P s₁ (mkF m 4 #[.val (.int kn)] [])
    obtain ⟨T2, X2, e2, st2⟩ := getS2 X0 hx hZ hown (host := "") (Or.inl (hw _ (List.mem_of_getElem? (i := 5) rfl))) Via.refl e0 (P1.ext O0.2) (g := (mkF m 4 #[.val (.int kn)] [])) rfl (hb hby d1_4)
    refine Go.via st2 ?_
    show Go p.tables e below P T2 (mkF m 7 #[.val (.int kn)] [(.ref aNAME)])
    obtain ⟨fs, hr, hrun, hended, hW, hsame⟩ := X2.leave (v := some (.ref aNAME)) (fun h => by rw [Bd.returns] at h; cases h)
    refine ⟨_, _, retA X2 hx Bd.returns rfl rfl rfl (hb hby d1_7) hr, hrun, hended, hP _ _ ⟨_, _, rfl, ?_, ⟨_, rfl⟩, hW, hsame.mono (by decide) (by decide)⟩⟩
    show Q1 Z kn aNAME aPRIMED_NAME aNUMBER aSYMBOL aINVALID aEND h0 n0 _ T2.heap _
    rw [e2]
    exact ⟨aNAME, rfl, N0, rfl, (Or.inl ⟨hc1, rfl⟩)⟩
  · refine Go.via (fun t k => XS.ifYes X0.here hx rfl (pc0 := 1) (pc' := 8) rfl (hb hby d1_1) rfl ((if0 _ _).trans (feq hc1).2) (by decide) (by decide) k) ?_
    show Go p.tables e below P s₁ (mkF m 8 #[.val (.int kn)] [])
    refine Go.via (fun t k => XS.iloadN X0.here hx rfl (hb hby d1_8) rfl k) ?_
    refine Go.via (fun t k => XS.iconst X0.here hx rfl (hb hby d1_9) k) ?_
    show Go p.tables e below P s₁ (mkF m 10 #[.val (.int kn)] [(.int (1 : Int32)), (.int kn)])
    by_cases hc4 : kn = (1 : Int32)
    · refine Go.via (fun t k => XS.icmpNo X0.here hx rfl (hb hby d1_10) rfl (teq hc4).2 k) ?_
      show Go p.tables e below P s₁ (mkF m 13 #[.val (.int kn)] [])
      obtain ⟨T5, X5, e5, st5⟩ := getS2 X0 hx hZ hown (host := "") (Or.inl (hw _ (List.mem_of_getElem? (i := 92) rfl))) Via.refl e0 (P2.ext O0.2) (g := (mkF m 13 #[.val (.int kn)] [])) rfl (hb hby d1_13)
      refine Go.via st5 ?_
      show Go p.tables e below P T5 (mkF m 16 #[.val (.int kn)] [(.ref aPRIMED_NAME)])
      obtain ⟨fs, hr, hrun, hended, hW, hsame⟩ := X5.leave (v := some (.ref aPRIMED_NAME)) (fun h => by rw [Bd.returns] at h; cases h)
      refine ⟨_, _, retA X5 hx Bd.returns rfl rfl rfl (hb hby d1_16) hr, hrun, hended, hP _ _ ⟨_, _, rfl, ?_, ⟨_, rfl⟩, hW, hsame.mono (by decide) (by decide)⟩⟩
      show Q1 Z kn aNAME aPRIMED_NAME aNUMBER aSYMBOL aINVALID aEND h0 n0 _ T5.heap _
      rw [e5]
      exact ⟨aPRIMED_NAME, rfl, N0, rfl, (Or.inr (Or.inr ⟨hc1, (fun q => absurd (q.symm.trans hc4) (by decide)), nNPRIMED_NAME, nSPRIMED_NAME⟩))⟩
    · refine Go.via (fun t k => XS.icmpYes X0.here hx rfl (pc0 := 10) (pc' := 17) rfl (hb hby d1_10) rfl (feq hc4).2 (by decide) (by decide) k) ?_
      show Go p.tables e below P s₁ (mkF m 17 #[.val (.int kn)] [])
      refine Go.via (fun t k => XS.iloadN X0.here hx rfl (hb hby d1_17) rfl k) ?_
      refine Go.via (fun t k => XS.iconst X0.here hx rfl (hb hby d1_18) k) ?_
      show Go p.tables e below P s₁ (mkF m 19 #[.val (.int kn)] [(.int (2 : Int32)), (.int kn)])
      by_cases hc7 : kn = (2 : Int32)
      · refine Go.via (fun t k => XS.icmpNo X0.here hx rfl (hb hby d1_19) rfl (teq hc7).2 k) ?_
        show Go p.tables e below P s₁ (mkF m 22 #[.val (.int kn)] [])
        obtain ⟨T8, X8, e8, st8⟩ := getS2 X0 hx hZ hown (host := "") (Or.inl (hw _ (List.mem_of_getElem? (i := 99) rfl))) Via.refl e0 (P3.ext O0.2) (g := (mkF m 22 #[.val (.int kn)] [])) rfl (hb hby d1_22)
        refine Go.via st8 ?_
        show Go p.tables e below P T8 (mkF m 25 #[.val (.int kn)] [(.ref aNUMBER)])
        obtain ⟨fs, hr, hrun, hended, hW, hsame⟩ := X8.leave (v := some (.ref aNUMBER)) (fun h => by rw [Bd.returns] at h; cases h)
        refine ⟨_, _, retA X8 hx Bd.returns rfl rfl rfl (hb hby d1_25) hr, hrun, hended, hP _ _ ⟨_, _, rfl, ?_, ⟨_, rfl⟩, hW, hsame.mono (by decide) (by decide)⟩⟩
        show Q1 Z kn aNAME aPRIMED_NAME aNUMBER aSYMBOL aINVALID aEND h0 n0 _ T8.heap _
        rw [e8]
        exact ⟨aNUMBER, rfl, N0, rfl, (Or.inr (Or.inr ⟨hc1, (fun q => absurd (q.symm.trans hc7) (by decide)), nNNUMBER, nSNUMBER⟩))⟩
      · refine Go.via (fun t k => XS.icmpYes X0.here hx rfl (pc0 := 19) (pc' := 26) rfl (hb hby d1_19) rfl (feq hc7).2 (by decide) (by decide) k) ?_
        show Go p.tables e below P s₁ (mkF m 26 #[.val (.int kn)] [])
        refine Go.via (fun t k => XS.iloadN X0.here hx rfl (hb hby d1_26) rfl k) ?_
        refine Go.via (fun t k => XS.iconst X0.here hx rfl (hb hby d1_27) k) ?_
        show Go p.tables e below P s₁ (mkF m 28 #[.val (.int kn)] [(.int (3 : Int32)), (.int kn)])
        by_cases hc10 : kn = (3 : Int32)
        · refine Go.via (fun t k => XS.icmpNo X0.here hx rfl (hb hby d1_28) rfl (teq hc10).2 k) ?_
          show Go p.tables e below P s₁ (mkF m 31 #[.val (.int kn)] [])
          obtain ⟨T11, X11, e11, st11⟩ := getS2 X0 hx hZ hown (host := "") (Or.inl (hw _ (List.mem_of_getElem? (i := 96) rfl))) Via.refl e0 (P4.ext O0.2) (g := (mkF m 31 #[.val (.int kn)] [])) rfl (hb hby d1_31)
          refine Go.via st11 ?_
          show Go p.tables e below P T11 (mkF m 34 #[.val (.int kn)] [(.ref aSYMBOL)])
          obtain ⟨fs, hr, hrun, hended, hW, hsame⟩ := X11.leave (v := some (.ref aSYMBOL)) (fun h => by rw [Bd.returns] at h; cases h)
          refine ⟨_, _, retA X11 hx Bd.returns rfl rfl rfl (hb hby d1_34) hr, hrun, hended, hP _ _ ⟨_, _, rfl, ?_, ⟨_, rfl⟩, hW, hsame.mono (by decide) (by decide)⟩⟩
          show Q1 Z kn aNAME aPRIMED_NAME aNUMBER aSYMBOL aINVALID aEND h0 n0 _ T11.heap _
          rw [e11]
          exact ⟨aSYMBOL, rfl, N0, rfl, (Or.inr (Or.inl ⟨hc10, rfl⟩))⟩
        · refine Go.via (fun t k => XS.icmpYes X0.here hx rfl (pc0 := 28) (pc' := 35) rfl (hb hby d1_28) rfl (feq hc10).2 (by decide) (by decide) k) ?_
          show Go p.tables e below P s₁ (mkF m 35 #[.val (.int kn)] [])
          refine Go.via (fun t k => XS.iloadN X0.here hx rfl (hb hby d1_35) rfl k) ?_
          refine Go.via (fun t k => XS.iconst X0.here hx rfl (hb hby d1_36) k) ?_
          show Go p.tables e below P s₁ (mkF m 37 #[.val (.int kn)] [(.int (4 : Int32)), (.int kn)])
          by_cases hc13 : kn = (4 : Int32)
          · refine Go.via (fun t k => XS.icmpNo X0.here hx rfl (hb hby d1_37) rfl (teq hc13).2 k) ?_
            show Go p.tables e below P s₁ (mkF m 40 #[.val (.int kn)] [])
            obtain ⟨T14, X14, e14, st14⟩ := getS2 X0 hx hZ hown (host := "") (Or.inl (hw _ (List.mem_of_getElem? (i := 94) rfl))) Via.refl e0 (P5.ext O0.2) (g := (mkF m 40 #[.val (.int kn)] [])) rfl (hb hby d1_40)
            refine Go.via st14 ?_
            show Go p.tables e below P T14 (mkF m 43 #[.val (.int kn)] [(.ref aINVALID)])
            obtain ⟨fs, hr, hrun, hended, hW, hsame⟩ := X14.leave (v := some (.ref aINVALID)) (fun h => by rw [Bd.returns] at h; cases h)
            refine ⟨_, _, retA X14 hx Bd.returns rfl rfl rfl (hb hby d1_43) hr, hrun, hended, hP _ _ ⟨_, _, rfl, ?_, ⟨_, rfl⟩, hW, hsame.mono (by decide) (by decide)⟩⟩
            show Q1 Z kn aNAME aPRIMED_NAME aNUMBER aSYMBOL aINVALID aEND h0 n0 _ T14.heap _
            rw [e14]
            exact ⟨aINVALID, rfl, N0, rfl, (Or.inr (Or.inr ⟨hc1, hc10, nNINVALID, nSINVALID⟩))⟩
          · refine Go.via (fun t k => XS.icmpYes X0.here hx rfl (pc0 := 37) (pc' := 44) rfl (hb hby d1_37) rfl (feq hc13).2 (by decide) (by decide) k) ?_
            show Go p.tables e below P s₁ (mkF m 44 #[.val (.int kn)] [])
            obtain ⟨T16, X16, e16, st16⟩ := getS2 X0 hx hZ hown (host := "") (Or.inl (hw _ (List.mem_of_getElem? (i := 97) rfl))) Via.refl e0 (P6.ext O0.2) (g := (mkF m 44 #[.val (.int kn)] [])) rfl (hb hby d1_44)
            refine Go.via st16 ?_
            show Go p.tables e below P T16 (mkF m 47 #[.val (.int kn)] [(.ref aEND)])
            obtain ⟨fs, hr, hrun, hended, hW, hsame⟩ := X16.leave (v := some (.ref aEND)) (fun h => by rw [Bd.returns] at h; cases h)
            refine ⟨_, _, retA X16 hx Bd.returns rfl rfl rfl (hb hby d1_47) hr, hrun, hended, hP _ _ ⟨_, _, rfl, ?_, ⟨_, rfl⟩, hW, hsame.mono (by decide) (by decide)⟩⟩
            show Q1 Z kn aNAME aPRIMED_NAME aNUMBER aSYMBOL aINVALID aEND h0 n0 _ T16.heap _
            rw [e16]
            exact ⟨aEND, rfl, N0, rfl, (Or.inr (Or.inr ⟨hc1, hc10, nNEND, nSEND⟩))⟩
theorem own_pd1 : parseMethodDescriptor "([C)V" = some ⟨[(.array .char)], none⟩ := by decide +kernel
theorem d2_0 : decode method_4_code 0 = .ok (.iload_n 0, 1) := by decide +kernel
theorem d2_1 : decode method_4_code 1 = .ok (.ifCond .ne 14, 3) := by decide +kernel
theorem d2_4 : decode method_4_code 4 = .ok (.new 55, 3) := by decide +kernel
theorem d2_7 : decode method_4_code 7 = .ok (.dup, 1) := by decide +kernel
theorem d2_8 : decode method_4_code 8 = .ok (.iconst 0, 1) := by decide +kernel
theorem d2_9 : decode method_4_code 9 = .ok (.newarray .char, 2) := by decide +kernel
theorem d2_11 : decode method_4_code 11 = .ok (.invokespecial 57, 3) := by decide +kernel
theorem d2_14 : decode method_4_code 14 = .ok (.areturn, 1) := by decide +kernel
theorem d2_15 : decode method_4_code 15 = .ok (.iload_n 0, 1) := by decide +kernel
theorem d2_16 : decode method_4_code 16 = .ok (.iconst 1, 1) := by decide +kernel
theorem d2_17 : decode method_4_code 17 = .ok (.if_icmp .ne 18, 3) := by decide +kernel
theorem d2_20 : decode method_4_code 20 = .ok (.new 55, 3) := by decide +kernel
theorem d2_23 : decode method_4_code 23 = .ok (.dup, 1) := by decide +kernel
theorem d2_24 : decode method_4_code 24 = .ok (.iconst 1, 1) := by decide +kernel
theorem d2_25 : decode method_4_code 25 = .ok (.newarray .char, 2) := by decide +kernel
theorem d2_27 : decode method_4_code 27 = .ok (.dup, 1) := by decide +kernel
theorem d2_28 : decode method_4_code 28 = .ok (.iconst 0, 1) := by decide +kernel
theorem d2_29 : decode method_4_code 29 = .ok (.iload_n 1, 1) := by decide +kernel
theorem d2_30 : decode method_4_code 30 = .ok (.castore, 1) := by decide +kernel
theorem d2_31 : decode method_4_code 31 = .ok (.invokespecial 57, 3) := by decide +kernel
theorem d2_34 : decode method_4_code 34 = .ok (.areturn, 1) := by decide +kernel
theorem d2_35 : decode method_4_code 35 = .ok (.iload_n 0, 1) := by decide +kernel
theorem d2_36 : decode method_4_code 36 = .ok (.iconst 2, 1) := by decide +kernel
theorem d2_37 : decode method_4_code 37 = .ok (.if_icmp .ne 22, 3) := by decide +kernel
theorem d2_40 : decode method_4_code 40 = .ok (.new 55, 3) := by decide +kernel
theorem d2_43 : decode method_4_code 43 = .ok (.dup, 1) := by decide +kernel
theorem d2_44 : decode method_4_code 44 = .ok (.iconst 2, 1) := by decide +kernel
theorem d2_45 : decode method_4_code 45 = .ok (.newarray .char, 2) := by decide +kernel
theorem d2_47 : decode method_4_code 47 = .ok (.dup, 1) := by decide +kernel
theorem d2_48 : decode method_4_code 48 = .ok (.iconst 0, 1) := by decide +kernel
theorem d2_49 : decode method_4_code 49 = .ok (.iload_n 1, 1) := by decide +kernel
theorem d2_50 : decode method_4_code 50 = .ok (.castore, 1) := by decide +kernel
theorem d2_51 : decode method_4_code 51 = .ok (.dup, 1) := by decide +kernel
theorem d2_52 : decode method_4_code 52 = .ok (.iconst 1, 1) := by decide +kernel
theorem d2_53 : decode method_4_code 53 = .ok (.iload_n 2, 1) := by decide +kernel
theorem d2_54 : decode method_4_code 54 = .ok (.castore, 1) := by decide +kernel
theorem d2_55 : decode method_4_code 55 = .ok (.invokespecial 57, 3) := by decide +kernel
theorem d2_58 : decode method_4_code 58 = .ok (.areturn, 1) := by decide +kernel
theorem d2_59 : decode method_4_code 59 = .ok (.new 55, 3) := by decide +kernel
theorem d2_62 : decode method_4_code 62 = .ok (.dup, 1) := by decide +kernel
theorem d2_63 : decode method_4_code 63 = .ok (.iconst 3, 1) := by decide +kernel
theorem d2_64 : decode method_4_code 64 = .ok (.newarray .char, 2) := by decide +kernel
theorem d2_66 : decode method_4_code 66 = .ok (.dup, 1) := by decide +kernel
theorem d2_67 : decode method_4_code 67 = .ok (.iconst 0, 1) := by decide +kernel
theorem d2_68 : decode method_4_code 68 = .ok (.iload_n 1, 1) := by decide +kernel
theorem d2_69 : decode method_4_code 69 = .ok (.castore, 1) := by decide +kernel
theorem d2_70 : decode method_4_code 70 = .ok (.dup, 1) := by decide +kernel
theorem d2_71 : decode method_4_code 71 = .ok (.iconst 1, 1) := by decide +kernel
theorem d2_72 : decode method_4_code 72 = .ok (.iload_n 2, 1) := by decide +kernel
theorem d2_73 : decode method_4_code 73 = .ok (.castore, 1) := by decide +kernel
theorem d2_74 : decode method_4_code 74 = .ok (.dup, 1) := by decide +kernel
theorem d2_75 : decode method_4_code 75 = .ok (.iconst 2, 1) := by decide +kernel
theorem d2_76 : decode method_4_code 76 = .ok (.iload_n 3, 1) := by decide +kernel
theorem d2_77 : decode method_4_code 77 = .ok (.castore, 1) := by decide +kernel
theorem d2_78 : decode method_4_code 78 = .ok (.invokespecial 57, 3) := by decide +kernel
theorem d2_81 : decode method_4_code 81 = .ok (.areturn, 1) := by decide +kernel
theorem ef_2 (m : MethodId) (x0 : Int32) (x1 : Int32) (x2 : Int32) (x3 : Int32) : entryFrame m #[(.int x0), (.int x1), (.int x2), (.int x3)] 4 = mkF m 0 #[.val (.int x0), .val (.int x1), .val (.int x2), .val (.int x3)] [] := by first | (simp [entryFrame, mkF, argsToLocals, Value.category]; done) | rfl
def Q2 (Z : State) (nn : Int32) (q0 : Int32) (q1 : Int32) (q2 : Int32) (cs : Int32) (h0 : Heap) (n0 : Nat) (v : Option Value) (h : Heap) (L : List Loc) : Prop := ∃ (r : Addr) (tb : Addr) (kk : ClassId), v = some (.ref r) ∧ Fr n0 L ∧ Keep h0 h [] ∧ h0.size ≤ r ∧ Exa Z h r "java/lang/String" ∧ Fld Z h r "java/lang/String" "value" "[B" (.ref tb) ∧ Fld Z h r "java/lang/String" "coder" "B" (.int (0 : Int32)) ∧ Arv Z h tb kk .byte (own_lg (own_mk nn q0 q1 q2)) ((own_mk nn q0 q1 q2).map Value.int) (.int (0 : Int32)) ∧ (tb < h.size) ∧ (r ≠ tb)
set_option maxRecDepth 65536 in
set_option maxHeartbeats 40000000 in
theorem rm2 (l : Launch) (Z : State) (a0 : Array Value) (hw : ∀ d ∈ tables_1, d.before a0 Z = true) (ws : List Jvm.Cond) (nn : Int32) (q0 : Int32) (q1 : Int32) (q2 : Int32) (cs : Int32) (h0 : Heap) (n0 : Nat) (Z0 : n0 ≤ h0.size) (O0 : Old Z n0 h0) (P1 : Sta Z Z.heap "java/lang/String" "COMPACT_STRINGS" "Z" (.int cs)) (hcs : ¬ cs = (0 : Int32)) (by0 : own_by q0) (by1 : own_by q1) (by2 : own_by q2) :
    MetFree l (⟨"com/example/numeric_planner/numericplanner/rddl/TokenIsPinLaw", "mk", "(ICCC)Ljava/lang/String;"⟩ : MethodName) (head1 (Jvm.Cond.code (⟨"com/example/numeric_planner/numericplanner/rddl/TokenIsPinLaw", "mk", "(ICCC)Ljava/lang/String;"⟩ : MethodName) method_4_code 4 (some (.object "java/lang/String")) :: ws) ({ frames := 4, cells := 6, slots := 12, locals := 66 } : Room)) (fun a U => a = #[(.int nn), (.int q0), (.int q1), (.int q2)] ∧ Z.Warmed39 U.vm ∧ U.heap = h0 ∧ CHv Z consts_1 U.vm h0) (fun _ _ _ _ _ => True) (fun _ U o U' => ∃ v L, o = .returned v ∧ Q2 Z nn q0 q1 q2 cs h0 n0 v U'.heap L ∧ CHr Z consts_1 U.vm U.heap U'.vm U'.heap ∧ ReturnedEndW U o U' L ({ frames := 4, cells := 6, slots := 12, locals := 66 } : Room).cells ({ frames := 4, cells := 6, slots := 12, locals := 66 } : Room).slots) := by
  refine MetFree.of_bodySF (plainFor_of_name own_pn1) hisR ?_
  intro p e s m args below meth c s₁ Bd hml0 hP hK
  obtain ⟨rfl, hZ, hh, hCH0⟩ := hP
  have hx := Bd.exec
  have hby := Bd.bytes
  have hml : c.maxLocals = 4 := hml0
  have hown : s.vm.findClass "com/example/numeric_planner/numericplanner/rddl/TokenIsPinLaw" = some m.cls := findClass_of_methodNamed Bd.named
  have hnm := (name_of_methodNamed Bd.named Bd.method).1
  have X0 : Stand p l e ({ frames := 4, cells := 6, slots := 12, locals := 66 } : Room) s m #[(.int nn), (.int q0), (.int q1), (.int q2)] below meth c s₁ [] 0 0 := Stand.of_body Bd
  have X0 : Stand p l e ({ frames := 4, cells := 6, slots := 12, locals := 66 } : Room) (s.setVm s.vm) m #[(.int nn), (.int q0), (.int q1), (.int q2)] below meth c s₁ [] 0 0 := X0
  have hZ : Z.Warmed39 (s.setVm s.vm).vm := hZ
  have hown : (s.setVm s.vm).vm.findClass "com/example/numeric_planner/numericplanner/rddl/TokenIsPinLaw" = some m.cls := hown
  have hS0 : s.Since s.vm 0 := State.WarmedH.since (State.WarmedH.refl s) 0
  have CR0 : CHr Z consts_1 s.vm h0 s.vm h0 := CHr.refl hCH0
  have e0 : s₁.heap = h0 := by rw [← hh, Bd.state]; rfl
  have N0 := Fr.nil n0
  have K0 : Keep h0 h0 [] := Keep.refl _ _
  suffices GO : ∀ P : Outcome → State → Prop, (∀ o U', (∃ v L, o = .returned v ∧ Q2 Z nn q0 q1 q2 cs h0 n0 v U'.heap L ∧ CHr Z consts_1 s.vm s.heap U'.vm U'.heap ∧ ReturnedEndW s o U' L ({ frames := 4, cells := 6, slots := 12, locals := 66 } : Room).cells ({ frames := 4, cells := 6, slots := 12, locals := 66 } : Room).slots) → P o U') → Go p.tables e below P s₁ (mkF m 0 #[.val (.int nn), .val (.int q0), .val (.int q1), .val (.int q2)] []) by
    obtain ⟨s2, o, st, r⟩ := GO _ (fun _ _ q => q)
    exact ⟨s2, o, castTop (ef_2 m nn q0 q1 q2) st, r⟩
  intro P hP
  show Go p.tables e below P s₁ (mkF m 0 #[.val (.int nn), .val (.int q0), .val (.int q1), .val (.int q2)] [])
  refine Go.via (fun t k => XS.iloadN X0.here hx rfl (hb hby d2_0) rfl k) ?_
  show Go p.tables e below P s₁ (mkF m 1 #[.val (.int nn), .val (.int q0), .val (.int q1), .val (.int q2)] [(.int nn)])
  by_cases hc1 : nn = (0 : Int32)
  · refine Go.via (fun t k => XS.ifNo X0.here hx rfl (hb hby d2_1) rfl ((if0 _ _).trans (teq hc1).2) k) ?_
    show Go p.tables e below P s₁ (mkF m 4 #[.val (.int nn), .val (.int q0), .val (.int q1), .val (.int q2)] [])
    obtain ⟨T2, h2, X2, e2, E2, A2, D2, -, st2⟩ := newO X0 hx hZ hown (hw _ (List.mem_of_getElem? (i := 11) rfl)) (hw _ (List.mem_of_getElem? (i := 12) rfl)) (hw _ (List.mem_of_getElem? (i := 13) rfl)) e0 (g := (mkF m 4 #[.val (.int nn), .val (.int q0), .val (.int q1), .val (.int q2)] [])) rfl (hb hby d2_4) (by decide) (by decide)
    obtain ⟨b2, g2⟩ : ∃ z, z = h0.size := ⟨_, rfl⟩
    rw [← g2] at A2 D2 st2
    refine Go.via st2 ?_
    have g3 : n0 ≤ b2 := Nat.le_trans Z0 (Nat.le_of_eq g2.symm)
    have sz4 : h0.size ≤ b2 := Nat.le_trans K0.1 (Nat.le_of_eq g2.symm)
    have Z5 : n0 ≤ h2.size := Nat.le_trans Z0 E2.1
    have K6 : Keep h0 h2 [] := K0.ext E2
    have O7 : Old Z n0 h2 := O0.ext E2
    have CR8 := CHr.trans CR0 (CHr.ext E2 CR0.1)
    show Go p.tables e below P T2 (mkF m 7 #[.val (.int nn), .val (.int q0), .val (.int q1), .val (.int q2)] [(.ref b2)])
    refine Go.via (fun t k => XS.dup X2.here hx rfl (hb hby d2_7) rfl rfl k) ?_
    refine Go.via (fun t k => XS.iconst X2.here hx rfl (hb hby d2_8) k) ?_
    show Go p.tables e below P T2 (mkF m 9 #[.val (.int nn), .val (.int q0), .val (.int q1), .val (.int q2)] [(.int (0 : Int32)), (.ref b2), (.ref b2)])
    obtain ⟨T9, h9, k9, X9, e9, E9, A9, st9⟩ := newP X2 hx hZ (hw _ (List.mem_of_getElem? (i := 14) rfl)) e2 (g := (mkF m 9 #[.val (.int nn), .val (.int q0), .val (.int q1), .val (.int q2)] [(.int (0 : Int32)), (.ref b2), (.ref b2)])) rfl (hb hby d2_9) rfl (by decide) (cap := 0) (by decide) (by decide) (by decide) (by decide)
    obtain ⟨b9, g9⟩ : ∃ z, z = h2.size := ⟨_, rfl⟩
    rw [← g9] at A9 st9
    refine Go.via st9 ?_
    have ne10 : b2 ≠ b9 := Nat.ne_of_lt (Nat.lt_of_lt_of_le A2.lt (Nat.le_of_eq g9.symm))
    have g11 : n0 ≤ b9 := Nat.le_trans Z5 (Nat.le_of_eq g9.symm)
    have sz12 : h0.size ≤ b9 := Nat.le_trans K6.1 (Nat.le_of_eq g9.symm)
    have Z13 : n0 ≤ h9.size := Nat.le_trans Z5 E9.1
    have K14 : Keep h0 h9 [] := K6.ext E9
    have O15 : Old Z n0 h9 := O7.ext E9
    have CR16 := CHr.trans CR8 (CHr.ext E9 CR8.1)
    have V9 : Arv Z h9 b9 k9 .char (0 : Int32) [] (.int (0 : Int32)) := (Arv.new A9 (by decide)).pad (pad_rep [] (.int (0 : Int32)) 0)
    show Go p.tables e below P T9 (mkF m 11 #[.val (.int nn), .val (.int q0), .val (.int q1), .val (.int q2)] [(.ref b9), (.ref b2), (.ref b2)])
    have F17 : Exa Z h9 b2 "java/lang/String" := (A2.ext E9)
    have F18 : Fld Z h9 b2 "java/lang/String" "value" "[B" .null := ((D2 (Or.inr (hw _ (List.mem_of_getElem? (i := 40) rfl))) (ty := (.array .byte)) (by decide) : Fld Z h2 b2 "java/lang/String" "value" "[B" .null).ext E9)
    have F19 : Fld Z h9 b2 "java/lang/String" "coder" "B" (.int (0 : Int32)) := ((D2 (Or.inr (hw _ (List.mem_of_getElem? (i := 38) rfl))) (ty := .byte) (by decide) : Fld Z h2 b2 "java/lang/String" "coder" "B" (.int (0 : Int32))).ext E9)
    obtain ⟨_, _, ⟨T20, L20, k20, n20⟩, -, X20, hSn20, hgn20, ⟨Lc20, hQ20, l20, y20, z20, hC20⟩, st20⟩ := X9.specialBackS hx (y := (⟨"java/lang/String", "<init>", "([C)V"⟩ : MethodName)) rfl hown (mvT hZ (hw _ (List.mem_of_getElem? (i := 15) rfl))) (mvT hZ (hw _ (List.mem_of_getElem? (i := 16) rfl))) (mvT hZ (hw _ (List.mem_of_getElem? (i := 17) rfl))) (by decide) (backOfSH (W := 1) (rm3 l Z a0 hw [] b2 b9 k9 [] (.int (0 : Int32)) h9 n0 Z13 F17 F18 F19 g3 V9) hZ (hw _ (List.mem_of_getElem? (i := 17) rfl)) (hw _ (List.mem_of_getElem? (i := 13) rfl)) (by decide) (by decide) (own_EW hw) CR16.1) (g := (mkF m 11 #[.val (.int nn), .val (.int q0), .val (.int q1), .val (.int q2)] [(.ref b9), (.ref b2), (.ref b2)])) rfl (by rw [hml]; rfl) (Steps.refl _) (a := b2) (argsL := [(.ref b9)]) (rest := [(.ref b2)]) (lenOf own_pd1 rfl) rfl (by show 2 * 0 + _ ≤ _; exact Nat.le_of_eq rfl) (hb hby d2_11) (fun _ _ => ⟨rfl, e9, (by decide : 2 + 4 ≤ _), (by decide : 4 + 8 ≤ _)⟩)
    dsimp only [Pt.U, Pt.locs, Pt.cells, Pt.slots] at X20 l20 y20 z20 st20 hQ20 hSn20 hgn20 hC20
    subst l20 y20 z20
    have hS20 : s.Since T20.vm T20.heap.size := foldS hS0 (by rw [e9]; exact (Nat.zero_le _)) hSn20 hgn20
    have X20 : Stand p l e ({ frames := 4, cells := 6, slots := 12, locals := 66 } : Room) (s.setVm T20.vm) m #[(.int nn), (.int q0), (.int q1), (.int q2)] below meth c T20 _ _ _ := X20
    have hown : (s.setVm T20.vm).vm.findClass "com/example/numeric_planner/numericplanner/rddl/TokenIsPinLaw" = some m.cls := by rw [show (s.setVm T20.vm).vm = T20.vm from rfl, hSn20.1.alike.findClass]; exact hown
    have hZ : Z.Warmed39 (s.setVm T20.vm).vm := State.Warmed39.trans (t := s.setVm s.vm) hZ hSn20.1
    obtain ⟨tb_20, kk_20, rfl, Nq20, K20, u20_0, u20_1, u20_2, u20_3, u20_4, u20_5⟩ := hQ20
    obtain ⟨lc20, Xh20, N20⟩ := own_hide X20 (Fr.app N0 Nq20)
    clear X20
    refine Go.hop st20 ?_
    have CR21 := CHr.trans CR16 hC20
    have Z22 : n0 ≤ T20.heap.size := Nat.le_trans Z13 K20.1
    have K23 : Keep h0 T20.heap [] := K14.trans K20 (own_allC (Or.inr sz4) own_all0)
    have O24 : Old Z n0 T20.heap := O15.keep K20 (own_allC g3 own_all0)
    have hk25 : T20.heap.size ≤ T20.heap.size := Nat.le_refl _
    show Go p.tables e below P T20 (mkF m 14 #[.val (.int nn), .val (.int q0), .val (.int q1), .val (.int q2)] [(.ref b2)])
    have eVr27 : (own_mk nn q0 q1 q2) = ([] : List Int32) := by unfold own_mk; rw [if_pos hc1]
    have Vr27 : Arv Z T20.heap tb_20 kk_20 .byte (own_lg (own_mk nn q0 q1 q2)) ((own_mk nn q0 q1 q2).map Value.int) (.int (0 : Int32)) := by
      rw [eVr27, show own_lg ([] : List Int32) = (0 : Int32) from rfl]; exact u20_3
    obtain ⟨fs, hr, hrun, hended, hend⟩ := Xh20.leaveW hS20 (by exact hk25) (v := some (.ref b2)) (fun h => by rw [Bd.returns] at h; cases h)
    have hCf : CHr Z consts_1 s.vm s.heap (T20.setFrames fs).vm (T20.setFrames fs).heap := by
      rw [hh]
      show CHr Z consts_1 s.vm h0 T20.vm T20.heap
      exact CHr.trans CR21 (CHv.at Xh20 hZ (own_EW hw) CR21.1)
    refine ⟨_, _, retA Xh20 hx Bd.returns rfl rfl rfl (hb hby d2_14) hr, hrun, hended, hP _ _ ⟨_, _, rfl, ?_, hCf, own_rew hend (by decide) (by decide)⟩⟩
    show Q2 Z nn q0 q1 q2 cs h0 n0 _ T20.heap _
    exact ⟨b2, tb_20, kk_20, rfl, N20, K23, sz4, u20_0, u20_1, u20_2, Vr27, Vr27.lt, u20_5⟩
  · refine Go.via (fun t k => XS.ifYes X0.here hx rfl (pc0 := 1) (pc' := 15) rfl (hb hby d2_1) rfl ((if0 _ _).trans (feq hc1).2) (by decide) (by decide) k) ?_
    show Go p.tables e below P s₁ (mkF m 15 #[.val (.int nn), .val (.int q0), .val (.int q1), .val (.int q2)] [])
    refine Go.via (fun t k => XS.iloadN X0.here hx rfl (hb hby d2_15) rfl k) ?_
    refine Go.via (fun t k => XS.iconst X0.here hx rfl (hb hby d2_16) k) ?_
    show Go p.tables e below P s₁ (mkF m 17 #[.val (.int nn), .val (.int q0), .val (.int q1), .val (.int q2)] [(.int (1 : Int32)), (.int nn)])
    by_cases hc28 : nn = (1 : Int32)
    · refine Go.via (fun t k => XS.icmpNo X0.here hx rfl (hb hby d2_17) rfl (teq hc28).2 k) ?_
      show Go p.tables e below P s₁ (mkF m 20 #[.val (.int nn), .val (.int q0), .val (.int q1), .val (.int q2)] [])
      obtain ⟨T29, h29, X29, e29, E29, A29, D29, -, st29⟩ := newO X0 hx hZ hown (hw _ (List.mem_of_getElem? (i := 11) rfl)) (hw _ (List.mem_of_getElem? (i := 12) rfl)) (hw _ (List.mem_of_getElem? (i := 13) rfl)) e0 (g := (mkF m 20 #[.val (.int nn), .val (.int q0), .val (.int q1), .val (.int q2)] [])) rfl (hb hby d2_20) (by decide) (by decide)
      obtain ⟨b29, g29⟩ : ∃ z, z = h0.size := ⟨_, rfl⟩
      rw [← g29] at A29 D29 st29
      refine Go.via st29 ?_
      have g30 : n0 ≤ b29 := Nat.le_trans Z0 (Nat.le_of_eq g29.symm)
      have sz31 : h0.size ≤ b29 := Nat.le_trans K0.1 (Nat.le_of_eq g29.symm)
      have Z32 : n0 ≤ h29.size := Nat.le_trans Z0 E29.1
      have K33 : Keep h0 h29 [] := K0.ext E29
      have O34 : Old Z n0 h29 := O0.ext E29
      have CR35 := CHr.trans CR0 (CHr.ext E29 CR0.1)
      show Go p.tables e below P T29 (mkF m 23 #[.val (.int nn), .val (.int q0), .val (.int q1), .val (.int q2)] [(.ref b29)])
      refine Go.via (fun t k => XS.dup X29.here hx rfl (hb hby d2_23) rfl rfl k) ?_
      refine Go.via (fun t k => XS.iconst X29.here hx rfl (hb hby d2_24) k) ?_
      show Go p.tables e below P T29 (mkF m 25 #[.val (.int nn), .val (.int q0), .val (.int q1), .val (.int q2)] [(.int (1 : Int32)), (.ref b29), (.ref b29)])
      obtain ⟨T36, h36, k36, X36, e36, E36, A36, st36⟩ := newP X29 hx hZ (hw _ (List.mem_of_getElem? (i := 14) rfl)) e29 (g := (mkF m 25 #[.val (.int nn), .val (.int q0), .val (.int q1), .val (.int q2)] [(.int (1 : Int32)), (.ref b29), (.ref b29)])) rfl (hb hby d2_25) rfl (by decide) (cap := 1) (by decide) (by decide) (by decide) (by decide)
      obtain ⟨b36, g36⟩ : ∃ z, z = h29.size := ⟨_, rfl⟩
      rw [← g36] at A36 st36
      refine Go.via st36 ?_
      have ne37 : b29 ≠ b36 := Nat.ne_of_lt (Nat.lt_of_lt_of_le A29.lt (Nat.le_of_eq g36.symm))
      have g38 : n0 ≤ b36 := Nat.le_trans Z32 (Nat.le_of_eq g36.symm)
      have sz39 : h0.size ≤ b36 := Nat.le_trans K33.1 (Nat.le_of_eq g36.symm)
      have Z40 : n0 ≤ h36.size := Nat.le_trans Z32 E36.1
      have K41 : Keep h0 h36 [] := K33.ext E36
      have O42 : Old Z n0 h36 := O34.ext E36
      have CR43 := CHr.trans CR35 (CHr.ext E36 CR35.1)
      have V36 : Arv Z h36 b36 k36 .char (1 : Int32) [(.int (0 : Int32))] (.int (0 : Int32)) := (Arv.new A36 (by decide)).pad (pad_rep [] (.int (0 : Int32)) 1)
      show Go p.tables e below P T36 (mkF m 27 #[.val (.int nn), .val (.int q0), .val (.int q1), .val (.int q2)] [(.ref b36), (.ref b29), (.ref b29)])
      refine Go.via (fun t k => XS.dup X36.here hx rfl (hb hby d2_27) rfl rfl k) ?_
      refine Go.via (fun t k => XS.iconst X36.here hx rfl (hb hby d2_28) k) ?_
      refine Go.via (fun t k => XS.iloadN X36.here hx rfl (hb hby d2_29) rfl k) ?_
      show Go p.tables e below P T36 (mkF m 30 #[.val (.int nn), .val (.int q0), .val (.int q1), .val (.int q2)] [(.int q0), (.int (0 : Int32)), (.ref b36), (.ref b36), (.ref b29), (.ref b29)])
      have F44 : Exa Z h36 b29 "java/lang/String" := (A29.ext E36)
      have F45 : Fld Z h36 b29 "java/lang/String" "coder" "B" (.int (0 : Int32)) := ((D29 (Or.inr (hw _ (List.mem_of_getElem? (i := 38) rfl))) (ty := .byte) (by decide) : Fld Z h29 b29 "java/lang/String" "coder" "B" (.int (0 : Int32))).ext E36)
      have F46 : Fld Z h36 b29 "java/lang/String" "value" "[B" .null := ((D29 (Or.inr (hw _ (List.mem_of_getElem? (i := 40) rfl))) (ty := (.array .byte)) (by decide) : Fld Z h29 b29 "java/lang/String" "value" "[B" .null).ext E36)
      obtain ⟨c47, A47, q47, S47, N47, H47, G47⟩ := id V36
      have hin47 : ¬ ((0 : Int32) < 0 ∨ c47.slots.size ≤ ((0 : Int32)).toNatClampNeg) := inb_of S47 ⟨by decide, by decide⟩
      obtain ⟨T47, h47, X47, e47, W47, st47⟩ := stC X36 hx hZ e36 A47 (j := (0 : Int32)) hin47 (g := (mkF m 30 #[.val (.int nn), .val (.int q0), .val (.int q1), .val (.int q2)] [(.int q0), (.int (0 : Int32)), (.ref b36), (.ref b36), (.ref b29), (.ref b29)])) rfl rfl (hb hby d2_30)
      refine Go.via st47 ?_
      have Z48 : n0 ≤ h47.size := Nat.le_trans Z40 (Nat.le_of_eq W47.size.symm)
      have K49 : Keep h0 h47 [] := K41.wr W47 (Or.inr sz39)
      obtain ⟨lc47, Xh47, N50⟩ := own_hide X47 (Fr.snoc X47 N0 g38)
      clear X47
      have O51 : Old Z n0 h47 := O42.wr W47 g38
      have Sf47 := Safe.wr W47 (Safe.arv hZ.alike V36 (by decide)) CR43.1 (Safe.arv hZ.alike V36 (by decide))
      have CR52 := CHr.trans CR43 (CHr.wr W47 (Safe.arv hZ.alike V36 (by decide)) CR43.1)
      have V47 : Arv Z h47 b36 k36 .char (1 : Int32) [(.int (nar .char q0))] (.int (0 : Int32)) := Arv.set A47 q47 S47 N47 H47 G47 (fits_nar_char _) W47 0 rfl (Nat.le_of_ble_eq_true rfl)
      show Go p.tables e below P T47 (mkF m 31 #[.val (.int nn), .val (.int q0), .val (.int q1), .val (.int q2)] [(.ref b36), (.ref b29), (.ref b29)])
      have F53 : Exa Z h47 b29 "java/lang/String" := (F44.wr W47)
      have F54 : Fld Z h47 b29 "java/lang/String" "value" "[B" .null := (F46.other W47 (Or.inl ne37))
      have F55 : Fld Z h47 b29 "java/lang/String" "coder" "B" (.int (0 : Int32)) := (F45.other W47 (Or.inl ne37))
      obtain ⟨_, _, ⟨T56, L56, k56, n56⟩, -, X56, ⟨Lc56, hQ56, l56, y56, z56⟩, st56⟩ := Xh47.specialBack hx (y := (⟨"java/lang/String", "<init>", "([C)V"⟩ : MethodName)) rfl hown (mvT hZ (hw _ (List.mem_of_getElem? (i := 15) rfl))) (mvT hZ (hw _ (List.mem_of_getElem? (i := 16) rfl))) (mvT hZ (hw _ (List.mem_of_getElem? (i := 17) rfl))) (by decide) (StrChars.Road.backV (W := 1) hZ (own_ws hw) (kI := 4) (hw _ (List.mem_of_getElem? (i := 12) rfl)) (cs := ([(nar .char q0)] : List Int32)) (bs := ([((nar .char q0)).toInt8.toInt32] : List Int32)) (n := 1) g30 Z48 F53 F54 F55 V47 (P1.ext O51.2) hcs rfl rfl (by decide) (by decide) (own_alC (own_hp by0) own_al0) rfl (by decide) (by decide)) (g := (mkF m 31 #[.val (.int nn), .val (.int q0), .val (.int q1), .val (.int q2)] [(.ref b36), (.ref b29), (.ref b29)])) rfl (by rw [hml]; rfl) (Steps.refl _) (a := b29) (argsL := [(.ref b36)]) (rest := [(.ref b29)]) (lenOf own_pd1 rfl) rfl (by show 2 * 0 + _ ≤ _; exact Nat.le_of_eq rfl) (hb hby d2_31) (fun _ _ => ⟨rfl, e47, (by decide : 2 + 1 ≤ _), (by decide : 5 + 1 ≤ _)⟩)
      dsimp only [Pt.U, Pt.locs, Pt.cells, Pt.slots] at X56 l56 y56 z56 st56 hQ56
      subst l56 y56 z56
      obtain ⟨rfl, Nq56, K56, Ex56, Fc56, t56, kb56, -, lt56, ne56, Fv56, Va56⟩ := hQ56
      obtain ⟨lc56, Xh56, N56⟩ := own_hide X56 (Fr.app N50 Nq56)
      clear X56
      refine Go.hop st56 ?_
      have ne57 : b29 ≠ t56 := Nat.ne_of_lt (Nat.lt_of_lt_of_le F53.lt lt56)
      have ne58 : b36 ≠ t56 := Nat.ne_of_lt (Nat.lt_of_lt_of_le V47.lt lt56)
      have g59 : n0 ≤ t56 := Nat.le_trans Z48 lt56
      have sz60 : h0.size ≤ t56 := Nat.le_trans K49.1 lt56
      have Z61 : n0 ≤ T56.heap.size := Nat.le_trans Z48 K56.1
      have K62 : Keep h0 T56.heap [] := K49.trans K56 (own_allC (Or.inr sz31) own_all0)
      have CR63 := CHr.trans CR52 (CHr.keep K56 (sfS (own_safeS hZ.alike F53 F54) sf0) CR52.1)
      have O64 : Old Z n0 T56.heap := O51.keep K56 (own_allC g30 own_all0)
      have Vt56 : Arv Z T56.heap t56 kb56 .byte (1 : Int32) [(.int ((nar .char q0)).toInt8.toInt32)] (.int (0 : Int32)) := Va56
      show Go p.tables e below P T56 (mkF m 34 #[.val (.int nn), .val (.int q0), .val (.int q1), .val (.int q2)] [(.ref b29)])
      have eVr66 : (own_mk nn q0 q1 q2) = ([own_B q0] : List Int32) := by unfold own_mk; rw [if_neg hc1, if_pos hc28]
      have Vr66 : Arv Z T56.heap t56 kb56 .byte (own_lg (own_mk nn q0 q1 q2)) ((own_mk nn q0 q1 q2).map Value.int) (.int (0 : Int32)) := by
        rw [eVr66, show own_lg ([own_B q0] : List Int32) = (1 : Int32) from rfl]; exact Vt56
      obtain ⟨fs, hr, hrun, hended, hend⟩ := Xh56.leaveW hS0 (by exact (Nat.zero_le _)) (v := some (.ref b29)) (fun h => by rw [Bd.returns] at h; cases h)
      have hCf : CHr Z consts_1 s.vm s.heap (T56.setFrames fs).vm (T56.setFrames fs).heap := by
        rw [hh]
        show CHr Z consts_1 s.vm h0 T56.vm T56.heap
        exact CHr.trans CR63 (CHv.at Xh56 hZ (own_EW hw) CR63.1)
      refine ⟨_, _, retA Xh56 hx Bd.returns rfl rfl rfl (hb hby d2_34) hr, hrun, hended, hP _ _ ⟨_, _, rfl, ?_, hCf, own_rew hend (by decide) (by decide)⟩⟩
      show Q2 Z nn q0 q1 q2 cs h0 n0 _ T56.heap _
      exact ⟨b29, t56, kb56, rfl, N56, K62, sz31, Ex56, Fv56, Fc56, Vr66, Vr66.lt, ne57⟩
    · refine Go.via (fun t k => XS.icmpYes X0.here hx rfl (pc0 := 17) (pc' := 35) rfl (hb hby d2_17) rfl (feq hc28).2 (by decide) (by decide) k) ?_
      show Go p.tables e below P s₁ (mkF m 35 #[.val (.int nn), .val (.int q0), .val (.int q1), .val (.int q2)] [])
      refine Go.via (fun t k => XS.iloadN X0.here hx rfl (hb hby d2_35) rfl k) ?_
      refine Go.via (fun t k => XS.iconst X0.here hx rfl (hb hby d2_36) k) ?_
      show Go p.tables e below P s₁ (mkF m 37 #[.val (.int nn), .val (.int q0), .val (.int q1), .val (.int q2)] [(.int (2 : Int32)), (.int nn)])
      by_cases hc67 : nn = (2 : Int32)
      · refine Go.via (fun t k => XS.icmpNo X0.here hx rfl (hb hby d2_37) rfl (teq hc67).2 k) ?_
        show Go p.tables e below P s₁ (mkF m 40 #[.val (.int nn), .val (.int q0), .val (.int q1), .val (.int q2)] [])
        obtain ⟨T68, h68, X68, e68, E68, A68, D68, -, st68⟩ := newO X0 hx hZ hown (hw _ (List.mem_of_getElem? (i := 11) rfl)) (hw _ (List.mem_of_getElem? (i := 12) rfl)) (hw _ (List.mem_of_getElem? (i := 13) rfl)) e0 (g := (mkF m 40 #[.val (.int nn), .val (.int q0), .val (.int q1), .val (.int q2)] [])) rfl (hb hby d2_40) (by decide) (by decide)
        obtain ⟨b68, g68⟩ : ∃ z, z = h0.size := ⟨_, rfl⟩
        rw [← g68] at A68 D68 st68
        refine Go.via st68 ?_
        have g69 : n0 ≤ b68 := Nat.le_trans Z0 (Nat.le_of_eq g68.symm)
        have sz70 : h0.size ≤ b68 := Nat.le_trans K0.1 (Nat.le_of_eq g68.symm)
        have Z71 : n0 ≤ h68.size := Nat.le_trans Z0 E68.1
        have K72 : Keep h0 h68 [] := K0.ext E68
        have O73 : Old Z n0 h68 := O0.ext E68
        have CR74 := CHr.trans CR0 (CHr.ext E68 CR0.1)
        show Go p.tables e below P T68 (mkF m 43 #[.val (.int nn), .val (.int q0), .val (.int q1), .val (.int q2)] [(.ref b68)])
        refine Go.via (fun t k => XS.dup X68.here hx rfl (hb hby d2_43) rfl rfl k) ?_
        refine Go.via (fun t k => XS.iconst X68.here hx rfl (hb hby d2_44) k) ?_
        show Go p.tables e below P T68 (mkF m 45 #[.val (.int nn), .val (.int q0), .val (.int q1), .val (.int q2)] [(.int (2 : Int32)), (.ref b68), (.ref b68)])
        obtain ⟨T75, h75, k75, X75, e75, E75, A75, st75⟩ := newP X68 hx hZ (hw _ (List.mem_of_getElem? (i := 14) rfl)) e68 (g := (mkF m 45 #[.val (.int nn), .val (.int q0), .val (.int q1), .val (.int q2)] [(.int (2 : Int32)), (.ref b68), (.ref b68)])) rfl (hb hby d2_45) rfl (by decide) (cap := 2) (by decide) (by decide) (by decide) (by decide)
        obtain ⟨b75, g75⟩ : ∃ z, z = h68.size := ⟨_, rfl⟩
        rw [← g75] at A75 st75
        refine Go.via st75 ?_
        have ne76 : b68 ≠ b75 := Nat.ne_of_lt (Nat.lt_of_lt_of_le A68.lt (Nat.le_of_eq g75.symm))
        have g77 : n0 ≤ b75 := Nat.le_trans Z71 (Nat.le_of_eq g75.symm)
        have sz78 : h0.size ≤ b75 := Nat.le_trans K72.1 (Nat.le_of_eq g75.symm)
        have Z79 : n0 ≤ h75.size := Nat.le_trans Z71 E75.1
        have K80 : Keep h0 h75 [] := K72.ext E75
        have O81 : Old Z n0 h75 := O73.ext E75
        have CR82 := CHr.trans CR74 (CHr.ext E75 CR74.1)
        have V75 : Arv Z h75 b75 k75 .char (2 : Int32) [(.int (0 : Int32)), (.int (0 : Int32))] (.int (0 : Int32)) := (Arv.new A75 (by decide)).pad (pad_rep [] (.int (0 : Int32)) 2)
        show Go p.tables e below P T75 (mkF m 47 #[.val (.int nn), .val (.int q0), .val (.int q1), .val (.int q2)] [(.ref b75), (.ref b68), (.ref b68)])
        refine Go.via (fun t k => XS.dup X75.here hx rfl (hb hby d2_47) rfl rfl k) ?_
        refine Go.via (fun t k => XS.iconst X75.here hx rfl (hb hby d2_48) k) ?_
        refine Go.via (fun t k => XS.iloadN X75.here hx rfl (hb hby d2_49) rfl k) ?_
        show Go p.tables e below P T75 (mkF m 50 #[.val (.int nn), .val (.int q0), .val (.int q1), .val (.int q2)] [(.int q0), (.int (0 : Int32)), (.ref b75), (.ref b75), (.ref b68), (.ref b68)])
        have F83 : Exa Z h75 b68 "java/lang/String" := (A68.ext E75)
        have F84 : Fld Z h75 b68 "java/lang/String" "coder" "B" (.int (0 : Int32)) := ((D68 (Or.inr (hw _ (List.mem_of_getElem? (i := 38) rfl))) (ty := .byte) (by decide) : Fld Z h68 b68 "java/lang/String" "coder" "B" (.int (0 : Int32))).ext E75)
        have F85 : Fld Z h75 b68 "java/lang/String" "value" "[B" .null := ((D68 (Or.inr (hw _ (List.mem_of_getElem? (i := 40) rfl))) (ty := (.array .byte)) (by decide) : Fld Z h68 b68 "java/lang/String" "value" "[B" .null).ext E75)
        obtain ⟨c86, A86, q86, S86, N86, H86, G86⟩ := id V75
        have hin86 : ¬ ((0 : Int32) < 0 ∨ c86.slots.size ≤ ((0 : Int32)).toNatClampNeg) := inb_of S86 ⟨by decide, by decide⟩
        obtain ⟨T86, h86, X86, e86, W86, st86⟩ := stC X75 hx hZ e75 A86 (j := (0 : Int32)) hin86 (g := (mkF m 50 #[.val (.int nn), .val (.int q0), .val (.int q1), .val (.int q2)] [(.int q0), (.int (0 : Int32)), (.ref b75), (.ref b75), (.ref b68), (.ref b68)])) rfl rfl (hb hby d2_50)
        refine Go.via st86 ?_
        have Z87 : n0 ≤ h86.size := Nat.le_trans Z79 (Nat.le_of_eq W86.size.symm)
        have K88 : Keep h0 h86 [] := K80.wr W86 (Or.inr sz78)
        obtain ⟨lc86, Xh86, N89⟩ := own_hide X86 (Fr.snoc X86 N0 g77)
        clear X86
        have O90 : Old Z n0 h86 := O81.wr W86 g77
        have Sf86 := Safe.wr W86 (Safe.arv hZ.alike V75 (by decide)) CR82.1 (Safe.arv hZ.alike V75 (by decide))
        have CR91 := CHr.trans CR82 (CHr.wr W86 (Safe.arv hZ.alike V75 (by decide)) CR82.1)
        have V86 : Arv Z h86 b75 k75 .char (2 : Int32) [(.int (nar .char q0)), (.int (0 : Int32))] (.int (0 : Int32)) := Arv.set A86 q86 S86 N86 H86 G86 (fits_nar_char _) W86 0 rfl (Nat.le_of_ble_eq_true rfl)
        show Go p.tables e below P T86 (mkF m 51 #[.val (.int nn), .val (.int q0), .val (.int q1), .val (.int q2)] [(.ref b75), (.ref b68), (.ref b68)])
        refine Go.via (fun t k => XS.dup Xh86.here hx rfl (hb hby d2_51) rfl rfl k) ?_
        refine Go.via (fun t k => XS.iconst Xh86.here hx rfl (hb hby d2_52) k) ?_
        refine Go.via (fun t k => XS.iloadN Xh86.here hx rfl (hb hby d2_53) rfl k) ?_
        show Go p.tables e below P T86 (mkF m 54 #[.val (.int nn), .val (.int q0), .val (.int q1), .val (.int q2)] [(.int q1), (.int (1 : Int32)), (.ref b75), (.ref b75), (.ref b68), (.ref b68)])
        have F92 : Exa Z h86 b68 "java/lang/String" := (F83.wr W86)
        have F93 : Fld Z h86 b68 "java/lang/String" "coder" "B" (.int (0 : Int32)) := (F84.other W86 (Or.inl ne76))
        have F94 : Fld Z h86 b68 "java/lang/String" "value" "[B" .null := (F85.other W86 (Or.inl ne76))
        obtain ⟨c95, A95, q95, S95, N95, H95, G95⟩ := id V86
        have hin95 : ¬ ((1 : Int32) < 0 ∨ c95.slots.size ≤ ((1 : Int32)).toNatClampNeg) := inb_of S95 ⟨by decide, by decide⟩
        obtain ⟨T95, h95, X95, e95, W95, st95⟩ := stC Xh86 hx hZ e86 A95 (j := (1 : Int32)) hin95 (g := (mkF m 54 #[.val (.int nn), .val (.int q0), .val (.int q1), .val (.int q2)] [(.int q1), (.int (1 : Int32)), (.ref b75), (.ref b75), (.ref b68), (.ref b68)])) rfl rfl (hb hby d2_54)
        refine Go.via st95 ?_
        have Z96 : n0 ≤ h95.size := Nat.le_trans Z87 (Nat.le_of_eq W95.size.symm)
        have K97 : Keep h0 h95 [] := K88.wr W95 (Or.inr sz78)
        obtain ⟨lc95, Xh95, N98⟩ := own_hide X95 (Fr.snoc X95 N89 g77)
        clear X95
        have O99 : Old Z n0 h95 := O90.wr W95 g77
        have Sf95 := Safe.wr W95 (Safe.arv hZ.alike V86 (by decide)) CR91.1 (Safe.arv hZ.alike V86 (by decide))
        have CR100 := CHr.trans CR91 (CHr.wr W95 (Safe.arv hZ.alike V86 (by decide)) CR91.1)
        have V95 : Arv Z h95 b75 k75 .char (2 : Int32) [(.int (nar .char q0)), (.int (nar .char q1))] (.int (0 : Int32)) := Arv.set A95 q95 S95 N95 H95 G95 (fits_nar_char _) W95 1 rfl (Nat.le_of_ble_eq_true rfl)
        show Go p.tables e below P T95 (mkF m 55 #[.val (.int nn), .val (.int q0), .val (.int q1), .val (.int q2)] [(.ref b75), (.ref b68), (.ref b68)])
        have F101 : Exa Z h95 b68 "java/lang/String" := (F92.wr W95)
        have F102 : Fld Z h95 b68 "java/lang/String" "value" "[B" .null := (F94.other W95 (Or.inl ne76))
        have F103 : Fld Z h95 b68 "java/lang/String" "coder" "B" (.int (0 : Int32)) := (F93.other W95 (Or.inl ne76))
        obtain ⟨_, _, ⟨T104, L104, k104, n104⟩, -, X104, ⟨Lc104, hQ104, l104, y104, z104⟩, st104⟩ := Xh95.specialBack hx (y := (⟨"java/lang/String", "<init>", "([C)V"⟩ : MethodName)) rfl hown (mvT hZ (hw _ (List.mem_of_getElem? (i := 15) rfl))) (mvT hZ (hw _ (List.mem_of_getElem? (i := 16) rfl))) (mvT hZ (hw _ (List.mem_of_getElem? (i := 17) rfl))) (by decide) (StrChars.Road.backV (W := 1) hZ (own_ws hw) (kI := 4) (hw _ (List.mem_of_getElem? (i := 12) rfl)) (cs := ([(nar .char q0), (nar .char q1)] : List Int32)) (bs := ([((nar .char q0)).toInt8.toInt32, ((nar .char q1)).toInt8.toInt32] : List Int32)) (n := 2) g69 Z96 F101 F102 F103 V95 (P1.ext O99.2) hcs rfl rfl (by decide) (by decide) (own_alC (own_hp by0) (own_alC (own_hp by1) own_al0)) rfl (by decide) (by decide)) (g := (mkF m 55 #[.val (.int nn), .val (.int q0), .val (.int q1), .val (.int q2)] [(.ref b75), (.ref b68), (.ref b68)])) rfl (by rw [hml]; rfl) (Steps.refl _) (a := b68) (argsL := [(.ref b75)]) (rest := [(.ref b68)]) (lenOf own_pd1 rfl) rfl (by show 2 * 0 + _ ≤ _; exact Nat.le_of_eq rfl) (hb hby d2_55) (fun _ _ => ⟨rfl, e95, (by decide : 2 + 1 ≤ _), (by decide : 6 + 2 ≤ _)⟩)
        dsimp only [Pt.U, Pt.locs, Pt.cells, Pt.slots] at X104 l104 y104 z104 st104 hQ104
        subst l104 y104 z104
        obtain ⟨rfl, Nq104, K104, Ex104, Fc104, t104, kb104, -, lt104, ne104, Fv104, Va104⟩ := hQ104
        obtain ⟨lc104, Xh104, N104⟩ := own_hide X104 (Fr.app N98 Nq104)
        clear X104
        refine Go.hop st104 ?_
        have ne105 : b68 ≠ t104 := Nat.ne_of_lt (Nat.lt_of_lt_of_le F101.lt lt104)
        have ne106 : b75 ≠ t104 := Nat.ne_of_lt (Nat.lt_of_lt_of_le V95.lt lt104)
        have g107 : n0 ≤ t104 := Nat.le_trans Z96 lt104
        have sz108 : h0.size ≤ t104 := Nat.le_trans K97.1 lt104
        have Z109 : n0 ≤ T104.heap.size := Nat.le_trans Z96 K104.1
        have K110 : Keep h0 T104.heap [] := K97.trans K104 (own_allC (Or.inr sz70) own_all0)
        have CR111 := CHr.trans CR100 (CHr.keep K104 (sfS (own_safeS hZ.alike F101 F102) sf0) CR100.1)
        have O112 : Old Z n0 T104.heap := O99.keep K104 (own_allC g69 own_all0)
        have Vt104 : Arv Z T104.heap t104 kb104 .byte (2 : Int32) [(.int ((nar .char q0)).toInt8.toInt32), (.int ((nar .char q1)).toInt8.toInt32)] (.int (0 : Int32)) := Va104
        show Go p.tables e below P T104 (mkF m 58 #[.val (.int nn), .val (.int q0), .val (.int q1), .val (.int q2)] [(.ref b68)])
        have eVr114 : (own_mk nn q0 q1 q2) = ([own_B q0, own_B q1] : List Int32) := by unfold own_mk; rw [if_neg hc1, if_neg hc28, if_pos hc67]
        have Vr114 : Arv Z T104.heap t104 kb104 .byte (own_lg (own_mk nn q0 q1 q2)) ((own_mk nn q0 q1 q2).map Value.int) (.int (0 : Int32)) := by
          rw [eVr114, show own_lg ([own_B q0, own_B q1] : List Int32) = (2 : Int32) from rfl]; exact Vt104
        obtain ⟨fs, hr, hrun, hended, hend⟩ := Xh104.leaveW hS0 (by exact (Nat.zero_le _)) (v := some (.ref b68)) (fun h => by rw [Bd.returns] at h; cases h)
        have hCf : CHr Z consts_1 s.vm s.heap (T104.setFrames fs).vm (T104.setFrames fs).heap := by
          rw [hh]
          show CHr Z consts_1 s.vm h0 T104.vm T104.heap
          exact CHr.trans CR111 (CHv.at Xh104 hZ (own_EW hw) CR111.1)
        refine ⟨_, _, retA Xh104 hx Bd.returns rfl rfl rfl (hb hby d2_58) hr, hrun, hended, hP _ _ ⟨_, _, rfl, ?_, hCf, own_rew hend (by decide) (by decide)⟩⟩
        show Q2 Z nn q0 q1 q2 cs h0 n0 _ T104.heap _
        exact ⟨b68, t104, kb104, rfl, N104, K110, sz70, Ex104, Fv104, Fc104, Vr114, Vr114.lt, ne105⟩
      · refine Go.via (fun t k => XS.icmpYes X0.here hx rfl (pc0 := 37) (pc' := 59) rfl (hb hby d2_37) rfl (feq hc67).2 (by decide) (by decide) k) ?_
        show Go p.tables e below P s₁ (mkF m 59 #[.val (.int nn), .val (.int q0), .val (.int q1), .val (.int q2)] [])
        obtain ⟨T115, h115, X115, e115, E115, A115, D115, -, st115⟩ := newO X0 hx hZ hown (hw _ (List.mem_of_getElem? (i := 11) rfl)) (hw _ (List.mem_of_getElem? (i := 12) rfl)) (hw _ (List.mem_of_getElem? (i := 13) rfl)) e0 (g := (mkF m 59 #[.val (.int nn), .val (.int q0), .val (.int q1), .val (.int q2)] [])) rfl (hb hby d2_59) (by decide) (by decide)
        obtain ⟨b115, g115⟩ : ∃ z, z = h0.size := ⟨_, rfl⟩
        rw [← g115] at A115 D115 st115
        refine Go.via st115 ?_
        have g116 : n0 ≤ b115 := Nat.le_trans Z0 (Nat.le_of_eq g115.symm)
        have sz117 : h0.size ≤ b115 := Nat.le_trans K0.1 (Nat.le_of_eq g115.symm)
        have Z118 : n0 ≤ h115.size := Nat.le_trans Z0 E115.1
        have K119 : Keep h0 h115 [] := K0.ext E115
        have O120 : Old Z n0 h115 := O0.ext E115
        have CR121 := CHr.trans CR0 (CHr.ext E115 CR0.1)
        show Go p.tables e below P T115 (mkF m 62 #[.val (.int nn), .val (.int q0), .val (.int q1), .val (.int q2)] [(.ref b115)])
        refine Go.via (fun t k => XS.dup X115.here hx rfl (hb hby d2_62) rfl rfl k) ?_
        refine Go.via (fun t k => XS.iconst X115.here hx rfl (hb hby d2_63) k) ?_
        show Go p.tables e below P T115 (mkF m 64 #[.val (.int nn), .val (.int q0), .val (.int q1), .val (.int q2)] [(.int (3 : Int32)), (.ref b115), (.ref b115)])
        obtain ⟨T122, h122, k122, X122, e122, E122, A122, st122⟩ := newP X115 hx hZ (hw _ (List.mem_of_getElem? (i := 14) rfl)) e115 (g := (mkF m 64 #[.val (.int nn), .val (.int q0), .val (.int q1), .val (.int q2)] [(.int (3 : Int32)), (.ref b115), (.ref b115)])) rfl (hb hby d2_64) rfl (by decide) (cap := 3) (by decide) (by decide) (by decide) (by decide)
        obtain ⟨b122, g122⟩ : ∃ z, z = h115.size := ⟨_, rfl⟩
        rw [← g122] at A122 st122
        refine Go.via st122 ?_
        have ne123 : b115 ≠ b122 := Nat.ne_of_lt (Nat.lt_of_lt_of_le A115.lt (Nat.le_of_eq g122.symm))
        have g124 : n0 ≤ b122 := Nat.le_trans Z118 (Nat.le_of_eq g122.symm)
        have sz125 : h0.size ≤ b122 := Nat.le_trans K119.1 (Nat.le_of_eq g122.symm)
        have Z126 : n0 ≤ h122.size := Nat.le_trans Z118 E122.1
        have K127 : Keep h0 h122 [] := K119.ext E122
        have O128 : Old Z n0 h122 := O120.ext E122
        have CR129 := CHr.trans CR121 (CHr.ext E122 CR121.1)
        have V122 : Arv Z h122 b122 k122 .char (3 : Int32) [(.int (0 : Int32)), (.int (0 : Int32)), (.int (0 : Int32))] (.int (0 : Int32)) := (Arv.new A122 (by decide)).pad (pad_rep [] (.int (0 : Int32)) 3)
        show Go p.tables e below P T122 (mkF m 66 #[.val (.int nn), .val (.int q0), .val (.int q1), .val (.int q2)] [(.ref b122), (.ref b115), (.ref b115)])
        refine Go.via (fun t k => XS.dup X122.here hx rfl (hb hby d2_66) rfl rfl k) ?_
        refine Go.via (fun t k => XS.iconst X122.here hx rfl (hb hby d2_67) k) ?_
        refine Go.via (fun t k => XS.iloadN X122.here hx rfl (hb hby d2_68) rfl k) ?_
        show Go p.tables e below P T122 (mkF m 69 #[.val (.int nn), .val (.int q0), .val (.int q1), .val (.int q2)] [(.int q0), (.int (0 : Int32)), (.ref b122), (.ref b122), (.ref b115), (.ref b115)])
        have F130 : Exa Z h122 b115 "java/lang/String" := (A115.ext E122)
        have F131 : Fld Z h122 b115 "java/lang/String" "coder" "B" (.int (0 : Int32)) := ((D115 (Or.inr (hw _ (List.mem_of_getElem? (i := 38) rfl))) (ty := .byte) (by decide) : Fld Z h115 b115 "java/lang/String" "coder" "B" (.int (0 : Int32))).ext E122)
        have F132 : Fld Z h122 b115 "java/lang/String" "value" "[B" .null := ((D115 (Or.inr (hw _ (List.mem_of_getElem? (i := 40) rfl))) (ty := (.array .byte)) (by decide) : Fld Z h115 b115 "java/lang/String" "value" "[B" .null).ext E122)
        obtain ⟨c133, A133, q133, S133, N133, H133, G133⟩ := id V122
        have hin133 : ¬ ((0 : Int32) < 0 ∨ c133.slots.size ≤ ((0 : Int32)).toNatClampNeg) := inb_of S133 ⟨by decide, by decide⟩
        obtain ⟨T133, h133, X133, e133, W133, st133⟩ := stC X122 hx hZ e122 A133 (j := (0 : Int32)) hin133 (g := (mkF m 69 #[.val (.int nn), .val (.int q0), .val (.int q1), .val (.int q2)] [(.int q0), (.int (0 : Int32)), (.ref b122), (.ref b122), (.ref b115), (.ref b115)])) rfl rfl (hb hby d2_69)
        refine Go.via st133 ?_
        have Z134 : n0 ≤ h133.size := Nat.le_trans Z126 (Nat.le_of_eq W133.size.symm)
        have K135 : Keep h0 h133 [] := K127.wr W133 (Or.inr sz125)
        obtain ⟨lc133, Xh133, N136⟩ := own_hide X133 (Fr.snoc X133 N0 g124)
        clear X133
        have O137 : Old Z n0 h133 := O128.wr W133 g124
        have Sf133 := Safe.wr W133 (Safe.arv hZ.alike V122 (by decide)) CR129.1 (Safe.arv hZ.alike V122 (by decide))
        have CR138 := CHr.trans CR129 (CHr.wr W133 (Safe.arv hZ.alike V122 (by decide)) CR129.1)
        have V133 : Arv Z h133 b122 k122 .char (3 : Int32) [(.int (nar .char q0)), (.int (0 : Int32)), (.int (0 : Int32))] (.int (0 : Int32)) := Arv.set A133 q133 S133 N133 H133 G133 (fits_nar_char _) W133 0 rfl (Nat.le_of_ble_eq_true rfl)
        show Go p.tables e below P T133 (mkF m 70 #[.val (.int nn), .val (.int q0), .val (.int q1), .val (.int q2)] [(.ref b122), (.ref b115), (.ref b115)])
        refine Go.via (fun t k => XS.dup Xh133.here hx rfl (hb hby d2_70) rfl rfl k) ?_
        refine Go.via (fun t k => XS.iconst Xh133.here hx rfl (hb hby d2_71) k) ?_
        refine Go.via (fun t k => XS.iloadN Xh133.here hx rfl (hb hby d2_72) rfl k) ?_
        show Go p.tables e below P T133 (mkF m 73 #[.val (.int nn), .val (.int q0), .val (.int q1), .val (.int q2)] [(.int q1), (.int (1 : Int32)), (.ref b122), (.ref b122), (.ref b115), (.ref b115)])
        have F139 : Exa Z h133 b115 "java/lang/String" := (F130.wr W133)
        have F140 : Fld Z h133 b115 "java/lang/String" "coder" "B" (.int (0 : Int32)) := (F131.other W133 (Or.inl ne123))
        have F141 : Fld Z h133 b115 "java/lang/String" "value" "[B" .null := (F132.other W133 (Or.inl ne123))
        obtain ⟨c142, A142, q142, S142, N142, H142, G142⟩ := id V133
        have hin142 : ¬ ((1 : Int32) < 0 ∨ c142.slots.size ≤ ((1 : Int32)).toNatClampNeg) := inb_of S142 ⟨by decide, by decide⟩
        obtain ⟨T142, h142, X142, e142, W142, st142⟩ := stC Xh133 hx hZ e133 A142 (j := (1 : Int32)) hin142 (g := (mkF m 73 #[.val (.int nn), .val (.int q0), .val (.int q1), .val (.int q2)] [(.int q1), (.int (1 : Int32)), (.ref b122), (.ref b122), (.ref b115), (.ref b115)])) rfl rfl (hb hby d2_73)
        refine Go.via st142 ?_
        have Z143 : n0 ≤ h142.size := Nat.le_trans Z134 (Nat.le_of_eq W142.size.symm)
        have K144 : Keep h0 h142 [] := K135.wr W142 (Or.inr sz125)
        obtain ⟨lc142, Xh142, N145⟩ := own_hide X142 (Fr.snoc X142 N136 g124)
        clear X142
        have O146 : Old Z n0 h142 := O137.wr W142 g124
        have Sf142 := Safe.wr W142 (Safe.arv hZ.alike V133 (by decide)) CR138.1 (Safe.arv hZ.alike V133 (by decide))
        have CR147 := CHr.trans CR138 (CHr.wr W142 (Safe.arv hZ.alike V133 (by decide)) CR138.1)
        have V142 : Arv Z h142 b122 k122 .char (3 : Int32) [(.int (nar .char q0)), (.int (nar .char q1)), (.int (0 : Int32))] (.int (0 : Int32)) := Arv.set A142 q142 S142 N142 H142 G142 (fits_nar_char _) W142 1 rfl (Nat.le_of_ble_eq_true rfl)
        show Go p.tables e below P T142 (mkF m 74 #[.val (.int nn), .val (.int q0), .val (.int q1), .val (.int q2)] [(.ref b122), (.ref b115), (.ref b115)])
        refine Go.via (fun t k => XS.dup Xh142.here hx rfl (hb hby d2_74) rfl rfl k) ?_
        refine Go.via (fun t k => XS.iconst Xh142.here hx rfl (hb hby d2_75) k) ?_
        refine Go.via (fun t k => XS.iloadN Xh142.here hx rfl (hb hby d2_76) rfl k) ?_
        show Go p.tables e below P T142 (mkF m 77 #[.val (.int nn), .val (.int q0), .val (.int q1), .val (.int q2)] [(.int q2), (.int (2 : Int32)), (.ref b122), (.ref b122), (.ref b115), (.ref b115)])
        have F148 : Exa Z h142 b115 "java/lang/String" := (F139.wr W142)
        have F149 : Fld Z h142 b115 "java/lang/String" "coder" "B" (.int (0 : Int32)) := (F140.other W142 (Or.inl ne123))
        have F150 : Fld Z h142 b115 "java/lang/String" "value" "[B" .null := (F141.other W142 (Or.inl ne123))
        obtain ⟨c151, A151, q151, S151, N151, H151, G151⟩ := id V142
        have hin151 : ¬ ((2 : Int32) < 0 ∨ c151.slots.size ≤ ((2 : Int32)).toNatClampNeg) := inb_of S151 ⟨by decide, by decide⟩
        obtain ⟨T151, h151, X151, e151, W151, st151⟩ := stC Xh142 hx hZ e142 A151 (j := (2 : Int32)) hin151 (g := (mkF m 77 #[.val (.int nn), .val (.int q0), .val (.int q1), .val (.int q2)] [(.int q2), (.int (2 : Int32)), (.ref b122), (.ref b122), (.ref b115), (.ref b115)])) rfl rfl (hb hby d2_77)
        refine Go.via st151 ?_
        have Z152 : n0 ≤ h151.size := Nat.le_trans Z143 (Nat.le_of_eq W151.size.symm)
        have K153 : Keep h0 h151 [] := K144.wr W151 (Or.inr sz125)
        obtain ⟨lc151, Xh151, N154⟩ := own_hide X151 (Fr.snoc X151 N145 g124)
        clear X151
        have O155 : Old Z n0 h151 := O146.wr W151 g124
        have Sf151 := Safe.wr W151 (Safe.arv hZ.alike V142 (by decide)) CR147.1 (Safe.arv hZ.alike V142 (by decide))
        have CR156 := CHr.trans CR147 (CHr.wr W151 (Safe.arv hZ.alike V142 (by decide)) CR147.1)
        have V151 : Arv Z h151 b122 k122 .char (3 : Int32) [(.int (nar .char q0)), (.int (nar .char q1)), (.int (nar .char q2))] (.int (0 : Int32)) := Arv.set A151 q151 S151 N151 H151 G151 (fits_nar_char _) W151 2 rfl (Nat.le_of_ble_eq_true rfl)
        show Go p.tables e below P T151 (mkF m 78 #[.val (.int nn), .val (.int q0), .val (.int q1), .val (.int q2)] [(.ref b122), (.ref b115), (.ref b115)])
        have F157 : Exa Z h151 b115 "java/lang/String" := (F148.wr W151)
        have F158 : Fld Z h151 b115 "java/lang/String" "value" "[B" .null := (F150.other W151 (Or.inl ne123))
        have F159 : Fld Z h151 b115 "java/lang/String" "coder" "B" (.int (0 : Int32)) := (F149.other W151 (Or.inl ne123))
        obtain ⟨_, _, ⟨T160, L160, k160, n160⟩, -, X160, ⟨Lc160, hQ160, l160, y160, z160⟩, st160⟩ := Xh151.specialBack hx (y := (⟨"java/lang/String", "<init>", "([C)V"⟩ : MethodName)) rfl hown (mvT hZ (hw _ (List.mem_of_getElem? (i := 15) rfl))) (mvT hZ (hw _ (List.mem_of_getElem? (i := 16) rfl))) (mvT hZ (hw _ (List.mem_of_getElem? (i := 17) rfl))) (by decide) (StrChars.Road.backV (W := 1) hZ (own_ws hw) (kI := 4) (hw _ (List.mem_of_getElem? (i := 12) rfl)) (cs := ([(nar .char q0), (nar .char q1), (nar .char q2)] : List Int32)) (bs := ([((nar .char q0)).toInt8.toInt32, ((nar .char q1)).toInt8.toInt32, ((nar .char q2)).toInt8.toInt32] : List Int32)) (n := 3) g116 Z152 F157 F158 F159 V151 (P1.ext O155.2) hcs rfl rfl (by decide) (by decide) (own_alC (own_hp by0) (own_alC (own_hp by1) (own_alC (own_hp by2) own_al0))) rfl (by decide) (by decide)) (g := (mkF m 78 #[.val (.int nn), .val (.int q0), .val (.int q1), .val (.int q2)] [(.ref b122), (.ref b115), (.ref b115)])) rfl (by rw [hml]; rfl) (Steps.refl _) (a := b115) (argsL := [(.ref b122)]) (rest := [(.ref b115)]) (lenOf own_pd1 rfl) rfl (by show 2 * 0 + _ ≤ _; exact Nat.le_of_eq rfl) (hb hby d2_78) (fun _ _ => ⟨rfl, e151, (by decide : 2 + 1 ≤ _), (by decide : 7 + 3 ≤ _)⟩)
        dsimp only [Pt.U, Pt.locs, Pt.cells, Pt.slots] at X160 l160 y160 z160 st160 hQ160
        subst l160 y160 z160
        obtain ⟨rfl, Nq160, K160, Ex160, Fc160, t160, kb160, -, lt160, ne160, Fv160, Va160⟩ := hQ160
        obtain ⟨lc160, Xh160, N160⟩ := own_hide X160 (Fr.app N154 Nq160)
        clear X160
        refine Go.hop st160 ?_
        have ne161 : b115 ≠ t160 := Nat.ne_of_lt (Nat.lt_of_lt_of_le F157.lt lt160)
        have ne162 : b122 ≠ t160 := Nat.ne_of_lt (Nat.lt_of_lt_of_le V151.lt lt160)
        have g163 : n0 ≤ t160 := Nat.le_trans Z152 lt160
        have sz164 : h0.size ≤ t160 := Nat.le_trans K153.1 lt160
        have Z165 : n0 ≤ T160.heap.size := Nat.le_trans Z152 K160.1
        have K166 : Keep h0 T160.heap [] := K153.trans K160 (own_allC (Or.inr sz117) own_all0)
        have CR167 := CHr.trans CR156 (CHr.keep K160 (sfS (own_safeS hZ.alike F157 F158) sf0) CR156.1)
        have O168 : Old Z n0 T160.heap := O155.keep K160 (own_allC g116 own_all0)
        have Vt160 : Arv Z T160.heap t160 kb160 .byte (3 : Int32) [(.int ((nar .char q0)).toInt8.toInt32), (.int ((nar .char q1)).toInt8.toInt32), (.int ((nar .char q2)).toInt8.toInt32)] (.int (0 : Int32)) := Va160
        show Go p.tables e below P T160 (mkF m 81 #[.val (.int nn), .val (.int q0), .val (.int q1), .val (.int q2)] [(.ref b115)])
        have eVr170 : (own_mk nn q0 q1 q2) = ([own_B q0, own_B q1, own_B q2] : List Int32) := by unfold own_mk; rw [if_neg hc1, if_neg hc28, if_neg hc67]
        have Vr170 : Arv Z T160.heap t160 kb160 .byte (own_lg (own_mk nn q0 q1 q2)) ((own_mk nn q0 q1 q2).map Value.int) (.int (0 : Int32)) := by
          rw [eVr170, show own_lg ([own_B q0, own_B q1, own_B q2] : List Int32) = (3 : Int32) from rfl]; exact Vt160
        obtain ⟨fs, hr, hrun, hended, hend⟩ := Xh160.leaveW hS0 (by exact (Nat.zero_le _)) (v := some (.ref b115)) (fun h => by rw [Bd.returns] at h; cases h)
        have hCf : CHr Z consts_1 s.vm s.heap (T160.setFrames fs).vm (T160.setFrames fs).heap := by
          rw [hh]
          show CHr Z consts_1 s.vm h0 T160.vm T160.heap
          exact CHr.trans CR167 (CHv.at Xh160 hZ (own_EW hw) CR167.1)
        refine ⟨_, _, retA Xh160 hx Bd.returns rfl rfl rfl (hb hby d2_81) hr, hrun, hended, hP _ _ ⟨_, _, rfl, ?_, hCf, own_rew hend (by decide) (by decide)⟩⟩
        show Q2 Z nn q0 q1 q2 cs h0 n0 _ T160.heap _
        exact ⟨b115, t160, kb160, rfl, N160, K166, sz117, Ex160, Fv160, Fc160, Vr170, Vr170.lt, ne161⟩
theorem own_pn2 : plainName "java/lang/StringLatin1" = true := by first | (simp [plainName, overriddenIn]; done) | decide +kernel
theorem d14_0 : decode jdk_43_method_13_code 0 = .ok (.aload_n 0, 1) := by decide +kernel
theorem d14_1 : decode jdk_43_method_13_code 1 = .ok (.arraylength, 1) := by decide +kernel
theorem d14_2 : decode jdk_43_method_13_code 2 = .ok (.aload_n 1, 1) := by decide +kernel
theorem d14_3 : decode jdk_43_method_13_code 3 = .ok (.arraylength, 1) := by decide +kernel
theorem d14_4 : decode jdk_43_method_13_code 4 = .ok (.if_icmp .ne 30, 3) := by decide +kernel
theorem d14_7 : decode jdk_43_method_13_code 7 = .ok (.iconst 0, 1) := by decide +kernel
theorem d14_8 : decode jdk_43_method_13_code 8 = .ok (.istore_n 2, 1) := by decide +kernel
theorem d14_9 : decode jdk_43_method_13_code 9 = .ok (.iload_n 2, 1) := by decide +kernel
theorem d14_10 : decode jdk_43_method_13_code 10 = .ok (.aload_n 0, 1) := by decide +kernel
theorem d14_11 : decode jdk_43_method_13_code 11 = .ok (.arraylength, 1) := by decide +kernel
theorem d14_12 : decode jdk_43_method_13_code 12 = .ok (.if_icmp .ge 20, 3) := by decide +kernel
theorem d14_15 : decode jdk_43_method_13_code 15 = .ok (.aload_n 0, 1) := by decide +kernel
theorem d14_16 : decode jdk_43_method_13_code 16 = .ok (.iload_n 2, 1) := by decide +kernel
theorem d14_17 : decode jdk_43_method_13_code 17 = .ok (.baload, 1) := by decide +kernel
theorem d14_18 : decode jdk_43_method_13_code 18 = .ok (.aload_n 1, 1) := by decide +kernel
theorem d14_19 : decode jdk_43_method_13_code 19 = .ok (.iload_n 2, 1) := by decide +kernel
theorem d14_20 : decode jdk_43_method_13_code 20 = .ok (.baload, 1) := by decide +kernel
theorem d14_21 : decode jdk_43_method_13_code 21 = .ok (.if_icmp .eq 5, 3) := by decide +kernel
theorem d14_24 : decode jdk_43_method_13_code 24 = .ok (.iconst 0, 1) := by decide +kernel
theorem d14_25 : decode jdk_43_method_13_code 25 = .ok (.ireturn, 1) := by decide +kernel
theorem d14_26 : decode jdk_43_method_13_code 26 = .ok (.iinc 2 1, 3) := by decide +kernel
theorem d14_29 : decode jdk_43_method_13_code 29 = .ok (.goto (-20), 3) := by decide +kernel
theorem d14_32 : decode jdk_43_method_13_code 32 = .ok (.iconst 1, 1) := by decide +kernel
theorem d14_33 : decode jdk_43_method_13_code 33 = .ok (.ireturn, 1) := by decide +kernel
theorem d14_34 : decode jdk_43_method_13_code 34 = .ok (.iconst 0, 1) := by decide +kernel
theorem d14_35 : decode jdk_43_method_13_code 35 = .ok (.ireturn, 1) := by decide +kernel
theorem ef_14 (m : MethodId) (x0 : Addr) (x1 : Addr) : entryFrame m #[(.ref x0), (.ref x1)] 3 = mkF m 0 #[.val (.ref x0), .val (.ref x1), .unset] [] := by first | (simp [entryFrame, mkF, argsToLocals, Value.category]; done) | rfl
def Q14 (Z : State) (tb : Addr) (tc : Addr) (kk : ClassId) (kc : ClassId) (bx : List Int32) (bz : List Int32) (h0 : Heap) (n0 : Nat) (v : Option Value) (h : Heap) (L : List Loc) : Prop := v = some (.int (if bx = bz then (1 : Int32) else (0 : Int32))) ∧ Fr n0 L ∧ h = h0
set_option maxRecDepth 65536 in
set_option maxHeartbeats 40000000 in
theorem rm14 (l : Launch) (Z : State) (a0 : Array Value) (hw : ∀ d ∈ tables_1, d.before a0 Z = true) (ws : List Jvm.Cond) (tb : Addr) (tc : Addr) (kk : ClassId) (kc : ClassId) (bx : List Int32) (bz : List Int32) (h0 : Heap) (n0 : Nat) (Z0 : n0 ≤ h0.size) (P0 : Arv Z h0 tb kk .byte (own_lg bx) (bx.map Value.int) (.int (0 : Int32))) (P1 : Arv Z h0 tc kc .byte (own_lg bz) (bz.map Value.int) (.int (0 : Int32))) (smx : bx.length ≤ 1000) (smz : bz.length ≤ 1000) :
    MetFree l (⟨"java/lang/StringLatin1", "equals", "([B[B)Z"⟩ : MethodName) (head1 (Jvm.Cond.code (⟨"java/lang/StringLatin1", "equals", "([B[B)Z"⟩ : MethodName) jdk_43_method_13_code 3 (some .boolean) :: ws) ({ frames := 0, cells := 0, slots := 0, locals := 0 } : Room)) (fun a U => a = #[(.ref tb), (.ref tc)] ∧ Z.Warmed39 U.vm ∧ U.heap = h0) (fun _ _ _ _ _ => True) (fun _ U o U' => ∃ v L, o = .returned v ∧ Q14 Z tb tc kk kc bx bz h0 n0 v U'.heap L ∧ FrameEnd U o U' L ({ frames := 0, cells := 0, slots := 0, locals := 0 } : Room).cells ({ frames := 0, cells := 0, slots := 0, locals := 0 } : Room).slots) := by
  refine MetFree.of_bodySF (plainFor_of_name own_pn2) hisR ?_
  intro p e s m args below meth c s₁ Bd hml0 hP hK
  obtain ⟨rfl, hZ, hh⟩ := hP
  have hx := Bd.exec
  have hby := Bd.bytes
  have hml : c.maxLocals = 3 := hml0
  have hown : s.vm.findClass "java/lang/StringLatin1" = some m.cls := findClass_of_methodNamed Bd.named
  have hnm := (name_of_methodNamed Bd.named Bd.method).1
  have X0 : Stand p l e ({ frames := 0, cells := 0, slots := 0, locals := 0 } : Room) s m #[(.ref tb), (.ref tc)] below meth c s₁ [] 0 0 := Stand.of_body Bd
  have e0 : s₁.heap = h0 := by rw [← hh, Bd.state]; rfl
  have N0 := Fr.nil n0
  have K0 : Keep h0 h0 [] := Keep.refl _ _
  suffices GO : ∀ P : Outcome → State → Prop, (∀ o U', (∃ v L, o = .returned v ∧ Q14 Z tb tc kk kc bx bz h0 n0 v U'.heap L ∧ FrameEnd s o U' L ({ frames := 0, cells := 0, slots := 0, locals := 0 } : Room).cells ({ frames := 0, cells := 0, slots := 0, locals := 0 } : Room).slots) → P o U') → Go p.tables e below P s₁ (mkF m 0 #[.val (.ref tb), .val (.ref tc), .unset] []) by
    obtain ⟨s2, o, st, r⟩ := GO _ (fun _ _ q => q)
    exact ⟨s2, o, castTop (ef_14 m tb tc) st, r⟩
  clear hh
  intro P hP
  show Go p.tables e below P s₁ (mkF m 0 #[.val (.ref tb), .val (.ref tc), .unset] [])
  refine Go.via (fun t k => XS.aloadN X0.here hx rfl (hb hby d14_0) rfl rfl k) ?_
  show Go p.tables e below P s₁ (mkF m 1 #[.val (.ref tb), .val (.ref tc), .unset] [(.ref tb)])
  obtain ⟨c1, A1, -, S1, N1, -, -⟩ := id P0
  refine Go.via (fun t k => X0.arraylength hx (by rw [e0]; exact A1.1) (State.isArrayOf_alike hZ.alike A1.2.1) (g := (mkF m 1 #[.val (.ref tb), .val (.ref tc), .unset] [(.ref tb)])) rfl rfl (hb hby d14_1) t (by rw [len_of S1 N1]; exact k)) ?_
  show Go p.tables e below P s₁ (mkF m 2 #[.val (.ref tb), .val (.ref tc), .unset] [(.int (own_lg bx))])
  refine Go.via (fun t k => XS.aloadN X0.here hx rfl (hb hby d14_2) rfl rfl k) ?_
  show Go p.tables e below P s₁ (mkF m 3 #[.val (.ref tb), .val (.ref tc), .unset] [(.ref tc), (.int (own_lg bx))])
  obtain ⟨c2, A2, -, S2, N2, -, -⟩ := id P1
  refine Go.via (fun t k => X0.arraylength hx (by rw [e0]; exact A2.1) (State.isArrayOf_alike hZ.alike A2.2.1) (g := (mkF m 3 #[.val (.ref tb), .val (.ref tc), .unset] [(.ref tc), (.int (own_lg bx))])) rfl rfl (hb hby d14_3) t (by rw [len_of S2 N2]; exact k)) ?_
  show Go p.tables e below P s₁ (mkF m 4 #[.val (.ref tb), .val (.ref tc), .unset] [(.int (own_lg bz)), (.int (own_lg bx))])
  by_cases hc3 : (own_lg bx) = (own_lg bz)
  · refine Go.via (fun t k => XS.icmpNo X0.here hx rfl (hb hby d14_4) rfl (teq hc3).2 k) ?_
    show Go p.tables e below P s₁ (mkF m 7 #[.val (.ref tb), .val (.ref tc), .unset] [])
    refine Go.via (fun t k => XS.iconst X0.here hx rfl (hb hby d14_7) k) ?_
    refine Go.via (fun t k => XS.istoreN X0.here hx rfl (hb hby d14_8) rfl (l' := #[.val (.ref tb), .val (.ref tc), .val (.int (0 : Int32))]) rfl k) ?_
    have LP4 : ∀ (k4 : Nat) (T4 : State) (locs4 : List Loc) (i : Nat) (x2 : Int32), Stand p l e ({ frames := 0, cells := 0, slots := 0, locals := 0 } : Room) s m #[(.ref tb), (.ref tc)] below meth c T4 locs4 0 0 → T4.heap = h0 → Fr n0 locs4 → i ≤ bx.length → x2 = i.toInt32 → (∀ j, j < i → bx.getD j 0 = bz.getD j 0) → bx.length - i < k4 → Go p.tables e below P T4 (mkF m 9 #[.val (.ref tb), .val (.ref tc), .val (.int x2)] []) := by
      intro k4
      induction k4 with
      | zero => intro T4 locs4 i x2 X4 e4 N4 hi hx2 hpre hk; exact absurd hk (Nat.not_lt_zero _)
      | succ k4 ih4 =>
        intro T4 locs4 i x2 X4 e4 N4 hi hx2 hpre hk
        show Go p.tables e below P T4 (mkF m 9 #[.val (.ref tb), .val (.ref tc), .val (.int x2)] [])
        refine Go.via (fun t k => XS.iloadN X4.here hx rfl (hb hby d14_9) rfl k) ?_
        refine Go.via (fun t k => XS.aloadN X4.here hx rfl (hb hby d14_10) rfl rfl k) ?_
        show Go p.tables e below P T4 (mkF m 11 #[.val (.ref tb), .val (.ref tc), .val (.int x2)] [(.ref tb), (.int x2)])
        obtain ⟨c5, A5, -, S5, N5, -, -⟩ := id P0
        refine Go.via (fun t k => X4.arraylength hx (by rw [e4]; exact A5.1) (State.isArrayOf_alike hZ.alike A5.2.1) (g := (mkF m 11 #[.val (.ref tb), .val (.ref tc), .val (.int x2)] [(.ref tb), (.int x2)])) rfl rfl (hb hby d14_11) t (by rw [len_of S5 N5]; exact k)) ?_
        show Go p.tables e below P T4 (mkF m 12 #[.val (.ref tb), .val (.ref tc), .val (.int x2)] [(.int (own_lg bx)), (.int x2)])
        by_cases hc6 : x2 < (own_lg bx)
        · refine Go.via (fun t k => XS.icmpNo X4.here hx rfl (hb hby d14_12) rfl (tlt hc6).2.1 k) ?_
          show Go p.tables e below P T4 (mkF m 15 #[.val (.ref tb), .val (.ref tc), .val (.int x2)] [])
          have hlt : i < bx.length := (own_ltN (by omega) (by omega)).mp (by rw [← hx2]; exact hc6)
          refine Go.via (fun t k => XS.aloadN X4.here hx rfl (hb hby d14_15) rfl rfl k) ?_
          refine Go.via (fun t k => XS.iloadN X4.here hx rfl (hb hby d14_16) rfl k) ?_
          show Go p.tables e below P T4 (mkF m 17 #[.val (.ref tb), .val (.ref tc), .val (.int x2)] [(.int x2), (.ref tb)])
          obtain ⟨c7, A7, q7, S7, N7, H7, G7⟩ := id P0
          have hin7 : ¬ (x2 < 0 ∨ c7.slots.size ≤ (x2).toNatClampNeg) := inb_of S7 ⟨by rw [hx2]; exact own_nneg (by omega), by rw [hx2]; exact (own_ltN (by omega) (by omega)).mpr hlt⟩
          have hat7 : c7.slots[(x2).toNatClampNeg]? = some (.int (bx.getD i 0)) := (H7 _ (Nat.lt_of_not_le fun q => hin7 (Or.inr q))).trans (congrArg some (by rw [hx2, own_clamp (by omega)]; exact own_gD bx i))
          refine Go.via (fun t k => X4.baloadBytes hx (j := x2) (v := (.int (bx.getD i 0))) (by rw [e4]; exact A7.1) (State.isArrayOf_alike hZ.alike A7.2.1) A7.2.2 hin7 hat7 (g := (mkF m 17 #[.val (.ref tb), .val (.ref tc), .val (.int x2)] [(.int x2), (.ref tb)])) rfl rfl (hb hby d14_17) t k) ?_
          show Go p.tables e below P T4 (mkF m 18 #[.val (.ref tb), .val (.ref tc), .val (.int x2)] [(.int (bx.getD i 0))])
          refine Go.via (fun t k => XS.aloadN X4.here hx rfl (hb hby d14_18) rfl rfl k) ?_
          refine Go.via (fun t k => XS.iloadN X4.here hx rfl (hb hby d14_19) rfl k) ?_
          show Go p.tables e below P T4 (mkF m 20 #[.val (.ref tb), .val (.ref tc), .val (.int x2)] [(.int x2), (.ref tc), (.int (bx.getD i 0))])
          obtain ⟨c8, A8, q8, S8, N8, H8, G8⟩ := id P1
          have hin8 : ¬ (x2 < 0 ∨ c8.slots.size ≤ (x2).toNatClampNeg) := inb_of S8 ⟨by rw [hx2]; exact own_nneg (by omega), by rw [hx2]; exact (own_ltN (by omega) (by omega)).mpr ((own_lgj smx smz hc3) ▸ hlt)⟩
          have hat8 : c8.slots[(x2).toNatClampNeg]? = some (.int (bz.getD i 0)) := (H8 _ (Nat.lt_of_not_le fun q => hin8 (Or.inr q))).trans (congrArg some (by rw [hx2, own_clamp (by omega)]; exact own_gD bz i))
          refine Go.via (fun t k => X4.baloadBytes hx (j := x2) (v := (.int (bz.getD i 0))) (by rw [e4]; exact A8.1) (State.isArrayOf_alike hZ.alike A8.2.1) A8.2.2 hin8 hat8 (g := (mkF m 20 #[.val (.ref tb), .val (.ref tc), .val (.int x2)] [(.int x2), (.ref tc), (.int (bx.getD i 0))])) rfl rfl (hb hby d14_20) t k) ?_
          show Go p.tables e below P T4 (mkF m 21 #[.val (.ref tb), .val (.ref tc), .val (.int x2)] [(.int (bz.getD i 0)), (.int (bx.getD i 0))])
          by_cases hc9 : (bx.getD i 0) = (bz.getD i 0)
          · refine Go.via (fun t k => XS.icmpYes X4.here hx rfl (pc0 := 21) (pc' := 26) rfl (hb hby d14_21) rfl (teq hc9).1 (by decide) (by decide) k) ?_
            show Go p.tables e below P T4 (mkF m 26 #[.val (.ref tb), .val (.ref tc), .val (.int x2)] [])
            refine Go.via (fun t k => XS.iinc X4.here hx rfl (hb hby d14_26) rfl (l' := #[.val (.ref tb), .val (.ref tc), .val (.int (x2 + (1 : Int32)))]) rfl k) ?_
            show Go p.tables e below P T4 (mkF m 29 #[.val (.ref tb), .val (.ref tc), .val (.int (x2 + (1 : Int32)))] [])
            refine Go.via (fun t k => XS.goto X4.here hx rfl (pc0 := 29) (pc' := 9) rfl (hb hby d14_29) (by decide) (by decide) k) ?_
            exact ih4 T4 _ (i + 1) (x2 + (1 : Int32)) X4 e4 N4 hlt (by rw [hx2]; exact own_succ i) (own_pre hpre hc9) (by omega)
          · refine Go.via (fun t k => XS.icmpNo X4.here hx rfl (hb hby d14_21) rfl (feq hc9).1 k) ?_
            show Go p.tables e below P T4 (mkF m 24 #[.val (.ref tb), .val (.ref tc), .val (.int x2)] [])
            refine Go.via (fun t k => XS.iconst X4.here hx rfl (hb hby d14_24) k) ?_
            show Go p.tables e below P T4 (mkF m 25 #[.val (.ref tb), .val (.ref tc), .val (.int x2)] [(.int (0 : Int32))])
            obtain ⟨fs, hr, hrun, hended, hW, hsame⟩ := X4.leave (v := some (.int (if bx = bz then (1 : Int32) else (0 : Int32)))) (fun h => by rw [Bd.returns] at h; cases h)
            refine ⟨_, _, retZ X4 hx (t := .boolean) Bd.returns (by simp) (hb hby d14_25) (show nar .boolean (0 : Int32) = _ from (if_neg (fun q => hc9 (by rw [q]))).symm) hr, hrun, hended, hP _ _ ⟨_, _, rfl, ?_, ⟨_, rfl⟩, hW, hsame.mono (by decide) (by decide)⟩⟩
            show Q14 Z tb tc kk kc bx bz h0 n0 _ T4.heap _
            rw [e4]
            exact ⟨rfl, N4, rfl⟩
        · refine Go.via (fun t k => XS.icmpYes X4.here hx rfl (pc0 := 12) (pc' := 32) rfl (hb hby d14_12) rfl (flt hc6).2.1 (by decide) (by decide) k) ?_
          show Go p.tables e below P T4 (mkF m 32 #[.val (.ref tb), .val (.ref tc), .val (.int x2)] [])
          refine Go.via (fun t k => XS.iconst X4.here hx rfl (hb hby d14_32) k) ?_
          show Go p.tables e below P T4 (mkF m 33 #[.val (.ref tb), .val (.ref tc), .val (.int x2)] [(.int (1 : Int32))])
          have hge : ¬ i < bx.length := fun r => hc6 (by rw [hx2]; exact (own_ltN (by omega) (by omega)).mpr r)
          obtain ⟨fs, hr, hrun, hended, hW, hsame⟩ := X4.leave (v := some (.int (if bx = bz then (1 : Int32) else (0 : Int32)))) (fun h => by rw [Bd.returns] at h; cases h)
          refine ⟨_, _, retZ X4 hx (t := .boolean) Bd.returns (by simp) (hb hby d14_33) (show nar .boolean (1 : Int32) = _ from (if_pos (own_eqg (own_lgj smx smz hc3) (fun j q => hpre j (by omega)))).symm) hr, hrun, hended, hP _ _ ⟨_, _, rfl, ?_, ⟨_, rfl⟩, hW, hsame.mono (by decide) (by decide)⟩⟩
          show Q14 Z tb tc kk kc bx bz h0 n0 _ T4.heap _
          rw [e4]
          exact ⟨rfl, N4, rfl⟩
    exact LP4 _ s₁ _ 0 (0 : Int32) X0 e0 N0 (Nat.zero_le _) rfl (fun _ q => nomatch q) (Nat.lt_succ_self _)
  · refine Go.via (fun t k => XS.icmpYes X0.here hx rfl (pc0 := 4) (pc' := 34) rfl (hb hby d14_4) rfl (feq hc3).2 (by decide) (by decide) k) ?_
    show Go p.tables e below P s₁ (mkF m 34 #[.val (.ref tb), .val (.ref tc), .unset] [])
    refine Go.via (fun t k => XS.iconst X0.here hx rfl (hb hby d14_34) k) ?_
    show Go p.tables e below P s₁ (mkF m 35 #[.val (.ref tb), .val (.ref tc), .unset] [(.int (0 : Int32))])
    obtain ⟨fs, hr, hrun, hended, hW, hsame⟩ := X0.leave (v := some (.int (if bx = bz then (1 : Int32) else (0 : Int32)))) (fun h => by rw [Bd.returns] at h; cases h)
    refine ⟨_, _, retZ X0 hx (t := .boolean) Bd.returns (by simp) (hb hby d14_35) (show nar .boolean (0 : Int32) = _ from (if_neg (fun q => hc3 (congrArg own_lg q))).symm) hr, hrun, hended, hP _ _ ⟨_, _, rfl, ?_, ⟨_, rfl⟩, hW, hsame.mono (by decide) (by decide)⟩⟩
    show Q14 Z tb tc kk kc bx bz h0 n0 _ s₁.heap _
    rw [e0]
    exact ⟨rfl, N0, rfl⟩
theorem own_pd2 : parseMethodDescriptor "([B[B)Z" = some ⟨[(.array .byte), (.array .byte)], some .boolean⟩ := by decide +kernel
theorem d13_0 : decode jdk_42_method_66_code 0 = .ok (.aload_n 0, 1) := by decide +kernel
theorem d13_1 : decode jdk_42_method_66_code 1 = .ok (.aload_n 1, 1) := by decide +kernel
theorem d13_2 : decode jdk_42_method_66_code 2 = .ok (.if_acmp .ne 5, 3) := by decide +kernel
theorem d13_5 : decode jdk_42_method_66_code 5 = .ok (.iconst 1, 1) := by decide +kernel
theorem d13_6 : decode jdk_42_method_66_code 6 = .ok (.ireturn, 1) := by decide +kernel
theorem d13_7 : decode jdk_42_method_66_code 7 = .ok (.aload_n 1, 1) := by decide +kernel
theorem d13_8 : decode jdk_42_method_66_code 8 = .ok (.instanceof 10, 3) := by decide +kernel
theorem d13_11 : decode jdk_42_method_66_code 11 = .ok (.ifCond .eq 43, 3) := by decide +kernel
theorem d13_14 : decode jdk_42_method_66_code 14 = .ok (.aload_n 1, 1) := by decide +kernel
theorem d13_15 : decode jdk_42_method_66_code 15 = .ok (.checkcast 10, 3) := by decide +kernel
theorem d13_18 : decode jdk_42_method_66_code 18 = .ok (.astore_n 2, 1) := by decide +kernel
theorem d13_19 : decode jdk_42_method_66_code 19 = .ok (.getstatic 38, 3) := by decide +kernel
theorem d13_22 : decode jdk_42_method_66_code 22 = .ok (.ifCond .eq 14, 3) := by decide +kernel
theorem d13_25 : decode jdk_42_method_66_code 25 = .ok (.aload_n 0, 1) := by decide +kernel
theorem d13_26 : decode jdk_42_method_66_code 26 = .ok (.getfield 15, 3) := by decide +kernel
theorem d13_29 : decode jdk_42_method_66_code 29 = .ok (.aload_n 2, 1) := by decide +kernel
theorem d13_30 : decode jdk_42_method_66_code 30 = .ok (.getfield 15, 3) := by decide +kernel
theorem d13_33 : decode jdk_42_method_66_code 33 = .ok (.if_icmp .ne 21, 3) := by decide +kernel
theorem d13_36 : decode jdk_42_method_66_code 36 = .ok (.aload_n 0, 1) := by decide +kernel
theorem d13_37 : decode jdk_42_method_66_code 37 = .ok (.getfield 9, 3) := by decide +kernel
theorem d13_40 : decode jdk_42_method_66_code 40 = .ok (.aload_n 2, 1) := by decide +kernel
theorem d13_41 : decode jdk_42_method_66_code 41 = .ok (.getfield 9, 3) := by decide +kernel
theorem d13_44 : decode jdk_42_method_66_code 44 = .ok (.invokestatic 541, 3) := by decide +kernel
theorem d13_47 : decode jdk_42_method_66_code 47 = .ok (.ifCond .eq 7, 3) := by decide +kernel
theorem d13_50 : decode jdk_42_method_66_code 50 = .ok (.iconst 1, 1) := by decide +kernel
theorem d13_51 : decode jdk_42_method_66_code 51 = .ok (.goto 4, 3) := by decide +kernel
theorem d13_54 : decode jdk_42_method_66_code 54 = .ok (.iconst 0, 1) := by decide +kernel
theorem d13_55 : decode jdk_42_method_66_code 55 = .ok (.ireturn, 1) := by decide +kernel
theorem ef_13 (m : MethodId) (x0 : Addr) (x1 : Addr) : entryFrame m #[(.ref x0), (.ref x1)] 3 = mkF m 0 #[.val (.ref x0), .val (.ref x1), .unset] [] := by first | (simp [entryFrame, mkF, argsToLocals, Value.category]; done) | rfl
def Q13 (Z : State) (so : Addr) (sq : Addr) (cs : Int32) (tb : Addr) (tc : Addr) (kk : ClassId) (kc : ClassId) (bx : List Int32) (bz : List Int32) (h0 : Heap) (n0 : Nat) (v : Option Value) (h : Heap) (L : List Loc) : Prop := v = some (.int (if bx = bz then (1 : Int32) else (0 : Int32))) ∧ Fr n0 L ∧ h = h0
set_option maxRecDepth 65536 in
set_option maxHeartbeats 40000000 in
theorem rm13 (l : Launch) (Z : State) (a0 : Array Value) (hw : ∀ d ∈ tables_1, d.before a0 Z = true) (ws : List Jvm.Cond) (so : Addr) (sq : Addr) (cs : Int32) (tb : Addr) (tc : Addr) (kk : ClassId) (kc : ClassId) (bx : List Int32) (bz : List Int32) (h0 : Heap) (n0 : Nat) (Z0 : n0 ≤ h0.size) (O0 : Old Z n0 h0) (P1 : Sta Z Z.heap "java/lang/String" "COMPACT_STRINGS" "Z" (.int cs)) (hcs : ¬ cs = (0 : Int32)) (P3 : Exa Z h0 so "java/lang/String") (P4 : Fld Z h0 so "java/lang/String" "value" "[B" (.ref tb)) (P5 : Fld Z h0 so "java/lang/String" "coder" "B" (.int (0 : Int32))) (P6 : Arv Z h0 tb kk .byte (own_lg bx) (bx.map Value.int) (.int (0 : Int32))) (P7 : Exa Z h0 sq "java/lang/String") (P8 : Fld Z h0 sq "java/lang/String" "value" "[B" (.ref tc)) (P9 : Fld Z h0 sq "java/lang/String" "coder" "B" (.int (0 : Int32))) (P10 : Arv Z h0 tc kc .byte (own_lg bz) (bz.map Value.int) (.int (0 : Int32))) (smx : bx.length ≤ 1000) (smz : bz.length ≤ 1000) (hsm_ : so = sq → bx = bz) :
    MetFree l (⟨"java/lang/String", "equals", "(Ljava/lang/Object;)Z"⟩ : MethodName) (head1 (Jvm.Cond.code (⟨"java/lang/String", "equals", "(Ljava/lang/Object;)Z"⟩ : MethodName) jdk_42_method_66_code 3 (some .boolean) :: ws) ({ frames := 1, cells := 0, slots := 0, locals := 14 } : Room)) (fun a U => a = #[(.ref so), (.ref sq)] ∧ Z.Warmed39 U.vm ∧ U.heap = h0) (fun _ _ _ _ _ => True) (fun _ U o U' => ∃ v L, o = .returned v ∧ Q13 Z so sq cs tb tc kk kc bx bz h0 n0 v U'.heap L ∧ FrameEnd U o U' L ({ frames := 1, cells := 0, slots := 0, locals := 14 } : Room).cells ({ frames := 1, cells := 0, slots := 0, locals := 14 } : Room).slots) := by
  refine MetFree.of_bodySF (plainFor_of_name own_pn0) hisR ?_
  intro p e s m args below meth c s₁ Bd hml0 hP hK
  obtain ⟨rfl, hZ, hh⟩ := hP
  have hx := Bd.exec
  have hby := Bd.bytes
  have hml : c.maxLocals = 3 := hml0
  have hown : s.vm.findClass "java/lang/String" = some m.cls := findClass_of_methodNamed Bd.named
  have hnm := (name_of_methodNamed Bd.named Bd.method).1
  have X0 : Stand p l e ({ frames := 1, cells := 0, slots := 0, locals := 14 } : Room) s m #[(.ref so), (.ref sq)] below meth c s₁ [] 0 0 := Stand.of_body Bd
  have e0 : s₁.heap = h0 := by rw [← hh, Bd.state]; rfl
  have N0 := Fr.nil n0
  have K0 : Keep h0 h0 [] := Keep.refl _ _
  suffices GO : ∀ P : Outcome → State → Prop, (∀ o U', (∃ v L, o = .returned v ∧ Q13 Z so sq cs tb tc kk kc bx bz h0 n0 v U'.heap L ∧ FrameEnd s o U' L ({ frames := 1, cells := 0, slots := 0, locals := 14 } : Room).cells ({ frames := 1, cells := 0, slots := 0, locals := 14 } : Room).slots) → P o U') → Go p.tables e below P s₁ (mkF m 0 #[.val (.ref so), .val (.ref sq), .unset] []) by
    obtain ⟨s2, o, st, r⟩ := GO _ (fun _ _ q => q)
    exact ⟨s2, o, castTop (ef_13 m so sq) st, r⟩
  clear hh
  intro P hP
  show Go p.tables e below P s₁ (mkF m 0 #[.val (.ref so), .val (.ref sq), .unset] [])
  refine Go.via (fun t k => XS.aloadN X0.here hx rfl (hb hby d13_0) rfl rfl k) ?_
  refine Go.via (fun t k => XS.aloadN X0.here hx rfl (hb hby d13_1) rfl rfl k) ?_
  show Go p.tables e below P s₁ (mkF m 2 #[.val (.ref so), .val (.ref sq), .unset] [(.ref sq), (.ref so)])
  by_cases hc1 : ((.ref so) : Value) = (.ref sq)
  · refine Go.via (fun t k => Jvm.RoadKit.acmp (g := (mkF m 2 #[.val (.ref so), .val (.ref sq), .unset] [(.ref sq), (.ref so)])) X0 hx rfl rfl rfl (pc0 := 2) (pc' := 5) (same := true) rfl (hb hby d13_2) rfl (decide_eq_true hc1) (by decide) (by decide) k) ?_
    show Go p.tables e below P s₁ (mkF m 5 #[.val (.ref so), .val (.ref sq), .unset] [])
    refine Go.via (fun t k => XS.iconst X0.here hx rfl (hb hby d13_5) k) ?_
    show Go p.tables e below P s₁ (mkF m 6 #[.val (.ref so), .val (.ref sq), .unset] [(.int (1 : Int32))])
    obtain ⟨fs, hr, hrun, hended, hW, hsame⟩ := X0.leave (v := some (.int (if bx = bz then (1 : Int32) else (0 : Int32)))) (fun h => by rw [Bd.returns] at h; cases h)
    refine ⟨_, _, retZ X0 hx (t := .boolean) Bd.returns (by simp) (hb hby d13_6) (show nar .boolean (1 : Int32) = _ from (if_pos (hsm_ (Value.ref.inj hc1))).symm) hr, hrun, hended, hP _ _ ⟨_, _, rfl, ?_, ⟨_, rfl⟩, hW, hsame.mono (by decide) (by decide)⟩⟩
    show Q13 Z so sq cs tb tc kk kc bx bz h0 n0 _ s₁.heap _
    rw [e0]
    exact ⟨rfl, N0, rfl⟩
  · refine Go.via (fun t k => Jvm.RoadKit.acmp (g := (mkF m 2 #[.val (.ref so), .val (.ref sq), .unset] [(.ref sq), (.ref so)])) X0 hx rfl rfl rfl (pc0 := 2) (pc' := 7) (same := false) rfl (hb hby d13_2) rfl (decide_eq_false hc1) (by decide) (by decide) k) ?_
    show Go p.tables e below P s₁ (mkF m 7 #[.val (.ref so), .val (.ref sq), .unset] [])
    refine Go.via (fun t k => XS.aloadN X0.here hx rfl (hb hby d13_7) rfl rfl k) ?_
    show Go p.tables e below P s₁ (mkF m 8 #[.val (.ref so), .val (.ref sq), .unset] [(.ref sq)])
    obtain ⟨T3, X3, e3, st3⟩ := instY X0 hx hZ hown (hw _ (List.mem_of_getElem? (i := 87) rfl)) e0 (Ins.self P7) (g := (mkF m 8 #[.val (.ref so), .val (.ref sq), .unset] [(.ref sq)])) rfl rfl (hb hby d13_8)
    refine Go.via st3 ?_
    show Go p.tables e below P T3 (mkF m 11 #[.val (.ref so), .val (.ref sq), .unset] [(.int (1 : Int32))])
    refine Go.via (fun t k => XS.ifNo X3.here hx rfl (hb hby d13_11) rfl ((if0 _ _).trans (feq (by decide : ¬ ((1 : Int32) = (0 : Int32)))).1) k) ?_
    show Go p.tables e below P T3 (mkF m 14 #[.val (.ref so), .val (.ref sq), .unset] [])
    refine Go.via (fun t k => XS.aloadN X3.here hx rfl (hb hby d13_14) rfl rfl k) ?_
    show Go p.tables e below P T3 (mkF m 15 #[.val (.ref so), .val (.ref sq), .unset] [(.ref sq)])
    obtain ⟨T4, X4, e4, st4⟩ := castY X3 hx hZ hown (hw _ (List.mem_of_getElem? (i := 87) rfl)) e3 (Ins.self P7) (g := (mkF m 15 #[.val (.ref so), .val (.ref sq), .unset] [(.ref sq)])) rfl rfl (hb hby d13_15)
    refine Go.via st4 ?_
    show Go p.tables e below P T4 (mkF m 18 #[.val (.ref so), .val (.ref sq), .unset] [(.ref sq)])
    refine Go.via (fun t k => XS.astoreN X4.here hx rfl (hb hby d13_18) rfl rfl (l' := #[.val (.ref so), .val (.ref sq), .val (.ref sq)]) rfl k) ?_
    show Go p.tables e below P T4 (mkF m 19 #[.val (.ref so), .val (.ref sq), .val (.ref sq)] [])
    obtain ⟨T5, X5, e5, st5⟩ := getS2 X4 hx hZ hown (host := "") (Or.inl (hw _ (List.mem_of_getElem? (i := 25) rfl))) Via.refl e4 (P1.ext O0.2) (g := (mkF m 19 #[.val (.ref so), .val (.ref sq), .val (.ref sq)] [])) rfl (hb hby d13_19)
    refine Go.via st5 ?_
    show Go p.tables e below P T5 (mkF m 22 #[.val (.ref so), .val (.ref sq), .val (.ref sq)] [(.int cs)])
    refine Go.via (fun t k => XS.ifNo X5.here hx rfl (hb hby d13_22) rfl ((if0 _ _).trans (feq hcs).1) k) ?_
    show Go p.tables e below P T5 (mkF m 25 #[.val (.ref so), .val (.ref sq), .val (.ref sq)] [])
    refine Go.via (fun t k => XS.aloadN X5.here hx rfl (hb hby d13_25) rfl rfl k) ?_
    show Go p.tables e below P T5 (mkF m 26 #[.val (.ref so), .val (.ref sq), .val (.ref sq)] [(.ref so)])
    obtain ⟨T6, X6, e6, st6⟩ := getF X5 hx hZ hown (host := "") (Or.inl (hw _ (List.mem_of_getElem? (i := 37) rfl))) Via.refl e5 P5 (g := (mkF m 26 #[.val (.ref so), .val (.ref sq), .val (.ref sq)] [(.ref so)])) rfl rfl (hb hby d13_26)
    refine Go.via st6 ?_
    show Go p.tables e below P T6 (mkF m 29 #[.val (.ref so), .val (.ref sq), .val (.ref sq)] [(.int (0 : Int32))])
    refine Go.via (fun t k => XS.aloadN X6.here hx rfl (hb hby d13_29) rfl rfl k) ?_
    show Go p.tables e below P T6 (mkF m 30 #[.val (.ref so), .val (.ref sq), .val (.ref sq)] [(.ref sq), (.int (0 : Int32))])
    obtain ⟨T7, X7, e7, st7⟩ := getF X6 hx hZ hown (host := "") (Or.inl (hw _ (List.mem_of_getElem? (i := 37) rfl))) Via.refl e6 P9 (g := (mkF m 30 #[.val (.ref so), .val (.ref sq), .val (.ref sq)] [(.ref sq), (.int (0 : Int32))])) rfl rfl (hb hby d13_30)
    refine Go.via st7 ?_
    show Go p.tables e below P T7 (mkF m 33 #[.val (.ref so), .val (.ref sq), .val (.ref sq)] [(.int (0 : Int32)), (.int (0 : Int32))])
    refine Go.via (fun t k => XS.icmpNo X7.here hx rfl (hb hby d13_33) rfl (teq (rfl : (0 : Int32) = (0 : Int32))).2 k) ?_
    show Go p.tables e below P T7 (mkF m 36 #[.val (.ref so), .val (.ref sq), .val (.ref sq)] [])
    refine Go.via (fun t k => XS.aloadN X7.here hx rfl (hb hby d13_36) rfl rfl k) ?_
    show Go p.tables e below P T7 (mkF m 37 #[.val (.ref so), .val (.ref sq), .val (.ref sq)] [(.ref so)])
    obtain ⟨T8, X8, e8, st8⟩ := getF X7 hx hZ hown (host := "") (Or.inl (hw _ (List.mem_of_getElem? (i := 39) rfl))) Via.refl e7 P4 (g := (mkF m 37 #[.val (.ref so), .val (.ref sq), .val (.ref sq)] [(.ref so)])) rfl rfl (hb hby d13_37)
    refine Go.via st8 ?_
    show Go p.tables e below P T8 (mkF m 40 #[.val (.ref so), .val (.ref sq), .val (.ref sq)] [(.ref tb)])
    refine Go.via (fun t k => XS.aloadN X8.here hx rfl (hb hby d13_40) rfl rfl k) ?_
    show Go p.tables e below P T8 (mkF m 41 #[.val (.ref so), .val (.ref sq), .val (.ref sq)] [(.ref sq), (.ref tb)])
    obtain ⟨T9, X9, e9, st9⟩ := getF X8 hx hZ hown (host := "") (Or.inl (hw _ (List.mem_of_getElem? (i := 39) rfl))) Via.refl e8 P8 (g := (mkF m 41 #[.val (.ref so), .val (.ref sq), .val (.ref sq)] [(.ref sq), (.ref tb)])) rfl rfl (hb hby d13_41)
    refine Go.via st9 ?_
    show Go p.tables e below P T9 (mkF m 44 #[.val (.ref so), .val (.ref sq), .val (.ref sq)] [(.ref tc), (.ref tb)])
    obtain ⟨_, _, ⟨T10, L10, k10, n10⟩, -, X10, ⟨Lc10, hQ10, l10, y10, z10⟩, st10⟩ := Jvm.LawKit.callS X9 hx (y := (⟨"java/lang/StringLatin1", "equals", "([B[B)Z"⟩ : MethodName)) hown (mvT hZ (hw _ (List.mem_of_getElem? (i := 88) rfl))) (mvT hZ (hw _ (List.mem_of_getElem? (i := 89) rfl))) (mvT hZ (hw _ (List.mem_of_getElem? (i := 90) rfl))) (mvT hZ (hw _ (List.mem_of_getElem? (i := 91) rfl))) (by decide) (backOf (W := 0) (rm14 l Z a0 hw [] tb tc kk kc bx bz h0 n0 Z0 P6 P10 (by first | assumption | decide | omega : bx.length ≤ 1000) (by first | assumption | decide | omega : bz.length ≤ 1000)) hZ (hw _ (List.mem_of_getElem? (i := 91) rfl)) (hw _ (List.mem_of_getElem? (i := 90) rfl)) (by decide) (by decide)) (g := (mkF m 44 #[.val (.ref so), .val (.ref sq), .val (.ref sq)] [(.ref tc), (.ref tb)])) rfl (by rw [hml]; rfl) (argsL := [(.ref tb), (.ref tc)]) (rest := []) (lenOf own_pd2 rfl) rfl (by show 2 * 0 + _ ≤ _; exact Nat.le_of_eq rfl) (hb hby d13_44) (fun _ _ => ⟨rfl, e9, (by decide : 0 + 0 ≤ _), (by decide : 0 + 0 ≤ _)⟩)
    dsimp only [Pt.U, Pt.locs, Pt.cells, Pt.slots] at X10 l10 y10 z10 st10 hQ10
    subst l10 y10 z10
    obtain ⟨rfl, Nq10, hh10⟩ := hQ10
    obtain ⟨lc10, Xh10, N10⟩ := own_hide X10 (Fr.app N0 Nq10)
    clear X10
    refine Go.via st10 ?_
    show Go p.tables e below P T10 (mkF m 47 #[.val (.ref so), .val (.ref sq), .val (.ref sq)] [(.int (if bx = bz then (1 : Int32) else (0 : Int32)))])
    by_cases hc11 : (if bx = bz then (1 : Int32) else (0 : Int32)) = (0 : Int32)
    · refine Go.via (fun t k => XS.ifYes Xh10.here hx rfl (pc0 := 47) (pc' := 54) rfl (hb hby d13_47) rfl ((if0 _ _).trans (teq hc11).1) (by decide) (by decide) k) ?_
      show Go p.tables e below P T10 (mkF m 54 #[.val (.ref so), .val (.ref sq), .val (.ref sq)] [])
      refine Go.via (fun t k => XS.iconst Xh10.here hx rfl (hb hby d13_54) k) ?_
      show Go p.tables e below P T10 (mkF m 55 #[.val (.ref so), .val (.ref sq), .val (.ref sq)] [(.int (0 : Int32))])
      obtain ⟨fs, hr, hrun, hended, hW, hsame⟩ := Xh10.leave (v := some (.int (if bx = bz then (1 : Int32) else (0 : Int32)))) (fun h => by rw [Bd.returns] at h; cases h)
      refine ⟨_, _, retZ Xh10 hx (t := .boolean) Bd.returns (by simp) (hb hby d13_55) (show nar .boolean (0 : Int32) = _ from (if_neg (own_i0 hc11)).symm) hr, hrun, hended, hP _ _ ⟨_, _, rfl, ?_, ⟨_, rfl⟩, hW, hsame.mono (by decide) (by decide)⟩⟩
      show Q13 Z so sq cs tb tc kk kc bx bz h0 n0 _ T10.heap _
      rw [hh10]
      exact ⟨rfl, N10, rfl⟩
    · refine Go.via (fun t k => XS.ifNo Xh10.here hx rfl (hb hby d13_47) rfl ((if0 _ _).trans (feq hc11).1) k) ?_
      show Go p.tables e below P T10 (mkF m 50 #[.val (.ref so), .val (.ref sq), .val (.ref sq)] [])
      refine Go.via (fun t k => XS.iconst Xh10.here hx rfl (hb hby d13_50) k) ?_
      refine Go.via (fun t k => XS.goto Xh10.here hx rfl (pc0 := 51) (pc' := 55) rfl (hb hby d13_51) (by decide) (by decide) k) ?_
      show Go p.tables e below P T10 (mkF m 55 #[.val (.ref so), .val (.ref sq), .val (.ref sq)] [(.int (1 : Int32))])
      obtain ⟨fs, hr, hrun, hended, hW, hsame⟩ := Xh10.leave (v := some (.int (if bx = bz then (1 : Int32) else (0 : Int32)))) (fun h => by rw [Bd.returns] at h; cases h)
      refine ⟨_, _, retZ Xh10 hx (t := .boolean) Bd.returns (by simp) (hb hby d13_55) (show nar .boolean (1 : Int32) = _ from (if_pos (own_i1 hc11)).symm) hr, hrun, hended, hP _ _ ⟨_, _, rfl, ?_, ⟨_, rfl⟩, hW, hsame.mono (by decide) (by decide)⟩⟩
      show Q13 Z so sq cs tb tc kk kc bx bz h0 n0 _ T10.heap _
      rw [hh10]
      exact ⟨rfl, N10, rfl⟩
theorem ef_13n (m : MethodId) (x0 : Addr) : entryFrame m #[(.ref x0), .null] 3 = mkF m 0 #[.val (.ref x0), .val .null, .unset] [] := by first | (simp [entryFrame, mkF, argsToLocals, Value.category]; done) | rfl
def Q13n (Z : State) (so : Addr) (h0 : Heap) (n0 : Nat) (v : Option Value) (h : Heap) (L : List Loc) : Prop := v = some (.int (0 : Int32)) ∧ Fr n0 L ∧ h = h0
set_option maxRecDepth 65536 in
set_option maxHeartbeats 40000000 in
theorem rm13n (l : Launch) (Z : State) (a0 : Array Value) (hw : ∀ d ∈ tables_1, d.before a0 Z = true) (ws : List Jvm.Cond) (so : Addr) (h0 : Heap) (n0 : Nat) (Z0 : n0 ≤ h0.size) :
    MetFree l (⟨"java/lang/String", "equals", "(Ljava/lang/Object;)Z"⟩ : MethodName) (head1 (Jvm.Cond.code (⟨"java/lang/String", "equals", "(Ljava/lang/Object;)Z"⟩ : MethodName) jdk_42_method_66_code 3 (some .boolean) :: ws) ({ frames := 0, cells := 0, slots := 0, locals := 0 } : Room)) (fun a U => a = #[(.ref so), .null] ∧ Z.Warmed39 U.vm ∧ U.heap = h0) (fun _ _ _ _ _ => True) (fun _ U o U' => ∃ v L, o = .returned v ∧ Q13n Z so h0 n0 v U'.heap L ∧ FrameEnd U o U' L ({ frames := 0, cells := 0, slots := 0, locals := 0 } : Room).cells ({ frames := 0, cells := 0, slots := 0, locals := 0 } : Room).slots) := by
  refine MetFree.of_bodySF (plainFor_of_name own_pn0) hisR ?_
  intro p e s m args below meth c s₁ Bd hml0 hP hK
  obtain ⟨rfl, hZ, hh⟩ := hP
  have hx := Bd.exec
  have hby := Bd.bytes
  have hml : c.maxLocals = 3 := hml0
  have hown : s.vm.findClass "java/lang/String" = some m.cls := findClass_of_methodNamed Bd.named
  have hnm := (name_of_methodNamed Bd.named Bd.method).1
  have X0 : Stand p l e ({ frames := 0, cells := 0, slots := 0, locals := 0 } : Room) s m #[(.ref so), .null] below meth c s₁ [] 0 0 := Stand.of_body Bd
  have e0 : s₁.heap = h0 := by rw [← hh, Bd.state]; rfl
  have N0 := Fr.nil n0
  have K0 : Keep h0 h0 [] := Keep.refl _ _
  suffices GO : ∀ P : Outcome → State → Prop, (∀ o U', (∃ v L, o = .returned v ∧ Q13n Z so h0 n0 v U'.heap L ∧ FrameEnd s o U' L ({ frames := 0, cells := 0, slots := 0, locals := 0 } : Room).cells ({ frames := 0, cells := 0, slots := 0, locals := 0 } : Room).slots) → P o U') → Go p.tables e below P s₁ (mkF m 0 #[.val (.ref so), .val .null, .unset] []) by
    obtain ⟨s2, o, st, r⟩ := GO _ (fun _ _ q => q)
    exact ⟨s2, o, castTop (ef_13n m so) st, r⟩
  clear hh
  intro P hP
  show Go p.tables e below P s₁ (mkF m 0 #[.val (.ref so), .val .null, .unset] [])
  refine Go.via (fun t k => XS.aloadN X0.here hx rfl (hb hby d13_0) rfl rfl k) ?_
  refine Go.via (fun t k => XS.aloadN X0.here hx rfl (hb hby d13_1) rfl rfl k) ?_
  show Go p.tables e below P s₁ (mkF m 2 #[.val (.ref so), .val .null, .unset] [.null, (.ref so)])
  refine Go.via (fun t k => Jvm.RoadKit.acmp (g := (mkF m 2 #[.val (.ref so), .val .null, .unset] [.null, (.ref so)])) X0 hx rfl rfl rfl (pc0 := 2) (pc' := 7) (same := false) rfl (hb hby d13_2) rfl (decide_eq_false nofun) (by decide) (by decide) k) ?_
  show Go p.tables e below P s₁ (mkF m 7 #[.val (.ref so), .val .null, .unset] [])
  refine Go.via (fun t k => XS.aloadN X0.here hx rfl (hb hby d13_7) rfl rfl k) ?_
  show Go p.tables e below P s₁ (mkF m 8 #[.val (.ref so), .val .null, .unset] [.null])
  refine Go.via (fun t k => X0.instanceofNull hx (g := (mkF m 8 #[.val (.ref so), .val .null, .unset] [.null])) rfl rfl (hb hby d13_8) t k) ?_
  show Go p.tables e below P s₁ (mkF m 11 #[.val (.ref so), .val .null, .unset] [(.int (0 : Int32))])
  refine Go.via (fun t k => XS.ifYes X0.here hx rfl (pc0 := 11) (pc' := 54) rfl (hb hby d13_11) rfl ((if0 _ _).trans (teq (rfl : (0 : Int32) = (0 : Int32))).1) (by decide) (by decide) k) ?_
  show Go p.tables e below P s₁ (mkF m 54 #[.val (.ref so), .val .null, .unset] [])
  refine Go.via (fun t k => XS.iconst X0.here hx rfl (hb hby d13_54) k) ?_
  show Go p.tables e below P s₁ (mkF m 55 #[.val (.ref so), .val .null, .unset] [(.int (0 : Int32))])
  obtain ⟨fs, hr, hrun, hended, hW, hsame⟩ := X0.leave (v := some (.int (0 : Int32))) (fun h => by rw [Bd.returns] at h; cases h)
  refine ⟨_, _, retZ X0 hx (t := .boolean) Bd.returns (by simp) (hb hby d13_55) rfl hr, hrun, hended, hP _ _ ⟨_, _, rfl, ?_, ⟨_, rfl⟩, hW, hsame.mono (by decide) (by decide)⟩⟩
  show Q13n Z so h0 n0 _ s₁.heap _
  rw [e0]
  exact ⟨rfl, N0, rfl⟩
theorem own_pn3 : plainName "java/lang/Record" = true := by first | (simp [plainName, overriddenIn]; done) | decide +kernel
theorem d10_0 : decode jdk_30_method_1_code 0 = .ok (.aload_n 0, 1) := by decide +kernel
theorem d10_1 : decode jdk_30_method_1_code 1 = .ok (.invokespecial 1, 3) := by decide +kernel
theorem d10_4 : decode jdk_30_method_1_code 4 = .ok (.return_, 1) := by decide +kernel
theorem ef_10 (m : MethodId) (x0 : Addr) : entryFrame m #[(.ref x0)] 1 = mkF m 0 #[.val (.ref x0)] [] := by first | (simp [entryFrame, mkF, argsToLocals, Value.category]; done) | rfl
def Q10 (Z : State) (oa : Addr) (h0 : Heap) (n0 : Nat) (v : Option Value) (h : Heap) (L : List Loc) : Prop := v = none ∧ Fr n0 L ∧ h = h0
set_option maxRecDepth 65536 in
set_option maxHeartbeats 40000000 in
theorem rm10 (l : Launch) (Z : State) (a0 : Array Value) (hw : ∀ d ∈ tables_1, d.before a0 Z = true) (ws : List Jvm.Cond) (oa : Addr) (h0 : Heap) (n0 : Nat) (Z0 : n0 ≤ h0.size) :
    MetFree l (⟨"java/lang/Record", "<init>", "()V"⟩ : MethodName) (head1 (Jvm.Cond.code (⟨"java/lang/Record", "<init>", "()V"⟩ : MethodName) jdk_30_method_1_code 1 none :: ws) ({ frames := 1, cells := 0, slots := 0, locals := 12 } : Room)) (fun a U => a = #[(.ref oa)] ∧ Z.Warmed39 U.vm ∧ U.heap = h0) (fun _ _ _ _ _ => True) (fun _ U o U' => ∃ v L, o = .returned v ∧ Q10 Z oa h0 n0 v U'.heap L ∧ FrameEnd U o U' L ({ frames := 1, cells := 0, slots := 0, locals := 12 } : Room).cells ({ frames := 1, cells := 0, slots := 0, locals := 12 } : Room).slots) := by
  refine MetFree.of_bodySF (plainFor_of_name own_pn3) hisR ?_
  intro p e s m args below meth c s₁ Bd hml0 hP hK
  obtain ⟨rfl, hZ, hh⟩ := hP
  have hx := Bd.exec
  have hby := Bd.bytes
  have hml : c.maxLocals = 1 := hml0
  have hown : s.vm.findClass "java/lang/Record" = some m.cls := findClass_of_methodNamed Bd.named
  have hnm := (name_of_methodNamed Bd.named Bd.method).1
  have X0 : Stand p l e ({ frames := 1, cells := 0, slots := 0, locals := 12 } : Room) s m #[(.ref oa)] below meth c s₁ [] 0 0 := Stand.of_body Bd
  have e0 : s₁.heap = h0 := by rw [← hh, Bd.state]; rfl
  have N0 := Fr.nil n0
  have K0 : Keep h0 h0 [] := Keep.refl _ _
  suffices GO : ∀ P : Outcome → State → Prop, (∀ o U', (∃ v L, o = .returned v ∧ Q10 Z oa h0 n0 v U'.heap L ∧ FrameEnd s o U' L ({ frames := 1, cells := 0, slots := 0, locals := 12 } : Room).cells ({ frames := 1, cells := 0, slots := 0, locals := 12 } : Room).slots) → P o U') → Go p.tables e below P s₁ (mkF m 0 #[.val (.ref oa)] []) by
    obtain ⟨s2, o, st, r⟩ := GO _ (fun _ _ q => q)
    exact ⟨s2, o, castTop (ef_10 m oa) st, r⟩
  clear hh
  intro P hP
  show Go p.tables e below P s₁ (mkF m 0 #[.val (.ref oa)] [])
  refine Go.via (fun t k => XS.aloadN X0.here hx rfl (hb hby d10_0) rfl rfl k) ?_
  show Go p.tables e below P s₁ (mkF m 1 #[.val (.ref oa)] [(.ref oa)])
  obtain ⟨T1, X1, e1, st1⟩ := initO X0 hx hZ hown (hw _ (List.mem_of_getElem? (i := 59) rfl)) (hw _ (List.mem_of_getElem? (i := 23) rfl)) (hw _ (List.mem_of_getElem? (i := 24) rfl)) e0 (g := (mkF m 1 #[.val (.ref oa)] [(.ref oa)])) rfl (by rw [hml]; rfl) rfl (hb hby d10_1) (by decide) (W := 0) (by show 2 * 0 + _ ≤ _; exact Nat.le_of_eq rfl) (by decide)
  refine Go.via st1 ?_
  show Go p.tables e below P T1 (mkF m 4 #[.val (.ref oa)] [])
  obtain ⟨fs, hr, hrun, hended, hW, hsame⟩ := X1.leave (v := none) (fun _ => rfl)
  refine ⟨_, _, X1.returnOut hx Bd.returns (hb hby d10_4) hr, hrun, hended, hP _ _ ⟨_, _, rfl, ?_, ⟨_, rfl⟩, hW, hsame.mono (by decide) (by decide)⟩⟩
  show Q10 Z oa h0 n0 _ T1.heap _
  rw [e1]
  exact ⟨rfl, N0, rfl⟩
theorem own_pd3 : parseMethodDescriptor "()V" = some ⟨[], none⟩ := by decide +kernel
theorem own_pn4 : plainName "com/example/numeric_planner/numericplanner/rddl/Location" = true := by first | (simp [plainName, overriddenIn]; done) | decide +kernel
theorem d9_0 : decode prog_83_method_1_code 0 = .ok (.aload_n 0, 1) := by decide +kernel
theorem d9_1 : decode prog_83_method_1_code 1 = .ok (.invokespecial 1, 3) := by decide +kernel
theorem d9_4 : decode prog_83_method_1_code 4 = .ok (.aload_n 0, 1) := by decide +kernel
theorem d9_5 : decode prog_83_method_1_code 5 = .ok (.aload_n 1, 1) := by decide +kernel
theorem d9_6 : decode prog_83_method_1_code 6 = .ok (.putfield 7, 3) := by decide +kernel
theorem d9_9 : decode prog_83_method_1_code 9 = .ok (.aload_n 0, 1) := by decide +kernel
theorem d9_10 : decode prog_83_method_1_code 10 = .ok (.iload_n 2, 1) := by decide +kernel
theorem d9_11 : decode prog_83_method_1_code 11 = .ok (.putfield 13, 3) := by decide +kernel
theorem d9_14 : decode prog_83_method_1_code 14 = .ok (.return_, 1) := by decide +kernel
theorem ef_9 (m : MethodId) (x0 : Addr) (x1 : Addr) (x2 : Int32) : entryFrame m #[(.ref x0), (.ref x1), (.int x2)] 3 = mkF m 0 #[.val (.ref x0), .val (.ref x1), .val (.int x2)] [] := by first | (simp [entryFrame, mkF, argsToLocals, Value.category]; done) | rfl
def Q9 (Z : State) (oa : Addr) (ob : Addr) (ln : Int32) (h0 : Heap) (n0 : Nat) (v : Option Value) (h : Heap) (L : List Loc) : Prop := v = none ∧ Fr n0 L ∧ Keep h0 h [oa] ∧ Exa Z h oa "com/example/numeric_planner/numericplanner/rddl/Location"
set_option maxRecDepth 65536 in
set_option maxHeartbeats 40000000 in
theorem rm9 (l : Launch) (Z : State) (a0 : Array Value) (hw : ∀ d ∈ tables_1, d.before a0 Z = true) (ws : List Jvm.Cond) (oa : Addr) (ob : Addr) (ln : Int32) (h0 : Heap) (n0 : Nat) (Z0 : n0 ≤ h0.size) (P0 : Exa Z h0 oa "com/example/numeric_planner/numericplanner/rddl/Location") (P1 : Fld Z h0 oa "com/example/numeric_planner/numericplanner/rddl/Location" "file" "Ljava/lang/String;" .null) (P2 : Fld Z h0 oa "com/example/numeric_planner/numericplanner/rddl/Location" "line" "I" (.int (0 : Int32))) (ga : n0 ≤ oa) :
    MetFree l (⟨"com/example/numeric_planner/numericplanner/rddl/Location", "<init>", "(Ljava/lang/String;I)V"⟩ : MethodName) (head1 (Jvm.Cond.code (⟨"com/example/numeric_planner/numericplanner/rddl/Location", "<init>", "(Ljava/lang/String;I)V"⟩ : MethodName) prog_83_method_1_code 3 none :: ws) ({ frames := 2, cells := 0, slots := 0, locals := 24 } : Room)) (fun a U => a = #[(.ref oa), (.ref ob), (.int ln)] ∧ Z.Warmed39 U.vm ∧ U.heap = h0) (fun _ _ _ _ _ => True) (fun _ U o U' => ∃ v L, o = .returned v ∧ Q9 Z oa ob ln h0 n0 v U'.heap L ∧ FrameEnd U o U' L ({ frames := 2, cells := 0, slots := 0, locals := 24 } : Room).cells ({ frames := 2, cells := 0, slots := 0, locals := 24 } : Room).slots) := by
  refine MetFree.of_bodySF (plainFor_of_name own_pn4) hisR ?_
  intro p e s m args below meth c s₁ Bd hml0 hP hK
  obtain ⟨rfl, hZ, hh⟩ := hP
  have hx := Bd.exec
  have hby := Bd.bytes
  have hml : c.maxLocals = 3 := hml0
  have hown : s.vm.findClass "com/example/numeric_planner/numericplanner/rddl/Location" = some m.cls := findClass_of_methodNamed Bd.named
  have hnm := (name_of_methodNamed Bd.named Bd.method).1
  have X0 : Stand p l e ({ frames := 2, cells := 0, slots := 0, locals := 24 } : Room) s m #[(.ref oa), (.ref ob), (.int ln)] below meth c s₁ [] 0 0 := Stand.of_body Bd
  have e0 : s₁.heap = h0 := by rw [← hh, Bd.state]; rfl
  have N0 := Fr.nil n0
  have K0 : Keep h0 h0 [oa] := Keep.refl _ _
  suffices GO : ∀ P : Outcome → State → Prop, (∀ o U', (∃ v L, o = .returned v ∧ Q9 Z oa ob ln h0 n0 v U'.heap L ∧ FrameEnd s o U' L ({ frames := 2, cells := 0, slots := 0, locals := 24 } : Room).cells ({ frames := 2, cells := 0, slots := 0, locals := 24 } : Room).slots) → P o U') → Go p.tables e below P s₁ (mkF m 0 #[.val (.ref oa), .val (.ref ob), .val (.int ln)] []) by
    obtain ⟨s2, o, st, r⟩ := GO _ (fun _ _ q => q)
    exact ⟨s2, o, castTop (ef_9 m oa ob ln) st, r⟩
  clear hh
  intro P hP
  show Go p.tables e below P s₁ (mkF m 0 #[.val (.ref oa), .val (.ref ob), .val (.int ln)] [])
  refine Go.via (fun t k => XS.aloadN X0.here hx rfl (hb hby d9_0) rfl rfl k) ?_
  show Go p.tables e below P s₁ (mkF m 1 #[.val (.ref oa), .val (.ref ob), .val (.int ln)] [(.ref oa)])
  obtain ⟨_, _, ⟨T1, L1, k1, n1⟩, -, X1, ⟨Lc1, hQ1, l1, y1, z1⟩, st1⟩ := X0.specialBack hx (y := (⟨"java/lang/Record", "<init>", "()V"⟩ : MethodName)) rfl hown (mvT hZ (hw _ (List.mem_of_getElem? (i := 54) rfl))) (mvT hZ (hw _ (List.mem_of_getElem? (i := 55) rfl))) (mvT hZ (hw _ (List.mem_of_getElem? (i := 58) rfl))) (by decide) (backOf (W := 0) (rm10 l Z a0 hw [] oa h0 n0 Z0 ) hZ (hw _ (List.mem_of_getElem? (i := 58) rfl)) (hw _ (List.mem_of_getElem? (i := 57) rfl)) (by decide) (by decide)) (g := (mkF m 1 #[.val (.ref oa), .val (.ref ob), .val (.int ln)] [(.ref oa)])) rfl (by rw [hml]; rfl) (Steps.refl _) (a := oa) (argsL := []) (rest := []) (lenOf own_pd3 rfl) rfl (by show 2 * 0 + _ ≤ _; exact Nat.le_of_eq rfl) (hb hby d9_1) (fun _ _ => ⟨rfl, e0, (by decide : 0 + 0 ≤ _), (by decide : 0 + 0 ≤ _)⟩)
  dsimp only [Pt.U, Pt.locs, Pt.cells, Pt.slots] at X1 l1 y1 z1 st1 hQ1
  subst l1 y1 z1
  obtain ⟨rfl, Nq1, hh1⟩ := hQ1
  obtain ⟨lc1, Xh1, N1⟩ := own_hide X1 (Fr.app N0 Nq1)
  clear X1
  refine Go.hop st1 ?_
  show Go p.tables e below P T1 (mkF m 4 #[.val (.ref oa), .val (.ref ob), .val (.int ln)] [])
  refine Go.via (fun t k => XS.aloadN Xh1.here hx rfl (hb hby d9_4) rfl rfl k) ?_
  refine Go.via (fun t k => XS.aloadN Xh1.here hx rfl (hb hby d9_5) rfl rfl k) ?_
  show Go p.tables e below P T1 (mkF m 6 #[.val (.ref oa), .val (.ref ob), .val (.int ln)] [(.ref ob), (.ref oa)])
  obtain ⟨T2, h2, X2, e2, W2, st2⟩ := putF Xh1 hx hZ hown (host := "") (Or.inl (hw _ (List.mem_of_getElem? (i := 60) rfl))) Via.refl hh1 P1 P0 (Or.inr ⟨(hw _ (List.mem_of_getElem? (i := 61) rfl)), rfl, hnm⟩) (hw _ (List.mem_of_getElem? (i := 48) rfl)) (ty := (.object "java/lang/String")) (by decide) rfl rfl (g := (mkF m 6 #[.val (.ref oa), .val (.ref ob), .val (.int ln)] [(.ref ob), (.ref oa)])) rfl rfl (hb hby d9_6)
  refine Go.via st2 ?_
  have Z3 : n0 ≤ h2.size := Nat.le_trans Z0 (Nat.le_of_eq W2.size.symm)
  have K4 : Keep h0 h2 [oa] := K0.wr W2 (Or.inl (List.mem_of_getElem? (i := 0) rfl))
  obtain ⟨lc2, Xh2, N5⟩ := own_hide X2 (Fr.snoc X2 N1 ga)
  clear X2
  have Fw2 := P1.same W2
  show Go p.tables e below P T2 (mkF m 9 #[.val (.ref oa), .val (.ref ob), .val (.int ln)] [])
  refine Go.via (fun t k => XS.aloadN Xh2.here hx rfl (hb hby d9_9) rfl rfl k) ?_
  refine Go.via (fun t k => XS.iloadN Xh2.here hx rfl (hb hby d9_10) rfl k) ?_
  show Go p.tables e below P T2 (mkF m 11 #[.val (.ref oa), .val (.ref ob), .val (.int ln)] [(.int ln), (.ref oa)])
  have F6 : Exa Z h2 oa "com/example/numeric_planner/numericplanner/rddl/Location" := (P0.wr W2)
  have F7 : Fld Z h2 oa "com/example/numeric_planner/numericplanner/rddl/Location" "line" "I" (.int (0 : Int32)) := (P2.other W2 (Or.inr (slot_ne (Or.inr (hw _ (List.mem_of_getElem? (i := 63) rfl))) (Or.inr (hw _ (List.mem_of_getElem? (i := 61) rfl))) (by decide) (t := .int) (t' := (.object "java/lang/String")) (by decide) (by decide))))
  obtain ⟨T8, h8, X8, e8, W8, st8⟩ := putF Xh2 hx hZ hown (host := "") (Or.inl (hw _ (List.mem_of_getElem? (i := 62) rfl))) Via.refl e2 F7 F6 (Or.inr ⟨(hw _ (List.mem_of_getElem? (i := 63) rfl)), rfl, hnm⟩) (hw _ (List.mem_of_getElem? (i := 48) rfl)) (ty := .int) (by decide) rfl rfl (g := (mkF m 11 #[.val (.ref oa), .val (.ref ob), .val (.int ln)] [(.int ln), (.ref oa)])) rfl rfl (hb hby d9_11)
  refine Go.via st8 ?_
  have Z9 : n0 ≤ h8.size := Nat.le_trans Z3 (Nat.le_of_eq W8.size.symm)
  have K10 : Keep h0 h8 [oa] := K4.wr W8 (Or.inl (List.mem_of_getElem? (i := 0) rfl))
  obtain ⟨lc8, Xh8, N11⟩ := own_hide X8 (Fr.snoc X8 N5 ga)
  clear X8
  have Fw8 := F7.same W8
  show Go p.tables e below P T8 (mkF m 14 #[.val (.ref oa), .val (.ref ob), .val (.int ln)] [])
  obtain ⟨fs, hr, hrun, hended, hW, hsame⟩ := Xh8.leave (v := none) (fun _ => rfl)
  have F13 : Exa Z h8 oa "com/example/numeric_planner/numericplanner/rddl/Location" := (F6.wr W8)
  refine ⟨_, _, Xh8.returnOut hx Bd.returns (hb hby d9_14) hr, hrun, hended, hP _ _ ⟨_, _, rfl, ?_, ⟨_, rfl⟩, hW, hsame.mono (by decide) (by decide)⟩⟩
  show Q9 Z oa ob ln h0 n0 _ T8.heap _
  rw [e8]
  exact ⟨rfl, N11, K10, F13⟩
theorem own_pn5 : plainName "com/example/numeric_planner/numericplanner/rddl/Token" = true := by first | (simp [plainName, overriddenIn]; done) | decide +kernel
theorem d11_0 : decode prog_90_method_1_code 0 = .ok (.aload_n 0, 1) := by decide +kernel
theorem d11_1 : decode prog_90_method_1_code 1 = .ok (.invokespecial 1, 3) := by decide +kernel
theorem d11_4 : decode prog_90_method_1_code 4 = .ok (.aload_n 0, 1) := by decide +kernel
theorem d11_5 : decode prog_90_method_1_code 5 = .ok (.aload_n 1, 1) := by decide +kernel
theorem d11_6 : decode prog_90_method_1_code 6 = .ok (.putfield 7, 3) := by decide +kernel
theorem d11_9 : decode prog_90_method_1_code 9 = .ok (.aload_n 0, 1) := by decide +kernel
theorem d11_10 : decode prog_90_method_1_code 10 = .ok (.aload_n 2, 1) := by decide +kernel
theorem d11_11 : decode prog_90_method_1_code 11 = .ok (.putfield 13, 3) := by decide +kernel
theorem d11_14 : decode prog_90_method_1_code 14 = .ok (.aload_n 0, 1) := by decide +kernel
theorem d11_15 : decode prog_90_method_1_code 15 = .ok (.aload_n 3, 1) := by decide +kernel
theorem d11_16 : decode prog_90_method_1_code 16 = .ok (.putfield 17, 3) := by decide +kernel
theorem d11_19 : decode prog_90_method_1_code 19 = .ok (.return_, 1) := by decide +kernel
theorem ef_11 (m : MethodId) (x0 : Addr) (x1 : Addr) (x2 : Addr) (x3 : Addr) : entryFrame m #[(.ref x0), (.ref x1), (.ref x2), (.ref x3)] 4 = mkF m 0 #[.val (.ref x0), .val (.ref x1), .val (.ref x2), .val (.ref x3)] [] := by first | (simp [entryFrame, mkF, argsToLocals, Value.category]; done) | rfl
def Q11 (Z : State) (oa : Addr) (kd : Addr) (tx : Addr) (lo : Addr) (h0 : Heap) (n0 : Nat) (v : Option Value) (h : Heap) (L : List Loc) : Prop := v = none ∧ Fr n0 L ∧ Keep h0 h [oa] ∧ Exa Z h oa "com/example/numeric_planner/numericplanner/rddl/Token" ∧ Fld Z h oa "com/example/numeric_planner/numericplanner/rddl/Token" "kind" "Lcom/example/numeric_planner/numericplanner/rddl/Token$Kind;" (.ref kd) ∧ Fld Z h oa "com/example/numeric_planner/numericplanner/rddl/Token" "text" "Ljava/lang/String;" (.ref tx) ∧ Fld Z h oa "com/example/numeric_planner/numericplanner/rddl/Token" "location" "Lcom/example/numeric_planner/numericplanner/rddl/Location;" (.ref lo)
set_option maxRecDepth 65536 in
set_option maxHeartbeats 40000000 in
theorem rm11 (l : Launch) (Z : State) (a0 : Array Value) (hw : ∀ d ∈ tables_1, d.before a0 Z = true) (ws : List Jvm.Cond) (oa : Addr) (kd : Addr) (tx : Addr) (lo : Addr) (h0 : Heap) (n0 : Nat) (Z0 : n0 ≤ h0.size) (P0 : Exa Z h0 oa "com/example/numeric_planner/numericplanner/rddl/Token") (P1 : Fld Z h0 oa "com/example/numeric_planner/numericplanner/rddl/Token" "kind" "Lcom/example/numeric_planner/numericplanner/rddl/Token$Kind;" .null) (P2 : Fld Z h0 oa "com/example/numeric_planner/numericplanner/rddl/Token" "text" "Ljava/lang/String;" .null) (P3 : Fld Z h0 oa "com/example/numeric_planner/numericplanner/rddl/Token" "location" "Lcom/example/numeric_planner/numericplanner/rddl/Location;" .null) (ga : n0 ≤ oa) :
    MetFree l (⟨"com/example/numeric_planner/numericplanner/rddl/Token", "<init>", "(Lcom/example/numeric_planner/numericplanner/rddl/Token$Kind;Ljava/lang/String;Lcom/example/numeric_planner/numericplanner/rddl/Location;)V"⟩ : MethodName) (head1 (Jvm.Cond.code (⟨"com/example/numeric_planner/numericplanner/rddl/Token", "<init>", "(Lcom/example/numeric_planner/numericplanner/rddl/Token$Kind;Ljava/lang/String;Lcom/example/numeric_planner/numericplanner/rddl/Location;)V"⟩ : MethodName) prog_90_method_1_code 4 none :: ws) ({ frames := 2, cells := 0, slots := 0, locals := 24 } : Room)) (fun a U => a = #[(.ref oa), (.ref kd), (.ref tx), (.ref lo)] ∧ Z.Warmed39 U.vm ∧ U.heap = h0) (fun _ _ _ _ _ => True) (fun _ U o U' => ∃ v L, o = .returned v ∧ Q11 Z oa kd tx lo h0 n0 v U'.heap L ∧ FrameEnd U o U' L ({ frames := 2, cells := 0, slots := 0, locals := 24 } : Room).cells ({ frames := 2, cells := 0, slots := 0, locals := 24 } : Room).slots) := by
  refine MetFree.of_bodySF (plainFor_of_name own_pn5) hisR ?_
  intro p e s m args below meth c s₁ Bd hml0 hP hK
  obtain ⟨rfl, hZ, hh⟩ := hP
  have hx := Bd.exec
  have hby := Bd.bytes
  have hml : c.maxLocals = 4 := hml0
  have hown : s.vm.findClass "com/example/numeric_planner/numericplanner/rddl/Token" = some m.cls := findClass_of_methodNamed Bd.named
  have hnm := (name_of_methodNamed Bd.named Bd.method).1
  have X0 : Stand p l e ({ frames := 2, cells := 0, slots := 0, locals := 24 } : Room) s m #[(.ref oa), (.ref kd), (.ref tx), (.ref lo)] below meth c s₁ [] 0 0 := Stand.of_body Bd
  have e0 : s₁.heap = h0 := by rw [← hh, Bd.state]; rfl
  have N0 := Fr.nil n0
  have K0 : Keep h0 h0 [oa] := Keep.refl _ _
  suffices GO : ∀ P : Outcome → State → Prop, (∀ o U', (∃ v L, o = .returned v ∧ Q11 Z oa kd tx lo h0 n0 v U'.heap L ∧ FrameEnd s o U' L ({ frames := 2, cells := 0, slots := 0, locals := 24 } : Room).cells ({ frames := 2, cells := 0, slots := 0, locals := 24 } : Room).slots) → P o U') → Go p.tables e below P s₁ (mkF m 0 #[.val (.ref oa), .val (.ref kd), .val (.ref tx), .val (.ref lo)] []) by
    obtain ⟨s2, o, st, r⟩ := GO _ (fun _ _ q => q)
    exact ⟨s2, o, castTop (ef_11 m oa kd tx lo) st, r⟩
  clear hh
  intro P hP
  show Go p.tables e below P s₁ (mkF m 0 #[.val (.ref oa), .val (.ref kd), .val (.ref tx), .val (.ref lo)] [])
  refine Go.via (fun t k => XS.aloadN X0.here hx rfl (hb hby d11_0) rfl rfl k) ?_
  show Go p.tables e below P s₁ (mkF m 1 #[.val (.ref oa), .val (.ref kd), .val (.ref tx), .val (.ref lo)] [(.ref oa)])
  obtain ⟨_, _, ⟨T1, L1, k1, n1⟩, -, X1, ⟨Lc1, hQ1, l1, y1, z1⟩, st1⟩ := X0.specialBack hx (y := (⟨"java/lang/Record", "<init>", "()V"⟩ : MethodName)) rfl hown (mvT hZ (hw _ (List.mem_of_getElem? (i := 67) rfl))) (mvT hZ (hw _ (List.mem_of_getElem? (i := 55) rfl))) (mvT hZ (hw _ (List.mem_of_getElem? (i := 58) rfl))) (by decide) (backOf (W := 0) (rm10 l Z a0 hw [] oa h0 n0 Z0 ) hZ (hw _ (List.mem_of_getElem? (i := 58) rfl)) (hw _ (List.mem_of_getElem? (i := 57) rfl)) (by decide) (by decide)) (g := (mkF m 1 #[.val (.ref oa), .val (.ref kd), .val (.ref tx), .val (.ref lo)] [(.ref oa)])) rfl (by rw [hml]; rfl) (Steps.refl _) (a := oa) (argsL := []) (rest := []) (lenOf own_pd3 rfl) rfl (by show 2 * 0 + _ ≤ _; exact Nat.le_of_eq rfl) (hb hby d11_1) (fun _ _ => ⟨rfl, e0, (by decide : 0 + 0 ≤ _), (by decide : 0 + 0 ≤ _)⟩)
  dsimp only [Pt.U, Pt.locs, Pt.cells, Pt.slots] at X1 l1 y1 z1 st1 hQ1
  subst l1 y1 z1
  obtain ⟨rfl, Nq1, hh1⟩ := hQ1
  obtain ⟨lc1, Xh1, N1⟩ := own_hide X1 (Fr.app N0 Nq1)
  clear X1
  refine Go.hop st1 ?_
  show Go p.tables e below P T1 (mkF m 4 #[.val (.ref oa), .val (.ref kd), .val (.ref tx), .val (.ref lo)] [])
  refine Go.via (fun t k => XS.aloadN Xh1.here hx rfl (hb hby d11_4) rfl rfl k) ?_
  refine Go.via (fun t k => XS.aloadN Xh1.here hx rfl (hb hby d11_5) rfl rfl k) ?_
  show Go p.tables e below P T1 (mkF m 6 #[.val (.ref oa), .val (.ref kd), .val (.ref tx), .val (.ref lo)] [(.ref kd), (.ref oa)])
  obtain ⟨T2, h2, X2, e2, W2, st2⟩ := putF Xh1 hx hZ hown (host := "") (Or.inl (hw _ (List.mem_of_getElem? (i := 68) rfl))) Via.refl hh1 P1 P0 (Or.inr ⟨(hw _ (List.mem_of_getElem? (i := 69) rfl)), rfl, hnm⟩) (hw _ (List.mem_of_getElem? (i := 45) rfl)) (ty := (.object "com/example/numeric_planner/numericplanner/rddl/Token$Kind")) (by decide) rfl rfl (g := (mkF m 6 #[.val (.ref oa), .val (.ref kd), .val (.ref tx), .val (.ref lo)] [(.ref kd), (.ref oa)])) rfl rfl (hb hby d11_6)
  refine Go.via st2 ?_
  have Z3 : n0 ≤ h2.size := Nat.le_trans Z0 (Nat.le_of_eq W2.size.symm)
  have K4 : Keep h0 h2 [oa] := K0.wr W2 (Or.inl (List.mem_of_getElem? (i := 0) rfl))
  obtain ⟨lc2, Xh2, N5⟩ := own_hide X2 (Fr.snoc X2 N1 ga)
  clear X2
  have Fw2 := P1.same W2
  show Go p.tables e below P T2 (mkF m 9 #[.val (.ref oa), .val (.ref kd), .val (.ref tx), .val (.ref lo)] [])
  refine Go.via (fun t k => XS.aloadN Xh2.here hx rfl (hb hby d11_9) rfl rfl k) ?_
  refine Go.via (fun t k => XS.aloadN Xh2.here hx rfl (hb hby d11_10) rfl rfl k) ?_
  show Go p.tables e below P T2 (mkF m 11 #[.val (.ref oa), .val (.ref kd), .val (.ref tx), .val (.ref lo)] [(.ref tx), (.ref oa)])
  have F6 : Exa Z h2 oa "com/example/numeric_planner/numericplanner/rddl/Token" := (P0.wr W2)
  have F7 : Fld Z h2 oa "com/example/numeric_planner/numericplanner/rddl/Token" "text" "Ljava/lang/String;" .null := (P2.other W2 (Or.inr (slot_ne (Or.inr (hw _ (List.mem_of_getElem? (i := 71) rfl))) (Or.inr (hw _ (List.mem_of_getElem? (i := 69) rfl))) (by decide) (t := (.object "java/lang/String")) (t' := (.object "com/example/numeric_planner/numericplanner/rddl/Token$Kind")) (by decide) (by decide))))
  have F8 : Fld Z h2 oa "com/example/numeric_planner/numericplanner/rddl/Token" "location" "Lcom/example/numeric_planner/numericplanner/rddl/Location;" .null := (P3.other W2 (Or.inr (slot_ne (Or.inr (hw _ (List.mem_of_getElem? (i := 73) rfl))) (Or.inr (hw _ (List.mem_of_getElem? (i := 69) rfl))) (by decide) (t := (.object "com/example/numeric_planner/numericplanner/rddl/Location")) (t' := (.object "com/example/numeric_planner/numericplanner/rddl/Token$Kind")) (by decide) (by decide))))
  obtain ⟨T9, h9, X9, e9, W9, st9⟩ := putF Xh2 hx hZ hown (host := "") (Or.inl (hw _ (List.mem_of_getElem? (i := 70) rfl))) Via.refl e2 F7 F6 (Or.inr ⟨(hw _ (List.mem_of_getElem? (i := 71) rfl)), rfl, hnm⟩) (hw _ (List.mem_of_getElem? (i := 45) rfl)) (ty := (.object "java/lang/String")) (by decide) rfl rfl (g := (mkF m 11 #[.val (.ref oa), .val (.ref kd), .val (.ref tx), .val (.ref lo)] [(.ref tx), (.ref oa)])) rfl rfl (hb hby d11_11)
  refine Go.via st9 ?_
  have Z10 : n0 ≤ h9.size := Nat.le_trans Z3 (Nat.le_of_eq W9.size.symm)
  have K11 : Keep h0 h9 [oa] := K4.wr W9 (Or.inl (List.mem_of_getElem? (i := 0) rfl))
  obtain ⟨lc9, Xh9, N12⟩ := own_hide X9 (Fr.snoc X9 N5 ga)
  clear X9
  have Fw9 := F7.same W9
  show Go p.tables e below P T9 (mkF m 14 #[.val (.ref oa), .val (.ref kd), .val (.ref tx), .val (.ref lo)] [])
  refine Go.via (fun t k => XS.aloadN Xh9.here hx rfl (hb hby d11_14) rfl rfl k) ?_
  refine Go.via (fun t k => XS.aloadN Xh9.here hx rfl (hb hby d11_15) rfl rfl k) ?_
  show Go p.tables e below P T9 (mkF m 16 #[.val (.ref oa), .val (.ref kd), .val (.ref tx), .val (.ref lo)] [(.ref lo), (.ref oa)])
  have F13 : Exa Z h9 oa "com/example/numeric_planner/numericplanner/rddl/Token" := (F6.wr W9)
  have F14 : Fld Z h9 oa "com/example/numeric_planner/numericplanner/rddl/Token" "location" "Lcom/example/numeric_planner/numericplanner/rddl/Location;" .null := (F8.other W9 (Or.inr (slot_ne (Or.inr (hw _ (List.mem_of_getElem? (i := 73) rfl))) (Or.inr (hw _ (List.mem_of_getElem? (i := 71) rfl))) (by decide) (t := (.object "com/example/numeric_planner/numericplanner/rddl/Location")) (t' := (.object "java/lang/String")) (by decide) (by decide))))
  have F15 : Fld Z h9 oa "com/example/numeric_planner/numericplanner/rddl/Token" "kind" "Lcom/example/numeric_planner/numericplanner/rddl/Token$Kind;" (.ref kd) := (Fw2.other W9 (Or.inr (slot_ne (Or.inr (hw _ (List.mem_of_getElem? (i := 69) rfl))) (Or.inr (hw _ (List.mem_of_getElem? (i := 71) rfl))) (by decide) (t := (.object "com/example/numeric_planner/numericplanner/rddl/Token$Kind")) (t' := (.object "java/lang/String")) (by decide) (by decide))))
  obtain ⟨T16, h16, X16, e16, W16, st16⟩ := putF Xh9 hx hZ hown (host := "") (Or.inl (hw _ (List.mem_of_getElem? (i := 72) rfl))) Via.refl e9 F14 F13 (Or.inr ⟨(hw _ (List.mem_of_getElem? (i := 73) rfl)), rfl, hnm⟩) (hw _ (List.mem_of_getElem? (i := 45) rfl)) (ty := (.object "com/example/numeric_planner/numericplanner/rddl/Location")) (by decide) rfl rfl (g := (mkF m 16 #[.val (.ref oa), .val (.ref kd), .val (.ref tx), .val (.ref lo)] [(.ref lo), (.ref oa)])) rfl rfl (hb hby d11_16)
  refine Go.via st16 ?_
  have Z17 : n0 ≤ h16.size := Nat.le_trans Z10 (Nat.le_of_eq W16.size.symm)
  have K18 : Keep h0 h16 [oa] := K11.wr W16 (Or.inl (List.mem_of_getElem? (i := 0) rfl))
  obtain ⟨lc16, Xh16, N19⟩ := own_hide X16 (Fr.snoc X16 N12 ga)
  clear X16
  have Fw16 := F14.same W16
  show Go p.tables e below P T16 (mkF m 19 #[.val (.ref oa), .val (.ref kd), .val (.ref tx), .val (.ref lo)] [])
  obtain ⟨fs, hr, hrun, hended, hW, hsame⟩ := Xh16.leave (v := none) (fun _ => rfl)
  have F21 : Exa Z h16 oa "com/example/numeric_planner/numericplanner/rddl/Token" := (F13.wr W16)
  have F22 : Fld Z h16 oa "com/example/numeric_planner/numericplanner/rddl/Token" "kind" "Lcom/example/numeric_planner/numericplanner/rddl/Token$Kind;" (.ref kd) := (F15.other W16 (Or.inr (slot_ne (Or.inr (hw _ (List.mem_of_getElem? (i := 69) rfl))) (Or.inr (hw _ (List.mem_of_getElem? (i := 73) rfl))) (by decide) (t := (.object "com/example/numeric_planner/numericplanner/rddl/Token$Kind")) (t' := (.object "com/example/numeric_planner/numericplanner/rddl/Location")) (by decide) (by decide))))
  have F23 : Fld Z h16 oa "com/example/numeric_planner/numericplanner/rddl/Token" "text" "Ljava/lang/String;" (.ref tx) := (Fw9.other W16 (Or.inr (slot_ne (Or.inr (hw _ (List.mem_of_getElem? (i := 71) rfl))) (Or.inr (hw _ (List.mem_of_getElem? (i := 73) rfl))) (by decide) (t := (.object "java/lang/String")) (t' := (.object "com/example/numeric_planner/numericplanner/rddl/Location")) (by decide) (by decide))))
  refine ⟨_, _, Xh16.returnOut hx Bd.returns (hb hby d11_19) hr, hrun, hended, hP _ _ ⟨_, _, rfl, ?_, ⟨_, rfl⟩, hW, hsame.mono (by decide) (by decide)⟩⟩
  show Q11 Z oa kd tx lo h0 n0 _ T16.heap _
  rw [e16]
  exact ⟨rfl, N19, K18, F21, F22, F23, Fw16⟩
theorem own_pd4 : parseMethodDescriptor "(Ljava/lang/Object;)Z" = some ⟨[(.object "java/lang/Object")], some .boolean⟩ := by decide +kernel
theorem d12_0 : decode prog_90_method_2_code 0 = .ok (.aload_n 0, 1) := by decide +kernel
theorem d12_1 : decode prog_90_method_2_code 1 = .ok (.getfield 7, 3) := by decide +kernel
theorem d12_4 : decode prog_90_method_2_code 4 = .ok (.getstatic 21, 3) := by decide +kernel
theorem d12_7 : decode prog_90_method_2_code 7 = .ok (.if_acmp .eq 13, 3) := by decide +kernel
theorem d12_10 : decode prog_90_method_2_code 10 = .ok (.aload_n 0, 1) := by decide +kernel
theorem d12_11 : decode prog_90_method_2_code 11 = .ok (.getfield 7, 3) := by decide +kernel
theorem d12_14 : decode prog_90_method_2_code 14 = .ok (.getstatic 26, 3) := by decide +kernel
theorem d12_17 : decode prog_90_method_2_code 17 = .ok (.if_acmp .ne 18, 3) := by decide +kernel
theorem d12_20 : decode prog_90_method_2_code 20 = .ok (.aload_n 0, 1) := by decide +kernel
theorem d12_21 : decode prog_90_method_2_code 21 = .ok (.getfield 13, 3) := by decide +kernel
theorem d12_24 : decode prog_90_method_2_code 24 = .ok (.aload_n 1, 1) := by decide +kernel
theorem d12_25 : decode prog_90_method_2_code 25 = .ok (.invokevirtual 29, 3) := by decide +kernel
theorem d12_28 : decode prog_90_method_2_code 28 = .ok (.ifCond .eq 7, 3) := by decide +kernel
theorem d12_35 : decode prog_90_method_2_code 35 = .ok (.iconst 0, 1) := by decide +kernel
theorem d12_36 : decode prog_90_method_2_code 36 = .ok (.ireturn, 1) := by decide +kernel
theorem ef_12nn (m : MethodId) (x0 : Addr) : entryFrame m #[(.ref x0), .null] 2 = mkF m 0 #[.val (.ref x0), .val .null] [] := by first | (simp [entryFrame, mkF, argsToLocals, Value.category]; done) | rfl
def Q12nn (Z : State) (oa : Addr) (aNAME : Addr) (aSYMBOL : Addr) (so : Addr) (h0 : Heap) (n0 : Nat) (v : Option Value) (h : Heap) (L : List Loc) : Prop := v = some (.int (0 : Int32)) ∧ Fr n0 L ∧ h = h0
set_option maxRecDepth 65536 in
set_option maxHeartbeats 40000000 in
theorem rm12nn (l : Launch) (Z : State) (a0 : Array Value) (hw : ∀ d ∈ tables_1, d.before a0 Z = true) (ws : List Jvm.Cond) (oa : Addr) (aNAME : Addr) (aSYMBOL : Addr) (so : Addr) (h0 : Heap) (n0 : Nat) (Z0 : n0 ≤ h0.size) (O0 : Old Z n0 h0) (P1 : Sta Z Z.heap "com/example/numeric_planner/numericplanner/rddl/Token$Kind" "NAME" "Lcom/example/numeric_planner/numericplanner/rddl/Token$Kind;" (.ref aNAME)) (P2 : Sta Z Z.heap "com/example/numeric_planner/numericplanner/rddl/Token$Kind" "SYMBOL" "Lcom/example/numeric_planner/numericplanner/rddl/Token$Kind;" (.ref aSYMBOL)) (P3 : Fld Z h0 oa "com/example/numeric_planner/numericplanner/rddl/Token" "kind" "Lcom/example/numeric_planner/numericplanner/rddl/Token$Kind;" (.ref aNAME)) (nNS : aNAME ≠ aSYMBOL) (P5 : Fld Z h0 oa "com/example/numeric_planner/numericplanner/rddl/Token" "text" "Ljava/lang/String;" (.ref so)) (P6 : Exa Z h0 so "java/lang/String") :
    MetFree l (⟨"com/example/numeric_planner/numericplanner/rddl/Token", "is", "(Ljava/lang/String;)Z"⟩ : MethodName) (head1 (Jvm.Cond.code (⟨"com/example/numeric_planner/numericplanner/rddl/Token", "is", "(Ljava/lang/String;)Z"⟩ : MethodName) prog_90_method_2_code 2 (some .boolean) :: ws) ({ frames := 1, cells := 0, slots := 0, locals := 14 } : Room)) (fun a U => a = #[(.ref oa), .null] ∧ Z.Warmed39 U.vm ∧ U.heap = h0) (fun _ _ _ _ _ => True) (fun _ U o U' => ∃ v L, o = .returned v ∧ Q12nn Z oa aNAME aSYMBOL so h0 n0 v U'.heap L ∧ FrameEnd U o U' L ({ frames := 1, cells := 0, slots := 0, locals := 14 } : Room).cells ({ frames := 1, cells := 0, slots := 0, locals := 14 } : Room).slots) := by
  refine MetFree.of_bodySF (plainFor_of_name own_pn5) hisR ?_
  intro p e s m args below meth c s₁ Bd hml0 hP hK
  obtain ⟨rfl, hZ, hh⟩ := hP
  have hx := Bd.exec
  have hby := Bd.bytes
  have hml : c.maxLocals = 2 := hml0
  have hown : s.vm.findClass "com/example/numeric_planner/numericplanner/rddl/Token" = some m.cls := findClass_of_methodNamed Bd.named
  have hnm := (name_of_methodNamed Bd.named Bd.method).1
  have X0 : Stand p l e ({ frames := 1, cells := 0, slots := 0, locals := 14 } : Room) s m #[(.ref oa), .null] below meth c s₁ [] 0 0 := Stand.of_body Bd
  have e0 : s₁.heap = h0 := by rw [← hh, Bd.state]; rfl
  have N0 := Fr.nil n0
  have K0 : Keep h0 h0 [] := Keep.refl _ _
  suffices GO : ∀ P : Outcome → State → Prop, (∀ o U', (∃ v L, o = .returned v ∧ Q12nn Z oa aNAME aSYMBOL so h0 n0 v U'.heap L ∧ FrameEnd s o U' L ({ frames := 1, cells := 0, slots := 0, locals := 14 } : Room).cells ({ frames := 1, cells := 0, slots := 0, locals := 14 } : Room).slots) → P o U') → Go p.tables e below P s₁ (mkF m 0 #[.val (.ref oa), .val .null] []) by
    obtain ⟨s2, o, st, r⟩ := GO _ (fun _ _ q => q)
    exact ⟨s2, o, castTop (ef_12nn m oa) st, r⟩
  clear hh
  intro P hP
  show Go p.tables e below P s₁ (mkF m 0 #[.val (.ref oa), .val .null] [])
  refine Go.via (fun t k => XS.aloadN X0.here hx rfl (hb hby d12_0) rfl rfl k) ?_
  show Go p.tables e below P s₁ (mkF m 1 #[.val (.ref oa), .val .null] [(.ref oa)])
  obtain ⟨T1, X1, e1, st1⟩ := getF X0 hx hZ hown (host := "") (Or.inl (hw _ (List.mem_of_getElem? (i := 68) rfl))) Via.refl e0 P3 (g := (mkF m 1 #[.val (.ref oa), .val .null] [(.ref oa)])) rfl rfl (hb hby d12_1)
  refine Go.via st1 ?_
  show Go p.tables e below P T1 (mkF m 4 #[.val (.ref oa), .val .null] [(.ref aNAME)])
  obtain ⟨T2, X2, e2, st2⟩ := getS2 X1 hx hZ hown (host := "") (Or.inl (hw _ (List.mem_of_getElem? (i := 79) rfl))) Via.refl e1 (P2.ext O0.2) (g := (mkF m 4 #[.val (.ref oa), .val .null] [(.ref aNAME)])) rfl (hb hby d12_4)
  refine Go.via st2 ?_
  show Go p.tables e below P T2 (mkF m 7 #[.val (.ref oa), .val .null] [(.ref aSYMBOL), (.ref aNAME)])
  refine Go.via (fun t k => Jvm.RoadKit.acmp (g := (mkF m 7 #[.val (.ref oa), .val .null] [(.ref aSYMBOL), (.ref aNAME)])) X2 hx rfl rfl rfl (pc0 := 7) (pc' := 10) (same := false) rfl (hb hby d12_7) rfl (decide_eq_false fun q => nNS (Value.ref.inj q)) (by decide) (by decide) k) ?_
  show Go p.tables e below P T2 (mkF m 10 #[.val (.ref oa), .val .null] [])
  refine Go.via (fun t k => XS.aloadN X2.here hx rfl (hb hby d12_10) rfl rfl k) ?_
  show Go p.tables e below P T2 (mkF m 11 #[.val (.ref oa), .val .null] [(.ref oa)])
  obtain ⟨T3, X3, e3, st3⟩ := getF X2 hx hZ hown (host := "") (Or.inl (hw _ (List.mem_of_getElem? (i := 68) rfl))) Via.refl e2 P3 (g := (mkF m 11 #[.val (.ref oa), .val .null] [(.ref oa)])) rfl rfl (hb hby d12_11)
  refine Go.via st3 ?_
  show Go p.tables e below P T3 (mkF m 14 #[.val (.ref oa), .val .null] [(.ref aNAME)])
  obtain ⟨T4, X4, e4, st4⟩ := getS2 X3 hx hZ hown (host := "") (Or.inl (hw _ (List.mem_of_getElem? (i := 81) rfl))) Via.refl e3 (P1.ext O0.2) (g := (mkF m 14 #[.val (.ref oa), .val .null] [(.ref aNAME)])) rfl (hb hby d12_14)
  refine Go.via st4 ?_
  show Go p.tables e below P T4 (mkF m 17 #[.val (.ref oa), .val .null] [(.ref aNAME), (.ref aNAME)])
  refine Go.via (fun t k => Jvm.RoadKit.acmp (g := (mkF m 17 #[.val (.ref oa), .val .null] [(.ref aNAME), (.ref aNAME)])) X4 hx rfl rfl rfl (pc0 := 17) (pc' := 20) (same := true) rfl (hb hby d12_17) rfl (decide_eq_true rfl) (by decide) (by decide) k) ?_
  show Go p.tables e below P T4 (mkF m 20 #[.val (.ref oa), .val .null] [])
  refine Go.via (fun t k => XS.aloadN X4.here hx rfl (hb hby d12_20) rfl rfl k) ?_
  show Go p.tables e below P T4 (mkF m 21 #[.val (.ref oa), .val .null] [(.ref oa)])
  obtain ⟨T5, X5, e5, st5⟩ := getF X4 hx hZ hown (host := "") (Or.inl (hw _ (List.mem_of_getElem? (i := 70) rfl))) Via.refl e4 P5 (g := (mkF m 21 #[.val (.ref oa), .val .null] [(.ref oa)])) rfl rfl (hb hby d12_21)
  refine Go.via st5 ?_
  show Go p.tables e below P T5 (mkF m 24 #[.val (.ref oa), .val .null] [(.ref so)])
  refine Go.via (fun t k => XS.aloadN X5.here hx rfl (hb hby d12_24) rfl rfl k) ?_
  show Go p.tables e below P T5 (mkF m 25 #[.val (.ref oa), .val .null] [.null, (.ref so)])
  obtain ⟨cq6, kq6, q6a, q6b, q6c⟩ := isOf hZ e5 P6
  obtain ⟨_, _, ⟨T6, L6, k6, n6⟩, -, X6, ⟨Lc6, hQ6, l6, y6, z6⟩, st6⟩ := X5.virtualBack hx (y := (⟨"java/lang/String", "equals", "(Ljava/lang/Object;)Z"⟩ : MethodName)) (z := (⟨"java/lang/String", "equals", "(Ljava/lang/Object;)Z"⟩ : MethodName)) hown (mvT hZ (hw _ (List.mem_of_getElem? (i := 82) rfl))) (mvT hZ (hw _ (List.mem_of_getElem? (i := 83) rfl))) (notFace_of_selects (args := #[]) (mvT hZ (hw _ (List.mem_of_getElem? (i := 85) rfl)))) (mvT hZ (hw _ (List.mem_of_getElem? (i := 85) rfl))) (mvT hZ (hw _ (List.mem_of_getElem? (i := 84) rfl))) (by decide) (backOf (W := 0) (rm13n l Z a0 hw [] so h0 n0 Z0 ) hZ (hw _ (List.mem_of_getElem? (i := 86) rfl)) (hw _ (List.mem_of_getElem? (i := 13) rfl)) (by decide) (by decide)) q6a q6c (g := (mkF m 25 #[.val (.ref oa), .val .null] [.null, (.ref so)])) rfl (by rw [hml]; rfl) (Steps.refl _) (argsL := [.null]) (rest := []) (lenOf own_pd4 rfl) rfl (by show 2 * 0 + _ ≤ _; exact Nat.le_of_eq rfl) (hb hby d12_25) (fun _ _ => ⟨rfl, e5, (by decide : 0 + 0 ≤ _), (by decide : 0 + 0 ≤ _)⟩)
  dsimp only [Pt.U, Pt.locs, Pt.cells, Pt.slots] at X6 l6 y6 z6 st6 hQ6
  subst l6 y6 z6
  obtain ⟨rfl, Nq6, hh6⟩ := hQ6
  obtain ⟨lc6, Xh6, N6⟩ := own_hide X6 (Fr.app N0 Nq6)
  clear X6
  refine Go.hop st6 ?_
  show Go p.tables e below P T6 (mkF m 28 #[.val (.ref oa), .val .null] [(.int (0 : Int32))])
  refine Go.via (fun t k => XS.ifYes Xh6.here hx rfl (pc0 := 28) (pc' := 35) rfl (hb hby d12_28) rfl ((if0 _ _).trans (teq (rfl : (0 : Int32) = (0 : Int32))).1) (by decide) (by decide) k) ?_
  show Go p.tables e below P T6 (mkF m 35 #[.val (.ref oa), .val .null] [])
  refine Go.via (fun t k => XS.iconst Xh6.here hx rfl (hb hby d12_35) k) ?_
  show Go p.tables e below P T6 (mkF m 36 #[.val (.ref oa), .val .null] [(.int (0 : Int32))])
  obtain ⟨fs, hr, hrun, hended, hW, hsame⟩ := Xh6.leave (v := some (.int (0 : Int32))) (fun h => by rw [Bd.returns] at h; cases h)
  refine ⟨_, _, retZ Xh6 hx (t := .boolean) Bd.returns (by simp) (hb hby d12_36) rfl hr, hrun, hended, hP _ _ ⟨_, _, rfl, ?_, ⟨_, rfl⟩, hW, hsame.mono (by decide) (by decide)⟩⟩
  show Q12nn Z oa aNAME aSYMBOL so h0 n0 _ T6.heap _
  rw [hh6]
  exact ⟨rfl, N6, rfl⟩
theorem d12_31 : decode prog_90_method_2_code 31 = .ok (.iconst 1, 1) := by decide +kernel
theorem d12_32 : decode prog_90_method_2_code 32 = .ok (.goto 4, 3) := by decide +kernel
theorem ef_12nr (m : MethodId) (x0 : Addr) (x1 : Addr) : entryFrame m #[(.ref x0), (.ref x1)] 2 = mkF m 0 #[.val (.ref x0), .val (.ref x1)] [] := by first | (simp [entryFrame, mkF, argsToLocals, Value.category]; done) | rfl
def Q12nr (Z : State) (oa : Addr) (aNAME : Addr) (aSYMBOL : Addr) (sq : Addr) (so : Addr) (cs : Int32) (tb : Addr) (tc : Addr) (kk : ClassId) (kc : ClassId) (bx : List Int32) (bz : List Int32) (h0 : Heap) (n0 : Nat) (v : Option Value) (h : Heap) (L : List Loc) : Prop := v = some (.int (if bx = bz then (1 : Int32) else (0 : Int32))) ∧ Fr n0 L ∧ h = h0
set_option maxRecDepth 65536 in
set_option maxHeartbeats 40000000 in
theorem rm12nr (l : Launch) (Z : State) (a0 : Array Value) (hw : ∀ d ∈ tables_1, d.before a0 Z = true) (ws : List Jvm.Cond) (oa : Addr) (aNAME : Addr) (aSYMBOL : Addr) (sq : Addr) (so : Addr) (cs : Int32) (tb : Addr) (tc : Addr) (kk : ClassId) (kc : ClassId) (bx : List Int32) (bz : List Int32) (h0 : Heap) (n0 : Nat) (Z0 : n0 ≤ h0.size) (O0 : Old Z n0 h0) (P1 : Sta Z Z.heap "com/example/numeric_planner/numericplanner/rddl/Token$Kind" "NAME" "Lcom/example/numeric_planner/numericplanner/rddl/Token$Kind;" (.ref aNAME)) (P2 : Sta Z Z.heap "com/example/numeric_planner/numericplanner/rddl/Token$Kind" "SYMBOL" "Lcom/example/numeric_planner/numericplanner/rddl/Token$Kind;" (.ref aSYMBOL)) (P3 : Fld Z h0 oa "com/example/numeric_planner/numericplanner/rddl/Token" "kind" "Lcom/example/numeric_planner/numericplanner/rddl/Token$Kind;" (.ref aNAME)) (nNS : aNAME ≠ aSYMBOL) (P5 : Fld Z h0 oa "com/example/numeric_planner/numericplanner/rddl/Token" "text" "Ljava/lang/String;" (.ref so)) (P6 : Exa Z h0 so "java/lang/String") (P7 : Sta Z Z.heap "java/lang/String" "COMPACT_STRINGS" "Z" (.int cs)) (hcs : ¬ cs = (0 : Int32)) (P9 : Fld Z h0 so "java/lang/String" "value" "[B" (.ref tb)) (P10 : Fld Z h0 so "java/lang/String" "coder" "B" (.int (0 : Int32))) (P11 : Arv Z h0 tb kk .byte (own_lg bx) (bx.map Value.int) (.int (0 : Int32))) (P12 : Exa Z h0 sq "java/lang/String") (P13 : Fld Z h0 sq "java/lang/String" "value" "[B" (.ref tc)) (P14 : Fld Z h0 sq "java/lang/String" "coder" "B" (.int (0 : Int32))) (P15 : Arv Z h0 tc kc .byte (own_lg bz) (bz.map Value.int) (.int (0 : Int32))) (smx : bx.length ≤ 1000) (smz : bz.length ≤ 1000) (hsm_ : so = sq → bx = bz) :
    MetFree l (⟨"com/example/numeric_planner/numericplanner/rddl/Token", "is", "(Ljava/lang/String;)Z"⟩ : MethodName) (head1 (Jvm.Cond.code (⟨"com/example/numeric_planner/numericplanner/rddl/Token", "is", "(Ljava/lang/String;)Z"⟩ : MethodName) prog_90_method_2_code 2 (some .boolean) :: ws) ({ frames := 2, cells := 0, slots := 0, locals := 28 } : Room)) (fun a U => a = #[(.ref oa), (.ref sq)] ∧ Z.Warmed39 U.vm ∧ U.heap = h0) (fun _ _ _ _ _ => True) (fun _ U o U' => ∃ v L, o = .returned v ∧ Q12nr Z oa aNAME aSYMBOL sq so cs tb tc kk kc bx bz h0 n0 v U'.heap L ∧ FrameEnd U o U' L ({ frames := 2, cells := 0, slots := 0, locals := 28 } : Room).cells ({ frames := 2, cells := 0, slots := 0, locals := 28 } : Room).slots) := by
  refine MetFree.of_bodySF (plainFor_of_name own_pn5) hisR ?_
  intro p e s m args below meth c s₁ Bd hml0 hP hK
  obtain ⟨rfl, hZ, hh⟩ := hP
  have hx := Bd.exec
  have hby := Bd.bytes
  have hml : c.maxLocals = 2 := hml0
  have hown : s.vm.findClass "com/example/numeric_planner/numericplanner/rddl/Token" = some m.cls := findClass_of_methodNamed Bd.named
  have hnm := (name_of_methodNamed Bd.named Bd.method).1
  have X0 : Stand p l e ({ frames := 2, cells := 0, slots := 0, locals := 28 } : Room) s m #[(.ref oa), (.ref sq)] below meth c s₁ [] 0 0 := Stand.of_body Bd
  have e0 : s₁.heap = h0 := by rw [← hh, Bd.state]; rfl
  have N0 := Fr.nil n0
  have K0 : Keep h0 h0 [] := Keep.refl _ _
  suffices GO : ∀ P : Outcome → State → Prop, (∀ o U', (∃ v L, o = .returned v ∧ Q12nr Z oa aNAME aSYMBOL sq so cs tb tc kk kc bx bz h0 n0 v U'.heap L ∧ FrameEnd s o U' L ({ frames := 2, cells := 0, slots := 0, locals := 28 } : Room).cells ({ frames := 2, cells := 0, slots := 0, locals := 28 } : Room).slots) → P o U') → Go p.tables e below P s₁ (mkF m 0 #[.val (.ref oa), .val (.ref sq)] []) by
    obtain ⟨s2, o, st, r⟩ := GO _ (fun _ _ q => q)
    exact ⟨s2, o, castTop (ef_12nr m oa sq) st, r⟩
  clear hh
  intro P hP
  show Go p.tables e below P s₁ (mkF m 0 #[.val (.ref oa), .val (.ref sq)] [])
  refine Go.via (fun t k => XS.aloadN X0.here hx rfl (hb hby d12_0) rfl rfl k) ?_
  show Go p.tables e below P s₁ (mkF m 1 #[.val (.ref oa), .val (.ref sq)] [(.ref oa)])
  obtain ⟨T1, X1, e1, st1⟩ := getF X0 hx hZ hown (host := "") (Or.inl (hw _ (List.mem_of_getElem? (i := 68) rfl))) Via.refl e0 P3 (g := (mkF m 1 #[.val (.ref oa), .val (.ref sq)] [(.ref oa)])) rfl rfl (hb hby d12_1)
  refine Go.via st1 ?_
  show Go p.tables e below P T1 (mkF m 4 #[.val (.ref oa), .val (.ref sq)] [(.ref aNAME)])
  obtain ⟨T2, X2, e2, st2⟩ := getS2 X1 hx hZ hown (host := "") (Or.inl (hw _ (List.mem_of_getElem? (i := 79) rfl))) Via.refl e1 (P2.ext O0.2) (g := (mkF m 4 #[.val (.ref oa), .val (.ref sq)] [(.ref aNAME)])) rfl (hb hby d12_4)
  refine Go.via st2 ?_
  show Go p.tables e below P T2 (mkF m 7 #[.val (.ref oa), .val (.ref sq)] [(.ref aSYMBOL), (.ref aNAME)])
  refine Go.via (fun t k => Jvm.RoadKit.acmp (g := (mkF m 7 #[.val (.ref oa), .val (.ref sq)] [(.ref aSYMBOL), (.ref aNAME)])) X2 hx rfl rfl rfl (pc0 := 7) (pc' := 10) (same := false) rfl (hb hby d12_7) rfl (decide_eq_false fun q => nNS (Value.ref.inj q)) (by decide) (by decide) k) ?_
  show Go p.tables e below P T2 (mkF m 10 #[.val (.ref oa), .val (.ref sq)] [])
  refine Go.via (fun t k => XS.aloadN X2.here hx rfl (hb hby d12_10) rfl rfl k) ?_
  show Go p.tables e below P T2 (mkF m 11 #[.val (.ref oa), .val (.ref sq)] [(.ref oa)])
  obtain ⟨T3, X3, e3, st3⟩ := getF X2 hx hZ hown (host := "") (Or.inl (hw _ (List.mem_of_getElem? (i := 68) rfl))) Via.refl e2 P3 (g := (mkF m 11 #[.val (.ref oa), .val (.ref sq)] [(.ref oa)])) rfl rfl (hb hby d12_11)
  refine Go.via st3 ?_
  show Go p.tables e below P T3 (mkF m 14 #[.val (.ref oa), .val (.ref sq)] [(.ref aNAME)])
  obtain ⟨T4, X4, e4, st4⟩ := getS2 X3 hx hZ hown (host := "") (Or.inl (hw _ (List.mem_of_getElem? (i := 81) rfl))) Via.refl e3 (P1.ext O0.2) (g := (mkF m 14 #[.val (.ref oa), .val (.ref sq)] [(.ref aNAME)])) rfl (hb hby d12_14)
  refine Go.via st4 ?_
  show Go p.tables e below P T4 (mkF m 17 #[.val (.ref oa), .val (.ref sq)] [(.ref aNAME), (.ref aNAME)])
  refine Go.via (fun t k => Jvm.RoadKit.acmp (g := (mkF m 17 #[.val (.ref oa), .val (.ref sq)] [(.ref aNAME), (.ref aNAME)])) X4 hx rfl rfl rfl (pc0 := 17) (pc' := 20) (same := true) rfl (hb hby d12_17) rfl (decide_eq_true rfl) (by decide) (by decide) k) ?_
  show Go p.tables e below P T4 (mkF m 20 #[.val (.ref oa), .val (.ref sq)] [])
  refine Go.via (fun t k => XS.aloadN X4.here hx rfl (hb hby d12_20) rfl rfl k) ?_
  show Go p.tables e below P T4 (mkF m 21 #[.val (.ref oa), .val (.ref sq)] [(.ref oa)])
  obtain ⟨T5, X5, e5, st5⟩ := getF X4 hx hZ hown (host := "") (Or.inl (hw _ (List.mem_of_getElem? (i := 70) rfl))) Via.refl e4 P5 (g := (mkF m 21 #[.val (.ref oa), .val (.ref sq)] [(.ref oa)])) rfl rfl (hb hby d12_21)
  refine Go.via st5 ?_
  show Go p.tables e below P T5 (mkF m 24 #[.val (.ref oa), .val (.ref sq)] [(.ref so)])
  refine Go.via (fun t k => XS.aloadN X5.here hx rfl (hb hby d12_24) rfl rfl k) ?_
  show Go p.tables e below P T5 (mkF m 25 #[.val (.ref oa), .val (.ref sq)] [(.ref sq), (.ref so)])
  obtain ⟨cq6, kq6, q6a, q6b, q6c⟩ := isOf hZ e5 P6
  obtain ⟨_, _, ⟨T6, L6, k6, n6⟩, -, X6, ⟨Lc6, hQ6, l6, y6, z6⟩, st6⟩ := X5.virtualBack hx (y := (⟨"java/lang/String", "equals", "(Ljava/lang/Object;)Z"⟩ : MethodName)) (z := (⟨"java/lang/String", "equals", "(Ljava/lang/Object;)Z"⟩ : MethodName)) hown (mvT hZ (hw _ (List.mem_of_getElem? (i := 82) rfl))) (mvT hZ (hw _ (List.mem_of_getElem? (i := 83) rfl))) (notFace_of_selects (args := #[]) (mvT hZ (hw _ (List.mem_of_getElem? (i := 85) rfl)))) (mvT hZ (hw _ (List.mem_of_getElem? (i := 85) rfl))) (mvT hZ (hw _ (List.mem_of_getElem? (i := 84) rfl))) (by decide) (backOf (W := 0) (rm13 l Z a0 hw [] so sq cs tb tc kk kc bx bz h0 n0 Z0 O0 P7 (by first | assumption | decide | omega : ¬ cs = (0 : Int32)) P6 P9 P10 P11 P12 P13 P14 P15 (by first | assumption | decide | omega : bx.length ≤ 1000) (by first | assumption | decide | omega : bz.length ≤ 1000) (by first | assumption | decide | omega : so = sq → bx = bz)) hZ (hw _ (List.mem_of_getElem? (i := 86) rfl)) (hw _ (List.mem_of_getElem? (i := 13) rfl)) (by decide) (by decide)) q6a q6c (g := (mkF m 25 #[.val (.ref oa), .val (.ref sq)] [(.ref sq), (.ref so)])) rfl (by rw [hml]; rfl) (Steps.refl _) (argsL := [(.ref sq)]) (rest := []) (lenOf own_pd4 rfl) rfl (by show 2 * 0 + _ ≤ _; exact Nat.le_of_eq rfl) (hb hby d12_25) (fun _ _ => ⟨rfl, e5, (by decide : 0 + 0 ≤ _), (by decide : 0 + 0 ≤ _)⟩)
  dsimp only [Pt.U, Pt.locs, Pt.cells, Pt.slots] at X6 l6 y6 z6 st6 hQ6
  subst l6 y6 z6
  obtain ⟨rfl, Nq6, hh6⟩ := hQ6
  obtain ⟨lc6, Xh6, N6⟩ := own_hide X6 (Fr.app N0 Nq6)
  clear X6
  refine Go.hop st6 ?_
  show Go p.tables e below P T6 (mkF m 28 #[.val (.ref oa), .val (.ref sq)] [(.int (if bx = bz then (1 : Int32) else (0 : Int32)))])
  by_cases hc7 : (if bx = bz then (1 : Int32) else (0 : Int32)) = (0 : Int32)
  · refine Go.via (fun t k => XS.ifYes Xh6.here hx rfl (pc0 := 28) (pc' := 35) rfl (hb hby d12_28) rfl ((if0 _ _).trans (teq hc7).1) (by decide) (by decide) k) ?_
    show Go p.tables e below P T6 (mkF m 35 #[.val (.ref oa), .val (.ref sq)] [])
    refine Go.via (fun t k => XS.iconst Xh6.here hx rfl (hb hby d12_35) k) ?_
    show Go p.tables e below P T6 (mkF m 36 #[.val (.ref oa), .val (.ref sq)] [(.int (0 : Int32))])
    obtain ⟨fs, hr, hrun, hended, hW, hsame⟩ := Xh6.leave (v := some (.int (if bx = bz then (1 : Int32) else (0 : Int32)))) (fun h => by rw [Bd.returns] at h; cases h)
    refine ⟨_, _, retZ Xh6 hx (t := .boolean) Bd.returns (by simp) (hb hby d12_36) (show nar .boolean (0 : Int32) = _ from (if_neg (own_i0 hc7)).symm) hr, hrun, hended, hP _ _ ⟨_, _, rfl, ?_, ⟨_, rfl⟩, hW, hsame.mono (by decide) (by decide)⟩⟩
    show Q12nr Z oa aNAME aSYMBOL sq so cs tb tc kk kc bx bz h0 n0 _ T6.heap _
    rw [hh6]
    exact ⟨rfl, N6, rfl⟩
  · refine Go.via (fun t k => XS.ifNo Xh6.here hx rfl (hb hby d12_28) rfl ((if0 _ _).trans (feq hc7).1) k) ?_
    show Go p.tables e below P T6 (mkF m 31 #[.val (.ref oa), .val (.ref sq)] [])
    refine Go.via (fun t k => XS.iconst Xh6.here hx rfl (hb hby d12_31) k) ?_
    refine Go.via (fun t k => XS.goto Xh6.here hx rfl (pc0 := 32) (pc' := 36) rfl (hb hby d12_32) (by decide) (by decide) k) ?_
    show Go p.tables e below P T6 (mkF m 36 #[.val (.ref oa), .val (.ref sq)] [(.int (1 : Int32))])
    obtain ⟨fs, hr, hrun, hended, hW, hsame⟩ := Xh6.leave (v := some (.int (if bx = bz then (1 : Int32) else (0 : Int32)))) (fun h => by rw [Bd.returns] at h; cases h)
    refine ⟨_, _, retZ Xh6 hx (t := .boolean) Bd.returns (by simp) (hb hby d12_36) (show nar .boolean (1 : Int32) = _ from (if_pos (own_i1 hc7)).symm) hr, hrun, hended, hP _ _ ⟨_, _, rfl, ?_, ⟨_, rfl⟩, hW, hsame.mono (by decide) (by decide)⟩⟩
    show Q12nr Z oa aNAME aSYMBOL sq so cs tb tc kk kc bx bz h0 n0 _ T6.heap _
    rw [hh6]
    exact ⟨rfl, N6, rfl⟩
theorem ef_12sn (m : MethodId) (x0 : Addr) : entryFrame m #[(.ref x0), .null] 2 = mkF m 0 #[.val (.ref x0), .val .null] [] := by first | (simp [entryFrame, mkF, argsToLocals, Value.category]; done) | rfl
def Q12sn (Z : State) (oa : Addr) (aNAME : Addr) (aSYMBOL : Addr) (so : Addr) (h0 : Heap) (n0 : Nat) (v : Option Value) (h : Heap) (L : List Loc) : Prop := v = some (.int (0 : Int32)) ∧ Fr n0 L ∧ h = h0
set_option maxRecDepth 65536 in
set_option maxHeartbeats 40000000 in
theorem rm12sn (l : Launch) (Z : State) (a0 : Array Value) (hw : ∀ d ∈ tables_1, d.before a0 Z = true) (ws : List Jvm.Cond) (oa : Addr) (aNAME : Addr) (aSYMBOL : Addr) (so : Addr) (h0 : Heap) (n0 : Nat) (Z0 : n0 ≤ h0.size) (O0 : Old Z n0 h0) (P1 : Sta Z Z.heap "com/example/numeric_planner/numericplanner/rddl/Token$Kind" "NAME" "Lcom/example/numeric_planner/numericplanner/rddl/Token$Kind;" (.ref aNAME)) (P2 : Sta Z Z.heap "com/example/numeric_planner/numericplanner/rddl/Token$Kind" "SYMBOL" "Lcom/example/numeric_planner/numericplanner/rddl/Token$Kind;" (.ref aSYMBOL)) (P3 : Fld Z h0 oa "com/example/numeric_planner/numericplanner/rddl/Token" "kind" "Lcom/example/numeric_planner/numericplanner/rddl/Token$Kind;" (.ref aSYMBOL)) (P4 : Fld Z h0 oa "com/example/numeric_planner/numericplanner/rddl/Token" "text" "Ljava/lang/String;" (.ref so)) (P5 : Exa Z h0 so "java/lang/String") :
    MetFree l (⟨"com/example/numeric_planner/numericplanner/rddl/Token", "is", "(Ljava/lang/String;)Z"⟩ : MethodName) (head1 (Jvm.Cond.code (⟨"com/example/numeric_planner/numericplanner/rddl/Token", "is", "(Ljava/lang/String;)Z"⟩ : MethodName) prog_90_method_2_code 2 (some .boolean) :: ws) ({ frames := 1, cells := 0, slots := 0, locals := 14 } : Room)) (fun a U => a = #[(.ref oa), .null] ∧ Z.Warmed39 U.vm ∧ U.heap = h0) (fun _ _ _ _ _ => True) (fun _ U o U' => ∃ v L, o = .returned v ∧ Q12sn Z oa aNAME aSYMBOL so h0 n0 v U'.heap L ∧ FrameEnd U o U' L ({ frames := 1, cells := 0, slots := 0, locals := 14 } : Room).cells ({ frames := 1, cells := 0, slots := 0, locals := 14 } : Room).slots) := by
  refine MetFree.of_bodySF (plainFor_of_name own_pn5) hisR ?_
  intro p e s m args below meth c s₁ Bd hml0 hP hK
  obtain ⟨rfl, hZ, hh⟩ := hP
  have hx := Bd.exec
  have hby := Bd.bytes
  have hml : c.maxLocals = 2 := hml0
  have hown : s.vm.findClass "com/example/numeric_planner/numericplanner/rddl/Token" = some m.cls := findClass_of_methodNamed Bd.named
  have hnm := (name_of_methodNamed Bd.named Bd.method).1
  have X0 : Stand p l e ({ frames := 1, cells := 0, slots := 0, locals := 14 } : Room) s m #[(.ref oa), .null] below meth c s₁ [] 0 0 := Stand.of_body Bd
  have e0 : s₁.heap = h0 := by rw [← hh, Bd.state]; rfl
  have N0 := Fr.nil n0
  have K0 : Keep h0 h0 [] := Keep.refl _ _
  suffices GO : ∀ P : Outcome → State → Prop, (∀ o U', (∃ v L, o = .returned v ∧ Q12sn Z oa aNAME aSYMBOL so h0 n0 v U'.heap L ∧ FrameEnd s o U' L ({ frames := 1, cells := 0, slots := 0, locals := 14 } : Room).cells ({ frames := 1, cells := 0, slots := 0, locals := 14 } : Room).slots) → P o U') → Go p.tables e below P s₁ (mkF m 0 #[.val (.ref oa), .val .null] []) by
    obtain ⟨s2, o, st, r⟩ := GO _ (fun _ _ q => q)
    exact ⟨s2, o, castTop (ef_12sn m oa) st, r⟩
  clear hh
  intro P hP
  show Go p.tables e below P s₁ (mkF m 0 #[.val (.ref oa), .val .null] [])
  refine Go.via (fun t k => XS.aloadN X0.here hx rfl (hb hby d12_0) rfl rfl k) ?_
  show Go p.tables e below P s₁ (mkF m 1 #[.val (.ref oa), .val .null] [(.ref oa)])
  obtain ⟨T1, X1, e1, st1⟩ := getF X0 hx hZ hown (host := "") (Or.inl (hw _ (List.mem_of_getElem? (i := 68) rfl))) Via.refl e0 P3 (g := (mkF m 1 #[.val (.ref oa), .val .null] [(.ref oa)])) rfl rfl (hb hby d12_1)
  refine Go.via st1 ?_
  show Go p.tables e below P T1 (mkF m 4 #[.val (.ref oa), .val .null] [(.ref aSYMBOL)])
  obtain ⟨T2, X2, e2, st2⟩ := getS2 X1 hx hZ hown (host := "") (Or.inl (hw _ (List.mem_of_getElem? (i := 79) rfl))) Via.refl e1 (P2.ext O0.2) (g := (mkF m 4 #[.val (.ref oa), .val .null] [(.ref aSYMBOL)])) rfl (hb hby d12_4)
  refine Go.via st2 ?_
  show Go p.tables e below P T2 (mkF m 7 #[.val (.ref oa), .val .null] [(.ref aSYMBOL), (.ref aSYMBOL)])
  refine Go.via (fun t k => Jvm.RoadKit.acmp (g := (mkF m 7 #[.val (.ref oa), .val .null] [(.ref aSYMBOL), (.ref aSYMBOL)])) X2 hx rfl rfl rfl (pc0 := 7) (pc' := 20) (same := true) rfl (hb hby d12_7) rfl (decide_eq_true rfl) (by decide) (by decide) k) ?_
  show Go p.tables e below P T2 (mkF m 20 #[.val (.ref oa), .val .null] [])
  refine Go.via (fun t k => XS.aloadN X2.here hx rfl (hb hby d12_20) rfl rfl k) ?_
  show Go p.tables e below P T2 (mkF m 21 #[.val (.ref oa), .val .null] [(.ref oa)])
  obtain ⟨T3, X3, e3, st3⟩ := getF X2 hx hZ hown (host := "") (Or.inl (hw _ (List.mem_of_getElem? (i := 70) rfl))) Via.refl e2 P4 (g := (mkF m 21 #[.val (.ref oa), .val .null] [(.ref oa)])) rfl rfl (hb hby d12_21)
  refine Go.via st3 ?_
  show Go p.tables e below P T3 (mkF m 24 #[.val (.ref oa), .val .null] [(.ref so)])
  refine Go.via (fun t k => XS.aloadN X3.here hx rfl (hb hby d12_24) rfl rfl k) ?_
  show Go p.tables e below P T3 (mkF m 25 #[.val (.ref oa), .val .null] [.null, (.ref so)])
  obtain ⟨cq4, kq4, q4a, q4b, q4c⟩ := isOf hZ e3 P5
  obtain ⟨_, _, ⟨T4, L4, k4, n4⟩, -, X4, ⟨Lc4, hQ4, l4, y4, z4⟩, st4⟩ := X3.virtualBack hx (y := (⟨"java/lang/String", "equals", "(Ljava/lang/Object;)Z"⟩ : MethodName)) (z := (⟨"java/lang/String", "equals", "(Ljava/lang/Object;)Z"⟩ : MethodName)) hown (mvT hZ (hw _ (List.mem_of_getElem? (i := 82) rfl))) (mvT hZ (hw _ (List.mem_of_getElem? (i := 83) rfl))) (notFace_of_selects (args := #[]) (mvT hZ (hw _ (List.mem_of_getElem? (i := 85) rfl)))) (mvT hZ (hw _ (List.mem_of_getElem? (i := 85) rfl))) (mvT hZ (hw _ (List.mem_of_getElem? (i := 84) rfl))) (by decide) (backOf (W := 0) (rm13n l Z a0 hw [] so h0 n0 Z0 ) hZ (hw _ (List.mem_of_getElem? (i := 86) rfl)) (hw _ (List.mem_of_getElem? (i := 13) rfl)) (by decide) (by decide)) q4a q4c (g := (mkF m 25 #[.val (.ref oa), .val .null] [.null, (.ref so)])) rfl (by rw [hml]; rfl) (Steps.refl _) (argsL := [.null]) (rest := []) (lenOf own_pd4 rfl) rfl (by show 2 * 0 + _ ≤ _; exact Nat.le_of_eq rfl) (hb hby d12_25) (fun _ _ => ⟨rfl, e3, (by decide : 0 + 0 ≤ _), (by decide : 0 + 0 ≤ _)⟩)
  dsimp only [Pt.U, Pt.locs, Pt.cells, Pt.slots] at X4 l4 y4 z4 st4 hQ4
  subst l4 y4 z4
  obtain ⟨rfl, Nq4, hh4⟩ := hQ4
  obtain ⟨lc4, Xh4, N4⟩ := own_hide X4 (Fr.app N0 Nq4)
  clear X4
  refine Go.hop st4 ?_
  show Go p.tables e below P T4 (mkF m 28 #[.val (.ref oa), .val .null] [(.int (0 : Int32))])
  refine Go.via (fun t k => XS.ifYes Xh4.here hx rfl (pc0 := 28) (pc' := 35) rfl (hb hby d12_28) rfl ((if0 _ _).trans (teq (rfl : (0 : Int32) = (0 : Int32))).1) (by decide) (by decide) k) ?_
  show Go p.tables e below P T4 (mkF m 35 #[.val (.ref oa), .val .null] [])
  refine Go.via (fun t k => XS.iconst Xh4.here hx rfl (hb hby d12_35) k) ?_
  show Go p.tables e below P T4 (mkF m 36 #[.val (.ref oa), .val .null] [(.int (0 : Int32))])
  obtain ⟨fs, hr, hrun, hended, hW, hsame⟩ := Xh4.leave (v := some (.int (0 : Int32))) (fun h => by rw [Bd.returns] at h; cases h)
  refine ⟨_, _, retZ Xh4 hx (t := .boolean) Bd.returns (by simp) (hb hby d12_36) rfl hr, hrun, hended, hP _ _ ⟨_, _, rfl, ?_, ⟨_, rfl⟩, hW, hsame.mono (by decide) (by decide)⟩⟩
  show Q12sn Z oa aNAME aSYMBOL so h0 n0 _ T4.heap _
  rw [hh4]
  exact ⟨rfl, N4, rfl⟩
theorem ef_12sr (m : MethodId) (x0 : Addr) (x1 : Addr) : entryFrame m #[(.ref x0), (.ref x1)] 2 = mkF m 0 #[.val (.ref x0), .val (.ref x1)] [] := by first | (simp [entryFrame, mkF, argsToLocals, Value.category]; done) | rfl
def Q12sr (Z : State) (oa : Addr) (aNAME : Addr) (aSYMBOL : Addr) (sq : Addr) (so : Addr) (cs : Int32) (tb : Addr) (tc : Addr) (kk : ClassId) (kc : ClassId) (bx : List Int32) (bz : List Int32) (h0 : Heap) (n0 : Nat) (v : Option Value) (h : Heap) (L : List Loc) : Prop := v = some (.int (if bx = bz then (1 : Int32) else (0 : Int32))) ∧ Fr n0 L ∧ h = h0
set_option maxRecDepth 65536 in
set_option maxHeartbeats 40000000 in
theorem rm12sr (l : Launch) (Z : State) (a0 : Array Value) (hw : ∀ d ∈ tables_1, d.before a0 Z = true) (ws : List Jvm.Cond) (oa : Addr) (aNAME : Addr) (aSYMBOL : Addr) (sq : Addr) (so : Addr) (cs : Int32) (tb : Addr) (tc : Addr) (kk : ClassId) (kc : ClassId) (bx : List Int32) (bz : List Int32) (h0 : Heap) (n0 : Nat) (Z0 : n0 ≤ h0.size) (O0 : Old Z n0 h0) (P1 : Sta Z Z.heap "com/example/numeric_planner/numericplanner/rddl/Token$Kind" "NAME" "Lcom/example/numeric_planner/numericplanner/rddl/Token$Kind;" (.ref aNAME)) (P2 : Sta Z Z.heap "com/example/numeric_planner/numericplanner/rddl/Token$Kind" "SYMBOL" "Lcom/example/numeric_planner/numericplanner/rddl/Token$Kind;" (.ref aSYMBOL)) (P3 : Fld Z h0 oa "com/example/numeric_planner/numericplanner/rddl/Token" "kind" "Lcom/example/numeric_planner/numericplanner/rddl/Token$Kind;" (.ref aSYMBOL)) (P4 : Fld Z h0 oa "com/example/numeric_planner/numericplanner/rddl/Token" "text" "Ljava/lang/String;" (.ref so)) (P5 : Exa Z h0 so "java/lang/String") (P6 : Sta Z Z.heap "java/lang/String" "COMPACT_STRINGS" "Z" (.int cs)) (hcs : ¬ cs = (0 : Int32)) (P8 : Fld Z h0 so "java/lang/String" "value" "[B" (.ref tb)) (P9 : Fld Z h0 so "java/lang/String" "coder" "B" (.int (0 : Int32))) (P10 : Arv Z h0 tb kk .byte (own_lg bx) (bx.map Value.int) (.int (0 : Int32))) (P11 : Exa Z h0 sq "java/lang/String") (P12 : Fld Z h0 sq "java/lang/String" "value" "[B" (.ref tc)) (P13 : Fld Z h0 sq "java/lang/String" "coder" "B" (.int (0 : Int32))) (P14 : Arv Z h0 tc kc .byte (own_lg bz) (bz.map Value.int) (.int (0 : Int32))) (smx : bx.length ≤ 1000) (smz : bz.length ≤ 1000) (hsm_ : so = sq → bx = bz) :
    MetFree l (⟨"com/example/numeric_planner/numericplanner/rddl/Token", "is", "(Ljava/lang/String;)Z"⟩ : MethodName) (head1 (Jvm.Cond.code (⟨"com/example/numeric_planner/numericplanner/rddl/Token", "is", "(Ljava/lang/String;)Z"⟩ : MethodName) prog_90_method_2_code 2 (some .boolean) :: ws) ({ frames := 2, cells := 0, slots := 0, locals := 28 } : Room)) (fun a U => a = #[(.ref oa), (.ref sq)] ∧ Z.Warmed39 U.vm ∧ U.heap = h0) (fun _ _ _ _ _ => True) (fun _ U o U' => ∃ v L, o = .returned v ∧ Q12sr Z oa aNAME aSYMBOL sq so cs tb tc kk kc bx bz h0 n0 v U'.heap L ∧ FrameEnd U o U' L ({ frames := 2, cells := 0, slots := 0, locals := 28 } : Room).cells ({ frames := 2, cells := 0, slots := 0, locals := 28 } : Room).slots) := by
  refine MetFree.of_bodySF (plainFor_of_name own_pn5) hisR ?_
  intro p e s m args below meth c s₁ Bd hml0 hP hK
  obtain ⟨rfl, hZ, hh⟩ := hP
  have hx := Bd.exec
  have hby := Bd.bytes
  have hml : c.maxLocals = 2 := hml0
  have hown : s.vm.findClass "com/example/numeric_planner/numericplanner/rddl/Token" = some m.cls := findClass_of_methodNamed Bd.named
  have hnm := (name_of_methodNamed Bd.named Bd.method).1
  have X0 : Stand p l e ({ frames := 2, cells := 0, slots := 0, locals := 28 } : Room) s m #[(.ref oa), (.ref sq)] below meth c s₁ [] 0 0 := Stand.of_body Bd
  have e0 : s₁.heap = h0 := by rw [← hh, Bd.state]; rfl
  have N0 := Fr.nil n0
  have K0 : Keep h0 h0 [] := Keep.refl _ _
  suffices GO : ∀ P : Outcome → State → Prop, (∀ o U', (∃ v L, o = .returned v ∧ Q12sr Z oa aNAME aSYMBOL sq so cs tb tc kk kc bx bz h0 n0 v U'.heap L ∧ FrameEnd s o U' L ({ frames := 2, cells := 0, slots := 0, locals := 28 } : Room).cells ({ frames := 2, cells := 0, slots := 0, locals := 28 } : Room).slots) → P o U') → Go p.tables e below P s₁ (mkF m 0 #[.val (.ref oa), .val (.ref sq)] []) by
    obtain ⟨s2, o, st, r⟩ := GO _ (fun _ _ q => q)
    exact ⟨s2, o, castTop (ef_12sr m oa sq) st, r⟩
  clear hh
  intro P hP
  show Go p.tables e below P s₁ (mkF m 0 #[.val (.ref oa), .val (.ref sq)] [])
  refine Go.via (fun t k => XS.aloadN X0.here hx rfl (hb hby d12_0) rfl rfl k) ?_
  show Go p.tables e below P s₁ (mkF m 1 #[.val (.ref oa), .val (.ref sq)] [(.ref oa)])
  obtain ⟨T1, X1, e1, st1⟩ := getF X0 hx hZ hown (host := "") (Or.inl (hw _ (List.mem_of_getElem? (i := 68) rfl))) Via.refl e0 P3 (g := (mkF m 1 #[.val (.ref oa), .val (.ref sq)] [(.ref oa)])) rfl rfl (hb hby d12_1)
  refine Go.via st1 ?_
  show Go p.tables e below P T1 (mkF m 4 #[.val (.ref oa), .val (.ref sq)] [(.ref aSYMBOL)])
  obtain ⟨T2, X2, e2, st2⟩ := getS2 X1 hx hZ hown (host := "") (Or.inl (hw _ (List.mem_of_getElem? (i := 79) rfl))) Via.refl e1 (P2.ext O0.2) (g := (mkF m 4 #[.val (.ref oa), .val (.ref sq)] [(.ref aSYMBOL)])) rfl (hb hby d12_4)
  refine Go.via st2 ?_
  show Go p.tables e below P T2 (mkF m 7 #[.val (.ref oa), .val (.ref sq)] [(.ref aSYMBOL), (.ref aSYMBOL)])
  refine Go.via (fun t k => Jvm.RoadKit.acmp (g := (mkF m 7 #[.val (.ref oa), .val (.ref sq)] [(.ref aSYMBOL), (.ref aSYMBOL)])) X2 hx rfl rfl rfl (pc0 := 7) (pc' := 20) (same := true) rfl (hb hby d12_7) rfl (decide_eq_true rfl) (by decide) (by decide) k) ?_
  show Go p.tables e below P T2 (mkF m 20 #[.val (.ref oa), .val (.ref sq)] [])
  refine Go.via (fun t k => XS.aloadN X2.here hx rfl (hb hby d12_20) rfl rfl k) ?_
  show Go p.tables e below P T2 (mkF m 21 #[.val (.ref oa), .val (.ref sq)] [(.ref oa)])
  obtain ⟨T3, X3, e3, st3⟩ := getF X2 hx hZ hown (host := "") (Or.inl (hw _ (List.mem_of_getElem? (i := 70) rfl))) Via.refl e2 P4 (g := (mkF m 21 #[.val (.ref oa), .val (.ref sq)] [(.ref oa)])) rfl rfl (hb hby d12_21)
  refine Go.via st3 ?_
  show Go p.tables e below P T3 (mkF m 24 #[.val (.ref oa), .val (.ref sq)] [(.ref so)])
  refine Go.via (fun t k => XS.aloadN X3.here hx rfl (hb hby d12_24) rfl rfl k) ?_
  show Go p.tables e below P T3 (mkF m 25 #[.val (.ref oa), .val (.ref sq)] [(.ref sq), (.ref so)])
  obtain ⟨cq4, kq4, q4a, q4b, q4c⟩ := isOf hZ e3 P5
  obtain ⟨_, _, ⟨T4, L4, k4, n4⟩, -, X4, ⟨Lc4, hQ4, l4, y4, z4⟩, st4⟩ := X3.virtualBack hx (y := (⟨"java/lang/String", "equals", "(Ljava/lang/Object;)Z"⟩ : MethodName)) (z := (⟨"java/lang/String", "equals", "(Ljava/lang/Object;)Z"⟩ : MethodName)) hown (mvT hZ (hw _ (List.mem_of_getElem? (i := 82) rfl))) (mvT hZ (hw _ (List.mem_of_getElem? (i := 83) rfl))) (notFace_of_selects (args := #[]) (mvT hZ (hw _ (List.mem_of_getElem? (i := 85) rfl)))) (mvT hZ (hw _ (List.mem_of_getElem? (i := 85) rfl))) (mvT hZ (hw _ (List.mem_of_getElem? (i := 84) rfl))) (by decide) (backOf (W := 0) (rm13 l Z a0 hw [] so sq cs tb tc kk kc bx bz h0 n0 Z0 O0 P6 (by first | assumption | decide | omega : ¬ cs = (0 : Int32)) P5 P8 P9 P10 P11 P12 P13 P14 (by first | assumption | decide | omega : bx.length ≤ 1000) (by first | assumption | decide | omega : bz.length ≤ 1000) (by first | assumption | decide | omega : so = sq → bx = bz)) hZ (hw _ (List.mem_of_getElem? (i := 86) rfl)) (hw _ (List.mem_of_getElem? (i := 13) rfl)) (by decide) (by decide)) q4a q4c (g := (mkF m 25 #[.val (.ref oa), .val (.ref sq)] [(.ref sq), (.ref so)])) rfl (by rw [hml]; rfl) (Steps.refl _) (argsL := [(.ref sq)]) (rest := []) (lenOf own_pd4 rfl) rfl (by show 2 * 0 + _ ≤ _; exact Nat.le_of_eq rfl) (hb hby d12_25) (fun _ _ => ⟨rfl, e3, (by decide : 0 + 0 ≤ _), (by decide : 0 + 0 ≤ _)⟩)
  dsimp only [Pt.U, Pt.locs, Pt.cells, Pt.slots] at X4 l4 y4 z4 st4 hQ4
  subst l4 y4 z4
  obtain ⟨rfl, Nq4, hh4⟩ := hQ4
  obtain ⟨lc4, Xh4, N4⟩ := own_hide X4 (Fr.app N0 Nq4)
  clear X4
  refine Go.hop st4 ?_
  show Go p.tables e below P T4 (mkF m 28 #[.val (.ref oa), .val (.ref sq)] [(.int (if bx = bz then (1 : Int32) else (0 : Int32)))])
  by_cases hc5 : (if bx = bz then (1 : Int32) else (0 : Int32)) = (0 : Int32)
  · refine Go.via (fun t k => XS.ifYes Xh4.here hx rfl (pc0 := 28) (pc' := 35) rfl (hb hby d12_28) rfl ((if0 _ _).trans (teq hc5).1) (by decide) (by decide) k) ?_
    show Go p.tables e below P T4 (mkF m 35 #[.val (.ref oa), .val (.ref sq)] [])
    refine Go.via (fun t k => XS.iconst Xh4.here hx rfl (hb hby d12_35) k) ?_
    show Go p.tables e below P T4 (mkF m 36 #[.val (.ref oa), .val (.ref sq)] [(.int (0 : Int32))])
    obtain ⟨fs, hr, hrun, hended, hW, hsame⟩ := Xh4.leave (v := some (.int (if bx = bz then (1 : Int32) else (0 : Int32)))) (fun h => by rw [Bd.returns] at h; cases h)
    refine ⟨_, _, retZ Xh4 hx (t := .boolean) Bd.returns (by simp) (hb hby d12_36) (show nar .boolean (0 : Int32) = _ from (if_neg (own_i0 hc5)).symm) hr, hrun, hended, hP _ _ ⟨_, _, rfl, ?_, ⟨_, rfl⟩, hW, hsame.mono (by decide) (by decide)⟩⟩
    show Q12sr Z oa aNAME aSYMBOL sq so cs tb tc kk kc bx bz h0 n0 _ T4.heap _
    rw [hh4]
    exact ⟨rfl, N4, rfl⟩
  · refine Go.via (fun t k => XS.ifNo Xh4.here hx rfl (hb hby d12_28) rfl ((if0 _ _).trans (feq hc5).1) k) ?_
    show Go p.tables e below P T4 (mkF m 31 #[.val (.ref oa), .val (.ref sq)] [])
    refine Go.via (fun t k => XS.iconst Xh4.here hx rfl (hb hby d12_31) k) ?_
    refine Go.via (fun t k => XS.goto Xh4.here hx rfl (pc0 := 32) (pc' := 36) rfl (hb hby d12_32) (by decide) (by decide) k) ?_
    show Go p.tables e below P T4 (mkF m 36 #[.val (.ref oa), .val (.ref sq)] [(.int (1 : Int32))])
    obtain ⟨fs, hr, hrun, hended, hW, hsame⟩ := Xh4.leave (v := some (.int (if bx = bz then (1 : Int32) else (0 : Int32)))) (fun h => by rw [Bd.returns] at h; cases h)
    refine ⟨_, _, retZ Xh4 hx (t := .boolean) Bd.returns (by simp) (hb hby d12_36) (show nar .boolean (1 : Int32) = _ from (if_pos (own_i1 hc5)).symm) hr, hrun, hended, hP _ _ ⟨_, _, rfl, ?_, ⟨_, rfl⟩, hW, hsame.mono (by decide) (by decide)⟩⟩
    show Q12sr Z oa aNAME aSYMBOL sq so cs tb tc kk kc bx bz h0 n0 _ T4.heap _
    rw [hh4]
    exact ⟨rfl, N4, rfl⟩
theorem ef_12dn (m : MethodId) (x0 : Addr) : entryFrame m #[(.ref x0), .null] 2 = mkF m 0 #[.val (.ref x0), .val .null] [] := by first | (simp [entryFrame, mkF, argsToLocals, Value.category]; done) | rfl
def Q12dn (Z : State) (oa : Addr) (aNAME : Addr) (aSYMBOL : Addr) (kd : Addr) (h0 : Heap) (n0 : Nat) (v : Option Value) (h : Heap) (L : List Loc) : Prop := v = some (.int (0 : Int32)) ∧ Fr n0 L ∧ h = h0
set_option maxRecDepth 65536 in
set_option maxHeartbeats 40000000 in
theorem rm12dn (l : Launch) (Z : State) (a0 : Array Value) (hw : ∀ d ∈ tables_1, d.before a0 Z = true) (ws : List Jvm.Cond) (oa : Addr) (aNAME : Addr) (aSYMBOL : Addr) (kd : Addr) (h0 : Heap) (n0 : Nat) (Z0 : n0 ≤ h0.size) (O0 : Old Z n0 h0) (P1 : Sta Z Z.heap "com/example/numeric_planner/numericplanner/rddl/Token$Kind" "NAME" "Lcom/example/numeric_planner/numericplanner/rddl/Token$Kind;" (.ref aNAME)) (P2 : Sta Z Z.heap "com/example/numeric_planner/numericplanner/rddl/Token$Kind" "SYMBOL" "Lcom/example/numeric_planner/numericplanner/rddl/Token$Kind;" (.ref aSYMBOL)) (P3 : Fld Z h0 oa "com/example/numeric_planner/numericplanner/rddl/Token" "kind" "Lcom/example/numeric_planner/numericplanner/rddl/Token$Kind;" (.ref kd)) (nkS : kd ≠ aSYMBOL) (nkN : kd ≠ aNAME) :
    MetFree l (⟨"com/example/numeric_planner/numericplanner/rddl/Token", "is", "(Ljava/lang/String;)Z"⟩ : MethodName) (head1 (Jvm.Cond.code (⟨"com/example/numeric_planner/numericplanner/rddl/Token", "is", "(Ljava/lang/String;)Z"⟩ : MethodName) prog_90_method_2_code 2 (some .boolean) :: ws) ({ frames := 0, cells := 0, slots := 0, locals := 0 } : Room)) (fun a U => a = #[(.ref oa), .null] ∧ Z.Warmed39 U.vm ∧ U.heap = h0) (fun _ _ _ _ _ => True) (fun _ U o U' => ∃ v L, o = .returned v ∧ Q12dn Z oa aNAME aSYMBOL kd h0 n0 v U'.heap L ∧ FrameEnd U o U' L ({ frames := 0, cells := 0, slots := 0, locals := 0 } : Room).cells ({ frames := 0, cells := 0, slots := 0, locals := 0 } : Room).slots) := by
  refine MetFree.of_bodySF (plainFor_of_name own_pn5) hisR ?_
  intro p e s m args below meth c s₁ Bd hml0 hP hK
  obtain ⟨rfl, hZ, hh⟩ := hP
  have hx := Bd.exec
  have hby := Bd.bytes
  have hml : c.maxLocals = 2 := hml0
  have hown : s.vm.findClass "com/example/numeric_planner/numericplanner/rddl/Token" = some m.cls := findClass_of_methodNamed Bd.named
  have hnm := (name_of_methodNamed Bd.named Bd.method).1
  have X0 : Stand p l e ({ frames := 0, cells := 0, slots := 0, locals := 0 } : Room) s m #[(.ref oa), .null] below meth c s₁ [] 0 0 := Stand.of_body Bd
  have e0 : s₁.heap = h0 := by rw [← hh, Bd.state]; rfl
  have N0 := Fr.nil n0
  have K0 : Keep h0 h0 [] := Keep.refl _ _
  suffices GO : ∀ P : Outcome → State → Prop, (∀ o U', (∃ v L, o = .returned v ∧ Q12dn Z oa aNAME aSYMBOL kd h0 n0 v U'.heap L ∧ FrameEnd s o U' L ({ frames := 0, cells := 0, slots := 0, locals := 0 } : Room).cells ({ frames := 0, cells := 0, slots := 0, locals := 0 } : Room).slots) → P o U') → Go p.tables e below P s₁ (mkF m 0 #[.val (.ref oa), .val .null] []) by
    obtain ⟨s2, o, st, r⟩ := GO _ (fun _ _ q => q)
    exact ⟨s2, o, castTop (ef_12dn m oa) st, r⟩
  clear hh
  intro P hP
  show Go p.tables e below P s₁ (mkF m 0 #[.val (.ref oa), .val .null] [])
  refine Go.via (fun t k => XS.aloadN X0.here hx rfl (hb hby d12_0) rfl rfl k) ?_
  show Go p.tables e below P s₁ (mkF m 1 #[.val (.ref oa), .val .null] [(.ref oa)])
  obtain ⟨T1, X1, e1, st1⟩ := getF X0 hx hZ hown (host := "") (Or.inl (hw _ (List.mem_of_getElem? (i := 68) rfl))) Via.refl e0 P3 (g := (mkF m 1 #[.val (.ref oa), .val .null] [(.ref oa)])) rfl rfl (hb hby d12_1)
  refine Go.via st1 ?_
  show Go p.tables e below P T1 (mkF m 4 #[.val (.ref oa), .val .null] [(.ref kd)])
  obtain ⟨T2, X2, e2, st2⟩ := getS2 X1 hx hZ hown (host := "") (Or.inl (hw _ (List.mem_of_getElem? (i := 79) rfl))) Via.refl e1 (P2.ext O0.2) (g := (mkF m 4 #[.val (.ref oa), .val .null] [(.ref kd)])) rfl (hb hby d12_4)
  refine Go.via st2 ?_
  show Go p.tables e below P T2 (mkF m 7 #[.val (.ref oa), .val .null] [(.ref aSYMBOL), (.ref kd)])
  refine Go.via (fun t k => Jvm.RoadKit.acmp (g := (mkF m 7 #[.val (.ref oa), .val .null] [(.ref aSYMBOL), (.ref kd)])) X2 hx rfl rfl rfl (pc0 := 7) (pc' := 10) (same := false) rfl (hb hby d12_7) rfl (decide_eq_false fun q => nkS (Value.ref.inj q)) (by decide) (by decide) k) ?_
  show Go p.tables e below P T2 (mkF m 10 #[.val (.ref oa), .val .null] [])
  refine Go.via (fun t k => XS.aloadN X2.here hx rfl (hb hby d12_10) rfl rfl k) ?_
  show Go p.tables e below P T2 (mkF m 11 #[.val (.ref oa), .val .null] [(.ref oa)])
  obtain ⟨T3, X3, e3, st3⟩ := getF X2 hx hZ hown (host := "") (Or.inl (hw _ (List.mem_of_getElem? (i := 68) rfl))) Via.refl e2 P3 (g := (mkF m 11 #[.val (.ref oa), .val .null] [(.ref oa)])) rfl rfl (hb hby d12_11)
  refine Go.via st3 ?_
  show Go p.tables e below P T3 (mkF m 14 #[.val (.ref oa), .val .null] [(.ref kd)])
  obtain ⟨T4, X4, e4, st4⟩ := getS2 X3 hx hZ hown (host := "") (Or.inl (hw _ (List.mem_of_getElem? (i := 81) rfl))) Via.refl e3 (P1.ext O0.2) (g := (mkF m 14 #[.val (.ref oa), .val .null] [(.ref kd)])) rfl (hb hby d12_14)
  refine Go.via st4 ?_
  show Go p.tables e below P T4 (mkF m 17 #[.val (.ref oa), .val .null] [(.ref aNAME), (.ref kd)])
  refine Go.via (fun t k => Jvm.RoadKit.acmp (g := (mkF m 17 #[.val (.ref oa), .val .null] [(.ref aNAME), (.ref kd)])) X4 hx rfl rfl rfl (pc0 := 17) (pc' := 35) (same := false) rfl (hb hby d12_17) rfl (decide_eq_false fun q => nkN (Value.ref.inj q)) (by decide) (by decide) k) ?_
  show Go p.tables e below P T4 (mkF m 35 #[.val (.ref oa), .val .null] [])
  refine Go.via (fun t k => XS.iconst X4.here hx rfl (hb hby d12_35) k) ?_
  show Go p.tables e below P T4 (mkF m 36 #[.val (.ref oa), .val .null] [(.int (0 : Int32))])
  obtain ⟨fs, hr, hrun, hended, hW, hsame⟩ := X4.leave (v := some (.int (0 : Int32))) (fun h => by rw [Bd.returns] at h; cases h)
  refine ⟨_, _, retZ X4 hx (t := .boolean) Bd.returns (by simp) (hb hby d12_36) rfl hr, hrun, hended, hP _ _ ⟨_, _, rfl, ?_, ⟨_, rfl⟩, hW, hsame.mono (by decide) (by decide)⟩⟩
  show Q12dn Z oa aNAME aSYMBOL kd h0 n0 _ T4.heap _
  rw [e4]
  exact ⟨rfl, N0, rfl⟩
theorem ef_12dr (m : MethodId) (x0 : Addr) (x1 : Addr) : entryFrame m #[(.ref x0), (.ref x1)] 2 = mkF m 0 #[.val (.ref x0), .val (.ref x1)] [] := by first | (simp [entryFrame, mkF, argsToLocals, Value.category]; done) | rfl
def Q12dr (Z : State) (oa : Addr) (aNAME : Addr) (aSYMBOL : Addr) (kd : Addr) (sq : Addr) (h0 : Heap) (n0 : Nat) (v : Option Value) (h : Heap) (L : List Loc) : Prop := v = some (.int (0 : Int32)) ∧ Fr n0 L ∧ h = h0
set_option maxRecDepth 65536 in
set_option maxHeartbeats 40000000 in
theorem rm12dr (l : Launch) (Z : State) (a0 : Array Value) (hw : ∀ d ∈ tables_1, d.before a0 Z = true) (ws : List Jvm.Cond) (oa : Addr) (aNAME : Addr) (aSYMBOL : Addr) (kd : Addr) (sq : Addr) (h0 : Heap) (n0 : Nat) (Z0 : n0 ≤ h0.size) (O0 : Old Z n0 h0) (P1 : Sta Z Z.heap "com/example/numeric_planner/numericplanner/rddl/Token$Kind" "NAME" "Lcom/example/numeric_planner/numericplanner/rddl/Token$Kind;" (.ref aNAME)) (P2 : Sta Z Z.heap "com/example/numeric_planner/numericplanner/rddl/Token$Kind" "SYMBOL" "Lcom/example/numeric_planner/numericplanner/rddl/Token$Kind;" (.ref aSYMBOL)) (P3 : Fld Z h0 oa "com/example/numeric_planner/numericplanner/rddl/Token" "kind" "Lcom/example/numeric_planner/numericplanner/rddl/Token$Kind;" (.ref kd)) (nkS : kd ≠ aSYMBOL) (nkN : kd ≠ aNAME) :
    MetFree l (⟨"com/example/numeric_planner/numericplanner/rddl/Token", "is", "(Ljava/lang/String;)Z"⟩ : MethodName) (head1 (Jvm.Cond.code (⟨"com/example/numeric_planner/numericplanner/rddl/Token", "is", "(Ljava/lang/String;)Z"⟩ : MethodName) prog_90_method_2_code 2 (some .boolean) :: ws) ({ frames := 0, cells := 0, slots := 0, locals := 0 } : Room)) (fun a U => a = #[(.ref oa), (.ref sq)] ∧ Z.Warmed39 U.vm ∧ U.heap = h0) (fun _ _ _ _ _ => True) (fun _ U o U' => ∃ v L, o = .returned v ∧ Q12dr Z oa aNAME aSYMBOL kd sq h0 n0 v U'.heap L ∧ FrameEnd U o U' L ({ frames := 0, cells := 0, slots := 0, locals := 0 } : Room).cells ({ frames := 0, cells := 0, slots := 0, locals := 0 } : Room).slots) := by
  refine MetFree.of_bodySF (plainFor_of_name own_pn5) hisR ?_
  intro p e s m args below meth c s₁ Bd hml0 hP hK
  obtain ⟨rfl, hZ, hh⟩ := hP
  have hx := Bd.exec
  have hby := Bd.bytes
  have hml : c.maxLocals = 2 := hml0
  have hown : s.vm.findClass "com/example/numeric_planner/numericplanner/rddl/Token" = some m.cls := findClass_of_methodNamed Bd.named
  have hnm := (name_of_methodNamed Bd.named Bd.method).1
  have X0 : Stand p l e ({ frames := 0, cells := 0, slots := 0, locals := 0 } : Room) s m #[(.ref oa), (.ref sq)] below meth c s₁ [] 0 0 := Stand.of_body Bd
  have e0 : s₁.heap = h0 := by rw [← hh, Bd.state]; rfl
  have N0 := Fr.nil n0
  have K0 : Keep h0 h0 [] := Keep.refl _ _
  suffices GO : ∀ P : Outcome → State → Prop, (∀ o U', (∃ v L, o = .returned v ∧ Q12dr Z oa aNAME aSYMBOL kd sq h0 n0 v U'.heap L ∧ FrameEnd s o U' L ({ frames := 0, cells := 0, slots := 0, locals := 0 } : Room).cells ({ frames := 0, cells := 0, slots := 0, locals := 0 } : Room).slots) → P o U') → Go p.tables e below P s₁ (mkF m 0 #[.val (.ref oa), .val (.ref sq)] []) by
    obtain ⟨s2, o, st, r⟩ := GO _ (fun _ _ q => q)
    exact ⟨s2, o, castTop (ef_12dr m oa sq) st, r⟩
  clear hh
  intro P hP
  show Go p.tables e below P s₁ (mkF m 0 #[.val (.ref oa), .val (.ref sq)] [])
  refine Go.via (fun t k => XS.aloadN X0.here hx rfl (hb hby d12_0) rfl rfl k) ?_
  show Go p.tables e below P s₁ (mkF m 1 #[.val (.ref oa), .val (.ref sq)] [(.ref oa)])
  obtain ⟨T1, X1, e1, st1⟩ := getF X0 hx hZ hown (host := "") (Or.inl (hw _ (List.mem_of_getElem? (i := 68) rfl))) Via.refl e0 P3 (g := (mkF m 1 #[.val (.ref oa), .val (.ref sq)] [(.ref oa)])) rfl rfl (hb hby d12_1)
  refine Go.via st1 ?_
  show Go p.tables e below P T1 (mkF m 4 #[.val (.ref oa), .val (.ref sq)] [(.ref kd)])
  obtain ⟨T2, X2, e2, st2⟩ := getS2 X1 hx hZ hown (host := "") (Or.inl (hw _ (List.mem_of_getElem? (i := 79) rfl))) Via.refl e1 (P2.ext O0.2) (g := (mkF m 4 #[.val (.ref oa), .val (.ref sq)] [(.ref kd)])) rfl (hb hby d12_4)
  refine Go.via st2 ?_
  show Go p.tables e below P T2 (mkF m 7 #[.val (.ref oa), .val (.ref sq)] [(.ref aSYMBOL), (.ref kd)])
  refine Go.via (fun t k => Jvm.RoadKit.acmp (g := (mkF m 7 #[.val (.ref oa), .val (.ref sq)] [(.ref aSYMBOL), (.ref kd)])) X2 hx rfl rfl rfl (pc0 := 7) (pc' := 10) (same := false) rfl (hb hby d12_7) rfl (decide_eq_false fun q => nkS (Value.ref.inj q)) (by decide) (by decide) k) ?_
  show Go p.tables e below P T2 (mkF m 10 #[.val (.ref oa), .val (.ref sq)] [])
  refine Go.via (fun t k => XS.aloadN X2.here hx rfl (hb hby d12_10) rfl rfl k) ?_
  show Go p.tables e below P T2 (mkF m 11 #[.val (.ref oa), .val (.ref sq)] [(.ref oa)])
  obtain ⟨T3, X3, e3, st3⟩ := getF X2 hx hZ hown (host := "") (Or.inl (hw _ (List.mem_of_getElem? (i := 68) rfl))) Via.refl e2 P3 (g := (mkF m 11 #[.val (.ref oa), .val (.ref sq)] [(.ref oa)])) rfl rfl (hb hby d12_11)
  refine Go.via st3 ?_
  show Go p.tables e below P T3 (mkF m 14 #[.val (.ref oa), .val (.ref sq)] [(.ref kd)])
  obtain ⟨T4, X4, e4, st4⟩ := getS2 X3 hx hZ hown (host := "") (Or.inl (hw _ (List.mem_of_getElem? (i := 81) rfl))) Via.refl e3 (P1.ext O0.2) (g := (mkF m 14 #[.val (.ref oa), .val (.ref sq)] [(.ref kd)])) rfl (hb hby d12_14)
  refine Go.via st4 ?_
  show Go p.tables e below P T4 (mkF m 17 #[.val (.ref oa), .val (.ref sq)] [(.ref aNAME), (.ref kd)])
  refine Go.via (fun t k => Jvm.RoadKit.acmp (g := (mkF m 17 #[.val (.ref oa), .val (.ref sq)] [(.ref aNAME), (.ref kd)])) X4 hx rfl rfl rfl (pc0 := 17) (pc' := 35) (same := false) rfl (hb hby d12_17) rfl (decide_eq_false fun q => nkN (Value.ref.inj q)) (by decide) (by decide) k) ?_
  show Go p.tables e below P T4 (mkF m 35 #[.val (.ref oa), .val (.ref sq)] [])
  refine Go.via (fun t k => XS.iconst X4.here hx rfl (hb hby d12_35) k) ?_
  show Go p.tables e below P T4 (mkF m 36 #[.val (.ref oa), .val (.ref sq)] [(.int (0 : Int32))])
  obtain ⟨fs, hr, hrun, hended, hW, hsame⟩ := X4.leave (v := some (.int (0 : Int32))) (fun h => by rw [Bd.returns] at h; cases h)
  refine ⟨_, _, retZ X4 hx (t := .boolean) Bd.returns (by simp) (hb hby d12_36) rfl hr, hrun, hended, hP _ _ ⟨_, _, rfl, ?_, ⟨_, rfl⟩, hW, hsame.mono (by decide) (by decide)⟩⟩
  show Q12dr Z oa aNAME aSYMBOL kd sq h0 n0 _ T4.heap _
  rw [e4]
  exact ⟨rfl, N0, rfl⟩
theorem own_pd5 : parseMethodDescriptor "(I)Lcom/example/numeric_planner/numericplanner/rddl/Token$Kind;" = some ⟨[.int], some (.object "com/example/numeric_planner/numericplanner/rddl/Token$Kind")⟩ := by decide +kernel
theorem own_pd6 : parseMethodDescriptor "(ICCC)Ljava/lang/String;" = some ⟨[.int, .char, .char, .char], some (.object "java/lang/String")⟩ := by decide +kernel
theorem own_pd7 : parseMethodDescriptor "(Ljava/lang/String;I)V" = some ⟨[(.object "java/lang/String"), .int], none⟩ := by decide +kernel
theorem own_pd8 : parseMethodDescriptor "(Lcom/example/numeric_planner/numericplanner/rddl/Token$Kind;Ljava/lang/String;Lcom/example/numeric_planner/numericplanner/rddl/Location;)V" = some ⟨[(.object "com/example/numeric_planner/numericplanner/rddl/Token$Kind"), (.object "java/lang/String"), (.object "com/example/numeric_planner/numericplanner/rddl/Location")], none⟩ := by decide +kernel
theorem own_pd9 : parseMethodDescriptor "(Ljava/lang/String;)Z" = some ⟨[(.object "java/lang/String")], some .boolean⟩ := by decide +kernel
theorem ef_0 (m : MethodId) (x0 : Int32) (x1 : Int32) (x2 : Int32) (x3 : Int32) : entryFrame m #[(.int x0), (.int x1), (.int x2), (.int x3)] maxLocals = mkF m 0 #[.val (.int x0), .val (.int x1), .val (.int x2), .val (.int x3), .unset, .unset, .unset, .unset, .unset, .unset, .unset, .unset, .unset, .unset, .unset, .unset, .unset, .unset, .unset, .unset, .unset] [] := by first | (simp [entryFrame, mkF, argsToLocals, Value.category, maxLocals]; done) | rfl
def Q0 (Z : State) (p1 : Int32) (p2 : Int32) (p3 : Int32) (p4 : Int32) (cs : Int32) (aNAME : Addr) (aPRIMED_NAME : Addr) (aNUMBER : Addr) (aSYMBOL : Addr) (aINVALID : Addr) (aEND : Addr) (h0 : Heap) (n0 : Nat) (v : Option Value) (h : Heap) (L : List Loc) : Prop := v = some (.int (1 : Int32)) ∧ Fr n0 L
set_option maxRecDepth 65536 in
set_option maxHeartbeats 40000000 in
theorem rm0 (l : Launch) (Z : State) (a0 : Array Value) (hw : ∀ d ∈ tables_1, d.before a0 Z = true) (ws : List Jvm.Cond) (p1 : Int32) (p2 : Int32) (p3 : Int32) (p4 : Int32) (cs : Int32) (aNAME : Addr) (aPRIMED_NAME : Addr) (aNUMBER : Addr) (aSYMBOL : Addr) (aINVALID : Addr) (aEND : Addr) (h0 : Heap) (n0 : Nat) (Z0 : n0 ≤ h0.size) (O0 : Old Z n0 h0) (P1 : Sta Z Z.heap "java/lang/String" "COMPACT_STRINGS" "Z" (.int cs)) (hcs : ¬ cs = (0 : Int32)) (P3 : Sta Z Z.heap "com/example/numeric_planner/numericplanner/rddl/Token$Kind" "NAME" "Lcom/example/numeric_planner/numericplanner/rddl/Token$Kind;" (.ref aNAME)) (P4 : Sta Z Z.heap "com/example/numeric_planner/numericplanner/rddl/Token$Kind" "PRIMED_NAME" "Lcom/example/numeric_planner/numericplanner/rddl/Token$Kind;" (.ref aPRIMED_NAME)) (P5 : Sta Z Z.heap "com/example/numeric_planner/numericplanner/rddl/Token$Kind" "NUMBER" "Lcom/example/numeric_planner/numericplanner/rddl/Token$Kind;" (.ref aNUMBER)) (P6 : Sta Z Z.heap "com/example/numeric_planner/numericplanner/rddl/Token$Kind" "SYMBOL" "Lcom/example/numeric_planner/numericplanner/rddl/Token$Kind;" (.ref aSYMBOL)) (P7 : Sta Z Z.heap "com/example/numeric_planner/numericplanner/rddl/Token$Kind" "INVALID" "Lcom/example/numeric_planner/numericplanner/rddl/Token$Kind;" (.ref aINVALID)) (P8 : Sta Z Z.heap "com/example/numeric_planner/numericplanner/rddl/Token$Kind" "END" "Lcom/example/numeric_planner/numericplanner/rddl/Token$Kind;" (.ref aEND)) (nNPRIMED_NAME : aPRIMED_NAME ≠ aNAME) (nNNUMBER : aNUMBER ≠ aNAME) (nNINVALID : aINVALID ≠ aNAME) (nNEND : aEND ≠ aNAME) (nSPRIMED_NAME : aPRIMED_NAME ≠ aSYMBOL) (nSNUMBER : aNUMBER ≠ aSYMBOL) (nSINVALID : aINVALID ≠ aSYMBOL) (nSEND : aEND ≠ aSYMBOL) (nNS : aNAME ≠ aSYMBOL) :
    MetFree l x (head1 (Jvm.Cond.code x code maxLocals ret :: ws) room_1) (fun a U => a = #[(.int p1), (.int p2), (.int p3), (.int p4)] ∧ Z.Warmed39 U.vm ∧ U.heap = h0 ∧ CHv Z consts_1 U.vm h0) (fun _ _ _ _ _ => True) (fun _ U o U' => ∃ v L, o = .returned v ∧ Q0 Z p1 p2 p3 p4 cs aNAME aPRIMED_NAME aNUMBER aSYMBOL aINVALID aEND h0 n0 v U'.heap L ∧ CHr Z consts_1 U.vm U.heap U'.vm U'.heap ∧ ReturnedEndW U o U' L room_1.cells room_1.slots) := by
  refine MetFree.of_bodySF (plainFor_of_name own_pn1) hisR ?_
  intro p e s m args below meth c s₁ Bd hml0 hP hK
  obtain ⟨rfl, hZ, hh, hCH0⟩ := hP
  have hx := Bd.exec
  have hby := Bd.bytes
  have hml : c.maxLocals = 21 := hml0
  have hown : s.vm.findClass "com/example/numeric_planner/numericplanner/rddl/TokenIsPinLaw" = some m.cls := findClass_of_methodNamed Bd.named
  have hnm := (name_of_methodNamed Bd.named Bd.method).1
  have X0 : Stand p l e room_1 s m #[(.int p1), (.int p2), (.int p3), (.int p4)] below meth c s₁ [] 0 0 := Stand.of_body Bd
  have X0 : Stand p l e room_1 (s.setVm s.vm) m #[(.int p1), (.int p2), (.int p3), (.int p4)] below meth c s₁ [] 0 0 := X0
  have hZ : Z.Warmed39 (s.setVm s.vm).vm := hZ
  have hown : (s.setVm s.vm).vm.findClass "com/example/numeric_planner/numericplanner/rddl/TokenIsPinLaw" = some m.cls := hown
  have hS0 : s.Since s.vm 0 := State.WarmedH.since (State.WarmedH.refl s) 0
  have CR0 : CHr Z consts_1 s.vm h0 s.vm h0 := CHr.refl hCH0
  have e0 : s₁.heap = h0 := by rw [← hh, Bd.state]; rfl
  have N0 := Fr.nil n0
  have K0 : Keep h0 h0 [] := Keep.refl _ _
  suffices GO : ∀ P : Outcome → State → Prop, (∀ o U', (∃ v L, o = .returned v ∧ Q0 Z p1 p2 p3 p4 cs aNAME aPRIMED_NAME aNUMBER aSYMBOL aINVALID aEND h0 n0 v U'.heap L ∧ CHr Z consts_1 s.vm s.heap U'.vm U'.heap ∧ ReturnedEndW s o U' L room_1.cells room_1.slots) → P o U') → Go p.tables e below P s₁ (mkF m 0 #[.val (.int p1), .val (.int p2), .val (.int p3), .val (.int p4), .unset, .unset, .unset, .unset, .unset, .unset, .unset, .unset, .unset, .unset, .unset, .unset, .unset, .unset, .unset, .unset, .unset] []) by
    obtain ⟨s2, o, st, r⟩ := GO _ (fun _ _ q => q)
    exact ⟨s2, o, castTop (ef_0 m p1 p2 p3 p4) st, r⟩
  intro P hP
  show Go p.tables e below P s₁ (mkF m 0 #[.val (.int p1), .val (.int p2), .val (.int p3), .val (.int p4), .unset, .unset, .unset, .unset, .unset, .unset, .unset, .unset, .unset, .unset, .unset, .unset, .unset, .unset, .unset, .unset, .unset] [])
  refine Go.via (fun t k => XS.iloadN X0.here hx rfl (hb hby at_0) rfl k) ?_
  show Go p.tables e below P s₁ (mkF m 1 #[.val (.int p1), .val (.int p2), .val (.int p3), .val (.int p4), .unset, .unset, .unset, .unset, .unset, .unset, .unset, .unset, .unset, .unset, .unset, .unset, .unset, .unset, .unset, .unset, .unset] [(.int p1)])
  refine Go.via (fun t k => X0.ldcInt hx hown (mvT hZ (hw _ (List.mem_of_getElem? (i := 0) rfl))) (g := (mkF m 1 #[.val (.int p1), .val (.int p2), .val (.int p3), .val (.int p4), .unset, .unset, .unset, .unset, .unset, .unset, .unset, .unset, .unset, .unset, .unset, .unset, .unset, .unset, .unset, .unset, .unset] [(.int p1)])) rfl (hb hby at_1) t k) ?_
  show Go p.tables e below P s₁ (mkF m 3 #[.val (.int p1), .val (.int p2), .val (.int p3), .val (.int p4), .unset, .unset, .unset, .unset, .unset, .unset, .unset, .unset, .unset, .unset, .unset, .unset, .unset, .unset, .unset, .unset, .unset] [(.int (2147483647 : Int32)), (.int p1)])
  refine Go.via (fun t k => XS.iand X0.here hx rfl (hb hby at_3) rfl k) ?_
  refine Go.via (fun t k => XS.bipush X0.here hx rfl (hb hby at_4) k) ?_
  show Go p.tables e below P s₁ (mkF m 6 #[.val (.int p1), .val (.int p2), .val (.int p3), .val (.int p4), .unset, .unset, .unset, .unset, .unset, .unset, .unset, .unset, .unset, .unset, .unset, .unset, .unset, .unset, .unset, .unset, .unset] [(.int (6 : Int32)), (.int (p1 &&& (2147483647 : Int32)))])
  refine Go.via (fun t k => iremM X0 hx rfl (hb hby at_6) rfl (by decide) k) ?_
  show Go p.tables e below P s₁ (mkF m 7 #[.val (.int p1), .val (.int p2), .val (.int p3), .val (.int p4), .unset, .unset, .unset, .unset, .unset, .unset, .unset, .unset, .unset, .unset, .unset, .unset, .unset, .unset, .unset, .unset, .unset] [(.int ((p1 &&& (2147483647 : Int32)) % (6 : Int32)))])
  refine Go.via (fun t k => XS.istore X0.here hx rfl (hb hby at_7) rfl (l' := #[.val (.int p1), .val (.int p2), .val (.int p3), .val (.int p4), .val (.int ((p1 &&& (2147483647 : Int32)) % (6 : Int32))), .unset, .unset, .unset, .unset, .unset, .unset, .unset, .unset, .unset, .unset, .unset, .unset, .unset, .unset, .unset, .unset]) rfl k) ?_
  show Go p.tables e below P s₁ (mkF m 9 #[.val (.int p1), .val (.int p2), .val (.int p3), .val (.int p4), .val (.int ((p1 &&& (2147483647 : Int32)) % (6 : Int32))), .unset, .unset, .unset, .unset, .unset, .unset, .unset, .unset, .unset, .unset, .unset, .unset, .unset, .unset, .unset, .unset] [])
  obtain ⟨kn, hkn⟩ : ∃ z, z = ((p1 &&& (2147483647 : Int32)) % (6 : Int32)) := ⟨_, rfl⟩
  rw [← hkn]
  refine Go.via (fun t k => XS.iload X0.here hx rfl (hb hby at_9) rfl k) ?_
  show Go p.tables e below P s₁ (mkF m 11 #[.val (.int p1), .val (.int p2), .val (.int p3), .val (.int p4), .val (.int kn), .unset, .unset, .unset, .unset, .unset, .unset, .unset, .unset, .unset, .unset, .unset, .unset, .unset, .unset, .unset, .unset] [(.int kn)])
  obtain ⟨_, _, ⟨T1, L1, k1, n1⟩, -, X1, ⟨Lc1, hQ1, l1, y1, z1⟩, st1⟩ := Jvm.LawKit.callS X0 hx (y := (⟨"com/example/numeric_planner/numericplanner/rddl/TokenIsPinLaw", "kindOf", "(I)Lcom/example/numeric_planner/numericplanner/rddl/Token$Kind;"⟩ : MethodName)) hown (mvT hZ (hw _ (List.mem_of_getElem? (i := 1) rfl))) (mvT hZ (hw _ (List.mem_of_getElem? (i := 2) rfl))) (mvT hZ (hw _ (List.mem_of_getElem? (i := 3) rfl))) (mvT hZ (hw _ (List.mem_of_getElem? (i := 4) rfl))) (by decide) (backOf (W := 0) (rm1 l Z a0 hw [] kn aNAME aPRIMED_NAME aNUMBER aSYMBOL aINVALID aEND h0 n0 Z0 O0 P3 P4 P5 P6 P7 P8 nNPRIMED_NAME nNNUMBER nNINVALID nNEND nSPRIMED_NAME nSNUMBER nSINVALID nSEND) hZ (hw _ (List.mem_of_getElem? (i := 4) rfl)) (hw _ (List.mem_of_getElem? (i := 3) rfl)) (by decide) (by decide)) (g := (mkF m 11 #[.val (.int p1), .val (.int p2), .val (.int p3), .val (.int p4), .val (.int kn), .unset, .unset, .unset, .unset, .unset, .unset, .unset, .unset, .unset, .unset, .unset, .unset, .unset, .unset, .unset, .unset] [(.int kn)])) rfl (by rw [hml]; rfl) (argsL := [(.int kn)]) (rest := []) (lenOf own_pd5 rfl) rfl (by show 2 * 0 + _ ≤ _; exact Nat.le_of_eq rfl) (hb hby at_11) (fun _ _ => ⟨rfl, e0, (by decide : 0 + 0 ≤ _), (by decide : 0 + 0 ≤ _)⟩)
  dsimp only [Pt.U, Pt.locs, Pt.cells, Pt.slots] at X1 l1 y1 z1 st1 hQ1
  subst l1 y1 z1
  obtain ⟨r_1, rfl, Nq1, hh1, u1_0⟩ := hQ1
  obtain ⟨lc1, Xh1, N1⟩ := own_hide X1 (Fr.app N0 Nq1)
  clear X1
  refine Go.via st1 ?_
  show Go p.tables e below P T1 (mkF m 14 #[.val (.int p1), .val (.int p2), .val (.int p3), .val (.int p4), .val (.int kn), .unset, .unset, .unset, .unset, .unset, .unset, .unset, .unset, .unset, .unset, .unset, .unset, .unset, .unset, .unset, .unset] [(.ref r_1)])
  rcases u1_0 with ⟨c0, q0⟩ | ⟨c1, q1⟩ | ⟨c2, c3, c4, c5⟩
  · rw [c0, q0]
    show Go p.tables e below P T1 (mkF m 14 #[.val (.int p1), .val (.int p2), .val (.int p3), .val (.int p4), .val (.int (0 : Int32)), .unset, .unset, .unset, .unset, .unset, .unset, .unset, .unset, .unset, .unset, .unset, .unset, .unset, .unset, .unset, .unset] [(.ref aNAME)])
    refine Go.via (fun t k => XS.astore Xh1.here hx rfl (hb hby at_14) rfl rfl (l' := #[.val (.int p1), .val (.int p2), .val (.int p3), .val (.int p4), .val (.int (0 : Int32)), .val (.ref aNAME), .unset, .unset, .unset, .unset, .unset, .unset, .unset, .unset, .unset, .unset, .unset, .unset, .unset, .unset, .unset]) rfl k) ?_
    refine Go.via (fun t k => XS.iloadN Xh1.here hx rfl (hb hby at_16) rfl k) ?_
    refine Go.via (fun t k => XS.iconst Xh1.here hx rfl (hb hby at_17) k) ?_
    show Go p.tables e below P T1 (mkF m 18 #[.val (.int p1), .val (.int p2), .val (.int p3), .val (.int p4), .val (.int (0 : Int32)), .val (.ref aNAME), .unset, .unset, .unset, .unset, .unset, .unset, .unset, .unset, .unset, .unset, .unset, .unset, .unset, .unset, .unset] [(.int (3 : Int32)), (.int p4)])
    refine Go.via (fun t k => XS.iand Xh1.here hx rfl (hb hby at_18) rfl k) ?_
    refine Go.via (fun t k => XS.istore Xh1.here hx rfl (hb hby at_19) rfl (l' := #[.val (.int p1), .val (.int p2), .val (.int p3), .val (.int p4), .val (.int (0 : Int32)), .val (.ref aNAME), .val (.int (p4 &&& (3 : Int32))), .unset, .unset, .unset, .unset, .unset, .unset, .unset, .unset, .unset, .unset, .unset, .unset, .unset, .unset]) rfl k) ?_
    refine Go.via (fun t k => XS.iloadN Xh1.here hx rfl (hb hby at_21) rfl k) ?_
    show Go p.tables e below P T1 (mkF m 22 #[.val (.int p1), .val (.int p2), .val (.int p3), .val (.int p4), .val (.int (0 : Int32)), .val (.ref aNAME), .val (.int (p4 &&& (3 : Int32))), .unset, .unset, .unset, .unset, .unset, .unset, .unset, .unset, .unset, .unset, .unset, .unset, .unset, .unset] [(.int p4)])
    refine Go.via (fun t k => XS.iconst Xh1.here hx rfl (hb hby at_22) k) ?_
    refine Go.via (fun t k => XS.iushr Xh1.here hx rfl (hb hby at_23) rfl k) ?_
    refine Go.via (fun t k => XS.iconst Xh1.here hx rfl (hb hby at_24) k) ?_
    show Go p.tables e below P T1 (mkF m 25 #[.val (.int p1), .val (.int p2), .val (.int p3), .val (.int p4), .val (.int (0 : Int32)), .val (.ref aNAME), .val (.int (p4 &&& (3 : Int32))), .unset, .unset, .unset, .unset, .unset, .unset, .unset, .unset, .unset, .unset, .unset, .unset, .unset, .unset] [(.int (1 : Int32)), (.int ((p4.toUInt32 >>> ((2 : Int32) &&& 31).toUInt32).toInt32))])
    refine Go.via (fun t k => XS.iand Xh1.here hx rfl (hb hby at_25) rfl k) ?_
    show Go p.tables e below P T1 (mkF m 26 #[.val (.int p1), .val (.int p2), .val (.int p3), .val (.int p4), .val (.int (0 : Int32)), .val (.ref aNAME), .val (.int (p4 &&& (3 : Int32))), .unset, .unset, .unset, .unset, .unset, .unset, .unset, .unset, .unset, .unset, .unset, .unset, .unset, .unset] [(.int (((p4.toUInt32 >>> ((2 : Int32) &&& 31).toUInt32).toInt32) &&& (1 : Int32)))])
    have J3 : ∀ (T3 : State) (locs3 : List Loc) (v3_0 : Int32), Stand p l e room_1 (s.setVm s.vm) m #[(.int p1), (.int p2), (.int p3), (.int p4)] below meth c T3 locs3 0 0 → T3.heap = h0 → Fr n0 locs3 → v3_0 = (if (((p4.toUInt32 >>> ((2 : Int32) &&& 31).toUInt32).toInt32) &&& (1 : Int32)) = (0 : Int32) then (0 : Int32) else (1 : Int32)) → Go p.tables e below P T3 (mkF m 34 #[.val (.int p1), .val (.int p2), .val (.int p3), .val (.int p4), .val (.int (0 : Int32)), .val (.ref aNAME), .val (.int (p4 &&& (3 : Int32))), .unset, .unset, .unset, .unset, .unset, .unset, .unset, .unset, .unset, .unset, .unset, .unset, .unset, .unset] [(.int v3_0)]) := by
      intro T3 locs3 v3_0 X3 e3 N3 hv3_0
      have hbv3_0 : v3_0 = 0 ∨ v3_0 = 1 := by (subst hv3_0; (repeat' split) <;> first | (left; rfl) | (right; rfl))
      show Go p.tables e below P T3 (mkF m 34 #[.val (.int p1), .val (.int p2), .val (.int p3), .val (.int p4), .val (.int (0 : Int32)), .val (.ref aNAME), .val (.int (p4 &&& (3 : Int32))), .unset, .unset, .unset, .unset, .unset, .unset, .unset, .unset, .unset, .unset, .unset, .unset, .unset, .unset] [(.int v3_0)])
      refine Go.via (fun t k => XS.istore X3.here hx rfl (hb hby at_34) rfl (l' := #[.val (.int p1), .val (.int p2), .val (.int p3), .val (.int p4), .val (.int (0 : Int32)), .val (.ref aNAME), .val (.int (p4 &&& (3 : Int32))), .val (.int v3_0), .unset, .unset, .unset, .unset, .unset, .unset, .unset, .unset, .unset, .unset, .unset, .unset, .unset]) rfl k) ?_
      refine Go.via (fun t k => XS.iloadN X3.here hx rfl (hb hby at_36) rfl k) ?_
      refine Go.via (fun t k => XS.iconst X3.here hx rfl (hb hby at_37) k) ?_
      show Go p.tables e below P T3 (mkF m 38 #[.val (.int p1), .val (.int p2), .val (.int p3), .val (.int p4), .val (.int (0 : Int32)), .val (.ref aNAME), .val (.int (p4 &&& (3 : Int32))), .val (.int v3_0), .unset, .unset, .unset, .unset, .unset, .unset, .unset, .unset, .unset, .unset, .unset, .unset, .unset] [(.int (3 : Int32)), (.int p4)])
      refine Go.via (fun t k => XS.iushr X3.here hx rfl (hb hby at_38) rfl k) ?_
      refine Go.via (fun t k => XS.iconst X3.here hx rfl (hb hby at_39) k) ?_
      refine Go.via (fun t k => XS.iand X3.here hx rfl (hb hby at_40) rfl k) ?_
      show Go p.tables e below P T3 (mkF m 41 #[.val (.int p1), .val (.int p2), .val (.int p3), .val (.int p4), .val (.int (0 : Int32)), .val (.ref aNAME), .val (.int (p4 &&& (3 : Int32))), .val (.int v3_0), .unset, .unset, .unset, .unset, .unset, .unset, .unset, .unset, .unset, .unset, .unset, .unset, .unset] [(.int (((p4.toUInt32 >>> ((3 : Int32) &&& 31).toUInt32).toInt32) &&& (3 : Int32)))])
      refine Go.via (fun t k => XS.istore X3.here hx rfl (hb hby at_41) rfl (l' := #[.val (.int p1), .val (.int p2), .val (.int p3), .val (.int p4), .val (.int (0 : Int32)), .val (.ref aNAME), .val (.int (p4 &&& (3 : Int32))), .val (.int v3_0), .val (.int (((p4.toUInt32 >>> ((3 : Int32) &&& 31).toUInt32).toInt32) &&& (3 : Int32))), .unset, .unset, .unset, .unset, .unset, .unset, .unset, .unset, .unset, .unset, .unset, .unset]) rfl k) ?_
      refine Go.via (fun t k => XS.iloadN X3.here hx rfl (hb hby at_43) rfl k) ?_
      refine Go.via (fun t k => XS.iconst X3.here hx rfl (hb hby at_44) k) ?_
      show Go p.tables e below P T3 (mkF m 45 #[.val (.int p1), .val (.int p2), .val (.int p3), .val (.int p4), .val (.int (0 : Int32)), .val (.ref aNAME), .val (.int (p4 &&& (3 : Int32))), .val (.int v3_0), .val (.int (((p4.toUInt32 >>> ((3 : Int32) &&& 31).toUInt32).toInt32) &&& (3 : Int32))), .unset, .unset, .unset, .unset, .unset, .unset, .unset, .unset, .unset, .unset, .unset, .unset] [(.int (5 : Int32)), (.int p4)])
      refine Go.via (fun t k => XS.iushr X3.here hx rfl (hb hby at_45) rfl k) ?_
      refine Go.via (fun t k => XS.iconst X3.here hx rfl (hb hby at_46) k) ?_
      refine Go.via (fun t k => XS.iand X3.here hx rfl (hb hby at_47) rfl k) ?_
      show Go p.tables e below P T3 (mkF m 48 #[.val (.int p1), .val (.int p2), .val (.int p3), .val (.int p4), .val (.int (0 : Int32)), .val (.ref aNAME), .val (.int (p4 &&& (3 : Int32))), .val (.int v3_0), .val (.int (((p4.toUInt32 >>> ((3 : Int32) &&& 31).toUInt32).toInt32) &&& (3 : Int32))), .unset, .unset, .unset, .unset, .unset, .unset, .unset, .unset, .unset, .unset, .unset, .unset] [(.int (((p4.toUInt32 >>> ((5 : Int32) &&& 31).toUInt32).toInt32) &&& (3 : Int32)))])
      refine Go.via (fun t k => XS.iconst X3.here hx rfl (hb hby at_48) k) ?_
      show Go p.tables e below P T3 (mkF m 49 #[.val (.int p1), .val (.int p2), .val (.int p3), .val (.int p4), .val (.int (0 : Int32)), .val (.ref aNAME), .val (.int (p4 &&& (3 : Int32))), .val (.int v3_0), .val (.int (((p4.toUInt32 >>> ((3 : Int32) &&& 31).toUInt32).toInt32) &&& (3 : Int32))), .unset, .unset, .unset, .unset, .unset, .unset, .unset, .unset, .unset, .unset, .unset, .unset] [(.int (3 : Int32)), (.int (((p4.toUInt32 >>> ((5 : Int32) &&& 31).toUInt32).toInt32) &&& (3 : Int32)))])
      have J5 : ∀ (T5 : State) (locs5 : List Loc) (v5_0 : Int32), Stand p l e room_1 (s.setVm s.vm) m #[(.int p1), (.int p2), (.int p3), (.int p4)] below meth c T5 locs5 0 0 → T5.heap = h0 → Fr n0 locs5 → v5_0 = (if (((p4.toUInt32 >>> ((5 : Int32) &&& 31).toUInt32).toInt32) &&& (3 : Int32)) = (3 : Int32) then (1 : Int32) else (0 : Int32)) → Go p.tables e below P T5 (mkF m 57 #[.val (.int p1), .val (.int p2), .val (.int p3), .val (.int p4), .val (.int (0 : Int32)), .val (.ref aNAME), .val (.int (p4 &&& (3 : Int32))), .val (.int v3_0), .val (.int (((p4.toUInt32 >>> ((3 : Int32) &&& 31).toUInt32).toInt32) &&& (3 : Int32))), .unset, .unset, .unset, .unset, .unset, .unset, .unset, .unset, .unset, .unset, .unset, .unset] [(.int v5_0)]) := by
        intro T5 locs5 v5_0 X5 e5 N5 hv5_0
        have hbv5_0 : v5_0 = 0 ∨ v5_0 = 1 := by (subst hv5_0; (repeat' split) <;> first | (left; rfl) | (right; rfl))
        show Go p.tables e below P T5 (mkF m 57 #[.val (.int p1), .val (.int p2), .val (.int p3), .val (.int p4), .val (.int (0 : Int32)), .val (.ref aNAME), .val (.int (p4 &&& (3 : Int32))), .val (.int v3_0), .val (.int (((p4.toUInt32 >>> ((3 : Int32) &&& 31).toUInt32).toInt32) &&& (3 : Int32))), .unset, .unset, .unset, .unset, .unset, .unset, .unset, .unset, .unset, .unset, .unset, .unset] [(.int v5_0)])
        refine Go.via (fun t k => XS.istore X5.here hx rfl (hb hby at_57) rfl (l' := #[.val (.int p1), .val (.int p2), .val (.int p3), .val (.int p4), .val (.int (0 : Int32)), .val (.ref aNAME), .val (.int (p4 &&& (3 : Int32))), .val (.int v3_0), .val (.int (((p4.toUInt32 >>> ((3 : Int32) &&& 31).toUInt32).toInt32) &&& (3 : Int32))), .val (.int v5_0), .unset, .unset, .unset, .unset, .unset, .unset, .unset, .unset, .unset, .unset, .unset]) rfl k) ?_
        refine Go.via (fun t k => XS.iloadN X5.here hx rfl (hb hby at_59) rfl k) ?_
        refine Go.via (fun t k => XS.sipush X5.here hx rfl (hb hby at_60) k) ?_
        show Go p.tables e below P T5 (mkF m 63 #[.val (.int p1), .val (.int p2), .val (.int p3), .val (.int p4), .val (.int (0 : Int32)), .val (.ref aNAME), .val (.int (p4 &&& (3 : Int32))), .val (.int v3_0), .val (.int (((p4.toUInt32 >>> ((3 : Int32) &&& 31).toUInt32).toInt32) &&& (3 : Int32))), .val (.int v5_0), .unset, .unset, .unset, .unset, .unset, .unset, .unset, .unset, .unset, .unset, .unset] [(.int (255 : Int32)), (.int p2)])
        refine Go.via (fun t k => XS.iand X5.here hx rfl (hb hby at_63) rfl k) ?_
        refine Go.via (fun t k => XS.i2c X5.here hx rfl (hb hby at_64) rfl k) ?_
        refine Go.via (fun t k => XS.istore X5.here hx rfl (hb hby at_65) rfl (l' := #[.val (.int p1), .val (.int p2), .val (.int p3), .val (.int p4), .val (.int (0 : Int32)), .val (.ref aNAME), .val (.int (p4 &&& (3 : Int32))), .val (.int v3_0), .val (.int (((p4.toUInt32 >>> ((3 : Int32) &&& 31).toUInt32).toInt32) &&& (3 : Int32))), .val (.int v5_0), .val (.int ((p2 &&& (255 : Int32)).toUInt32.toUInt16.toUInt32.toInt32)), .unset, .unset, .unset, .unset, .unset, .unset, .unset, .unset, .unset, .unset]) rfl k) ?_
        show Go p.tables e below P T5 (mkF m 67 #[.val (.int p1), .val (.int p2), .val (.int p3), .val (.int p4), .val (.int (0 : Int32)), .val (.ref aNAME), .val (.int (p4 &&& (3 : Int32))), .val (.int v3_0), .val (.int (((p4.toUInt32 >>> ((3 : Int32) &&& 31).toUInt32).toInt32) &&& (3 : Int32))), .val (.int v5_0), .val (.int ((p2 &&& (255 : Int32)).toUInt32.toUInt16.toUInt32.toInt32)), .unset, .unset, .unset, .unset, .unset, .unset, .unset, .unset, .unset, .unset] [])
        refine Go.via (fun t k => XS.iloadN X5.here hx rfl (hb hby at_67) rfl k) ?_
        refine Go.via (fun t k => XS.bipush X5.here hx rfl (hb hby at_68) k) ?_
        refine Go.via (fun t k => XS.iushr X5.here hx rfl (hb hby at_70) rfl k) ?_
        show Go p.tables e below P T5 (mkF m 71 #[.val (.int p1), .val (.int p2), .val (.int p3), .val (.int p4), .val (.int (0 : Int32)), .val (.ref aNAME), .val (.int (p4 &&& (3 : Int32))), .val (.int v3_0), .val (.int (((p4.toUInt32 >>> ((3 : Int32) &&& 31).toUInt32).toInt32) &&& (3 : Int32))), .val (.int v5_0), .val (.int ((p2 &&& (255 : Int32)).toUInt32.toUInt16.toUInt32.toInt32)), .unset, .unset, .unset, .unset, .unset, .unset, .unset, .unset, .unset, .unset] [(.int ((p2.toUInt32 >>> ((8 : Int32) &&& 31).toUInt32).toInt32))])
        refine Go.via (fun t k => XS.sipush X5.here hx rfl (hb hby at_71) k) ?_
        refine Go.via (fun t k => XS.iand X5.here hx rfl (hb hby at_74) rfl k) ?_
        refine Go.via (fun t k => XS.i2c X5.here hx rfl (hb hby at_75) rfl k) ?_
        show Go p.tables e below P T5 (mkF m 76 #[.val (.int p1), .val (.int p2), .val (.int p3), .val (.int p4), .val (.int (0 : Int32)), .val (.ref aNAME), .val (.int (p4 &&& (3 : Int32))), .val (.int v3_0), .val (.int (((p4.toUInt32 >>> ((3 : Int32) &&& 31).toUInt32).toInt32) &&& (3 : Int32))), .val (.int v5_0), .val (.int ((p2 &&& (255 : Int32)).toUInt32.toUInt16.toUInt32.toInt32)), .unset, .unset, .unset, .unset, .unset, .unset, .unset, .unset, .unset, .unset] [(.int ((((p2.toUInt32 >>> ((8 : Int32) &&& 31).toUInt32).toInt32) &&& (255 : Int32)).toUInt32.toUInt16.toUInt32.toInt32))])
        refine Go.via (fun t k => XS.istore X5.here hx rfl (hb hby at_76) rfl (l' := #[.val (.int p1), .val (.int p2), .val (.int p3), .val (.int p4), .val (.int (0 : Int32)), .val (.ref aNAME), .val (.int (p4 &&& (3 : Int32))), .val (.int v3_0), .val (.int (((p4.toUInt32 >>> ((3 : Int32) &&& 31).toUInt32).toInt32) &&& (3 : Int32))), .val (.int v5_0), .val (.int ((p2 &&& (255 : Int32)).toUInt32.toUInt16.toUInt32.toInt32)), .val (.int ((((p2.toUInt32 >>> ((8 : Int32) &&& 31).toUInt32).toInt32) &&& (255 : Int32)).toUInt32.toUInt16.toUInt32.toInt32)), .unset, .unset, .unset, .unset, .unset, .unset, .unset, .unset, .unset]) rfl k) ?_
        refine Go.via (fun t k => XS.iloadN X5.here hx rfl (hb hby at_78) rfl k) ?_
        refine Go.via (fun t k => XS.bipush X5.here hx rfl (hb hby at_79) k) ?_
        show Go p.tables e below P T5 (mkF m 81 #[.val (.int p1), .val (.int p2), .val (.int p3), .val (.int p4), .val (.int (0 : Int32)), .val (.ref aNAME), .val (.int (p4 &&& (3 : Int32))), .val (.int v3_0), .val (.int (((p4.toUInt32 >>> ((3 : Int32) &&& 31).toUInt32).toInt32) &&& (3 : Int32))), .val (.int v5_0), .val (.int ((p2 &&& (255 : Int32)).toUInt32.toUInt16.toUInt32.toInt32)), .val (.int ((((p2.toUInt32 >>> ((8 : Int32) &&& 31).toUInt32).toInt32) &&& (255 : Int32)).toUInt32.toUInt16.toUInt32.toInt32)), .unset, .unset, .unset, .unset, .unset, .unset, .unset, .unset, .unset] [(.int (16 : Int32)), (.int p2)])
        refine Go.via (fun t k => XS.iushr X5.here hx rfl (hb hby at_81) rfl k) ?_
        refine Go.via (fun t k => XS.sipush X5.here hx rfl (hb hby at_82) k) ?_
        refine Go.via (fun t k => XS.iand X5.here hx rfl (hb hby at_85) rfl k) ?_
        show Go p.tables e below P T5 (mkF m 86 #[.val (.int p1), .val (.int p2), .val (.int p3), .val (.int p4), .val (.int (0 : Int32)), .val (.ref aNAME), .val (.int (p4 &&& (3 : Int32))), .val (.int v3_0), .val (.int (((p4.toUInt32 >>> ((3 : Int32) &&& 31).toUInt32).toInt32) &&& (3 : Int32))), .val (.int v5_0), .val (.int ((p2 &&& (255 : Int32)).toUInt32.toUInt16.toUInt32.toInt32)), .val (.int ((((p2.toUInt32 >>> ((8 : Int32) &&& 31).toUInt32).toInt32) &&& (255 : Int32)).toUInt32.toUInt16.toUInt32.toInt32)), .unset, .unset, .unset, .unset, .unset, .unset, .unset, .unset, .unset] [(.int (((p2.toUInt32 >>> ((16 : Int32) &&& 31).toUInt32).toInt32) &&& (255 : Int32)))])
        refine Go.via (fun t k => XS.i2c X5.here hx rfl (hb hby at_86) rfl k) ?_
        refine Go.via (fun t k => XS.istore X5.here hx rfl (hb hby at_87) rfl (l' := #[.val (.int p1), .val (.int p2), .val (.int p3), .val (.int p4), .val (.int (0 : Int32)), .val (.ref aNAME), .val (.int (p4 &&& (3 : Int32))), .val (.int v3_0), .val (.int (((p4.toUInt32 >>> ((3 : Int32) &&& 31).toUInt32).toInt32) &&& (3 : Int32))), .val (.int v5_0), .val (.int ((p2 &&& (255 : Int32)).toUInt32.toUInt16.toUInt32.toInt32)), .val (.int ((((p2.toUInt32 >>> ((8 : Int32) &&& 31).toUInt32).toInt32) &&& (255 : Int32)).toUInt32.toUInt16.toUInt32.toInt32)), .val (.int ((((p2.toUInt32 >>> ((16 : Int32) &&& 31).toUInt32).toInt32) &&& (255 : Int32)).toUInt32.toUInt16.toUInt32.toInt32)), .unset, .unset, .unset, .unset, .unset, .unset, .unset, .unset]) rfl k) ?_
        refine Go.via (fun t k => XS.iload X5.here hx rfl (hb hby at_89) rfl k) ?_
        show Go p.tables e below P T5 (mkF m 91 #[.val (.int p1), .val (.int p2), .val (.int p3), .val (.int p4), .val (.int (0 : Int32)), .val (.ref aNAME), .val (.int (p4 &&& (3 : Int32))), .val (.int v3_0), .val (.int (((p4.toUInt32 >>> ((3 : Int32) &&& 31).toUInt32).toInt32) &&& (3 : Int32))), .val (.int v5_0), .val (.int ((p2 &&& (255 : Int32)).toUInt32.toUInt16.toUInt32.toInt32)), .val (.int ((((p2.toUInt32 >>> ((8 : Int32) &&& 31).toUInt32).toInt32) &&& (255 : Int32)).toUInt32.toUInt16.toUInt32.toInt32)), .val (.int ((((p2.toUInt32 >>> ((16 : Int32) &&& 31).toUInt32).toInt32) &&& (255 : Int32)).toUInt32.toUInt16.toUInt32.toInt32)), .unset, .unset, .unset, .unset, .unset, .unset, .unset, .unset] [(.int v3_0)])
        have J7 : ∀ (T7 : State) (locs7 : List Loc) (v7_0 : Int32), Stand p l e room_1 (s.setVm s.vm) m #[(.int p1), (.int p2), (.int p3), (.int p4)] below meth c T7 locs7 0 0 → T7.heap = h0 → Fr n0 locs7 → v7_0 = (if v3_0 = (0 : Int32) then ((p3 &&& (255 : Int32)).toUInt32.toUInt16.toUInt32.toInt32) else ((p2 &&& (255 : Int32)).toUInt32.toUInt16.toUInt32.toInt32)) → Go p.tables e below P T7 (mkF m 105 #[.val (.int p1), .val (.int p2), .val (.int p3), .val (.int p4), .val (.int (0 : Int32)), .val (.ref aNAME), .val (.int (p4 &&& (3 : Int32))), .val (.int v3_0), .val (.int (((p4.toUInt32 >>> ((3 : Int32) &&& 31).toUInt32).toInt32) &&& (3 : Int32))), .val (.int v5_0), .val (.int ((p2 &&& (255 : Int32)).toUInt32.toUInt16.toUInt32.toInt32)), .val (.int ((((p2.toUInt32 >>> ((8 : Int32) &&& 31).toUInt32).toInt32) &&& (255 : Int32)).toUInt32.toUInt16.toUInt32.toInt32)), .val (.int ((((p2.toUInt32 >>> ((16 : Int32) &&& 31).toUInt32).toInt32) &&& (255 : Int32)).toUInt32.toUInt16.toUInt32.toInt32)), .unset, .unset, .unset, .unset, .unset, .unset, .unset, .unset] [(.int v7_0)]) := by
          intro T7 locs7 v7_0 X7 e7 N7 hv7_0
          show Go p.tables e below P T7 (mkF m 105 #[.val (.int p1), .val (.int p2), .val (.int p3), .val (.int p4), .val (.int (0 : Int32)), .val (.ref aNAME), .val (.int (p4 &&& (3 : Int32))), .val (.int v3_0), .val (.int (((p4.toUInt32 >>> ((3 : Int32) &&& 31).toUInt32).toInt32) &&& (3 : Int32))), .val (.int v5_0), .val (.int ((p2 &&& (255 : Int32)).toUInt32.toUInt16.toUInt32.toInt32)), .val (.int ((((p2.toUInt32 >>> ((8 : Int32) &&& 31).toUInt32).toInt32) &&& (255 : Int32)).toUInt32.toUInt16.toUInt32.toInt32)), .val (.int ((((p2.toUInt32 >>> ((16 : Int32) &&& 31).toUInt32).toInt32) &&& (255 : Int32)).toUInt32.toUInt16.toUInt32.toInt32)), .unset, .unset, .unset, .unset, .unset, .unset, .unset, .unset] [(.int v7_0)])
          refine Go.via (fun t k => XS.istore X7.here hx rfl (hb hby at_105) rfl (l' := #[.val (.int p1), .val (.int p2), .val (.int p3), .val (.int p4), .val (.int (0 : Int32)), .val (.ref aNAME), .val (.int (p4 &&& (3 : Int32))), .val (.int v3_0), .val (.int (((p4.toUInt32 >>> ((3 : Int32) &&& 31).toUInt32).toInt32) &&& (3 : Int32))), .val (.int v5_0), .val (.int ((p2 &&& (255 : Int32)).toUInt32.toUInt16.toUInt32.toInt32)), .val (.int ((((p2.toUInt32 >>> ((8 : Int32) &&& 31).toUInt32).toInt32) &&& (255 : Int32)).toUInt32.toUInt16.toUInt32.toInt32)), .val (.int ((((p2.toUInt32 >>> ((16 : Int32) &&& 31).toUInt32).toInt32) &&& (255 : Int32)).toUInt32.toUInt16.toUInt32.toInt32)), .val (.int v7_0), .unset, .unset, .unset, .unset, .unset, .unset, .unset]) rfl k) ?_
          refine Go.via (fun t k => XS.iload X7.here hx rfl (hb hby at_107) rfl k) ?_
          show Go p.tables e below P T7 (mkF m 109 #[.val (.int p1), .val (.int p2), .val (.int p3), .val (.int p4), .val (.int (0 : Int32)), .val (.ref aNAME), .val (.int (p4 &&& (3 : Int32))), .val (.int v3_0), .val (.int (((p4.toUInt32 >>> ((3 : Int32) &&& 31).toUInt32).toInt32) &&& (3 : Int32))), .val (.int v5_0), .val (.int ((p2 &&& (255 : Int32)).toUInt32.toUInt16.toUInt32.toInt32)), .val (.int ((((p2.toUInt32 >>> ((8 : Int32) &&& 31).toUInt32).toInt32) &&& (255 : Int32)).toUInt32.toUInt16.toUInt32.toInt32)), .val (.int ((((p2.toUInt32 >>> ((16 : Int32) &&& 31).toUInt32).toInt32) &&& (255 : Int32)).toUInt32.toUInt16.toUInt32.toInt32)), .val (.int v7_0), .unset, .unset, .unset, .unset, .unset, .unset, .unset] [(.int v3_0)])
          have J9 : ∀ (T9 : State) (locs9 : List Loc) (v9_0 : Int32), Stand p l e room_1 (s.setVm s.vm) m #[(.int p1), (.int p2), (.int p3), (.int p4)] below meth c T9 locs9 0 0 → T9.heap = h0 → Fr n0 locs9 → v9_0 = (if v3_0 = (0 : Int32) then ((((p3.toUInt32 >>> ((8 : Int32) &&& 31).toUInt32).toInt32) &&& (255 : Int32)).toUInt32.toUInt16.toUInt32.toInt32) else ((((p2.toUInt32 >>> ((8 : Int32) &&& 31).toUInt32).toInt32) &&& (255 : Int32)).toUInt32.toUInt16.toUInt32.toInt32)) → Go p.tables e below P T9 (mkF m 126 #[.val (.int p1), .val (.int p2), .val (.int p3), .val (.int p4), .val (.int (0 : Int32)), .val (.ref aNAME), .val (.int (p4 &&& (3 : Int32))), .val (.int v3_0), .val (.int (((p4.toUInt32 >>> ((3 : Int32) &&& 31).toUInt32).toInt32) &&& (3 : Int32))), .val (.int v5_0), .val (.int ((p2 &&& (255 : Int32)).toUInt32.toUInt16.toUInt32.toInt32)), .val (.int ((((p2.toUInt32 >>> ((8 : Int32) &&& 31).toUInt32).toInt32) &&& (255 : Int32)).toUInt32.toUInt16.toUInt32.toInt32)), .val (.int ((((p2.toUInt32 >>> ((16 : Int32) &&& 31).toUInt32).toInt32) &&& (255 : Int32)).toUInt32.toUInt16.toUInt32.toInt32)), .val (.int v7_0), .unset, .unset, .unset, .unset, .unset, .unset, .unset] [(.int v9_0)]) := by
            intro T9 locs9 v9_0 X9 e9 N9 hv9_0
            show Go p.tables e below P T9 (mkF m 126 #[.val (.int p1), .val (.int p2), .val (.int p3), .val (.int p4), .val (.int (0 : Int32)), .val (.ref aNAME), .val (.int (p4 &&& (3 : Int32))), .val (.int v3_0), .val (.int (((p4.toUInt32 >>> ((3 : Int32) &&& 31).toUInt32).toInt32) &&& (3 : Int32))), .val (.int v5_0), .val (.int ((p2 &&& (255 : Int32)).toUInt32.toUInt16.toUInt32.toInt32)), .val (.int ((((p2.toUInt32 >>> ((8 : Int32) &&& 31).toUInt32).toInt32) &&& (255 : Int32)).toUInt32.toUInt16.toUInt32.toInt32)), .val (.int ((((p2.toUInt32 >>> ((16 : Int32) &&& 31).toUInt32).toInt32) &&& (255 : Int32)).toUInt32.toUInt16.toUInt32.toInt32)), .val (.int v7_0), .unset, .unset, .unset, .unset, .unset, .unset, .unset] [(.int v9_0)])
            refine Go.via (fun t k => XS.istore X9.here hx rfl (hb hby at_126) rfl (l' := #[.val (.int p1), .val (.int p2), .val (.int p3), .val (.int p4), .val (.int (0 : Int32)), .val (.ref aNAME), .val (.int (p4 &&& (3 : Int32))), .val (.int v3_0), .val (.int (((p4.toUInt32 >>> ((3 : Int32) &&& 31).toUInt32).toInt32) &&& (3 : Int32))), .val (.int v5_0), .val (.int ((p2 &&& (255 : Int32)).toUInt32.toUInt16.toUInt32.toInt32)), .val (.int ((((p2.toUInt32 >>> ((8 : Int32) &&& 31).toUInt32).toInt32) &&& (255 : Int32)).toUInt32.toUInt16.toUInt32.toInt32)), .val (.int ((((p2.toUInt32 >>> ((16 : Int32) &&& 31).toUInt32).toInt32) &&& (255 : Int32)).toUInt32.toUInt16.toUInt32.toInt32)), .val (.int v7_0), .val (.int v9_0), .unset, .unset, .unset, .unset, .unset, .unset]) rfl k) ?_
            refine Go.via (fun t k => XS.iload X9.here hx rfl (hb hby at_128) rfl k) ?_
            show Go p.tables e below P T9 (mkF m 130 #[.val (.int p1), .val (.int p2), .val (.int p3), .val (.int p4), .val (.int (0 : Int32)), .val (.ref aNAME), .val (.int (p4 &&& (3 : Int32))), .val (.int v3_0), .val (.int (((p4.toUInt32 >>> ((3 : Int32) &&& 31).toUInt32).toInt32) &&& (3 : Int32))), .val (.int v5_0), .val (.int ((p2 &&& (255 : Int32)).toUInt32.toUInt16.toUInt32.toInt32)), .val (.int ((((p2.toUInt32 >>> ((8 : Int32) &&& 31).toUInt32).toInt32) &&& (255 : Int32)).toUInt32.toUInt16.toUInt32.toInt32)), .val (.int ((((p2.toUInt32 >>> ((16 : Int32) &&& 31).toUInt32).toInt32) &&& (255 : Int32)).toUInt32.toUInt16.toUInt32.toInt32)), .val (.int v7_0), .val (.int v9_0), .unset, .unset, .unset, .unset, .unset, .unset] [(.int v3_0)])
            have J11 : ∀ (T11 : State) (locs11 : List Loc) (v11_0 : Int32), Stand p l e room_1 (s.setVm s.vm) m #[(.int p1), (.int p2), (.int p3), (.int p4)] below meth c T11 locs11 0 0 → T11.heap = h0 → Fr n0 locs11 → v11_0 = (if v3_0 = (0 : Int32) then ((((p3.toUInt32 >>> ((16 : Int32) &&& 31).toUInt32).toInt32) &&& (255 : Int32)).toUInt32.toUInt16.toUInt32.toInt32) else ((((p2.toUInt32 >>> ((16 : Int32) &&& 31).toUInt32).toInt32) &&& (255 : Int32)).toUInt32.toUInt16.toUInt32.toInt32)) → Go p.tables e below P T11 (mkF m 147 #[.val (.int p1), .val (.int p2), .val (.int p3), .val (.int p4), .val (.int (0 : Int32)), .val (.ref aNAME), .val (.int (p4 &&& (3 : Int32))), .val (.int v3_0), .val (.int (((p4.toUInt32 >>> ((3 : Int32) &&& 31).toUInt32).toInt32) &&& (3 : Int32))), .val (.int v5_0), .val (.int ((p2 &&& (255 : Int32)).toUInt32.toUInt16.toUInt32.toInt32)), .val (.int ((((p2.toUInt32 >>> ((8 : Int32) &&& 31).toUInt32).toInt32) &&& (255 : Int32)).toUInt32.toUInt16.toUInt32.toInt32)), .val (.int ((((p2.toUInt32 >>> ((16 : Int32) &&& 31).toUInt32).toInt32) &&& (255 : Int32)).toUInt32.toUInt16.toUInt32.toInt32)), .val (.int v7_0), .val (.int v9_0), .unset, .unset, .unset, .unset, .unset, .unset] [(.int v11_0)]) := by
              intro T11 locs11 v11_0 X11 e11 N11 hv11_0
              show Go p.tables e below P T11 (mkF m 147 #[.val (.int p1), .val (.int p2), .val (.int p3), .val (.int p4), .val (.int (0 : Int32)), .val (.ref aNAME), .val (.int (p4 &&& (3 : Int32))), .val (.int v3_0), .val (.int (((p4.toUInt32 >>> ((3 : Int32) &&& 31).toUInt32).toInt32) &&& (3 : Int32))), .val (.int v5_0), .val (.int ((p2 &&& (255 : Int32)).toUInt32.toUInt16.toUInt32.toInt32)), .val (.int ((((p2.toUInt32 >>> ((8 : Int32) &&& 31).toUInt32).toInt32) &&& (255 : Int32)).toUInt32.toUInt16.toUInt32.toInt32)), .val (.int ((((p2.toUInt32 >>> ((16 : Int32) &&& 31).toUInt32).toInt32) &&& (255 : Int32)).toUInt32.toUInt16.toUInt32.toInt32)), .val (.int v7_0), .val (.int v9_0), .unset, .unset, .unset, .unset, .unset, .unset] [(.int v11_0)])
              refine Go.via (fun t k => XS.istore X11.here hx rfl (hb hby at_147) rfl (l' := #[.val (.int p1), .val (.int p2), .val (.int p3), .val (.int p4), .val (.int (0 : Int32)), .val (.ref aNAME), .val (.int (p4 &&& (3 : Int32))), .val (.int v3_0), .val (.int (((p4.toUInt32 >>> ((3 : Int32) &&& 31).toUInt32).toInt32) &&& (3 : Int32))), .val (.int v5_0), .val (.int ((p2 &&& (255 : Int32)).toUInt32.toUInt16.toUInt32.toInt32)), .val (.int ((((p2.toUInt32 >>> ((8 : Int32) &&& 31).toUInt32).toInt32) &&& (255 : Int32)).toUInt32.toUInt16.toUInt32.toInt32)), .val (.int ((((p2.toUInt32 >>> ((16 : Int32) &&& 31).toUInt32).toInt32) &&& (255 : Int32)).toUInt32.toUInt16.toUInt32.toInt32)), .val (.int v7_0), .val (.int v9_0), .val (.int v11_0), .unset, .unset, .unset, .unset, .unset]) rfl k) ?_
              show Go p.tables e below P T11 (mkF m 149 #[.val (.int p1), .val (.int p2), .val (.int p3), .val (.int p4), .val (.int (0 : Int32)), .val (.ref aNAME), .val (.int (p4 &&& (3 : Int32))), .val (.int v3_0), .val (.int (((p4.toUInt32 >>> ((3 : Int32) &&& 31).toUInt32).toInt32) &&& (3 : Int32))), .val (.int v5_0), .val (.int ((p2 &&& (255 : Int32)).toUInt32.toUInt16.toUInt32.toInt32)), .val (.int ((((p2.toUInt32 >>> ((8 : Int32) &&& 31).toUInt32).toInt32) &&& (255 : Int32)).toUInt32.toUInt16.toUInt32.toInt32)), .val (.int ((((p2.toUInt32 >>> ((16 : Int32) &&& 31).toUInt32).toInt32) &&& (255 : Int32)).toUInt32.toUInt16.toUInt32.toInt32)), .val (.int v7_0), .val (.int v9_0), .val (.int v11_0), .unset, .unset, .unset, .unset, .unset] [])
              obtain ⟨ca, hca⟩ : ∃ z, z = ((p2 &&& (255 : Int32)).toUInt32.toUInt16.toUInt32.toInt32) := ⟨_, rfl⟩
              rw [← hca]
              have yca : own_by ca := by rw [hca]; exact own_byc _
              obtain ⟨cb, hcb⟩ : ∃ z, z = ((((p2.toUInt32 >>> ((8 : Int32) &&& 31).toUInt32).toInt32) &&& (255 : Int32)).toUInt32.toUInt16.toUInt32.toInt32) := ⟨_, rfl⟩
              rw [← hcb]
              have ycb : own_by cb := by rw [hcb]; exact own_byc _
              obtain ⟨cc, hcc⟩ : ∃ z, z = ((((p2.toUInt32 >>> ((16 : Int32) &&& 31).toUInt32).toInt32) &&& (255 : Int32)).toUInt32.toUInt16.toUInt32.toInt32) := ⟨_, rfl⟩
              rw [← hcc]
              have ycc : own_by cc := by rw [hcc]; exact own_byc _
              obtain ⟨cd, hcd⟩ : ∃ z, z = v7_0 := ⟨_, rfl⟩
              rw [← hcd]
              have ycd : own_by cd := by rw [hcd, hv7_0]; split <;> exact own_byc _
              obtain ⟨ce, hce⟩ : ∃ z, z = v9_0 := ⟨_, rfl⟩
              rw [← hce]
              have yce : own_by ce := by rw [hce, hv9_0]; split <;> exact own_byc _
              obtain ⟨cf, hcf⟩ : ∃ z, z = v11_0 := ⟨_, rfl⟩
              rw [← hcf]
              have ycf : own_by cf := by rw [hcf, hv11_0]; split <;> exact own_byc _
              obtain ⟨na, hna⟩ : ∃ z, z = (p4 &&& (3 : Int32)) := ⟨_, rfl⟩
              rw [← hna]
              have yna : own_four na := by rw [hna]; exact own_n4 _
              obtain ⟨nb, hnb⟩ : ∃ z, z = (((p4.toUInt32 >>> ((3 : Int32) &&& 31).toUInt32).toInt32) &&& (3 : Int32)) := ⟨_, rfl⟩
              rw [← hnb]
              have ynb : own_four nb := by rw [hnb]; exact own_n4 _
              refine Go.via (fun t k => XS.iload X11.here hx rfl (hb hby at_149) rfl k) ?_
              refine Go.via (fun t k => XS.iload X11.here hx rfl (hb hby at_151) rfl k) ?_
              refine Go.via (fun t k => XS.iload X11.here hx rfl (hb hby at_153) rfl k) ?_
              show Go p.tables e below P T11 (mkF m 155 #[.val (.int p1), .val (.int p2), .val (.int p3), .val (.int p4), .val (.int (0 : Int32)), .val (.ref aNAME), .val (.int na), .val (.int v3_0), .val (.int nb), .val (.int v5_0), .val (.int ca), .val (.int cb), .val (.int cc), .val (.int cd), .val (.int ce), .val (.int cf), .unset, .unset, .unset, .unset, .unset] [(.int cb), (.int ca), (.int na)])
              refine Go.via (fun t k => XS.iload X11.here hx rfl (hb hby at_155) rfl k) ?_
              show Go p.tables e below P T11 (mkF m 157 #[.val (.int p1), .val (.int p2), .val (.int p3), .val (.int p4), .val (.int (0 : Int32)), .val (.ref aNAME), .val (.int na), .val (.int v3_0), .val (.int nb), .val (.int v5_0), .val (.int ca), .val (.int cb), .val (.int cc), .val (.int cd), .val (.int ce), .val (.int cf), .unset, .unset, .unset, .unset, .unset] [(.int cc), (.int cb), (.int ca), (.int na)])
              obtain ⟨_, _, ⟨T12, L12, k12, n12⟩, -, X12, hSn12, hgn12, ⟨Lc12, hQ12, l12, y12, z12, hC12⟩, st12⟩ := callSS X11 hx (y := (⟨"com/example/numeric_planner/numericplanner/rddl/TokenIsPinLaw", "mk", "(ICCC)Ljava/lang/String;"⟩ : MethodName)) hown (mvT hZ (hw _ (List.mem_of_getElem? (i := 8) rfl))) (mvT hZ (hw _ (List.mem_of_getElem? (i := 9) rfl))) (mvT hZ (hw _ (List.mem_of_getElem? (i := 3) rfl))) (mvT hZ (hw _ (List.mem_of_getElem? (i := 10) rfl))) (by decide) (backOfSH (W := 0) (rm2 l Z a0 hw [] na ca cb cc cs h0 n0 Z0 O0 P1 (by first | assumption | decide | omega : ¬ cs = (0 : Int32)) yca ycb ycc) hZ (hw _ (List.mem_of_getElem? (i := 10) rfl)) (hw _ (List.mem_of_getElem? (i := 3) rfl)) (by decide) (by decide) (own_EW hw) CR0.1) (g := (mkF m 157 #[.val (.int p1), .val (.int p2), .val (.int p3), .val (.int p4), .val (.int (0 : Int32)), .val (.ref aNAME), .val (.int na), .val (.int v3_0), .val (.int nb), .val (.int v5_0), .val (.int ca), .val (.int cb), .val (.int cc), .val (.int cd), .val (.int ce), .val (.int cf), .unset, .unset, .unset, .unset, .unset] [(.int cc), (.int cb), (.int ca), (.int na)])) rfl (by rw [hml]; rfl) (argsL := [(.int na), (.int ca), (.int cb), (.int cc)]) (rest := []) (lenOf own_pd6 rfl) rfl (by show 2 * 0 + _ ≤ _; exact Nat.le_of_eq rfl) (hb hby at_157) (fun _ _ => ⟨rfl, e11, (by decide : 0 + 6 ≤ _), (by decide : 0 + 12 ≤ _)⟩)
              dsimp only [Pt.U, Pt.locs, Pt.cells, Pt.slots] at X12 l12 y12 z12 st12 hQ12 hSn12 hgn12 hC12
              subst l12 y12 z12
              have hS12 : s.Since T12.vm T12.heap.size := foldS hS0 (by rw [e11]; exact (Nat.zero_le _)) hSn12 hgn12
              have X12 : Stand p l e room_1 (s.setVm T12.vm) m #[(.int p1), (.int p2), (.int p3), (.int p4)] below meth c T12 _ _ _ := X12
              have hown : (s.setVm T12.vm).vm.findClass "com/example/numeric_planner/numericplanner/rddl/TokenIsPinLaw" = some m.cls := by rw [show (s.setVm T12.vm).vm = T12.vm from rfl, hSn12.1.alike.findClass]; exact hown
              have hZ : Z.Warmed39 (s.setVm T12.vm).vm := State.Warmed39.trans (t := s.setVm s.vm) hZ hSn12.1
              obtain ⟨r_12, tb_12, kk_12, rfl, Nq12, K12, fr12_r, u12_0, u12_1, u12_2, u12_3, u12_4, u12_5⟩ := hQ12
              obtain ⟨lc12, Xh12, N12⟩ := own_hide X12 (Fr.app N11 Nq12)
              clear X12
              refine Go.hop st12 ?_
              have CR13 := CHr.trans CR0 hC12
              have g14 : n0 ≤ r_12 := Nat.le_trans Z0 fr12_r
              have sz15 : h0.size ≤ r_12 := Nat.le_trans K0.1 fr12_r
              have Z16 : n0 ≤ T12.heap.size := Nat.le_trans Z0 K12.1
              have K17 : Keep h0 T12.heap [] := K0.trans K12 own_all0
              have O18 : Old Z n0 T12.heap := O0.keep K12 own_all0
              have hk19 : T12.heap.size ≤ T12.heap.size := Nat.le_refl _
              show Go p.tables e below P T12 (mkF m 160 #[.val (.int p1), .val (.int p2), .val (.int p3), .val (.int p4), .val (.int (0 : Int32)), .val (.ref aNAME), .val (.int na), .val (.int v3_0), .val (.int nb), .val (.int v5_0), .val (.int ca), .val (.int cb), .val (.int cc), .val (.int cd), .val (.int ce), .val (.int cf), .unset, .unset, .unset, .unset, .unset] [(.ref r_12)])
              refine Go.via (fun t k => XS.astore Xh12.here hx rfl (hb hby at_160) rfl rfl (l' := #[.val (.int p1), .val (.int p2), .val (.int p3), .val (.int p4), .val (.int (0 : Int32)), .val (.ref aNAME), .val (.int na), .val (.int v3_0), .val (.int nb), .val (.int v5_0), .val (.int ca), .val (.int cb), .val (.int cc), .val (.int cd), .val (.int ce), .val (.int cf), .val (.ref r_12), .unset, .unset, .unset, .unset]) rfl k) ?_
              refine Go.via (fun t k => XS.iload Xh12.here hx rfl (hb hby at_162) rfl k) ?_
              show Go p.tables e below P T12 (mkF m 164 #[.val (.int p1), .val (.int p2), .val (.int p3), .val (.int p4), .val (.int (0 : Int32)), .val (.ref aNAME), .val (.int na), .val (.int v3_0), .val (.int nb), .val (.int v5_0), .val (.int ca), .val (.int cb), .val (.int cc), .val (.int cd), .val (.int ce), .val (.int cf), .val (.ref r_12), .unset, .unset, .unset, .unset] [(.int v5_0)])
              by_cases hc20 : v5_0 = (0 : Int32)
              · refine Go.via (fun t k => XS.ifYes Xh12.here hx rfl (pc0 := 164) (pc' := 171) rfl (hb hby at_164) rfl ((if0 _ _).trans (teq hc20).1) (by decide) (by decide) k) ?_
                show Go p.tables e below P T12 (mkF m 171 #[.val (.int p1), .val (.int p2), .val (.int p3), .val (.int p4), .val (.int (0 : Int32)), .val (.ref aNAME), .val (.int na), .val (.int v3_0), .val (.int nb), .val (.int v5_0), .val (.int ca), .val (.int cb), .val (.int cc), .val (.int cd), .val (.int ce), .val (.int cf), .val (.ref r_12), .unset, .unset, .unset, .unset] [])
                refine Go.via (fun t k => XS.iload Xh12.here hx rfl (hb hby at_171) rfl k) ?_
                refine Go.via (fun t k => XS.iload Xh12.here hx rfl (hb hby at_173) rfl k) ?_
                refine Go.via (fun t k => XS.iload Xh12.here hx rfl (hb hby at_175) rfl k) ?_
                show Go p.tables e below P T12 (mkF m 177 #[.val (.int p1), .val (.int p2), .val (.int p3), .val (.int p4), .val (.int (0 : Int32)), .val (.ref aNAME), .val (.int na), .val (.int v3_0), .val (.int nb), .val (.int v5_0), .val (.int ca), .val (.int cb), .val (.int cc), .val (.int cd), .val (.int ce), .val (.int cf), .val (.ref r_12), .unset, .unset, .unset, .unset] [(.int ce), (.int cd), (.int nb)])
                refine Go.via (fun t k => XS.iload Xh12.here hx rfl (hb hby at_177) rfl k) ?_
                show Go p.tables e below P T12 (mkF m 179 #[.val (.int p1), .val (.int p2), .val (.int p3), .val (.int p4), .val (.int (0 : Int32)), .val (.ref aNAME), .val (.int na), .val (.int v3_0), .val (.int nb), .val (.int v5_0), .val (.int ca), .val (.int cb), .val (.int cc), .val (.int cd), .val (.int ce), .val (.int cf), .val (.ref r_12), .unset, .unset, .unset, .unset] [(.int cf), (.int ce), (.int cd), (.int nb)])
                obtain ⟨_, _, ⟨T21, L21, k21, n21⟩, -, X21, hSn21, hgn21, ⟨Lc21, hQ21, l21, y21, z21, hC21⟩, st21⟩ := callSS Xh12 hx (y := (⟨"com/example/numeric_planner/numericplanner/rddl/TokenIsPinLaw", "mk", "(ICCC)Ljava/lang/String;"⟩ : MethodName)) hown (mvT hZ (hw _ (List.mem_of_getElem? (i := 8) rfl))) (mvT hZ (hw _ (List.mem_of_getElem? (i := 9) rfl))) (mvT hZ (hw _ (List.mem_of_getElem? (i := 3) rfl))) (mvT hZ (hw _ (List.mem_of_getElem? (i := 10) rfl))) (by decide) (backOfSH (W := 0) (rm2 l Z a0 hw [] nb cd ce cf cs T12.heap n0 Z16 O18 P1 (by first | assumption | decide | omega : ¬ cs = (0 : Int32)) ycd yce ycf) hZ (hw _ (List.mem_of_getElem? (i := 10) rfl)) (hw _ (List.mem_of_getElem? (i := 3) rfl)) (by decide) (by decide) (own_EW hw) CR13.1) (g := (mkF m 179 #[.val (.int p1), .val (.int p2), .val (.int p3), .val (.int p4), .val (.int (0 : Int32)), .val (.ref aNAME), .val (.int na), .val (.int v3_0), .val (.int nb), .val (.int v5_0), .val (.int ca), .val (.int cb), .val (.int cc), .val (.int cd), .val (.int ce), .val (.int cf), .val (.ref r_12), .unset, .unset, .unset, .unset] [(.int cf), (.int ce), (.int cd), (.int nb)])) rfl (by rw [hml]; rfl) (argsL := [(.int nb), (.int cd), (.int ce), (.int cf)]) (rest := []) (lenOf own_pd6 rfl) rfl (by show 2 * 0 + _ ≤ _; exact Nat.le_of_eq rfl) (hb hby at_179) (fun _ _ => ⟨rfl, rfl, (by decide : 6 + 6 ≤ _), (by decide : 12 + 12 ≤ _)⟩)
                dsimp only [Pt.U, Pt.locs, Pt.cells, Pt.slots] at X21 l21 y21 z21 st21 hQ21 hSn21 hgn21 hC21
                subst l21 y21 z21
                have hS21 : s.Since T21.vm T21.heap.size := foldS hS12 (by exact hk19) hSn21 hgn21
                have X21 : Stand p l e room_1 (s.setVm T21.vm) m #[(.int p1), (.int p2), (.int p3), (.int p4)] below meth c T21 _ _ _ := X21
                have hown : (s.setVm T21.vm).vm.findClass "com/example/numeric_planner/numericplanner/rddl/TokenIsPinLaw" = some m.cls := by rw [show (s.setVm T21.vm).vm = T21.vm from rfl, hSn21.1.alike.findClass]; exact hown
                have hZ : Z.Warmed39 (s.setVm T21.vm).vm := State.Warmed39.trans (t := s.setVm T12.vm) hZ hSn21.1
                obtain ⟨r_21, tb_21, kk_21, rfl, Nq21, K21, fr21_r, u21_0, u21_1, u21_2, u21_3, u21_4, u21_5⟩ := hQ21
                obtain ⟨lc21, Xh21, N21⟩ := own_hide X21 (Fr.app N12 Nq21)
                clear X21
                refine Go.hop st21 ?_
                have CR22 := CHr.trans CR13 hC21
                have ne23 : r_12 ≠ r_21 := Nat.ne_of_lt (Nat.lt_of_lt_of_le u12_0.lt fr21_r)
                have ne24 : tb_12 ≠ r_21 := Nat.ne_of_lt (Nat.lt_of_lt_of_le u12_3.lt fr21_r)
                have g25 : n0 ≤ r_21 := Nat.le_trans Z16 fr21_r
                have sz26 : h0.size ≤ r_21 := Nat.le_trans K17.1 fr21_r
                have Z27 : n0 ≤ T21.heap.size := Nat.le_trans Z16 K21.1
                have K28 : Keep h0 T21.heap [] := K17.trans K21 own_all0
                have O29 : Old Z n0 T21.heap := O18.keep K21 own_all0
                have hk30 : T21.heap.size ≤ T21.heap.size := Nat.le_refl _
                show Go p.tables e below P T21 (mkF m 182 #[.val (.int p1), .val (.int p2), .val (.int p3), .val (.int p4), .val (.int (0 : Int32)), .val (.ref aNAME), .val (.int na), .val (.int v3_0), .val (.int nb), .val (.int v5_0), .val (.int ca), .val (.int cb), .val (.int cc), .val (.int cd), .val (.int ce), .val (.int cf), .val (.ref r_12), .unset, .unset, .unset, .unset] [(.ref r_21)])
                refine Go.via (fun t k => XS.astore Xh21.here hx rfl (hb hby at_182) rfl rfl (l' := #[.val (.int p1), .val (.int p2), .val (.int p3), .val (.int p4), .val (.int (0 : Int32)), .val (.ref aNAME), .val (.int na), .val (.int v3_0), .val (.int nb), .val (.int v5_0), .val (.int ca), .val (.int cb), .val (.int cc), .val (.int cd), .val (.int ce), .val (.int cf), .val (.ref r_12), .val (.ref r_21), .unset, .unset, .unset]) rfl k) ?_
                show Go p.tables e below P T21 (mkF m 184 #[.val (.int p1), .val (.int p2), .val (.int p3), .val (.int p4), .val (.int (0 : Int32)), .val (.ref aNAME), .val (.int na), .val (.int v3_0), .val (.int nb), .val (.int v5_0), .val (.int ca), .val (.int cb), .val (.int cc), .val (.int cd), .val (.int ce), .val (.int cf), .val (.ref r_12), .val (.ref r_21), .unset, .unset, .unset] [])
                have F32 : Exa Z T21.heap r_12 "java/lang/String" := (u12_0.keep K21)
                have F33 : Fld Z T21.heap r_12 "java/lang/String" "value" "[B" (.ref tb_12) := (u12_1.keep K21 own_nin0)
                have F34 : Fld Z T21.heap r_12 "java/lang/String" "coder" "B" (.int (0 : Int32)) := (u12_2.keep K21 own_nin0)
                have F35 : Arv Z T21.heap tb_12 kk_12 .byte (own_lg (own_mk na ca cb cc)) ((own_mk na ca cb cc).map Value.int) (.int (0 : Int32)) := (u12_3.keep K21 own_nin0)
                obtain ⟨T31, h31, X31, e31, E31, A31, D31, -, st31⟩ := newO Xh21 hx hZ hown (hw _ (List.mem_of_getElem? (i := 44) rfl)) (hw _ (List.mem_of_getElem? (i := 45) rfl)) (hw _ (List.mem_of_getElem? (i := 46) rfl)) rfl (g := (mkF m 184 #[.val (.int p1), .val (.int p2), .val (.int p3), .val (.int p4), .val (.int (0 : Int32)), .val (.ref aNAME), .val (.int na), .val (.int v3_0), .val (.int nb), .val (.int v5_0), .val (.int ca), .val (.int cb), .val (.int cc), .val (.int cd), .val (.int ce), .val (.int cf), .val (.ref r_12), .val (.ref r_21), .unset, .unset, .unset] [])) rfl (hb hby at_184) (by decide) (by decide)
                obtain ⟨b31, g31⟩ : ∃ z, z = T21.heap.size := ⟨_, rfl⟩
                rw [← g31] at A31 D31 st31
                refine Go.via st31 ?_
                have ne36 : r_12 ≠ b31 := Nat.ne_of_lt (Nat.lt_of_lt_of_le F32.lt (Nat.le_of_eq g31.symm))
                have ne37 : tb_12 ≠ b31 := Nat.ne_of_lt (Nat.lt_of_lt_of_le F35.lt (Nat.le_of_eq g31.symm))
                have ne38 : r_21 ≠ b31 := Nat.ne_of_lt (Nat.lt_of_lt_of_le u21_0.lt (Nat.le_of_eq g31.symm))
                have ne39 : tb_21 ≠ b31 := Nat.ne_of_lt (Nat.lt_of_lt_of_le u21_3.lt (Nat.le_of_eq g31.symm))
                have g40 : n0 ≤ b31 := Nat.le_trans Z27 (Nat.le_of_eq g31.symm)
                have sz41 : h0.size ≤ b31 := Nat.le_trans K28.1 (Nat.le_of_eq g31.symm)
                have Z42 : n0 ≤ h31.size := Nat.le_trans Z27 E31.1
                have K43 : Keep h0 h31 [] := K28.ext E31
                have O44 : Old Z n0 h31 := O29.ext E31
                have CR45 := CHr.trans CR22 (CHr.ext E31 CR22.1)
                have hk46 := Nat.le_trans hk30 E31.1
                show Go p.tables e below P T31 (mkF m 187 #[.val (.int p1), .val (.int p2), .val (.int p3), .val (.int p4), .val (.int (0 : Int32)), .val (.ref aNAME), .val (.int na), .val (.int v3_0), .val (.int nb), .val (.int v5_0), .val (.int ca), .val (.int cb), .val (.int cc), .val (.int cd), .val (.int ce), .val (.int cf), .val (.ref r_12), .val (.ref r_21), .unset, .unset, .unset] [(.ref b31)])
                refine Go.via (fun t k => XS.dup X31.here hx rfl (hb hby at_187) rfl rfl k) ?_
                refine Go.via (fun t k => XS.aload X31.here hx rfl (hb hby at_188) rfl rfl k) ?_
                refine Go.via (fun t k => XS.aload X31.here hx rfl (hb hby at_190) rfl rfl k) ?_
                show Go p.tables e below P T31 (mkF m 192 #[.val (.int p1), .val (.int p2), .val (.int p3), .val (.int p4), .val (.int (0 : Int32)), .val (.ref aNAME), .val (.int na), .val (.int v3_0), .val (.int nb), .val (.int v5_0), .val (.int ca), .val (.int cb), .val (.int cc), .val (.int cd), .val (.int ce), .val (.int cf), .val (.ref r_12), .val (.ref r_21), .unset, .unset, .unset] [(.ref r_12), (.ref aNAME), (.ref b31), (.ref b31)])
                have F48 : Exa Z h31 r_12 "java/lang/String" := (F32.ext E31)
                have F49 : Fld Z h31 r_12 "java/lang/String" "value" "[B" (.ref tb_12) := (F33.ext E31)
                have F50 : Fld Z h31 r_12 "java/lang/String" "coder" "B" (.int (0 : Int32)) := (F34.ext E31)
                have F51 : Arv Z h31 tb_12 kk_12 .byte (own_lg (own_mk na ca cb cc)) ((own_mk na ca cb cc).map Value.int) (.int (0 : Int32)) := (F35.ext E31)
                have F52 : Exa Z h31 r_21 "java/lang/String" := (u21_0.ext E31)
                have F53 : Fld Z h31 r_21 "java/lang/String" "value" "[B" (.ref tb_21) := (u21_1.ext E31)
                have F54 : Fld Z h31 r_21 "java/lang/String" "coder" "B" (.int (0 : Int32)) := (u21_2.ext E31)
                have F55 : Arv Z h31 tb_21 kk_21 .byte (own_lg (own_mk nb cd ce cf)) ((own_mk nb cd ce cf).map Value.int) (.int (0 : Int32)) := (u21_3.ext E31)
                obtain ⟨T47, h47, X47, e47, E47, A47, D47, -, st47⟩ := newO X31 hx hZ hown (hw _ (List.mem_of_getElem? (i := 47) rfl)) (hw _ (List.mem_of_getElem? (i := 48) rfl)) (hw _ (List.mem_of_getElem? (i := 49) rfl)) e31 (g := (mkF m 192 #[.val (.int p1), .val (.int p2), .val (.int p3), .val (.int p4), .val (.int (0 : Int32)), .val (.ref aNAME), .val (.int na), .val (.int v3_0), .val (.int nb), .val (.int v5_0), .val (.int ca), .val (.int cb), .val (.int cc), .val (.int cd), .val (.int ce), .val (.int cf), .val (.ref r_12), .val (.ref r_21), .unset, .unset, .unset] [(.ref r_12), (.ref aNAME), (.ref b31), (.ref b31)])) rfl (hb hby at_192) (by decide) (by decide)
                obtain ⟨b47, g47⟩ : ∃ z, z = h31.size := ⟨_, rfl⟩
                rw [← g47] at A47 D47 st47
                refine Go.via st47 ?_
                have ne56 : r_12 ≠ b47 := Nat.ne_of_lt (Nat.lt_of_lt_of_le F48.lt (Nat.le_of_eq g47.symm))
                have ne57 : tb_12 ≠ b47 := Nat.ne_of_lt (Nat.lt_of_lt_of_le F51.lt (Nat.le_of_eq g47.symm))
                have ne58 : r_21 ≠ b47 := Nat.ne_of_lt (Nat.lt_of_lt_of_le F52.lt (Nat.le_of_eq g47.symm))
                have ne59 : tb_21 ≠ b47 := Nat.ne_of_lt (Nat.lt_of_lt_of_le F55.lt (Nat.le_of_eq g47.symm))
                have ne60 : b31 ≠ b47 := Nat.ne_of_lt (Nat.lt_of_lt_of_le A31.lt (Nat.le_of_eq g47.symm))
                have g61 : n0 ≤ b47 := Nat.le_trans Z42 (Nat.le_of_eq g47.symm)
                have sz62 : h0.size ≤ b47 := Nat.le_trans K43.1 (Nat.le_of_eq g47.symm)
                have Z63 : n0 ≤ h47.size := Nat.le_trans Z42 E47.1
                have K64 : Keep h0 h47 [] := K43.ext E47
                have O65 : Old Z n0 h47 := O44.ext E47
                have CR66 := CHr.trans CR45 (CHr.ext E47 CR45.1)
                have hk67 := Nat.le_trans hk46 E47.1
                show Go p.tables e below P T47 (mkF m 195 #[.val (.int p1), .val (.int p2), .val (.int p3), .val (.int p4), .val (.int (0 : Int32)), .val (.ref aNAME), .val (.int na), .val (.int v3_0), .val (.int nb), .val (.int v5_0), .val (.int ca), .val (.int cb), .val (.int cc), .val (.int cd), .val (.int ce), .val (.int cf), .val (.ref r_12), .val (.ref r_21), .unset, .unset, .unset] [(.ref b47), (.ref r_12), (.ref aNAME), (.ref b31), (.ref b31)])
                refine Go.via (fun t k => XS.dup X47.here hx rfl (hb hby at_195) rfl rfl k) ?_
                show Go p.tables e below P T47 (mkF m 196 #[.val (.int p1), .val (.int p2), .val (.int p3), .val (.int p4), .val (.int (0 : Int32)), .val (.ref aNAME), .val (.int na), .val (.int v3_0), .val (.int nb), .val (.int v5_0), .val (.int ca), .val (.int cb), .val (.int cc), .val (.int cd), .val (.int ce), .val (.int cf), .val (.ref r_12), .val (.ref r_21), .unset, .unset, .unset] [(.ref b47), (.ref b47), (.ref r_12), (.ref aNAME), (.ref b31), (.ref b31)])
                have F68 : Exa Z h47 r_12 "java/lang/String" := (F48.ext E47)
                have F69 : Fld Z h47 r_12 "java/lang/String" "value" "[B" (.ref tb_12) := (F49.ext E47)
                have F70 : Fld Z h47 r_12 "java/lang/String" "coder" "B" (.int (0 : Int32)) := (F50.ext E47)
                have F71 : Arv Z h47 tb_12 kk_12 .byte (own_lg (own_mk na ca cb cc)) ((own_mk na ca cb cc).map Value.int) (.int (0 : Int32)) := (F51.ext E47)
                have F72 : Exa Z h47 r_21 "java/lang/String" := (F52.ext E47)
                have F73 : Fld Z h47 r_21 "java/lang/String" "value" "[B" (.ref tb_21) := (F53.ext E47)
                have F74 : Fld Z h47 r_21 "java/lang/String" "coder" "B" (.int (0 : Int32)) := (F54.ext E47)
                have F75 : Arv Z h47 tb_21 kk_21 .byte (own_lg (own_mk nb cd ce cf)) ((own_mk nb cd ce cf).map Value.int) (.int (0 : Int32)) := (F55.ext E47)
                have F76 : Exa Z h47 b31 "com/example/numeric_planner/numericplanner/rddl/Token" := (A31.ext E47)
                have F77 : Fld Z h47 b31 "com/example/numeric_planner/numericplanner/rddl/Token" "kind" "Lcom/example/numeric_planner/numericplanner/rddl/Token$Kind;" .null := ((D31 (Or.inr (hw _ (List.mem_of_getElem? (i := 69) rfl))) (ty := (.object "com/example/numeric_planner/numericplanner/rddl/Token$Kind")) (by decide) : Fld Z h31 b31 "com/example/numeric_planner/numericplanner/rddl/Token" "kind" "Lcom/example/numeric_planner/numericplanner/rddl/Token$Kind;" .null).ext E47)
                have F78 : Fld Z h47 b31 "com/example/numeric_planner/numericplanner/rddl/Token" "text" "Ljava/lang/String;" .null := ((D31 (Or.inr (hw _ (List.mem_of_getElem? (i := 71) rfl))) (ty := (.object "java/lang/String")) (by decide) : Fld Z h31 b31 "com/example/numeric_planner/numericplanner/rddl/Token" "text" "Ljava/lang/String;" .null).ext E47)
                have F79 : Fld Z h47 b31 "com/example/numeric_planner/numericplanner/rddl/Token" "location" "Lcom/example/numeric_planner/numericplanner/rddl/Location;" .null := ((D31 (Or.inr (hw _ (List.mem_of_getElem? (i := 73) rfl))) (ty := (.object "com/example/numeric_planner/numericplanner/rddl/Location")) (by decide) : Fld Z h31 b31 "com/example/numeric_planner/numericplanner/rddl/Token" "location" "Lcom/example/numeric_planner/numericplanner/rddl/Location;" .null).ext E47)
                obtain ⟨a80, T80, h80, kn80, b80, kb80, X80, e80, E80, hS80, hk80, hZ, hown, Ex80, Fc80, Fv80, Va80, lta80, ltb80, hC80, -, ne80, st80⟩ := ldcCH X47 hx hZ hown (hw _ (List.mem_of_getElem? (i := 50) rfl)) (own_sa hw) e47 hS21 hk67 (own_EW hw) (by decide : (("com/example/numeric_planner/numericplanner/rddl/TokenIsPinLaw", 22) : String × Nat) ∈ consts_1) CR66.1 (vs := [(.int (102 : Int32))]) (z := (1 : Int32)) ⟨by decide, rfl⟩ (by decide) rfl (g := (mkF m 196 #[.val (.int p1), .val (.int p2), .val (.int p3), .val (.int p4), .val (.int (0 : Int32)), .val (.ref aNAME), .val (.int na), .val (.int v3_0), .val (.int nb), .val (.int v5_0), .val (.int ca), .val (.int cb), .val (.int cc), .val (.int cd), .val (.int ce), .val (.int cf), .val (.ref r_12), .val (.ref r_21), .unset, .unset, .unset] [(.ref b47), (.ref b47), (.ref r_12), (.ref aNAME), (.ref b31), (.ref b31)])) rfl (hb hby at_196) (n := 4) (by decide) (by decide) (by decide) (by decide)
                refine Go.via st80 ?_
                have CR81 := CHr.trans CR66 hC80
                have Z82 : n0 ≤ h80.size := Nat.le_trans Z63 E80.1
                have K83 : Keep h0 h80 [] := K64.ext E80
                have O84 : Old Z n0 h80 := O65.ext E80
                have F85 : Exa Z h80 b31 "com/example/numeric_planner/numericplanner/rddl/Token" := (F76.ext E80)
                have nq86 := (ne80 _ (Safe.exa hZ.alike F85 (by decide) (by decide))).1
                have nq87 := (ne80 _ (Safe.exa hZ.alike F85 (by decide) (by decide))).2
                have F88 : Exa Z h80 b47 "com/example/numeric_planner/numericplanner/rddl/Location" := (A47.ext E80)
                have nq89 := (ne80 _ (Safe.exa hZ.alike F88 (by decide) (by decide))).1
                have nq90 := (ne80 _ (Safe.exa hZ.alike F88 (by decide) (by decide))).2
                show Go p.tables e below P T80 (mkF m 198 #[.val (.int p1), .val (.int p2), .val (.int p3), .val (.int p4), .val (.int (0 : Int32)), .val (.ref aNAME), .val (.int na), .val (.int v3_0), .val (.int nb), .val (.int v5_0), .val (.int ca), .val (.int cb), .val (.int cc), .val (.int cd), .val (.int ce), .val (.int cf), .val (.ref r_12), .val (.ref r_21), .unset, .unset, .unset] [(.ref a80), (.ref b47), (.ref b47), (.ref r_12), (.ref aNAME), (.ref b31), (.ref b31)])
                refine Go.via (fun t k => XS.iloadN X80.here hx rfl (hb hby at_198) rfl k) ?_
                show Go p.tables e below P T80 (mkF m 199 #[.val (.int p1), .val (.int p2), .val (.int p3), .val (.int p4), .val (.int (0 : Int32)), .val (.ref aNAME), .val (.int na), .val (.int v3_0), .val (.int nb), .val (.int v5_0), .val (.int ca), .val (.int cb), .val (.int cc), .val (.int cd), .val (.int ce), .val (.int cf), .val (.ref r_12), .val (.ref r_21), .unset, .unset, .unset] [(.int p1), (.ref a80), (.ref b47), (.ref b47), (.ref r_12), (.ref aNAME), (.ref b31), (.ref b31)])
                have F91 : Fld Z h80 b47 "com/example/numeric_planner/numericplanner/rddl/Location" "file" "Ljava/lang/String;" .null := ((D47 (Or.inr (hw _ (List.mem_of_getElem? (i := 61) rfl))) (ty := (.object "java/lang/String")) (by decide) : Fld Z h47 b47 "com/example/numeric_planner/numericplanner/rddl/Location" "file" "Ljava/lang/String;" .null).ext E80)
                have F92 : Fld Z h80 b47 "com/example/numeric_planner/numericplanner/rddl/Location" "line" "I" (.int (0 : Int32)) := ((D47 (Or.inr (hw _ (List.mem_of_getElem? (i := 63) rfl))) (ty := .int) (by decide) : Fld Z h47 b47 "com/example/numeric_planner/numericplanner/rddl/Location" "line" "I" (.int (0 : Int32))).ext E80)
                have F93 : Exa Z h80 r_12 "java/lang/String" := (F68.ext E80)
                have F94 : Fld Z h80 r_12 "java/lang/String" "value" "[B" (.ref tb_12) := (F69.ext E80)
                have F95 : Fld Z h80 r_12 "java/lang/String" "coder" "B" (.int (0 : Int32)) := (F70.ext E80)
                have F96 : Arv Z h80 tb_12 kk_12 .byte (own_lg (own_mk na ca cb cc)) ((own_mk na ca cb cc).map Value.int) (.int (0 : Int32)) := (F71.ext E80)
                have F97 : Exa Z h80 r_21 "java/lang/String" := (F72.ext E80)
                have F98 : Fld Z h80 r_21 "java/lang/String" "value" "[B" (.ref tb_21) := (F73.ext E80)
                have F99 : Fld Z h80 r_21 "java/lang/String" "coder" "B" (.int (0 : Int32)) := (F74.ext E80)
                have F100 : Arv Z h80 tb_21 kk_21 .byte (own_lg (own_mk nb cd ce cf)) ((own_mk nb cd ce cf).map Value.int) (.int (0 : Int32)) := (F75.ext E80)
                have F101 : Fld Z h80 b31 "com/example/numeric_planner/numericplanner/rddl/Token" "kind" "Lcom/example/numeric_planner/numericplanner/rddl/Token$Kind;" .null := (F77.ext E80)
                have F102 : Fld Z h80 b31 "com/example/numeric_planner/numericplanner/rddl/Token" "text" "Ljava/lang/String;" .null := (F78.ext E80)
                have F103 : Fld Z h80 b31 "com/example/numeric_planner/numericplanner/rddl/Token" "location" "Lcom/example/numeric_planner/numericplanner/rddl/Location;" .null := (F79.ext E80)
                obtain ⟨_, _, ⟨T104, L104, k104, n104⟩, -, X104, ⟨Lc104, hQ104, l104, y104, z104⟩, st104⟩ := X80.specialBack hx (y := (⟨"com/example/numeric_planner/numericplanner/rddl/Location", "<init>", "(Ljava/lang/String;I)V"⟩ : MethodName)) rfl hown (mvT hZ (hw _ (List.mem_of_getElem? (i := 51) rfl))) (mvT hZ (hw _ (List.mem_of_getElem? (i := 52) rfl))) (mvT hZ (hw _ (List.mem_of_getElem? (i := 53) rfl))) (by decide) (backOf (W := 5) (rm9 l Z a0 hw [] b47 a80 p1 h80 n0 Z82 F88 F91 F92 g61) hZ (hw _ (List.mem_of_getElem? (i := 53) rfl)) (hw _ (List.mem_of_getElem? (i := 49) rfl)) (by decide) (by decide)) (g := (mkF m 199 #[.val (.int p1), .val (.int p2), .val (.int p3), .val (.int p4), .val (.int (0 : Int32)), .val (.ref aNAME), .val (.int na), .val (.int v3_0), .val (.int nb), .val (.int v5_0), .val (.int ca), .val (.int cb), .val (.int cc), .val (.int cd), .val (.int ce), .val (.int cf), .val (.ref r_12), .val (.ref r_21), .unset, .unset, .unset] [(.int p1), (.ref a80), (.ref b47), (.ref b47), (.ref r_12), (.ref aNAME), (.ref b31), (.ref b31)])) rfl (by rw [hml]; rfl) (Steps.refl _) (a := b47) (argsL := [(.ref a80), (.int p1)]) (rest := [(.ref b47), (.ref r_12), (.ref aNAME), (.ref b31), (.ref b31)]) (lenOf own_pd7 rfl) rfl (by show 2 * 0 + _ ≤ _; exact Nat.le_of_eq rfl) (hb hby at_199) (fun _ _ => ⟨rfl, e80, (by decide : 16 + 0 ≤ _), (by decide : 37 + 0 ≤ _)⟩)
                dsimp only [Pt.U, Pt.locs, Pt.cells, Pt.slots] at X104 l104 y104 z104 st104 hQ104
                subst l104 y104 z104
                obtain ⟨rfl, Nq104, K104, u104_0⟩ := hQ104
                obtain ⟨lc104, Xh104, N104⟩ := own_hide X104 (Fr.app N21 Nq104)
                clear X104
                refine Go.hop st104 ?_
                have Z105 : n0 ≤ T104.heap.size := Nat.le_trans Z82 K104.1
                have K106 : Keep h0 T104.heap [] := K83.trans K104 (own_allC (Or.inr sz62) own_all0)
                have CR107 := CHr.trans CR81 (CHr.keep K104 (sfS (Safe.exa hZ.alike F88 (by decide) (by decide)) sf0) CR81.1)
                have hk108 := Nat.le_trans hk80 K104.1
                have O109 : Old Z n0 T104.heap := O84.keep K104 (own_allC g61 own_all0)
                show Go p.tables e below P T104 (mkF m 202 #[.val (.int p1), .val (.int p2), .val (.int p3), .val (.int p4), .val (.int (0 : Int32)), .val (.ref aNAME), .val (.int na), .val (.int v3_0), .val (.int nb), .val (.int v5_0), .val (.int ca), .val (.int cb), .val (.int cc), .val (.int cd), .val (.int ce), .val (.int cf), .val (.ref r_12), .val (.ref r_21), .unset, .unset, .unset] [(.ref b47), (.ref r_12), (.ref aNAME), (.ref b31), (.ref b31)])
                have F110 : Exa Z T104.heap b31 "com/example/numeric_planner/numericplanner/rddl/Token" := (F85.keep K104)
                have F111 : Fld Z T104.heap b31 "com/example/numeric_planner/numericplanner/rddl/Token" "kind" "Lcom/example/numeric_planner/numericplanner/rddl/Token$Kind;" .null := (F101.keep K104 (own_ninC ne60 own_nin0))
                have F112 : Fld Z T104.heap b31 "com/example/numeric_planner/numericplanner/rddl/Token" "text" "Ljava/lang/String;" .null := (F102.keep K104 (own_ninC ne60 own_nin0))
                have F113 : Fld Z T104.heap b31 "com/example/numeric_planner/numericplanner/rddl/Token" "location" "Lcom/example/numeric_planner/numericplanner/rddl/Location;" .null := (F103.keep K104 (own_ninC ne60 own_nin0))
                have F114 : Exa Z T104.heap r_12 "java/lang/String" := (F93.keep K104)
                have F115 : Fld Z T104.heap r_12 "java/lang/String" "value" "[B" (.ref tb_12) := (F94.keep K104 (own_ninC ne56 own_nin0))
                have F116 : Fld Z T104.heap r_12 "java/lang/String" "coder" "B" (.int (0 : Int32)) := (F95.keep K104 (own_ninC ne56 own_nin0))
                have F117 : Arv Z T104.heap tb_12 kk_12 .byte (own_lg (own_mk na ca cb cc)) ((own_mk na ca cb cc).map Value.int) (.int (0 : Int32)) := (F96.keep K104 (own_ninC ne57 own_nin0))
                have F118 : Exa Z T104.heap r_21 "java/lang/String" := (F97.keep K104)
                have F119 : Fld Z T104.heap r_21 "java/lang/String" "value" "[B" (.ref tb_21) := (F98.keep K104 (own_ninC ne58 own_nin0))
                have F120 : Fld Z T104.heap r_21 "java/lang/String" "coder" "B" (.int (0 : Int32)) := (F99.keep K104 (own_ninC ne58 own_nin0))
                have F121 : Arv Z T104.heap tb_21 kk_21 .byte (own_lg (own_mk nb cd ce cf)) ((own_mk nb cd ce cf).map Value.int) (.int (0 : Int32)) := (F100.keep K104 (own_ninC ne59 own_nin0))
                have F122 : Exa Z T104.heap a80 "java/lang/String" := (Ex80.keep K104)
                have F123 : Fld Z T104.heap a80 "java/lang/String" "coder" "B" (.int (0 : Int32)) := (Fc80.keep K104 (own_ninC (Ne.symm nq89) own_nin0))
                have F124 : Fld Z T104.heap a80 "java/lang/String" "value" "[B" (.ref b80) := (Fv80.keep K104 (own_ninC (Ne.symm nq89) own_nin0))
                have F125 : Arv Z T104.heap b80 kb80 .byte (1 : Int32) [(.int (102 : Int32))] (.int (0 : Int32)) := (Va80.keep K104 (own_ninC (Ne.symm nq90) own_nin0))
                obtain ⟨_, _, ⟨T126, L126, k126, n126⟩, -, X126, ⟨Lc126, hQ126, l126, y126, z126⟩, st126⟩ := Xh104.specialBack hx (y := (⟨"com/example/numeric_planner/numericplanner/rddl/Token", "<init>", "(Lcom/example/numeric_planner/numericplanner/rddl/Token$Kind;Ljava/lang/String;Lcom/example/numeric_planner/numericplanner/rddl/Location;)V"⟩ : MethodName)) rfl hown (mvT hZ (hw _ (List.mem_of_getElem? (i := 64) rfl))) (mvT hZ (hw _ (List.mem_of_getElem? (i := 65) rfl))) (mvT hZ (hw _ (List.mem_of_getElem? (i := 66) rfl))) (by decide) (backOf (W := 1) (rm11 l Z a0 hw [] b31 aNAME r_12 b47 T104.heap n0 Z105 F110 F111 F112 F113 g40) hZ (hw _ (List.mem_of_getElem? (i := 66) rfl)) (hw _ (List.mem_of_getElem? (i := 46) rfl)) (by decide) (by decide)) (g := (mkF m 202 #[.val (.int p1), .val (.int p2), .val (.int p3), .val (.int p4), .val (.int (0 : Int32)), .val (.ref aNAME), .val (.int na), .val (.int v3_0), .val (.int nb), .val (.int v5_0), .val (.int ca), .val (.int cb), .val (.int cc), .val (.int cd), .val (.int ce), .val (.int cf), .val (.ref r_12), .val (.ref r_21), .unset, .unset, .unset] [(.ref b47), (.ref r_12), (.ref aNAME), (.ref b31), (.ref b31)])) rfl (by rw [hml]; rfl) (Steps.refl _) (a := b31) (argsL := [(.ref aNAME), (.ref r_12), (.ref b47)]) (rest := [(.ref b31)]) (lenOf own_pd8 rfl) rfl (by show 2 * 0 + _ ≤ _; exact Nat.le_of_eq rfl) (hb hby at_202) (fun _ _ => ⟨rfl, rfl, (by decide : 16 + 0 ≤ _), (by decide : 37 + 0 ≤ _)⟩)
                dsimp only [Pt.U, Pt.locs, Pt.cells, Pt.slots] at X126 l126 y126 z126 st126 hQ126
                subst l126 y126 z126
                obtain ⟨rfl, Nq126, K126, u126_0, u126_1, u126_2, u126_3⟩ := hQ126
                obtain ⟨lc126, Xh126, N126⟩ := own_hide X126 (Fr.app N104 Nq126)
                clear X126
                refine Go.hop st126 ?_
                have Z127 : n0 ≤ T126.heap.size := Nat.le_trans Z105 K126.1
                have K128 : Keep h0 T126.heap [] := K106.trans K126 (own_allC (Or.inr sz41) own_all0)
                have CR129 := CHr.trans CR107 (CHr.keep K126 (sfS (Safe.exa hZ.alike F110 (by decide) (by decide)) sf0) CR107.1)
                have hk130 := Nat.le_trans hk108 K126.1
                have O131 : Old Z n0 T126.heap := O109.keep K126 (own_allC g40 own_all0)
                show Go p.tables e below P T126 (mkF m 205 #[.val (.int p1), .val (.int p2), .val (.int p3), .val (.int p4), .val (.int (0 : Int32)), .val (.ref aNAME), .val (.int na), .val (.int v3_0), .val (.int nb), .val (.int v5_0), .val (.int ca), .val (.int cb), .val (.int cc), .val (.int cd), .val (.int ce), .val (.int cf), .val (.ref r_12), .val (.ref r_21), .unset, .unset, .unset] [(.ref b31)])
                refine Go.via (fun t k => XS.astore Xh126.here hx rfl (hb hby at_205) rfl rfl (l' := #[.val (.int p1), .val (.int p2), .val (.int p3), .val (.int p4), .val (.int (0 : Int32)), .val (.ref aNAME), .val (.int na), .val (.int v3_0), .val (.int nb), .val (.int v5_0), .val (.int ca), .val (.int cb), .val (.int cc), .val (.int cd), .val (.int ce), .val (.int cf), .val (.ref r_12), .val (.ref r_21), .val (.ref b31), .unset, .unset]) rfl k) ?_
                refine Go.via (fun t k => XS.iload Xh126.here hx rfl (hb hby at_207) rfl k) ?_
                refine Go.via (fun t k => XS.iload Xh126.here hx rfl (hb hby at_209) rfl k) ?_
                show Go p.tables e below P T126 (mkF m 211 #[.val (.int p1), .val (.int p2), .val (.int p3), .val (.int p4), .val (.int (0 : Int32)), .val (.ref aNAME), .val (.int na), .val (.int v3_0), .val (.int nb), .val (.int v5_0), .val (.int ca), .val (.int cb), .val (.int cc), .val (.int cd), .val (.int ce), .val (.int cf), .val (.ref r_12), .val (.ref r_21), .val (.ref b31), .unset, .unset] [(.int nb), (.int na)])
                have LP133 : ∀ (T133 : State) (locs133 : List Loc) (ev : Int32), Stand p l e room_1 (s.setVm T80.vm) m #[(.int p1), (.int p2), (.int p3), (.int p4)] below meth c T133 locs133 16 37 → T133.heap = T126.heap → Fr n0 locs133 → ev = (if own_mk na ca cb cc = own_mk nb cd ce cf then (1 : Int32) else (0 : Int32)) → Go p.tables e below P T133 (mkF m 258 #[.val (.int p1), .val (.int p2), .val (.int p3), .val (.int p4), .val (.int (0 : Int32)), .val (.ref aNAME), .val (.int na), .val (.int v3_0), .val (.int nb), .val (.int v5_0), .val (.int ca), .val (.int cb), .val (.int cc), .val (.int cd), .val (.int ce), .val (.int cf), .val (.ref r_12), .val (.ref r_21), .val (.ref b31), .unset, .unset] [(.int ev)]) := by
                  intro T133 locs133 ev X133 e133 N133 hev
                  show Go p.tables e below P T133 (mkF m 258 #[.val (.int p1), .val (.int p2), .val (.int p3), .val (.int p4), .val (.int (0 : Int32)), .val (.ref aNAME), .val (.int na), .val (.int v3_0), .val (.int nb), .val (.int v5_0), .val (.int ca), .val (.int cb), .val (.int cc), .val (.int cd), .val (.int ce), .val (.int cf), .val (.ref r_12), .val (.ref r_21), .val (.ref b31), .unset, .unset] [(.int ev)])
                  refine Go.via (fun t k => XS.istore X133.here hx rfl (hb hby at_258) rfl (l' := #[.val (.int p1), .val (.int p2), .val (.int p3), .val (.int p4), .val (.int (0 : Int32)), .val (.ref aNAME), .val (.int na), .val (.int v3_0), .val (.int nb), .val (.int v5_0), .val (.int ca), .val (.int cb), .val (.int cc), .val (.int cd), .val (.int ce), .val (.int cf), .val (.ref r_12), .val (.ref r_21), .val (.ref b31), .val (.int ev), .unset]) rfl k) ?_
                  refine Go.via (fun t k => XS.iload X133.here hx rfl (hb hby at_260) rfl k) ?_
                  show Go p.tables e below P T133 (mkF m 262 #[.val (.int p1), .val (.int p2), .val (.int p3), .val (.int p4), .val (.int (0 : Int32)), .val (.ref aNAME), .val (.int na), .val (.int v3_0), .val (.int nb), .val (.int v5_0), .val (.int ca), .val (.int cb), .val (.int cc), .val (.int cd), .val (.int ce), .val (.int cf), .val (.ref r_12), .val (.ref r_21), .val (.ref b31), .val (.int ev), .unset] [(.int (0 : Int32))])
                  refine Go.via (fun t k => XS.ifYes X133.here hx rfl (pc0 := 262) (pc' := 271) rfl (hb hby at_262) rfl ((if0 _ _).trans (teq (rfl : (0 : Int32) = (0 : Int32))).1) (by decide) (by decide) k) ?_
                  show Go p.tables e below P T133 (mkF m 271 #[.val (.int p1), .val (.int p2), .val (.int p3), .val (.int p4), .val (.int (0 : Int32)), .val (.ref aNAME), .val (.int na), .val (.int v3_0), .val (.int nb), .val (.int v5_0), .val (.int ca), .val (.int cb), .val (.int cc), .val (.int cd), .val (.int ce), .val (.int cf), .val (.ref r_12), .val (.ref r_21), .val (.ref b31), .val (.int ev), .unset] [])
                  refine Go.via (fun t k => XS.iload X133.here hx rfl (hb hby at_271) rfl k) ?_
                  show Go p.tables e below P T133 (mkF m 273 #[.val (.int p1), .val (.int p2), .val (.int p3), .val (.int p4), .val (.int (0 : Int32)), .val (.ref aNAME), .val (.int na), .val (.int v3_0), .val (.int nb), .val (.int v5_0), .val (.int ca), .val (.int cb), .val (.int cc), .val (.int cd), .val (.int ce), .val (.int cf), .val (.ref r_12), .val (.ref r_21), .val (.ref b31), .val (.int ev), .unset] [(.int v5_0)])
                  refine Go.via (fun t k => XS.ifNo X133.here hx rfl (hb hby at_273) rfl ((if0 _ _).trans (teq hc20).2) k) ?_
                  show Go p.tables e below P T133 (mkF m 276 #[.val (.int p1), .val (.int p2), .val (.int p3), .val (.int p4), .val (.int (0 : Int32)), .val (.ref aNAME), .val (.int na), .val (.int v3_0), .val (.int nb), .val (.int v5_0), .val (.int ca), .val (.int cb), .val (.int cc), .val (.int cd), .val (.int ce), .val (.int cf), .val (.ref r_12), .val (.ref r_21), .val (.ref b31), .val (.int ev), .unset] [])
                  refine Go.via (fun t k => XS.iload X133.here hx rfl (hb hby at_276) rfl k) ?_
                  show Go p.tables e below P T133 (mkF m 278 #[.val (.int p1), .val (.int p2), .val (.int p3), .val (.int p4), .val (.int (0 : Int32)), .val (.ref aNAME), .val (.int na), .val (.int v3_0), .val (.int nb), .val (.int v5_0), .val (.int ca), .val (.int cb), .val (.int cc), .val (.int cd), .val (.int ce), .val (.int cf), .val (.ref r_12), .val (.ref r_21), .val (.ref b31), .val (.int ev), .unset] [(.int ev)])
                  by_cases hc134 : ev = (0 : Int32)
                  · refine Go.via (fun t k => XS.ifYes X133.here hx rfl (pc0 := 278) (pc' := 285) rfl (hb hby at_278) rfl ((if0 _ _).trans (teq hc134).1) (by decide) (by decide) k) ?_
                    show Go p.tables e below P T133 (mkF m 285 #[.val (.int p1), .val (.int p2), .val (.int p3), .val (.int p4), .val (.int (0 : Int32)), .val (.ref aNAME), .val (.int na), .val (.int v3_0), .val (.int nb), .val (.int v5_0), .val (.int ca), .val (.int cb), .val (.int cc), .val (.int cd), .val (.int ce), .val (.int cf), .val (.ref r_12), .val (.ref r_21), .val (.ref b31), .val (.int ev), .unset] [])
                    refine Go.via (fun t k => XS.iconst X133.here hx rfl (hb hby at_285) k) ?_
                    refine Go.via (fun t k => XS.istore X133.here hx rfl (hb hby at_286) rfl (l' := #[.val (.int p1), .val (.int p2), .val (.int p3), .val (.int p4), .val (.int (0 : Int32)), .val (.ref aNAME), .val (.int na), .val (.int v3_0), .val (.int nb), .val (.int v5_0), .val (.int ca), .val (.int cb), .val (.int cc), .val (.int cd), .val (.int ce), .val (.int cf), .val (.ref r_12), .val (.ref r_21), .val (.ref b31), .val (.int ev), .val (.int (0 : Int32))]) rfl k) ?_
                    refine Go.via (fun t k => XS.aload X133.here hx rfl (hb hby at_288) rfl rfl k) ?_
                    show Go p.tables e below P T133 (mkF m 290 #[.val (.int p1), .val (.int p2), .val (.int p3), .val (.int p4), .val (.int (0 : Int32)), .val (.ref aNAME), .val (.int na), .val (.int v3_0), .val (.int nb), .val (.int v5_0), .val (.int ca), .val (.int cb), .val (.int cc), .val (.int cd), .val (.int ce), .val (.int cf), .val (.ref r_12), .val (.ref r_21), .val (.ref b31), .val (.int ev), .val (.int (0 : Int32))] [(.ref b31)])
                    refine Go.via (fun t k => XS.aload X133.here hx rfl (hb hby at_290) rfl rfl k) ?_
                    show Go p.tables e below P T133 (mkF m 292 #[.val (.int p1), .val (.int p2), .val (.int p3), .val (.int p4), .val (.int (0 : Int32)), .val (.ref aNAME), .val (.int na), .val (.int v3_0), .val (.int nb), .val (.int v5_0), .val (.int ca), .val (.int cb), .val (.int cc), .val (.int cd), .val (.int ce), .val (.int cf), .val (.ref r_12), .val (.ref r_21), .val (.ref b31), .val (.int ev), .val (.int (0 : Int32))] [(.ref r_21), (.ref b31)])
                    have F135 : Exa Z T126.heap r_12 "java/lang/String" := (F114.keep K126)
                    have F136 : Fld Z T126.heap r_12 "java/lang/String" "value" "[B" (.ref tb_12) := (F115.keep K126 (own_ninC ne36 own_nin0))
                    have F137 : Fld Z T126.heap r_12 "java/lang/String" "coder" "B" (.int (0 : Int32)) := (F116.keep K126 (own_ninC ne36 own_nin0))
                    have F138 : Arv Z T126.heap tb_12 kk_12 .byte (own_lg (own_mk na ca cb cc)) ((own_mk na ca cb cc).map Value.int) (.int (0 : Int32)) := (F117.keep K126 (own_ninC ne37 own_nin0))
                    have F139 : Exa Z T126.heap r_21 "java/lang/String" := (F118.keep K126)
                    have F140 : Fld Z T126.heap r_21 "java/lang/String" "value" "[B" (.ref tb_21) := (F119.keep K126 (own_ninC ne38 own_nin0))
                    have F141 : Fld Z T126.heap r_21 "java/lang/String" "coder" "B" (.int (0 : Int32)) := (F120.keep K126 (own_ninC ne38 own_nin0))
                    have F142 : Arv Z T126.heap tb_21 kk_21 .byte (own_lg (own_mk nb cd ce cf)) ((own_mk nb cd ce cf).map Value.int) (.int (0 : Int32)) := (F121.keep K126 (own_ninC ne39 own_nin0))
                    have F143 : Exa Z T126.heap b47 "com/example/numeric_planner/numericplanner/rddl/Location" := (u104_0.keep K126)
                    have F144 : Exa Z T126.heap a80 "java/lang/String" := (F122.keep K126)
                    have F145 : Fld Z T126.heap a80 "java/lang/String" "coder" "B" (.int (0 : Int32)) := (F123.keep K126 (own_ninC (Ne.symm nq86) own_nin0))
                    have F146 : Fld Z T126.heap a80 "java/lang/String" "value" "[B" (.ref b80) := (F124.keep K126 (own_ninC (Ne.symm nq86) own_nin0))
                    have F147 : Arv Z T126.heap b80 kb80 .byte (1 : Int32) [(.int (102 : Int32))] (.int (0 : Int32)) := (F125.keep K126 (own_ninC (Ne.symm nq87) own_nin0))
                    obtain ⟨cq148, kq148, q148a, q148b, q148c⟩ := isOf hZ e133 u126_0
                    obtain ⟨_, _, ⟨T148, L148, k148, n148⟩, -, X148, ⟨Lc148, hQ148, l148, y148, z148⟩, st148⟩ := X133.virtualBack hx (y := (⟨"com/example/numeric_planner/numericplanner/rddl/Token", "is", "(Ljava/lang/String;)Z"⟩ : MethodName)) (z := (⟨"com/example/numeric_planner/numericplanner/rddl/Token", "is", "(Ljava/lang/String;)Z"⟩ : MethodName)) hown (mvT hZ (hw _ (List.mem_of_getElem? (i := 74) rfl))) (mvT hZ (hw _ (List.mem_of_getElem? (i := 75) rfl))) (notFace_of_selects (args := #[]) (mvT hZ (hw _ (List.mem_of_getElem? (i := 77) rfl)))) (mvT hZ (hw _ (List.mem_of_getElem? (i := 77) rfl))) (mvT hZ (hw _ (List.mem_of_getElem? (i := 76) rfl))) (by decide) (backOf (W := 0) (rm12nr l Z a0 hw [] b31 aNAME aSYMBOL r_21 r_12 cs tb_12 tb_21 kk_12 kk_21 (own_mk na ca cb cc) (own_mk nb cd ce cf) T126.heap n0 Z127 O131 P3 P6 u126_1 nNS u126_2 F135 P1 (by first | assumption | decide | omega : ¬ cs = (0 : Int32)) F136 F137 F138 F139 F140 F141 F142 (own_mkl _ _ _ _) (own_mkl _ _ _ _) (fun q => absurd q ne23)) hZ (hw _ (List.mem_of_getElem? (i := 78) rfl)) (hw _ (List.mem_of_getElem? (i := 46) rfl)) (by decide) (by decide)) q148a q148c (g := (mkF m 292 #[.val (.int p1), .val (.int p2), .val (.int p3), .val (.int p4), .val (.int (0 : Int32)), .val (.ref aNAME), .val (.int na), .val (.int v3_0), .val (.int nb), .val (.int v5_0), .val (.int ca), .val (.int cb), .val (.int cc), .val (.int cd), .val (.int ce), .val (.int cf), .val (.ref r_12), .val (.ref r_21), .val (.ref b31), .val (.int ev), .val (.int (0 : Int32))] [(.ref r_21), (.ref b31)])) rfl (by rw [hml]; rfl) (Steps.refl _) (argsL := [(.ref r_21)]) (rest := []) (lenOf own_pd9 rfl) rfl (by show 2 * 0 + _ ≤ _; exact Nat.le_of_eq rfl) (hb hby at_292) (fun _ _ => ⟨rfl, e133, (by decide : 16 + 0 ≤ _), (by decide : 37 + 0 ≤ _)⟩)
                    dsimp only [Pt.U, Pt.locs, Pt.cells, Pt.slots] at X148 l148 y148 z148 st148 hQ148
                    subst l148 y148 z148
                    obtain ⟨rfl, Nq148, hh148⟩ := hQ148
                    obtain ⟨lc148, Xh148, N148⟩ := own_hide X148 (Fr.app N133 Nq148)
                    clear X148
                    refine Go.hop st148 ?_
                    show Go p.tables e below P T148 (mkF m 295 #[.val (.int p1), .val (.int p2), .val (.int p3), .val (.int p4), .val (.int (0 : Int32)), .val (.ref aNAME), .val (.int na), .val (.int v3_0), .val (.int nb), .val (.int v5_0), .val (.int ca), .val (.int cb), .val (.int cc), .val (.int cd), .val (.int ce), .val (.int cf), .val (.ref r_12), .val (.ref r_21), .val (.ref b31), .val (.int ev), .val (.int (0 : Int32))] [(.int (if (own_mk na ca cb cc) = (own_mk nb cd ce cf) then (1 : Int32) else (0 : Int32)))])
                    refine Go.via (fun t k => XS.iload Xh148.here hx rfl (hb hby at_295) rfl k) ?_
                    show Go p.tables e below P T148 (mkF m 297 #[.val (.int p1), .val (.int p2), .val (.int p3), .val (.int p4), .val (.int (0 : Int32)), .val (.ref aNAME), .val (.int na), .val (.int v3_0), .val (.int nb), .val (.int v5_0), .val (.int ca), .val (.int cb), .val (.int cc), .val (.int cd), .val (.int ce), .val (.int cf), .val (.ref r_12), .val (.ref r_21), .val (.ref b31), .val (.int ev), .val (.int (0 : Int32))] [(.int (0 : Int32)), (.int (if (own_mk na ca cb cc) = (own_mk nb cd ce cf) then (1 : Int32) else (0 : Int32)))])
                    refine Go.via (fun t k => XS.icmpNo Xh148.here hx rfl (hb hby at_297) rfl (teq (hev.symm.trans hc134)).2 k) ?_
                    show Go p.tables e below P T148 (mkF m 300 #[.val (.int p1), .val (.int p2), .val (.int p3), .val (.int p4), .val (.int (0 : Int32)), .val (.ref aNAME), .val (.int na), .val (.int v3_0), .val (.int nb), .val (.int v5_0), .val (.int ca), .val (.int cb), .val (.int cc), .val (.int cd), .val (.int ce), .val (.int cf), .val (.ref r_12), .val (.ref r_21), .val (.ref b31), .val (.int ev), .val (.int (0 : Int32))] [])
                    refine Go.via (fun t k => XS.iconst Xh148.here hx rfl (hb hby at_300) k) ?_
                    refine Go.via (fun t k => XS.goto Xh148.here hx rfl (pc0 := 301) (pc' := 305) rfl (hb hby at_301) (by decide) (by decide) k) ?_
                    show Go p.tables e below P T148 (mkF m 305 #[.val (.int p1), .val (.int p2), .val (.int p3), .val (.int p4), .val (.int (0 : Int32)), .val (.ref aNAME), .val (.int na), .val (.int v3_0), .val (.int nb), .val (.int v5_0), .val (.int ca), .val (.int cb), .val (.int cc), .val (.int cd), .val (.int ce), .val (.int cf), .val (.ref r_12), .val (.ref r_21), .val (.ref b31), .val (.int ev), .val (.int (0 : Int32))] [(.int (1 : Int32))])
                    obtain ⟨fs, hr, hrun, hended, hend⟩ := Xh148.leaveW hS80 (by rw [hh148]; exact hk130) (v := some (.int (1 : Int32))) (fun h => by rw [Bd.returns] at h; cases h)
                    have hCf : CHr Z consts_1 s.vm s.heap (T148.setFrames fs).vm (T148.setFrames fs).heap := by
                      rw [hh]
                      show CHr Z consts_1 s.vm h0 T148.vm T148.heap
                      rw [hh148]
                      exact CHr.trans CR129 (CHv.at Xh148 hZ (own_EW hw) CR129.1)
                    refine ⟨_, _, retZ Xh148 hx (t := .boolean) Bd.returns (by simp) (hb hby at_305) rfl hr, hrun, hended, hP _ _ ⟨_, _, rfl, ?_, hCf, own_rew hend (by decide) (by decide)⟩⟩
                    show Q0 Z p1 p2 p3 p4 cs aNAME aPRIMED_NAME aNUMBER aSYMBOL aINVALID aEND h0 n0 _ T148.heap _
                    rw [hh148]
                    exact ⟨rfl, N148⟩
                  · refine Go.via (fun t k => XS.ifNo X133.here hx rfl (hb hby at_278) rfl ((if0 _ _).trans (feq hc134).1) k) ?_
                    show Go p.tables e below P T133 (mkF m 281 #[.val (.int p1), .val (.int p2), .val (.int p3), .val (.int p4), .val (.int (0 : Int32)), .val (.ref aNAME), .val (.int na), .val (.int v3_0), .val (.int nb), .val (.int v5_0), .val (.int ca), .val (.int cb), .val (.int cc), .val (.int cd), .val (.int ce), .val (.int cf), .val (.ref r_12), .val (.ref r_21), .val (.ref b31), .val (.int ev), .unset] [])
                    refine Go.via (fun t k => XS.iconst X133.here hx rfl (hb hby at_281) k) ?_
                    refine Go.via (fun t k => XS.goto X133.here hx rfl (pc0 := 282) (pc' := 286) rfl (hb hby at_282) (by decide) (by decide) k) ?_
                    refine Go.via (fun t k => XS.istore X133.here hx rfl (hb hby at_286) rfl (l' := #[.val (.int p1), .val (.int p2), .val (.int p3), .val (.int p4), .val (.int (0 : Int32)), .val (.ref aNAME), .val (.int na), .val (.int v3_0), .val (.int nb), .val (.int v5_0), .val (.int ca), .val (.int cb), .val (.int cc), .val (.int cd), .val (.int ce), .val (.int cf), .val (.ref r_12), .val (.ref r_21), .val (.ref b31), .val (.int ev), .val (.int (1 : Int32))]) rfl k) ?_
                    show Go p.tables e below P T133 (mkF m 288 #[.val (.int p1), .val (.int p2), .val (.int p3), .val (.int p4), .val (.int (0 : Int32)), .val (.ref aNAME), .val (.int na), .val (.int v3_0), .val (.int nb), .val (.int v5_0), .val (.int ca), .val (.int cb), .val (.int cc), .val (.int cd), .val (.int ce), .val (.int cf), .val (.ref r_12), .val (.ref r_21), .val (.ref b31), .val (.int ev), .val (.int (1 : Int32))] [])
                    refine Go.via (fun t k => XS.aload X133.here hx rfl (hb hby at_288) rfl rfl k) ?_
                    refine Go.via (fun t k => XS.aload X133.here hx rfl (hb hby at_290) rfl rfl k) ?_
                    show Go p.tables e below P T133 (mkF m 292 #[.val (.int p1), .val (.int p2), .val (.int p3), .val (.int p4), .val (.int (0 : Int32)), .val (.ref aNAME), .val (.int na), .val (.int v3_0), .val (.int nb), .val (.int v5_0), .val (.int ca), .val (.int cb), .val (.int cc), .val (.int cd), .val (.int ce), .val (.int cf), .val (.ref r_12), .val (.ref r_21), .val (.ref b31), .val (.int ev), .val (.int (1 : Int32))] [(.ref r_21), (.ref b31)])
                    have F150 : Exa Z T126.heap r_12 "java/lang/String" := (F114.keep K126)
                    have F151 : Fld Z T126.heap r_12 "java/lang/String" "value" "[B" (.ref tb_12) := (F115.keep K126 (own_ninC ne36 own_nin0))
                    have F152 : Fld Z T126.heap r_12 "java/lang/String" "coder" "B" (.int (0 : Int32)) := (F116.keep K126 (own_ninC ne36 own_nin0))
                    have F153 : Arv Z T126.heap tb_12 kk_12 .byte (own_lg (own_mk na ca cb cc)) ((own_mk na ca cb cc).map Value.int) (.int (0 : Int32)) := (F117.keep K126 (own_ninC ne37 own_nin0))
                    have F154 : Exa Z T126.heap r_21 "java/lang/String" := (F118.keep K126)
                    have F155 : Fld Z T126.heap r_21 "java/lang/String" "value" "[B" (.ref tb_21) := (F119.keep K126 (own_ninC ne38 own_nin0))
                    have F156 : Fld Z T126.heap r_21 "java/lang/String" "coder" "B" (.int (0 : Int32)) := (F120.keep K126 (own_ninC ne38 own_nin0))
                    have F157 : Arv Z T126.heap tb_21 kk_21 .byte (own_lg (own_mk nb cd ce cf)) ((own_mk nb cd ce cf).map Value.int) (.int (0 : Int32)) := (F121.keep K126 (own_ninC ne39 own_nin0))
                    have F158 : Exa Z T126.heap b47 "com/example/numeric_planner/numericplanner/rddl/Location" := (u104_0.keep K126)
                    have F159 : Exa Z T126.heap a80 "java/lang/String" := (F122.keep K126)
                    have F160 : Fld Z T126.heap a80 "java/lang/String" "coder" "B" (.int (0 : Int32)) := (F123.keep K126 (own_ninC (Ne.symm nq86) own_nin0))
                    have F161 : Fld Z T126.heap a80 "java/lang/String" "value" "[B" (.ref b80) := (F124.keep K126 (own_ninC (Ne.symm nq86) own_nin0))
                    have F162 : Arv Z T126.heap b80 kb80 .byte (1 : Int32) [(.int (102 : Int32))] (.int (0 : Int32)) := (F125.keep K126 (own_ninC (Ne.symm nq87) own_nin0))
                    obtain ⟨cq163, kq163, q163a, q163b, q163c⟩ := isOf hZ e133 u126_0
                    obtain ⟨_, _, ⟨T163, L163, k163, n163⟩, -, X163, ⟨Lc163, hQ163, l163, y163, z163⟩, st163⟩ := X133.virtualBack hx (y := (⟨"com/example/numeric_planner/numericplanner/rddl/Token", "is", "(Ljava/lang/String;)Z"⟩ : MethodName)) (z := (⟨"com/example/numeric_planner/numericplanner/rddl/Token", "is", "(Ljava/lang/String;)Z"⟩ : MethodName)) hown (mvT hZ (hw _ (List.mem_of_getElem? (i := 74) rfl))) (mvT hZ (hw _ (List.mem_of_getElem? (i := 75) rfl))) (notFace_of_selects (args := #[]) (mvT hZ (hw _ (List.mem_of_getElem? (i := 77) rfl)))) (mvT hZ (hw _ (List.mem_of_getElem? (i := 77) rfl))) (mvT hZ (hw _ (List.mem_of_getElem? (i := 76) rfl))) (by decide) (backOf (W := 0) (rm12nr l Z a0 hw [] b31 aNAME aSYMBOL r_21 r_12 cs tb_12 tb_21 kk_12 kk_21 (own_mk na ca cb cc) (own_mk nb cd ce cf) T126.heap n0 Z127 O131 P3 P6 u126_1 nNS u126_2 F150 P1 (by first | assumption | decide | omega : ¬ cs = (0 : Int32)) F151 F152 F153 F154 F155 F156 F157 (own_mkl _ _ _ _) (own_mkl _ _ _ _) (fun q => absurd q ne23)) hZ (hw _ (List.mem_of_getElem? (i := 78) rfl)) (hw _ (List.mem_of_getElem? (i := 46) rfl)) (by decide) (by decide)) q163a q163c (g := (mkF m 292 #[.val (.int p1), .val (.int p2), .val (.int p3), .val (.int p4), .val (.int (0 : Int32)), .val (.ref aNAME), .val (.int na), .val (.int v3_0), .val (.int nb), .val (.int v5_0), .val (.int ca), .val (.int cb), .val (.int cc), .val (.int cd), .val (.int ce), .val (.int cf), .val (.ref r_12), .val (.ref r_21), .val (.ref b31), .val (.int ev), .val (.int (1 : Int32))] [(.ref r_21), (.ref b31)])) rfl (by rw [hml]; rfl) (Steps.refl _) (argsL := [(.ref r_21)]) (rest := []) (lenOf own_pd9 rfl) rfl (by show 2 * 0 + _ ≤ _; exact Nat.le_of_eq rfl) (hb hby at_292) (fun _ _ => ⟨rfl, e133, (by decide : 16 + 0 ≤ _), (by decide : 37 + 0 ≤ _)⟩)
                    dsimp only [Pt.U, Pt.locs, Pt.cells, Pt.slots] at X163 l163 y163 z163 st163 hQ163
                    subst l163 y163 z163
                    obtain ⟨rfl, Nq163, hh163⟩ := hQ163
                    obtain ⟨lc163, Xh163, N163⟩ := own_hide X163 (Fr.app N133 Nq163)
                    clear X163
                    refine Go.hop st163 ?_
                    show Go p.tables e below P T163 (mkF m 295 #[.val (.int p1), .val (.int p2), .val (.int p3), .val (.int p4), .val (.int (0 : Int32)), .val (.ref aNAME), .val (.int na), .val (.int v3_0), .val (.int nb), .val (.int v5_0), .val (.int ca), .val (.int cb), .val (.int cc), .val (.int cd), .val (.int ce), .val (.int cf), .val (.ref r_12), .val (.ref r_21), .val (.ref b31), .val (.int ev), .val (.int (1 : Int32))] [(.int (if (own_mk na ca cb cc) = (own_mk nb cd ce cf) then (1 : Int32) else (0 : Int32)))])
                    refine Go.via (fun t k => XS.iload Xh163.here hx rfl (hb hby at_295) rfl k) ?_
                    show Go p.tables e below P T163 (mkF m 297 #[.val (.int p1), .val (.int p2), .val (.int p3), .val (.int p4), .val (.int (0 : Int32)), .val (.ref aNAME), .val (.int na), .val (.int v3_0), .val (.int nb), .val (.int v5_0), .val (.int ca), .val (.int cb), .val (.int cc), .val (.int cd), .val (.int ce), .val (.int cf), .val (.ref r_12), .val (.ref r_21), .val (.ref b31), .val (.int ev), .val (.int (1 : Int32))] [(.int (1 : Int32)), (.int (if (own_mk na ca cb cc) = (own_mk nb cd ce cf) then (1 : Int32) else (0 : Int32)))])
                    refine Go.via (fun t k => XS.icmpNo Xh163.here hx rfl (hb hby at_297) rfl (teq (if_pos (own_i1 (hev ▸ hc134)))).2 k) ?_
                    show Go p.tables e below P T163 (mkF m 300 #[.val (.int p1), .val (.int p2), .val (.int p3), .val (.int p4), .val (.int (0 : Int32)), .val (.ref aNAME), .val (.int na), .val (.int v3_0), .val (.int nb), .val (.int v5_0), .val (.int ca), .val (.int cb), .val (.int cc), .val (.int cd), .val (.int ce), .val (.int cf), .val (.ref r_12), .val (.ref r_21), .val (.ref b31), .val (.int ev), .val (.int (1 : Int32))] [])
                    refine Go.via (fun t k => XS.iconst Xh163.here hx rfl (hb hby at_300) k) ?_
                    refine Go.via (fun t k => XS.goto Xh163.here hx rfl (pc0 := 301) (pc' := 305) rfl (hb hby at_301) (by decide) (by decide) k) ?_
                    show Go p.tables e below P T163 (mkF m 305 #[.val (.int p1), .val (.int p2), .val (.int p3), .val (.int p4), .val (.int (0 : Int32)), .val (.ref aNAME), .val (.int na), .val (.int v3_0), .val (.int nb), .val (.int v5_0), .val (.int ca), .val (.int cb), .val (.int cc), .val (.int cd), .val (.int ce), .val (.int cf), .val (.ref r_12), .val (.ref r_21), .val (.ref b31), .val (.int ev), .val (.int (1 : Int32))] [(.int (1 : Int32))])
                    obtain ⟨fs, hr, hrun, hended, hend⟩ := Xh163.leaveW hS80 (by rw [hh163]; exact hk130) (v := some (.int (1 : Int32))) (fun h => by rw [Bd.returns] at h; cases h)
                    have hCf : CHr Z consts_1 s.vm s.heap (T163.setFrames fs).vm (T163.setFrames fs).heap := by
                      rw [hh]
                      show CHr Z consts_1 s.vm h0 T163.vm T163.heap
                      rw [hh163]
                      exact CHr.trans CR129 (CHv.at Xh163 hZ (own_EW hw) CR129.1)
                    refine ⟨_, _, retZ Xh163 hx (t := .boolean) Bd.returns (by simp) (hb hby at_305) rfl hr, hrun, hended, hP _ _ ⟨_, _, rfl, ?_, hCf, own_rew hend (by decide) (by decide)⟩⟩
                    show Q0 Z p1 p2 p3 p4 cs aNAME aPRIMED_NAME aNUMBER aSYMBOL aINVALID aEND h0 n0 _ T163.heap _
                    rw [hh163]
                    exact ⟨rfl, N163⟩
                by_cases hc132 : na = nb
                · refine Go.via (fun t k => XS.icmpNo Xh126.here hx rfl (hb hby at_211) rfl (teq hc132).2 k) ?_
                  show Go p.tables e below P T126 (mkF m 214 #[.val (.int p1), .val (.int p2), .val (.int p3), .val (.int p4), .val (.int (0 : Int32)), .val (.ref aNAME), .val (.int na), .val (.int v3_0), .val (.int nb), .val (.int v5_0), .val (.int ca), .val (.int cb), .val (.int cc), .val (.int cd), .val (.int ce), .val (.int cf), .val (.ref r_12), .val (.ref r_21), .val (.ref b31), .unset, .unset] [])
                  refine Go.via (fun t k => XS.iload Xh126.here hx rfl (hb hby at_214) rfl k) ?_
                  refine Go.via (fun t k => XS.iconst Xh126.here hx rfl (hb hby at_216) k) ?_
                  show Go p.tables e below P T126 (mkF m 217 #[.val (.int p1), .val (.int p2), .val (.int p3), .val (.int p4), .val (.int (0 : Int32)), .val (.ref aNAME), .val (.int na), .val (.int v3_0), .val (.int nb), .val (.int v5_0), .val (.int ca), .val (.int cb), .val (.int cc), .val (.int cd), .val (.int ce), .val (.int cf), .val (.ref r_12), .val (.ref r_21), .val (.ref b31), .unset, .unset] [(.int (1 : Int32)), (.int na)])
                  by_cases hc165 : na < (1 : Int32)
                  · refine Go.via (fun t k => XS.icmpYes Xh126.here hx rfl (pc0 := 217) (pc' := 227) rfl (hb hby at_217) rfl (tlt hc165).1 (by decide) (by decide) k) ?_
                    show Go p.tables e below P T126 (mkF m 227 #[.val (.int p1), .val (.int p2), .val (.int p3), .val (.int p4), .val (.int (0 : Int32)), .val (.ref aNAME), .val (.int na), .val (.int v3_0), .val (.int nb), .val (.int v5_0), .val (.int ca), .val (.int cb), .val (.int cc), .val (.int cd), .val (.int ce), .val (.int cf), .val (.ref r_12), .val (.ref r_21), .val (.ref b31), .unset, .unset] [])
                    refine Go.via (fun t k => XS.iload Xh126.here hx rfl (hb hby at_227) rfl k) ?_
                    refine Go.via (fun t k => XS.iconst Xh126.here hx rfl (hb hby at_229) k) ?_
                    show Go p.tables e below P T126 (mkF m 230 #[.val (.int p1), .val (.int p2), .val (.int p3), .val (.int p4), .val (.int (0 : Int32)), .val (.ref aNAME), .val (.int na), .val (.int v3_0), .val (.int nb), .val (.int v5_0), .val (.int ca), .val (.int cb), .val (.int cc), .val (.int cd), .val (.int ce), .val (.int cf), .val (.ref r_12), .val (.ref r_21), .val (.ref b31), .unset, .unset] [(.int (2 : Int32)), (.int na)])
                    by_cases hc166 : na < (2 : Int32)
                    · refine Go.via (fun t k => XS.icmpYes Xh126.here hx rfl (pc0 := 230) (pc' := 240) rfl (hb hby at_230) rfl (tlt hc166).1 (by decide) (by decide) k) ?_
                      show Go p.tables e below P T126 (mkF m 240 #[.val (.int p1), .val (.int p2), .val (.int p3), .val (.int p4), .val (.int (0 : Int32)), .val (.ref aNAME), .val (.int na), .val (.int v3_0), .val (.int nb), .val (.int v5_0), .val (.int ca), .val (.int cb), .val (.int cc), .val (.int cd), .val (.int ce), .val (.int cf), .val (.ref r_12), .val (.ref r_21), .val (.ref b31), .unset, .unset] [])
                      refine Go.via (fun t k => XS.iload Xh126.here hx rfl (hb hby at_240) rfl k) ?_
                      refine Go.via (fun t k => XS.iconst Xh126.here hx rfl (hb hby at_242) k) ?_
                      show Go p.tables e below P T126 (mkF m 243 #[.val (.int p1), .val (.int p2), .val (.int p3), .val (.int p4), .val (.int (0 : Int32)), .val (.ref aNAME), .val (.int na), .val (.int v3_0), .val (.int nb), .val (.int v5_0), .val (.int ca), .val (.int cb), .val (.int cc), .val (.int cd), .val (.int ce), .val (.int cf), .val (.ref r_12), .val (.ref r_21), .val (.ref b31), .unset, .unset] [(.int (3 : Int32)), (.int na)])
                      by_cases hc167 : na < (3 : Int32)
                      · refine Go.via (fun t k => XS.icmpYes Xh126.here hx rfl (pc0 := 243) (pc' := 253) rfl (hb hby at_243) rfl (tlt hc167).1 (by decide) (by decide) k) ?_
                        show Go p.tables e below P T126 (mkF m 253 #[.val (.int p1), .val (.int p2), .val (.int p3), .val (.int p4), .val (.int (0 : Int32)), .val (.ref aNAME), .val (.int na), .val (.int v3_0), .val (.int nb), .val (.int v5_0), .val (.int ca), .val (.int cb), .val (.int cc), .val (.int cd), .val (.int ce), .val (.int cf), .val (.ref r_12), .val (.ref r_21), .val (.ref b31), .unset, .unset] [])
                        refine Go.via (fun t k => XS.iconst Xh126.here hx rfl (hb hby at_253) k) ?_
                        refine Go.via (fun t k => XS.goto Xh126.here hx rfl (pc0 := 254) (pc' := 258) rfl (hb hby at_254) (by decide) (by decide) k) ?_
                        exact LP133 T126 _ (1 : Int32) Xh126 rfl N126 (if_pos (own_mke yna hc132 (Or.inl hc165) (Or.inl hc166) (Or.inl hc167))).symm
                      · refine Go.via (fun t k => XS.icmpNo Xh126.here hx rfl (hb hby at_243) rfl (flt hc167).1 k) ?_
                        show Go p.tables e below P T126 (mkF m 246 #[.val (.int p1), .val (.int p2), .val (.int p3), .val (.int p4), .val (.int (0 : Int32)), .val (.ref aNAME), .val (.int na), .val (.int v3_0), .val (.int nb), .val (.int v5_0), .val (.int ca), .val (.int cb), .val (.int cc), .val (.int cd), .val (.int ce), .val (.int cf), .val (.ref r_12), .val (.ref r_21), .val (.ref b31), .unset, .unset] [])
                        refine Go.via (fun t k => XS.iload Xh126.here hx rfl (hb hby at_246) rfl k) ?_
                        refine Go.via (fun t k => XS.iload Xh126.here hx rfl (hb hby at_248) rfl k) ?_
                        show Go p.tables e below P T126 (mkF m 250 #[.val (.int p1), .val (.int p2), .val (.int p3), .val (.int p4), .val (.int (0 : Int32)), .val (.ref aNAME), .val (.int na), .val (.int v3_0), .val (.int nb), .val (.int v5_0), .val (.int ca), .val (.int cb), .val (.int cc), .val (.int cd), .val (.int ce), .val (.int cf), .val (.ref r_12), .val (.ref r_21), .val (.ref b31), .unset, .unset] [(.int cf), (.int cc)])
                        by_cases hc168 : cc = cf
                        · refine Go.via (fun t k => XS.icmpNo Xh126.here hx rfl (hb hby at_250) rfl (teq hc168).2 k) ?_
                          show Go p.tables e below P T126 (mkF m 253 #[.val (.int p1), .val (.int p2), .val (.int p3), .val (.int p4), .val (.int (0 : Int32)), .val (.ref aNAME), .val (.int na), .val (.int v3_0), .val (.int nb), .val (.int v5_0), .val (.int ca), .val (.int cb), .val (.int cc), .val (.int cd), .val (.int ce), .val (.int cf), .val (.ref r_12), .val (.ref r_21), .val (.ref b31), .unset, .unset] [])
                          refine Go.via (fun t k => XS.iconst Xh126.here hx rfl (hb hby at_253) k) ?_
                          refine Go.via (fun t k => XS.goto Xh126.here hx rfl (pc0 := 254) (pc' := 258) rfl (hb hby at_254) (by decide) (by decide) k) ?_
                          exact LP133 T126 _ (1 : Int32) Xh126 rfl N126 (if_pos (own_mke yna hc132 (Or.inl hc165) (Or.inl hc166) (Or.inr hc168))).symm
                        · refine Go.via (fun t k => XS.icmpYes Xh126.here hx rfl (pc0 := 250) (pc' := 257) rfl (hb hby at_250) rfl (feq hc168).2 (by decide) (by decide) k) ?_
                          show Go p.tables e below P T126 (mkF m 257 #[.val (.int p1), .val (.int p2), .val (.int p3), .val (.int p4), .val (.int (0 : Int32)), .val (.ref aNAME), .val (.int na), .val (.int v3_0), .val (.int nb), .val (.int v5_0), .val (.int ca), .val (.int cb), .val (.int cc), .val (.int cd), .val (.int ce), .val (.int cf), .val (.ref r_12), .val (.ref r_21), .val (.ref b31), .unset, .unset] [])
                          refine Go.via (fun t k => XS.iconst Xh126.here hx rfl (hb hby at_257) k) ?_
                          exact LP133 T126 _ (0 : Int32) Xh126 rfl N126 (if_neg (fun q => hc168 (own_Binj ycc ycf (own_mk2 yna hc132 hc167 q)))).symm
                    · refine Go.via (fun t k => XS.icmpNo Xh126.here hx rfl (hb hby at_230) rfl (flt hc166).1 k) ?_
                      show Go p.tables e below P T126 (mkF m 233 #[.val (.int p1), .val (.int p2), .val (.int p3), .val (.int p4), .val (.int (0 : Int32)), .val (.ref aNAME), .val (.int na), .val (.int v3_0), .val (.int nb), .val (.int v5_0), .val (.int ca), .val (.int cb), .val (.int cc), .val (.int cd), .val (.int ce), .val (.int cf), .val (.ref r_12), .val (.ref r_21), .val (.ref b31), .unset, .unset] [])
                      refine Go.via (fun t k => XS.iload Xh126.here hx rfl (hb hby at_233) rfl k) ?_
                      refine Go.via (fun t k => XS.iload Xh126.here hx rfl (hb hby at_235) rfl k) ?_
                      show Go p.tables e below P T126 (mkF m 237 #[.val (.int p1), .val (.int p2), .val (.int p3), .val (.int p4), .val (.int (0 : Int32)), .val (.ref aNAME), .val (.int na), .val (.int v3_0), .val (.int nb), .val (.int v5_0), .val (.int ca), .val (.int cb), .val (.int cc), .val (.int cd), .val (.int ce), .val (.int cf), .val (.ref r_12), .val (.ref r_21), .val (.ref b31), .unset, .unset] [(.int ce), (.int cb)])
                      by_cases hc169 : cb = ce
                      · refine Go.via (fun t k => XS.icmpNo Xh126.here hx rfl (hb hby at_237) rfl (teq hc169).2 k) ?_
                        show Go p.tables e below P T126 (mkF m 240 #[.val (.int p1), .val (.int p2), .val (.int p3), .val (.int p4), .val (.int (0 : Int32)), .val (.ref aNAME), .val (.int na), .val (.int v3_0), .val (.int nb), .val (.int v5_0), .val (.int ca), .val (.int cb), .val (.int cc), .val (.int cd), .val (.int ce), .val (.int cf), .val (.ref r_12), .val (.ref r_21), .val (.ref b31), .unset, .unset] [])
                        refine Go.via (fun t k => XS.iload Xh126.here hx rfl (hb hby at_240) rfl k) ?_
                        refine Go.via (fun t k => XS.iconst Xh126.here hx rfl (hb hby at_242) k) ?_
                        show Go p.tables e below P T126 (mkF m 243 #[.val (.int p1), .val (.int p2), .val (.int p3), .val (.int p4), .val (.int (0 : Int32)), .val (.ref aNAME), .val (.int na), .val (.int v3_0), .val (.int nb), .val (.int v5_0), .val (.int ca), .val (.int cb), .val (.int cc), .val (.int cd), .val (.int ce), .val (.int cf), .val (.ref r_12), .val (.ref r_21), .val (.ref b31), .unset, .unset] [(.int (3 : Int32)), (.int na)])
                        by_cases hc170 : na < (3 : Int32)
                        · refine Go.via (fun t k => XS.icmpYes Xh126.here hx rfl (pc0 := 243) (pc' := 253) rfl (hb hby at_243) rfl (tlt hc170).1 (by decide) (by decide) k) ?_
                          show Go p.tables e below P T126 (mkF m 253 #[.val (.int p1), .val (.int p2), .val (.int p3), .val (.int p4), .val (.int (0 : Int32)), .val (.ref aNAME), .val (.int na), .val (.int v3_0), .val (.int nb), .val (.int v5_0), .val (.int ca), .val (.int cb), .val (.int cc), .val (.int cd), .val (.int ce), .val (.int cf), .val (.ref r_12), .val (.ref r_21), .val (.ref b31), .unset, .unset] [])
                          refine Go.via (fun t k => XS.iconst Xh126.here hx rfl (hb hby at_253) k) ?_
                          refine Go.via (fun t k => XS.goto Xh126.here hx rfl (pc0 := 254) (pc' := 258) rfl (hb hby at_254) (by decide) (by decide) k) ?_
                          exact LP133 T126 _ (1 : Int32) Xh126 rfl N126 (if_pos (own_mke yna hc132 (Or.inl hc165) (Or.inr hc169) (Or.inl hc170))).symm
                        · refine Go.via (fun t k => XS.icmpNo Xh126.here hx rfl (hb hby at_243) rfl (flt hc170).1 k) ?_
                          show Go p.tables e below P T126 (mkF m 246 #[.val (.int p1), .val (.int p2), .val (.int p3), .val (.int p4), .val (.int (0 : Int32)), .val (.ref aNAME), .val (.int na), .val (.int v3_0), .val (.int nb), .val (.int v5_0), .val (.int ca), .val (.int cb), .val (.int cc), .val (.int cd), .val (.int ce), .val (.int cf), .val (.ref r_12), .val (.ref r_21), .val (.ref b31), .unset, .unset] [])
                          refine Go.via (fun t k => XS.iload Xh126.here hx rfl (hb hby at_246) rfl k) ?_
                          refine Go.via (fun t k => XS.iload Xh126.here hx rfl (hb hby at_248) rfl k) ?_
                          show Go p.tables e below P T126 (mkF m 250 #[.val (.int p1), .val (.int p2), .val (.int p3), .val (.int p4), .val (.int (0 : Int32)), .val (.ref aNAME), .val (.int na), .val (.int v3_0), .val (.int nb), .val (.int v5_0), .val (.int ca), .val (.int cb), .val (.int cc), .val (.int cd), .val (.int ce), .val (.int cf), .val (.ref r_12), .val (.ref r_21), .val (.ref b31), .unset, .unset] [(.int cf), (.int cc)])
                          by_cases hc171 : cc = cf
                          · refine Go.via (fun t k => XS.icmpNo Xh126.here hx rfl (hb hby at_250) rfl (teq hc171).2 k) ?_
                            show Go p.tables e below P T126 (mkF m 253 #[.val (.int p1), .val (.int p2), .val (.int p3), .val (.int p4), .val (.int (0 : Int32)), .val (.ref aNAME), .val (.int na), .val (.int v3_0), .val (.int nb), .val (.int v5_0), .val (.int ca), .val (.int cb), .val (.int cc), .val (.int cd), .val (.int ce), .val (.int cf), .val (.ref r_12), .val (.ref r_21), .val (.ref b31), .unset, .unset] [])
                            refine Go.via (fun t k => XS.iconst Xh126.here hx rfl (hb hby at_253) k) ?_
                            refine Go.via (fun t k => XS.goto Xh126.here hx rfl (pc0 := 254) (pc' := 258) rfl (hb hby at_254) (by decide) (by decide) k) ?_
                            exact LP133 T126 _ (1 : Int32) Xh126 rfl N126 (if_pos (own_mke yna hc132 (Or.inl hc165) (Or.inr hc169) (Or.inr hc171))).symm
                          · refine Go.via (fun t k => XS.icmpYes Xh126.here hx rfl (pc0 := 250) (pc' := 257) rfl (hb hby at_250) rfl (feq hc171).2 (by decide) (by decide) k) ?_
                            show Go p.tables e below P T126 (mkF m 257 #[.val (.int p1), .val (.int p2), .val (.int p3), .val (.int p4), .val (.int (0 : Int32)), .val (.ref aNAME), .val (.int na), .val (.int v3_0), .val (.int nb), .val (.int v5_0), .val (.int ca), .val (.int cb), .val (.int cc), .val (.int cd), .val (.int ce), .val (.int cf), .val (.ref r_12), .val (.ref r_21), .val (.ref b31), .unset, .unset] [])
                            refine Go.via (fun t k => XS.iconst Xh126.here hx rfl (hb hby at_257) k) ?_
                            exact LP133 T126 _ (0 : Int32) Xh126 rfl N126 (if_neg (fun q => hc171 (own_Binj ycc ycf (own_mk2 yna hc132 hc170 q)))).symm
                      · refine Go.via (fun t k => XS.icmpYes Xh126.here hx rfl (pc0 := 237) (pc' := 257) rfl (hb hby at_237) rfl (feq hc169).2 (by decide) (by decide) k) ?_
                        show Go p.tables e below P T126 (mkF m 257 #[.val (.int p1), .val (.int p2), .val (.int p3), .val (.int p4), .val (.int (0 : Int32)), .val (.ref aNAME), .val (.int na), .val (.int v3_0), .val (.int nb), .val (.int v5_0), .val (.int ca), .val (.int cb), .val (.int cc), .val (.int cd), .val (.int ce), .val (.int cf), .val (.ref r_12), .val (.ref r_21), .val (.ref b31), .unset, .unset] [])
                        refine Go.via (fun t k => XS.iconst Xh126.here hx rfl (hb hby at_257) k) ?_
                        exact LP133 T126 _ (0 : Int32) Xh126 rfl N126 (if_neg (fun q => hc169 (own_Binj ycb yce (own_mk1 yna hc132 hc166 q)))).symm
                  · refine Go.via (fun t k => XS.icmpNo Xh126.here hx rfl (hb hby at_217) rfl (flt hc165).1 k) ?_
                    show Go p.tables e below P T126 (mkF m 220 #[.val (.int p1), .val (.int p2), .val (.int p3), .val (.int p4), .val (.int (0 : Int32)), .val (.ref aNAME), .val (.int na), .val (.int v3_0), .val (.int nb), .val (.int v5_0), .val (.int ca), .val (.int cb), .val (.int cc), .val (.int cd), .val (.int ce), .val (.int cf), .val (.ref r_12), .val (.ref r_21), .val (.ref b31), .unset, .unset] [])
                    refine Go.via (fun t k => XS.iload Xh126.here hx rfl (hb hby at_220) rfl k) ?_
                    refine Go.via (fun t k => XS.iload Xh126.here hx rfl (hb hby at_222) rfl k) ?_
                    show Go p.tables e below P T126 (mkF m 224 #[.val (.int p1), .val (.int p2), .val (.int p3), .val (.int p4), .val (.int (0 : Int32)), .val (.ref aNAME), .val (.int na), .val (.int v3_0), .val (.int nb), .val (.int v5_0), .val (.int ca), .val (.int cb), .val (.int cc), .val (.int cd), .val (.int ce), .val (.int cf), .val (.ref r_12), .val (.ref r_21), .val (.ref b31), .unset, .unset] [(.int cd), (.int ca)])
                    by_cases hc172 : ca = cd
                    · refine Go.via (fun t k => XS.icmpNo Xh126.here hx rfl (hb hby at_224) rfl (teq hc172).2 k) ?_
                      show Go p.tables e below P T126 (mkF m 227 #[.val (.int p1), .val (.int p2), .val (.int p3), .val (.int p4), .val (.int (0 : Int32)), .val (.ref aNAME), .val (.int na), .val (.int v3_0), .val (.int nb), .val (.int v5_0), .val (.int ca), .val (.int cb), .val (.int cc), .val (.int cd), .val (.int ce), .val (.int cf), .val (.ref r_12), .val (.ref r_21), .val (.ref b31), .unset, .unset] [])
                      refine Go.via (fun t k => XS.iload Xh126.here hx rfl (hb hby at_227) rfl k) ?_
                      refine Go.via (fun t k => XS.iconst Xh126.here hx rfl (hb hby at_229) k) ?_
                      show Go p.tables e below P T126 (mkF m 230 #[.val (.int p1), .val (.int p2), .val (.int p3), .val (.int p4), .val (.int (0 : Int32)), .val (.ref aNAME), .val (.int na), .val (.int v3_0), .val (.int nb), .val (.int v5_0), .val (.int ca), .val (.int cb), .val (.int cc), .val (.int cd), .val (.int ce), .val (.int cf), .val (.ref r_12), .val (.ref r_21), .val (.ref b31), .unset, .unset] [(.int (2 : Int32)), (.int na)])
                      by_cases hc173 : na < (2 : Int32)
                      · refine Go.via (fun t k => XS.icmpYes Xh126.here hx rfl (pc0 := 230) (pc' := 240) rfl (hb hby at_230) rfl (tlt hc173).1 (by decide) (by decide) k) ?_
                        show Go p.tables e below P T126 (mkF m 240 #[.val (.int p1), .val (.int p2), .val (.int p3), .val (.int p4), .val (.int (0 : Int32)), .val (.ref aNAME), .val (.int na), .val (.int v3_0), .val (.int nb), .val (.int v5_0), .val (.int ca), .val (.int cb), .val (.int cc), .val (.int cd), .val (.int ce), .val (.int cf), .val (.ref r_12), .val (.ref r_21), .val (.ref b31), .unset, .unset] [])
                        refine Go.via (fun t k => XS.iload Xh126.here hx rfl (hb hby at_240) rfl k) ?_
                        refine Go.via (fun t k => XS.iconst Xh126.here hx rfl (hb hby at_242) k) ?_
                        show Go p.tables e below P T126 (mkF m 243 #[.val (.int p1), .val (.int p2), .val (.int p3), .val (.int p4), .val (.int (0 : Int32)), .val (.ref aNAME), .val (.int na), .val (.int v3_0), .val (.int nb), .val (.int v5_0), .val (.int ca), .val (.int cb), .val (.int cc), .val (.int cd), .val (.int ce), .val (.int cf), .val (.ref r_12), .val (.ref r_21), .val (.ref b31), .unset, .unset] [(.int (3 : Int32)), (.int na)])
                        by_cases hc174 : na < (3 : Int32)
                        · refine Go.via (fun t k => XS.icmpYes Xh126.here hx rfl (pc0 := 243) (pc' := 253) rfl (hb hby at_243) rfl (tlt hc174).1 (by decide) (by decide) k) ?_
                          show Go p.tables e below P T126 (mkF m 253 #[.val (.int p1), .val (.int p2), .val (.int p3), .val (.int p4), .val (.int (0 : Int32)), .val (.ref aNAME), .val (.int na), .val (.int v3_0), .val (.int nb), .val (.int v5_0), .val (.int ca), .val (.int cb), .val (.int cc), .val (.int cd), .val (.int ce), .val (.int cf), .val (.ref r_12), .val (.ref r_21), .val (.ref b31), .unset, .unset] [])
                          refine Go.via (fun t k => XS.iconst Xh126.here hx rfl (hb hby at_253) k) ?_
                          refine Go.via (fun t k => XS.goto Xh126.here hx rfl (pc0 := 254) (pc' := 258) rfl (hb hby at_254) (by decide) (by decide) k) ?_
                          exact LP133 T126 _ (1 : Int32) Xh126 rfl N126 (if_pos (own_mke yna hc132 (Or.inr hc172) (Or.inl hc173) (Or.inl hc174))).symm
                        · refine Go.via (fun t k => XS.icmpNo Xh126.here hx rfl (hb hby at_243) rfl (flt hc174).1 k) ?_
                          show Go p.tables e below P T126 (mkF m 246 #[.val (.int p1), .val (.int p2), .val (.int p3), .val (.int p4), .val (.int (0 : Int32)), .val (.ref aNAME), .val (.int na), .val (.int v3_0), .val (.int nb), .val (.int v5_0), .val (.int ca), .val (.int cb), .val (.int cc), .val (.int cd), .val (.int ce), .val (.int cf), .val (.ref r_12), .val (.ref r_21), .val (.ref b31), .unset, .unset] [])
                          refine Go.via (fun t k => XS.iload Xh126.here hx rfl (hb hby at_246) rfl k) ?_
                          refine Go.via (fun t k => XS.iload Xh126.here hx rfl (hb hby at_248) rfl k) ?_
                          show Go p.tables e below P T126 (mkF m 250 #[.val (.int p1), .val (.int p2), .val (.int p3), .val (.int p4), .val (.int (0 : Int32)), .val (.ref aNAME), .val (.int na), .val (.int v3_0), .val (.int nb), .val (.int v5_0), .val (.int ca), .val (.int cb), .val (.int cc), .val (.int cd), .val (.int ce), .val (.int cf), .val (.ref r_12), .val (.ref r_21), .val (.ref b31), .unset, .unset] [(.int cf), (.int cc)])
                          by_cases hc175 : cc = cf
                          · refine Go.via (fun t k => XS.icmpNo Xh126.here hx rfl (hb hby at_250) rfl (teq hc175).2 k) ?_
                            show Go p.tables e below P T126 (mkF m 253 #[.val (.int p1), .val (.int p2), .val (.int p3), .val (.int p4), .val (.int (0 : Int32)), .val (.ref aNAME), .val (.int na), .val (.int v3_0), .val (.int nb), .val (.int v5_0), .val (.int ca), .val (.int cb), .val (.int cc), .val (.int cd), .val (.int ce), .val (.int cf), .val (.ref r_12), .val (.ref r_21), .val (.ref b31), .unset, .unset] [])
                            refine Go.via (fun t k => XS.iconst Xh126.here hx rfl (hb hby at_253) k) ?_
                            refine Go.via (fun t k => XS.goto Xh126.here hx rfl (pc0 := 254) (pc' := 258) rfl (hb hby at_254) (by decide) (by decide) k) ?_
                            exact LP133 T126 _ (1 : Int32) Xh126 rfl N126 (if_pos (own_mke yna hc132 (Or.inr hc172) (Or.inl hc173) (Or.inr hc175))).symm
                          · refine Go.via (fun t k => XS.icmpYes Xh126.here hx rfl (pc0 := 250) (pc' := 257) rfl (hb hby at_250) rfl (feq hc175).2 (by decide) (by decide) k) ?_
                            show Go p.tables e below P T126 (mkF m 257 #[.val (.int p1), .val (.int p2), .val (.int p3), .val (.int p4), .val (.int (0 : Int32)), .val (.ref aNAME), .val (.int na), .val (.int v3_0), .val (.int nb), .val (.int v5_0), .val (.int ca), .val (.int cb), .val (.int cc), .val (.int cd), .val (.int ce), .val (.int cf), .val (.ref r_12), .val (.ref r_21), .val (.ref b31), .unset, .unset] [])
                            refine Go.via (fun t k => XS.iconst Xh126.here hx rfl (hb hby at_257) k) ?_
                            exact LP133 T126 _ (0 : Int32) Xh126 rfl N126 (if_neg (fun q => hc175 (own_Binj ycc ycf (own_mk2 yna hc132 hc174 q)))).symm
                      · refine Go.via (fun t k => XS.icmpNo Xh126.here hx rfl (hb hby at_230) rfl (flt hc173).1 k) ?_
                        show Go p.tables e below P T126 (mkF m 233 #[.val (.int p1), .val (.int p2), .val (.int p3), .val (.int p4), .val (.int (0 : Int32)), .val (.ref aNAME), .val (.int na), .val (.int v3_0), .val (.int nb), .val (.int v5_0), .val (.int ca), .val (.int cb), .val (.int cc), .val (.int cd), .val (.int ce), .val (.int cf), .val (.ref r_12), .val (.ref r_21), .val (.ref b31), .unset, .unset] [])
                        refine Go.via (fun t k => XS.iload Xh126.here hx rfl (hb hby at_233) rfl k) ?_
                        refine Go.via (fun t k => XS.iload Xh126.here hx rfl (hb hby at_235) rfl k) ?_
                        show Go p.tables e below P T126 (mkF m 237 #[.val (.int p1), .val (.int p2), .val (.int p3), .val (.int p4), .val (.int (0 : Int32)), .val (.ref aNAME), .val (.int na), .val (.int v3_0), .val (.int nb), .val (.int v5_0), .val (.int ca), .val (.int cb), .val (.int cc), .val (.int cd), .val (.int ce), .val (.int cf), .val (.ref r_12), .val (.ref r_21), .val (.ref b31), .unset, .unset] [(.int ce), (.int cb)])
                        by_cases hc176 : cb = ce
                        · refine Go.via (fun t k => XS.icmpNo Xh126.here hx rfl (hb hby at_237) rfl (teq hc176).2 k) ?_
                          show Go p.tables e below P T126 (mkF m 240 #[.val (.int p1), .val (.int p2), .val (.int p3), .val (.int p4), .val (.int (0 : Int32)), .val (.ref aNAME), .val (.int na), .val (.int v3_0), .val (.int nb), .val (.int v5_0), .val (.int ca), .val (.int cb), .val (.int cc), .val (.int cd), .val (.int ce), .val (.int cf), .val (.ref r_12), .val (.ref r_21), .val (.ref b31), .unset, .unset] [])
                          refine Go.via (fun t k => XS.iload Xh126.here hx rfl (hb hby at_240) rfl k) ?_
                          refine Go.via (fun t k => XS.iconst Xh126.here hx rfl (hb hby at_242) k) ?_
                          show Go p.tables e below P T126 (mkF m 243 #[.val (.int p1), .val (.int p2), .val (.int p3), .val (.int p4), .val (.int (0 : Int32)), .val (.ref aNAME), .val (.int na), .val (.int v3_0), .val (.int nb), .val (.int v5_0), .val (.int ca), .val (.int cb), .val (.int cc), .val (.int cd), .val (.int ce), .val (.int cf), .val (.ref r_12), .val (.ref r_21), .val (.ref b31), .unset, .unset] [(.int (3 : Int32)), (.int na)])
                          by_cases hc177 : na < (3 : Int32)
                          · refine Go.via (fun t k => XS.icmpYes Xh126.here hx rfl (pc0 := 243) (pc' := 253) rfl (hb hby at_243) rfl (tlt hc177).1 (by decide) (by decide) k) ?_
                            show Go p.tables e below P T126 (mkF m 253 #[.val (.int p1), .val (.int p2), .val (.int p3), .val (.int p4), .val (.int (0 : Int32)), .val (.ref aNAME), .val (.int na), .val (.int v3_0), .val (.int nb), .val (.int v5_0), .val (.int ca), .val (.int cb), .val (.int cc), .val (.int cd), .val (.int ce), .val (.int cf), .val (.ref r_12), .val (.ref r_21), .val (.ref b31), .unset, .unset] [])
                            refine Go.via (fun t k => XS.iconst Xh126.here hx rfl (hb hby at_253) k) ?_
                            refine Go.via (fun t k => XS.goto Xh126.here hx rfl (pc0 := 254) (pc' := 258) rfl (hb hby at_254) (by decide) (by decide) k) ?_
                            exact LP133 T126 _ (1 : Int32) Xh126 rfl N126 (if_pos (own_mke yna hc132 (Or.inr hc172) (Or.inr hc176) (Or.inl hc177))).symm
                          · refine Go.via (fun t k => XS.icmpNo Xh126.here hx rfl (hb hby at_243) rfl (flt hc177).1 k) ?_
                            show Go p.tables e below P T126 (mkF m 246 #[.val (.int p1), .val (.int p2), .val (.int p3), .val (.int p4), .val (.int (0 : Int32)), .val (.ref aNAME), .val (.int na), .val (.int v3_0), .val (.int nb), .val (.int v5_0), .val (.int ca), .val (.int cb), .val (.int cc), .val (.int cd), .val (.int ce), .val (.int cf), .val (.ref r_12), .val (.ref r_21), .val (.ref b31), .unset, .unset] [])
                            refine Go.via (fun t k => XS.iload Xh126.here hx rfl (hb hby at_246) rfl k) ?_
                            refine Go.via (fun t k => XS.iload Xh126.here hx rfl (hb hby at_248) rfl k) ?_
                            show Go p.tables e below P T126 (mkF m 250 #[.val (.int p1), .val (.int p2), .val (.int p3), .val (.int p4), .val (.int (0 : Int32)), .val (.ref aNAME), .val (.int na), .val (.int v3_0), .val (.int nb), .val (.int v5_0), .val (.int ca), .val (.int cb), .val (.int cc), .val (.int cd), .val (.int ce), .val (.int cf), .val (.ref r_12), .val (.ref r_21), .val (.ref b31), .unset, .unset] [(.int cf), (.int cc)])
                            by_cases hc178 : cc = cf
                            · refine Go.via (fun t k => XS.icmpNo Xh126.here hx rfl (hb hby at_250) rfl (teq hc178).2 k) ?_
                              show Go p.tables e below P T126 (mkF m 253 #[.val (.int p1), .val (.int p2), .val (.int p3), .val (.int p4), .val (.int (0 : Int32)), .val (.ref aNAME), .val (.int na), .val (.int v3_0), .val (.int nb), .val (.int v5_0), .val (.int ca), .val (.int cb), .val (.int cc), .val (.int cd), .val (.int ce), .val (.int cf), .val (.ref r_12), .val (.ref r_21), .val (.ref b31), .unset, .unset] [])
                              refine Go.via (fun t k => XS.iconst Xh126.here hx rfl (hb hby at_253) k) ?_
                              refine Go.via (fun t k => XS.goto Xh126.here hx rfl (pc0 := 254) (pc' := 258) rfl (hb hby at_254) (by decide) (by decide) k) ?_
                              exact LP133 T126 _ (1 : Int32) Xh126 rfl N126 (if_pos (own_mke yna hc132 (Or.inr hc172) (Or.inr hc176) (Or.inr hc178))).symm
                            · refine Go.via (fun t k => XS.icmpYes Xh126.here hx rfl (pc0 := 250) (pc' := 257) rfl (hb hby at_250) rfl (feq hc178).2 (by decide) (by decide) k) ?_
                              show Go p.tables e below P T126 (mkF m 257 #[.val (.int p1), .val (.int p2), .val (.int p3), .val (.int p4), .val (.int (0 : Int32)), .val (.ref aNAME), .val (.int na), .val (.int v3_0), .val (.int nb), .val (.int v5_0), .val (.int ca), .val (.int cb), .val (.int cc), .val (.int cd), .val (.int ce), .val (.int cf), .val (.ref r_12), .val (.ref r_21), .val (.ref b31), .unset, .unset] [])
                              refine Go.via (fun t k => XS.iconst Xh126.here hx rfl (hb hby at_257) k) ?_
                              exact LP133 T126 _ (0 : Int32) Xh126 rfl N126 (if_neg (fun q => hc178 (own_Binj ycc ycf (own_mk2 yna hc132 hc177 q)))).symm
                        · refine Go.via (fun t k => XS.icmpYes Xh126.here hx rfl (pc0 := 237) (pc' := 257) rfl (hb hby at_237) rfl (feq hc176).2 (by decide) (by decide) k) ?_
                          show Go p.tables e below P T126 (mkF m 257 #[.val (.int p1), .val (.int p2), .val (.int p3), .val (.int p4), .val (.int (0 : Int32)), .val (.ref aNAME), .val (.int na), .val (.int v3_0), .val (.int nb), .val (.int v5_0), .val (.int ca), .val (.int cb), .val (.int cc), .val (.int cd), .val (.int ce), .val (.int cf), .val (.ref r_12), .val (.ref r_21), .val (.ref b31), .unset, .unset] [])
                          refine Go.via (fun t k => XS.iconst Xh126.here hx rfl (hb hby at_257) k) ?_
                          exact LP133 T126 _ (0 : Int32) Xh126 rfl N126 (if_neg (fun q => hc176 (own_Binj ycb yce (own_mk1 yna hc132 hc173 q)))).symm
                    · refine Go.via (fun t k => XS.icmpYes Xh126.here hx rfl (pc0 := 224) (pc' := 257) rfl (hb hby at_224) rfl (feq hc172).2 (by decide) (by decide) k) ?_
                      show Go p.tables e below P T126 (mkF m 257 #[.val (.int p1), .val (.int p2), .val (.int p3), .val (.int p4), .val (.int (0 : Int32)), .val (.ref aNAME), .val (.int na), .val (.int v3_0), .val (.int nb), .val (.int v5_0), .val (.int ca), .val (.int cb), .val (.int cc), .val (.int cd), .val (.int ce), .val (.int cf), .val (.ref r_12), .val (.ref r_21), .val (.ref b31), .unset, .unset] [])
                      refine Go.via (fun t k => XS.iconst Xh126.here hx rfl (hb hby at_257) k) ?_
                      exact LP133 T126 _ (0 : Int32) Xh126 rfl N126 (if_neg (fun q => hc172 (own_Binj yca ycd (own_mk0 yna hc132 hc165 q)))).symm
                · refine Go.via (fun t k => XS.icmpYes Xh126.here hx rfl (pc0 := 211) (pc' := 257) rfl (hb hby at_211) rfl (feq hc132).2 (by decide) (by decide) k) ?_
                  show Go p.tables e below P T126 (mkF m 257 #[.val (.int p1), .val (.int p2), .val (.int p3), .val (.int p4), .val (.int (0 : Int32)), .val (.ref aNAME), .val (.int na), .val (.int v3_0), .val (.int nb), .val (.int v5_0), .val (.int ca), .val (.int cb), .val (.int cc), .val (.int cd), .val (.int ce), .val (.int cf), .val (.ref r_12), .val (.ref r_21), .val (.ref b31), .unset, .unset] [])
                  refine Go.via (fun t k => XS.iconst Xh126.here hx rfl (hb hby at_257) k) ?_
                  exact LP133 T126 _ (0 : Int32) Xh126 rfl N126 (if_neg (fun q => hc132 (own_mkn yna ynb q))).symm
              · refine Go.via (fun t k => XS.ifNo Xh12.here hx rfl (hb hby at_164) rfl ((if0 _ _).trans (feq hc20).1) k) ?_
                show Go p.tables e below P T12 (mkF m 167 #[.val (.int p1), .val (.int p2), .val (.int p3), .val (.int p4), .val (.int (0 : Int32)), .val (.ref aNAME), .val (.int na), .val (.int v3_0), .val (.int nb), .val (.int v5_0), .val (.int ca), .val (.int cb), .val (.int cc), .val (.int cd), .val (.int ce), .val (.int cf), .val (.ref r_12), .unset, .unset, .unset, .unset] [])
                refine Go.via (fun t k => XS.aconstNull Xh12.here hx rfl (hb hby at_167) k) ?_
                show Go p.tables e below P T12 (mkF m 168 #[.val (.int p1), .val (.int p2), .val (.int p3), .val (.int p4), .val (.int (0 : Int32)), .val (.ref aNAME), .val (.int na), .val (.int v3_0), .val (.int nb), .val (.int v5_0), .val (.int ca), .val (.int cb), .val (.int cc), .val (.int cd), .val (.int ce), .val (.int cf), .val (.ref r_12), .unset, .unset, .unset, .unset] [.null])
                refine Go.via (fun t k => XS.goto Xh12.here hx rfl (pc0 := 168) (pc' := 182) rfl (hb hby at_168) (by decide) (by decide) k) ?_
                refine Go.via (fun t k => XS.astore Xh12.here hx rfl (hb hby at_182) rfl rfl (l' := #[.val (.int p1), .val (.int p2), .val (.int p3), .val (.int p4), .val (.int (0 : Int32)), .val (.ref aNAME), .val (.int na), .val (.int v3_0), .val (.int nb), .val (.int v5_0), .val (.int ca), .val (.int cb), .val (.int cc), .val (.int cd), .val (.int ce), .val (.int cf), .val (.ref r_12), .val .null, .unset, .unset, .unset]) rfl k) ?_
                show Go p.tables e below P T12 (mkF m 184 #[.val (.int p1), .val (.int p2), .val (.int p3), .val (.int p4), .val (.int (0 : Int32)), .val (.ref aNAME), .val (.int na), .val (.int v3_0), .val (.int nb), .val (.int v5_0), .val (.int ca), .val (.int cb), .val (.int cc), .val (.int cd), .val (.int ce), .val (.int cf), .val (.ref r_12), .val .null, .unset, .unset, .unset] [])
                obtain ⟨T179, h179, X179, e179, E179, A179, D179, -, st179⟩ := newO Xh12 hx hZ hown (hw _ (List.mem_of_getElem? (i := 44) rfl)) (hw _ (List.mem_of_getElem? (i := 45) rfl)) (hw _ (List.mem_of_getElem? (i := 46) rfl)) rfl (g := (mkF m 184 #[.val (.int p1), .val (.int p2), .val (.int p3), .val (.int p4), .val (.int (0 : Int32)), .val (.ref aNAME), .val (.int na), .val (.int v3_0), .val (.int nb), .val (.int v5_0), .val (.int ca), .val (.int cb), .val (.int cc), .val (.int cd), .val (.int ce), .val (.int cf), .val (.ref r_12), .val .null, .unset, .unset, .unset] [])) rfl (hb hby at_184) (by decide) (by decide)
                obtain ⟨b179, g179⟩ : ∃ z, z = T12.heap.size := ⟨_, rfl⟩
                rw [← g179] at A179 D179 st179
                refine Go.via st179 ?_
                have ne180 : r_12 ≠ b179 := Nat.ne_of_lt (Nat.lt_of_lt_of_le u12_0.lt (Nat.le_of_eq g179.symm))
                have ne181 : tb_12 ≠ b179 := Nat.ne_of_lt (Nat.lt_of_lt_of_le u12_3.lt (Nat.le_of_eq g179.symm))
                have g182 : n0 ≤ b179 := Nat.le_trans Z16 (Nat.le_of_eq g179.symm)
                have sz183 : h0.size ≤ b179 := Nat.le_trans K17.1 (Nat.le_of_eq g179.symm)
                have Z184 : n0 ≤ h179.size := Nat.le_trans Z16 E179.1
                have K185 : Keep h0 h179 [] := K17.ext E179
                have O186 : Old Z n0 h179 := O18.ext E179
                have CR187 := CHr.trans CR13 (CHr.ext E179 CR13.1)
                have hk188 := Nat.le_trans hk19 E179.1
                show Go p.tables e below P T179 (mkF m 187 #[.val (.int p1), .val (.int p2), .val (.int p3), .val (.int p4), .val (.int (0 : Int32)), .val (.ref aNAME), .val (.int na), .val (.int v3_0), .val (.int nb), .val (.int v5_0), .val (.int ca), .val (.int cb), .val (.int cc), .val (.int cd), .val (.int ce), .val (.int cf), .val (.ref r_12), .val .null, .unset, .unset, .unset] [(.ref b179)])
                refine Go.via (fun t k => XS.dup X179.here hx rfl (hb hby at_187) rfl rfl k) ?_
                refine Go.via (fun t k => XS.aload X179.here hx rfl (hb hby at_188) rfl rfl k) ?_
                refine Go.via (fun t k => XS.aload X179.here hx rfl (hb hby at_190) rfl rfl k) ?_
                show Go p.tables e below P T179 (mkF m 192 #[.val (.int p1), .val (.int p2), .val (.int p3), .val (.int p4), .val (.int (0 : Int32)), .val (.ref aNAME), .val (.int na), .val (.int v3_0), .val (.int nb), .val (.int v5_0), .val (.int ca), .val (.int cb), .val (.int cc), .val (.int cd), .val (.int ce), .val (.int cf), .val (.ref r_12), .val .null, .unset, .unset, .unset] [(.ref r_12), (.ref aNAME), (.ref b179), (.ref b179)])
                have F190 : Exa Z h179 r_12 "java/lang/String" := (u12_0.ext E179)
                have F191 : Fld Z h179 r_12 "java/lang/String" "value" "[B" (.ref tb_12) := (u12_1.ext E179)
                have F192 : Fld Z h179 r_12 "java/lang/String" "coder" "B" (.int (0 : Int32)) := (u12_2.ext E179)
                have F193 : Arv Z h179 tb_12 kk_12 .byte (own_lg (own_mk na ca cb cc)) ((own_mk na ca cb cc).map Value.int) (.int (0 : Int32)) := (u12_3.ext E179)
                obtain ⟨T189, h189, X189, e189, E189, A189, D189, -, st189⟩ := newO X179 hx hZ hown (hw _ (List.mem_of_getElem? (i := 47) rfl)) (hw _ (List.mem_of_getElem? (i := 48) rfl)) (hw _ (List.mem_of_getElem? (i := 49) rfl)) e179 (g := (mkF m 192 #[.val (.int p1), .val (.int p2), .val (.int p3), .val (.int p4), .val (.int (0 : Int32)), .val (.ref aNAME), .val (.int na), .val (.int v3_0), .val (.int nb), .val (.int v5_0), .val (.int ca), .val (.int cb), .val (.int cc), .val (.int cd), .val (.int ce), .val (.int cf), .val (.ref r_12), .val .null, .unset, .unset, .unset] [(.ref r_12), (.ref aNAME), (.ref b179), (.ref b179)])) rfl (hb hby at_192) (by decide) (by decide)
                obtain ⟨b189, g189⟩ : ∃ z, z = h179.size := ⟨_, rfl⟩
                rw [← g189] at A189 D189 st189
                refine Go.via st189 ?_
                have ne194 : r_12 ≠ b189 := Nat.ne_of_lt (Nat.lt_of_lt_of_le F190.lt (Nat.le_of_eq g189.symm))
                have ne195 : tb_12 ≠ b189 := Nat.ne_of_lt (Nat.lt_of_lt_of_le F193.lt (Nat.le_of_eq g189.symm))
                have ne196 : b179 ≠ b189 := Nat.ne_of_lt (Nat.lt_of_lt_of_le A179.lt (Nat.le_of_eq g189.symm))
                have g197 : n0 ≤ b189 := Nat.le_trans Z184 (Nat.le_of_eq g189.symm)
                have sz198 : h0.size ≤ b189 := Nat.le_trans K185.1 (Nat.le_of_eq g189.symm)
                have Z199 : n0 ≤ h189.size := Nat.le_trans Z184 E189.1
                have K200 : Keep h0 h189 [] := K185.ext E189
                have O201 : Old Z n0 h189 := O186.ext E189
                have CR202 := CHr.trans CR187 (CHr.ext E189 CR187.1)
                have hk203 := Nat.le_trans hk188 E189.1
                show Go p.tables e below P T189 (mkF m 195 #[.val (.int p1), .val (.int p2), .val (.int p3), .val (.int p4), .val (.int (0 : Int32)), .val (.ref aNAME), .val (.int na), .val (.int v3_0), .val (.int nb), .val (.int v5_0), .val (.int ca), .val (.int cb), .val (.int cc), .val (.int cd), .val (.int ce), .val (.int cf), .val (.ref r_12), .val .null, .unset, .unset, .unset] [(.ref b189), (.ref r_12), (.ref aNAME), (.ref b179), (.ref b179)])
                refine Go.via (fun t k => XS.dup X189.here hx rfl (hb hby at_195) rfl rfl k) ?_
                show Go p.tables e below P T189 (mkF m 196 #[.val (.int p1), .val (.int p2), .val (.int p3), .val (.int p4), .val (.int (0 : Int32)), .val (.ref aNAME), .val (.int na), .val (.int v3_0), .val (.int nb), .val (.int v5_0), .val (.int ca), .val (.int cb), .val (.int cc), .val (.int cd), .val (.int ce), .val (.int cf), .val (.ref r_12), .val .null, .unset, .unset, .unset] [(.ref b189), (.ref b189), (.ref r_12), (.ref aNAME), (.ref b179), (.ref b179)])
                have F204 : Exa Z h189 r_12 "java/lang/String" := (F190.ext E189)
                have F205 : Fld Z h189 r_12 "java/lang/String" "value" "[B" (.ref tb_12) := (F191.ext E189)
                have F206 : Fld Z h189 r_12 "java/lang/String" "coder" "B" (.int (0 : Int32)) := (F192.ext E189)
                have F207 : Arv Z h189 tb_12 kk_12 .byte (own_lg (own_mk na ca cb cc)) ((own_mk na ca cb cc).map Value.int) (.int (0 : Int32)) := (F193.ext E189)
                have F208 : Exa Z h189 b179 "com/example/numeric_planner/numericplanner/rddl/Token" := (A179.ext E189)
                have F209 : Fld Z h189 b179 "com/example/numeric_planner/numericplanner/rddl/Token" "kind" "Lcom/example/numeric_planner/numericplanner/rddl/Token$Kind;" .null := ((D179 (Or.inr (hw _ (List.mem_of_getElem? (i := 69) rfl))) (ty := (.object "com/example/numeric_planner/numericplanner/rddl/Token$Kind")) (by decide) : Fld Z h179 b179 "com/example/numeric_planner/numericplanner/rddl/Token" "kind" "Lcom/example/numeric_planner/numericplanner/rddl/Token$Kind;" .null).ext E189)
                have F210 : Fld Z h189 b179 "com/example/numeric_planner/numericplanner/rddl/Token" "text" "Ljava/lang/String;" .null := ((D179 (Or.inr (hw _ (List.mem_of_getElem? (i := 71) rfl))) (ty := (.object "java/lang/String")) (by decide) : Fld Z h179 b179 "com/example/numeric_planner/numericplanner/rddl/Token" "text" "Ljava/lang/String;" .null).ext E189)
                have F211 : Fld Z h189 b179 "com/example/numeric_planner/numericplanner/rddl/Token" "location" "Lcom/example/numeric_planner/numericplanner/rddl/Location;" .null := ((D179 (Or.inr (hw _ (List.mem_of_getElem? (i := 73) rfl))) (ty := (.object "com/example/numeric_planner/numericplanner/rddl/Location")) (by decide) : Fld Z h179 b179 "com/example/numeric_planner/numericplanner/rddl/Token" "location" "Lcom/example/numeric_planner/numericplanner/rddl/Location;" .null).ext E189)
                obtain ⟨a212, T212, h212, kn212, b212, kb212, X212, e212, E212, hS212, hk212, hZ, hown, Ex212, Fc212, Fv212, Va212, lta212, ltb212, hC212, -, ne212, st212⟩ := ldcCH X189 hx hZ hown (hw _ (List.mem_of_getElem? (i := 50) rfl)) (own_sa hw) e189 hS12 hk203 (own_EW hw) (by decide : (("com/example/numeric_planner/numericplanner/rddl/TokenIsPinLaw", 22) : String × Nat) ∈ consts_1) CR202.1 (vs := [(.int (102 : Int32))]) (z := (1 : Int32)) ⟨by decide, rfl⟩ (by decide) rfl (g := (mkF m 196 #[.val (.int p1), .val (.int p2), .val (.int p3), .val (.int p4), .val (.int (0 : Int32)), .val (.ref aNAME), .val (.int na), .val (.int v3_0), .val (.int nb), .val (.int v5_0), .val (.int ca), .val (.int cb), .val (.int cc), .val (.int cd), .val (.int ce), .val (.int cf), .val (.ref r_12), .val .null, .unset, .unset, .unset] [(.ref b189), (.ref b189), (.ref r_12), (.ref aNAME), (.ref b179), (.ref b179)])) rfl (hb hby at_196) (n := 4) (by decide) (by decide) (by decide) (by decide)
                refine Go.via st212 ?_
                have CR213 := CHr.trans CR202 hC212
                have Z214 : n0 ≤ h212.size := Nat.le_trans Z199 E212.1
                have K215 : Keep h0 h212 [] := K200.ext E212
                have O216 : Old Z n0 h212 := O201.ext E212
                have F217 : Exa Z h212 b179 "com/example/numeric_planner/numericplanner/rddl/Token" := (F208.ext E212)
                have nq218 := (ne212 _ (Safe.exa hZ.alike F217 (by decide) (by decide))).1
                have nq219 := (ne212 _ (Safe.exa hZ.alike F217 (by decide) (by decide))).2
                have F220 : Exa Z h212 b189 "com/example/numeric_planner/numericplanner/rddl/Location" := (A189.ext E212)
                have nq221 := (ne212 _ (Safe.exa hZ.alike F220 (by decide) (by decide))).1
                have nq222 := (ne212 _ (Safe.exa hZ.alike F220 (by decide) (by decide))).2
                show Go p.tables e below P T212 (mkF m 198 #[.val (.int p1), .val (.int p2), .val (.int p3), .val (.int p4), .val (.int (0 : Int32)), .val (.ref aNAME), .val (.int na), .val (.int v3_0), .val (.int nb), .val (.int v5_0), .val (.int ca), .val (.int cb), .val (.int cc), .val (.int cd), .val (.int ce), .val (.int cf), .val (.ref r_12), .val .null, .unset, .unset, .unset] [(.ref a212), (.ref b189), (.ref b189), (.ref r_12), (.ref aNAME), (.ref b179), (.ref b179)])
                refine Go.via (fun t k => XS.iloadN X212.here hx rfl (hb hby at_198) rfl k) ?_
                show Go p.tables e below P T212 (mkF m 199 #[.val (.int p1), .val (.int p2), .val (.int p3), .val (.int p4), .val (.int (0 : Int32)), .val (.ref aNAME), .val (.int na), .val (.int v3_0), .val (.int nb), .val (.int v5_0), .val (.int ca), .val (.int cb), .val (.int cc), .val (.int cd), .val (.int ce), .val (.int cf), .val (.ref r_12), .val .null, .unset, .unset, .unset] [(.int p1), (.ref a212), (.ref b189), (.ref b189), (.ref r_12), (.ref aNAME), (.ref b179), (.ref b179)])
                have F223 : Fld Z h212 b189 "com/example/numeric_planner/numericplanner/rddl/Location" "file" "Ljava/lang/String;" .null := ((D189 (Or.inr (hw _ (List.mem_of_getElem? (i := 61) rfl))) (ty := (.object "java/lang/String")) (by decide) : Fld Z h189 b189 "com/example/numeric_planner/numericplanner/rddl/Location" "file" "Ljava/lang/String;" .null).ext E212)
                have F224 : Fld Z h212 b189 "com/example/numeric_planner/numericplanner/rddl/Location" "line" "I" (.int (0 : Int32)) := ((D189 (Or.inr (hw _ (List.mem_of_getElem? (i := 63) rfl))) (ty := .int) (by decide) : Fld Z h189 b189 "com/example/numeric_planner/numericplanner/rddl/Location" "line" "I" (.int (0 : Int32))).ext E212)
                have F225 : Exa Z h212 r_12 "java/lang/String" := (F204.ext E212)
                have F226 : Fld Z h212 r_12 "java/lang/String" "value" "[B" (.ref tb_12) := (F205.ext E212)
                have F227 : Fld Z h212 r_12 "java/lang/String" "coder" "B" (.int (0 : Int32)) := (F206.ext E212)
                have F228 : Arv Z h212 tb_12 kk_12 .byte (own_lg (own_mk na ca cb cc)) ((own_mk na ca cb cc).map Value.int) (.int (0 : Int32)) := (F207.ext E212)
                have F229 : Fld Z h212 b179 "com/example/numeric_planner/numericplanner/rddl/Token" "kind" "Lcom/example/numeric_planner/numericplanner/rddl/Token$Kind;" .null := (F209.ext E212)
                have F230 : Fld Z h212 b179 "com/example/numeric_planner/numericplanner/rddl/Token" "text" "Ljava/lang/String;" .null := (F210.ext E212)
                have F231 : Fld Z h212 b179 "com/example/numeric_planner/numericplanner/rddl/Token" "location" "Lcom/example/numeric_planner/numericplanner/rddl/Location;" .null := (F211.ext E212)
                obtain ⟨_, _, ⟨T232, L232, k232, n232⟩, -, X232, ⟨Lc232, hQ232, l232, y232, z232⟩, st232⟩ := X212.specialBack hx (y := (⟨"com/example/numeric_planner/numericplanner/rddl/Location", "<init>", "(Ljava/lang/String;I)V"⟩ : MethodName)) rfl hown (mvT hZ (hw _ (List.mem_of_getElem? (i := 51) rfl))) (mvT hZ (hw _ (List.mem_of_getElem? (i := 52) rfl))) (mvT hZ (hw _ (List.mem_of_getElem? (i := 53) rfl))) (by decide) (backOf (W := 5) (rm9 l Z a0 hw [] b189 a212 p1 h212 n0 Z214 F220 F223 F224 g197) hZ (hw _ (List.mem_of_getElem? (i := 53) rfl)) (hw _ (List.mem_of_getElem? (i := 49) rfl)) (by decide) (by decide)) (g := (mkF m 199 #[.val (.int p1), .val (.int p2), .val (.int p3), .val (.int p4), .val (.int (0 : Int32)), .val (.ref aNAME), .val (.int na), .val (.int v3_0), .val (.int nb), .val (.int v5_0), .val (.int ca), .val (.int cb), .val (.int cc), .val (.int cd), .val (.int ce), .val (.int cf), .val (.ref r_12), .val .null, .unset, .unset, .unset] [(.int p1), (.ref a212), (.ref b189), (.ref b189), (.ref r_12), (.ref aNAME), (.ref b179), (.ref b179)])) rfl (by rw [hml]; rfl) (Steps.refl _) (a := b189) (argsL := [(.ref a212), (.int p1)]) (rest := [(.ref b189), (.ref r_12), (.ref aNAME), (.ref b179), (.ref b179)]) (lenOf own_pd7 rfl) rfl (by show 2 * 0 + _ ≤ _; exact Nat.le_of_eq rfl) (hb hby at_199) (fun _ _ => ⟨rfl, e212, (by decide : 10 + 0 ≤ _), (by decide : 25 + 0 ≤ _)⟩)
                dsimp only [Pt.U, Pt.locs, Pt.cells, Pt.slots] at X232 l232 y232 z232 st232 hQ232
                subst l232 y232 z232
                obtain ⟨rfl, Nq232, K232, u232_0⟩ := hQ232
                obtain ⟨lc232, Xh232, N232⟩ := own_hide X232 (Fr.app N12 Nq232)
                clear X232
                refine Go.hop st232 ?_
                have Z233 : n0 ≤ T232.heap.size := Nat.le_trans Z214 K232.1
                have K234 : Keep h0 T232.heap [] := K215.trans K232 (own_allC (Or.inr sz198) own_all0)
                have CR235 := CHr.trans CR213 (CHr.keep K232 (sfS (Safe.exa hZ.alike F220 (by decide) (by decide)) sf0) CR213.1)
                have hk236 := Nat.le_trans hk212 K232.1
                have O237 : Old Z n0 T232.heap := O216.keep K232 (own_allC g197 own_all0)
                show Go p.tables e below P T232 (mkF m 202 #[.val (.int p1), .val (.int p2), .val (.int p3), .val (.int p4), .val (.int (0 : Int32)), .val (.ref aNAME), .val (.int na), .val (.int v3_0), .val (.int nb), .val (.int v5_0), .val (.int ca), .val (.int cb), .val (.int cc), .val (.int cd), .val (.int ce), .val (.int cf), .val (.ref r_12), .val .null, .unset, .unset, .unset] [(.ref b189), (.ref r_12), (.ref aNAME), (.ref b179), (.ref b179)])
                have F238 : Exa Z T232.heap b179 "com/example/numeric_planner/numericplanner/rddl/Token" := (F217.keep K232)
                have F239 : Fld Z T232.heap b179 "com/example/numeric_planner/numericplanner/rddl/Token" "kind" "Lcom/example/numeric_planner/numericplanner/rddl/Token$Kind;" .null := (F229.keep K232 (own_ninC ne196 own_nin0))
                have F240 : Fld Z T232.heap b179 "com/example/numeric_planner/numericplanner/rddl/Token" "text" "Ljava/lang/String;" .null := (F230.keep K232 (own_ninC ne196 own_nin0))
                have F241 : Fld Z T232.heap b179 "com/example/numeric_planner/numericplanner/rddl/Token" "location" "Lcom/example/numeric_planner/numericplanner/rddl/Location;" .null := (F231.keep K232 (own_ninC ne196 own_nin0))
                have F242 : Exa Z T232.heap r_12 "java/lang/String" := (F225.keep K232)
                have F243 : Fld Z T232.heap r_12 "java/lang/String" "value" "[B" (.ref tb_12) := (F226.keep K232 (own_ninC ne194 own_nin0))
                have F244 : Fld Z T232.heap r_12 "java/lang/String" "coder" "B" (.int (0 : Int32)) := (F227.keep K232 (own_ninC ne194 own_nin0))
                have F245 : Arv Z T232.heap tb_12 kk_12 .byte (own_lg (own_mk na ca cb cc)) ((own_mk na ca cb cc).map Value.int) (.int (0 : Int32)) := (F228.keep K232 (own_ninC ne195 own_nin0))
                have F246 : Exa Z T232.heap a212 "java/lang/String" := (Ex212.keep K232)
                have F247 : Fld Z T232.heap a212 "java/lang/String" "coder" "B" (.int (0 : Int32)) := (Fc212.keep K232 (own_ninC (Ne.symm nq221) own_nin0))
                have F248 : Fld Z T232.heap a212 "java/lang/String" "value" "[B" (.ref b212) := (Fv212.keep K232 (own_ninC (Ne.symm nq221) own_nin0))
                have F249 : Arv Z T232.heap b212 kb212 .byte (1 : Int32) [(.int (102 : Int32))] (.int (0 : Int32)) := (Va212.keep K232 (own_ninC (Ne.symm nq222) own_nin0))
                obtain ⟨_, _, ⟨T250, L250, k250, n250⟩, -, X250, ⟨Lc250, hQ250, l250, y250, z250⟩, st250⟩ := Xh232.specialBack hx (y := (⟨"com/example/numeric_planner/numericplanner/rddl/Token", "<init>", "(Lcom/example/numeric_planner/numericplanner/rddl/Token$Kind;Ljava/lang/String;Lcom/example/numeric_planner/numericplanner/rddl/Location;)V"⟩ : MethodName)) rfl hown (mvT hZ (hw _ (List.mem_of_getElem? (i := 64) rfl))) (mvT hZ (hw _ (List.mem_of_getElem? (i := 65) rfl))) (mvT hZ (hw _ (List.mem_of_getElem? (i := 66) rfl))) (by decide) (backOf (W := 1) (rm11 l Z a0 hw [] b179 aNAME r_12 b189 T232.heap n0 Z233 F238 F239 F240 F241 g182) hZ (hw _ (List.mem_of_getElem? (i := 66) rfl)) (hw _ (List.mem_of_getElem? (i := 46) rfl)) (by decide) (by decide)) (g := (mkF m 202 #[.val (.int p1), .val (.int p2), .val (.int p3), .val (.int p4), .val (.int (0 : Int32)), .val (.ref aNAME), .val (.int na), .val (.int v3_0), .val (.int nb), .val (.int v5_0), .val (.int ca), .val (.int cb), .val (.int cc), .val (.int cd), .val (.int ce), .val (.int cf), .val (.ref r_12), .val .null, .unset, .unset, .unset] [(.ref b189), (.ref r_12), (.ref aNAME), (.ref b179), (.ref b179)])) rfl (by rw [hml]; rfl) (Steps.refl _) (a := b179) (argsL := [(.ref aNAME), (.ref r_12), (.ref b189)]) (rest := [(.ref b179)]) (lenOf own_pd8 rfl) rfl (by show 2 * 0 + _ ≤ _; exact Nat.le_of_eq rfl) (hb hby at_202) (fun _ _ => ⟨rfl, rfl, (by decide : 10 + 0 ≤ _), (by decide : 25 + 0 ≤ _)⟩)
                dsimp only [Pt.U, Pt.locs, Pt.cells, Pt.slots] at X250 l250 y250 z250 st250 hQ250
                subst l250 y250 z250
                obtain ⟨rfl, Nq250, K250, u250_0, u250_1, u250_2, u250_3⟩ := hQ250
                obtain ⟨lc250, Xh250, N250⟩ := own_hide X250 (Fr.app N232 Nq250)
                clear X250
                refine Go.hop st250 ?_
                have Z251 : n0 ≤ T250.heap.size := Nat.le_trans Z233 K250.1
                have K252 : Keep h0 T250.heap [] := K234.trans K250 (own_allC (Or.inr sz183) own_all0)
                have CR253 := CHr.trans CR235 (CHr.keep K250 (sfS (Safe.exa hZ.alike F238 (by decide) (by decide)) sf0) CR235.1)
                have hk254 := Nat.le_trans hk236 K250.1
                have O255 : Old Z n0 T250.heap := O237.keep K250 (own_allC g182 own_all0)
                show Go p.tables e below P T250 (mkF m 205 #[.val (.int p1), .val (.int p2), .val (.int p3), .val (.int p4), .val (.int (0 : Int32)), .val (.ref aNAME), .val (.int na), .val (.int v3_0), .val (.int nb), .val (.int v5_0), .val (.int ca), .val (.int cb), .val (.int cc), .val (.int cd), .val (.int ce), .val (.int cf), .val (.ref r_12), .val .null, .unset, .unset, .unset] [(.ref b179)])
                refine Go.via (fun t k => XS.astore Xh250.here hx rfl (hb hby at_205) rfl rfl (l' := #[.val (.int p1), .val (.int p2), .val (.int p3), .val (.int p4), .val (.int (0 : Int32)), .val (.ref aNAME), .val (.int na), .val (.int v3_0), .val (.int nb), .val (.int v5_0), .val (.int ca), .val (.int cb), .val (.int cc), .val (.int cd), .val (.int ce), .val (.int cf), .val (.ref r_12), .val .null, .val (.ref b179), .unset, .unset]) rfl k) ?_
                refine Go.via (fun t k => XS.iload Xh250.here hx rfl (hb hby at_207) rfl k) ?_
                refine Go.via (fun t k => XS.iload Xh250.here hx rfl (hb hby at_209) rfl k) ?_
                show Go p.tables e below P T250 (mkF m 211 #[.val (.int p1), .val (.int p2), .val (.int p3), .val (.int p4), .val (.int (0 : Int32)), .val (.ref aNAME), .val (.int na), .val (.int v3_0), .val (.int nb), .val (.int v5_0), .val (.int ca), .val (.int cb), .val (.int cc), .val (.int cd), .val (.int ce), .val (.int cf), .val (.ref r_12), .val .null, .val (.ref b179), .unset, .unset] [(.int nb), (.int na)])
                have LP257 : ∀ (T257 : State) (locs257 : List Loc) (ev : Int32), Stand p l e room_1 (s.setVm T212.vm) m #[(.int p1), (.int p2), (.int p3), (.int p4)] below meth c T257 locs257 10 25 → T257.heap = T250.heap → Fr n0 locs257 → ev = (if own_mk na ca cb cc = own_mk nb cd ce cf then (1 : Int32) else (0 : Int32)) → Go p.tables e below P T257 (mkF m 258 #[.val (.int p1), .val (.int p2), .val (.int p3), .val (.int p4), .val (.int (0 : Int32)), .val (.ref aNAME), .val (.int na), .val (.int v3_0), .val (.int nb), .val (.int v5_0), .val (.int ca), .val (.int cb), .val (.int cc), .val (.int cd), .val (.int ce), .val (.int cf), .val (.ref r_12), .val .null, .val (.ref b179), .unset, .unset] [(.int ev)]) := by
                  intro T257 locs257 ev X257 e257 N257 hev
                  show Go p.tables e below P T257 (mkF m 258 #[.val (.int p1), .val (.int p2), .val (.int p3), .val (.int p4), .val (.int (0 : Int32)), .val (.ref aNAME), .val (.int na), .val (.int v3_0), .val (.int nb), .val (.int v5_0), .val (.int ca), .val (.int cb), .val (.int cc), .val (.int cd), .val (.int ce), .val (.int cf), .val (.ref r_12), .val .null, .val (.ref b179), .unset, .unset] [(.int ev)])
                  refine Go.via (fun t k => XS.istore X257.here hx rfl (hb hby at_258) rfl (l' := #[.val (.int p1), .val (.int p2), .val (.int p3), .val (.int p4), .val (.int (0 : Int32)), .val (.ref aNAME), .val (.int na), .val (.int v3_0), .val (.int nb), .val (.int v5_0), .val (.int ca), .val (.int cb), .val (.int cc), .val (.int cd), .val (.int ce), .val (.int cf), .val (.ref r_12), .val .null, .val (.ref b179), .val (.int ev), .unset]) rfl k) ?_
                  refine Go.via (fun t k => XS.iload X257.here hx rfl (hb hby at_260) rfl k) ?_
                  show Go p.tables e below P T257 (mkF m 262 #[.val (.int p1), .val (.int p2), .val (.int p3), .val (.int p4), .val (.int (0 : Int32)), .val (.ref aNAME), .val (.int na), .val (.int v3_0), .val (.int nb), .val (.int v5_0), .val (.int ca), .val (.int cb), .val (.int cc), .val (.int cd), .val (.int ce), .val (.int cf), .val (.ref r_12), .val .null, .val (.ref b179), .val (.int ev), .unset] [(.int (0 : Int32))])
                  refine Go.via (fun t k => XS.ifYes X257.here hx rfl (pc0 := 262) (pc' := 271) rfl (hb hby at_262) rfl ((if0 _ _).trans (teq (rfl : (0 : Int32) = (0 : Int32))).1) (by decide) (by decide) k) ?_
                  show Go p.tables e below P T257 (mkF m 271 #[.val (.int p1), .val (.int p2), .val (.int p3), .val (.int p4), .val (.int (0 : Int32)), .val (.ref aNAME), .val (.int na), .val (.int v3_0), .val (.int nb), .val (.int v5_0), .val (.int ca), .val (.int cb), .val (.int cc), .val (.int cd), .val (.int ce), .val (.int cf), .val (.ref r_12), .val .null, .val (.ref b179), .val (.int ev), .unset] [])
                  refine Go.via (fun t k => XS.iload X257.here hx rfl (hb hby at_271) rfl k) ?_
                  show Go p.tables e below P T257 (mkF m 273 #[.val (.int p1), .val (.int p2), .val (.int p3), .val (.int p4), .val (.int (0 : Int32)), .val (.ref aNAME), .val (.int na), .val (.int v3_0), .val (.int nb), .val (.int v5_0), .val (.int ca), .val (.int cb), .val (.int cc), .val (.int cd), .val (.int ce), .val (.int cf), .val (.ref r_12), .val .null, .val (.ref b179), .val (.int ev), .unset] [(.int v5_0)])
                  refine Go.via (fun t k => XS.ifYes X257.here hx rfl (pc0 := 273) (pc' := 285) rfl (hb hby at_273) rfl ((if0 _ _).trans (feq hc20).2) (by decide) (by decide) k) ?_
                  show Go p.tables e below P T257 (mkF m 285 #[.val (.int p1), .val (.int p2), .val (.int p3), .val (.int p4), .val (.int (0 : Int32)), .val (.ref aNAME), .val (.int na), .val (.int v3_0), .val (.int nb), .val (.int v5_0), .val (.int ca), .val (.int cb), .val (.int cc), .val (.int cd), .val (.int ce), .val (.int cf), .val (.ref r_12), .val .null, .val (.ref b179), .val (.int ev), .unset] [])
                  refine Go.via (fun t k => XS.iconst X257.here hx rfl (hb hby at_285) k) ?_
                  refine Go.via (fun t k => XS.istore X257.here hx rfl (hb hby at_286) rfl (l' := #[.val (.int p1), .val (.int p2), .val (.int p3), .val (.int p4), .val (.int (0 : Int32)), .val (.ref aNAME), .val (.int na), .val (.int v3_0), .val (.int nb), .val (.int v5_0), .val (.int ca), .val (.int cb), .val (.int cc), .val (.int cd), .val (.int ce), .val (.int cf), .val (.ref r_12), .val .null, .val (.ref b179), .val (.int ev), .val (.int (0 : Int32))]) rfl k) ?_
                  refine Go.via (fun t k => XS.aload X257.here hx rfl (hb hby at_288) rfl rfl k) ?_
                  show Go p.tables e below P T257 (mkF m 290 #[.val (.int p1), .val (.int p2), .val (.int p3), .val (.int p4), .val (.int (0 : Int32)), .val (.ref aNAME), .val (.int na), .val (.int v3_0), .val (.int nb), .val (.int v5_0), .val (.int ca), .val (.int cb), .val (.int cc), .val (.int cd), .val (.int ce), .val (.int cf), .val (.ref r_12), .val .null, .val (.ref b179), .val (.int ev), .val (.int (0 : Int32))] [(.ref b179)])
                  refine Go.via (fun t k => XS.aload X257.here hx rfl (hb hby at_290) rfl rfl k) ?_
                  show Go p.tables e below P T257 (mkF m 292 #[.val (.int p1), .val (.int p2), .val (.int p3), .val (.int p4), .val (.int (0 : Int32)), .val (.ref aNAME), .val (.int na), .val (.int v3_0), .val (.int nb), .val (.int v5_0), .val (.int ca), .val (.int cb), .val (.int cc), .val (.int cd), .val (.int ce), .val (.int cf), .val (.ref r_12), .val .null, .val (.ref b179), .val (.int ev), .val (.int (0 : Int32))] [.null, (.ref b179)])
                  have F258 : Exa Z T250.heap r_12 "java/lang/String" := (F242.keep K250)
                  have F259 : Fld Z T250.heap r_12 "java/lang/String" "value" "[B" (.ref tb_12) := (F243.keep K250 (own_ninC ne180 own_nin0))
                  have F260 : Fld Z T250.heap r_12 "java/lang/String" "coder" "B" (.int (0 : Int32)) := (F244.keep K250 (own_ninC ne180 own_nin0))
                  have F261 : Arv Z T250.heap tb_12 kk_12 .byte (own_lg (own_mk na ca cb cc)) ((own_mk na ca cb cc).map Value.int) (.int (0 : Int32)) := (F245.keep K250 (own_ninC ne181 own_nin0))
                  have F262 : Exa Z T250.heap b189 "com/example/numeric_planner/numericplanner/rddl/Location" := (u232_0.keep K250)
                  have F263 : Exa Z T250.heap a212 "java/lang/String" := (F246.keep K250)
                  have F264 : Fld Z T250.heap a212 "java/lang/String" "coder" "B" (.int (0 : Int32)) := (F247.keep K250 (own_ninC (Ne.symm nq218) own_nin0))
                  have F265 : Fld Z T250.heap a212 "java/lang/String" "value" "[B" (.ref b212) := (F248.keep K250 (own_ninC (Ne.symm nq218) own_nin0))
                  have F266 : Arv Z T250.heap b212 kb212 .byte (1 : Int32) [(.int (102 : Int32))] (.int (0 : Int32)) := (F249.keep K250 (own_ninC (Ne.symm nq219) own_nin0))
                  obtain ⟨cq267, kq267, q267a, q267b, q267c⟩ := isOf hZ e257 u250_0
                  obtain ⟨_, _, ⟨T267, L267, k267, n267⟩, -, X267, ⟨Lc267, hQ267, l267, y267, z267⟩, st267⟩ := X257.virtualBack hx (y := (⟨"com/example/numeric_planner/numericplanner/rddl/Token", "is", "(Ljava/lang/String;)Z"⟩ : MethodName)) (z := (⟨"com/example/numeric_planner/numericplanner/rddl/Token", "is", "(Ljava/lang/String;)Z"⟩ : MethodName)) hown (mvT hZ (hw _ (List.mem_of_getElem? (i := 74) rfl))) (mvT hZ (hw _ (List.mem_of_getElem? (i := 75) rfl))) (notFace_of_selects (args := #[]) (mvT hZ (hw _ (List.mem_of_getElem? (i := 77) rfl)))) (mvT hZ (hw _ (List.mem_of_getElem? (i := 77) rfl))) (mvT hZ (hw _ (List.mem_of_getElem? (i := 76) rfl))) (by decide) (backOf (W := 0) (rm12nn l Z a0 hw [] b179 aNAME aSYMBOL r_12 T250.heap n0 Z251 O255 P3 P6 u250_1 nNS u250_2 F258) hZ (hw _ (List.mem_of_getElem? (i := 78) rfl)) (hw _ (List.mem_of_getElem? (i := 46) rfl)) (by decide) (by decide)) q267a q267c (g := (mkF m 292 #[.val (.int p1), .val (.int p2), .val (.int p3), .val (.int p4), .val (.int (0 : Int32)), .val (.ref aNAME), .val (.int na), .val (.int v3_0), .val (.int nb), .val (.int v5_0), .val (.int ca), .val (.int cb), .val (.int cc), .val (.int cd), .val (.int ce), .val (.int cf), .val (.ref r_12), .val .null, .val (.ref b179), .val (.int ev), .val (.int (0 : Int32))] [.null, (.ref b179)])) rfl (by rw [hml]; rfl) (Steps.refl _) (argsL := [.null]) (rest := []) (lenOf own_pd9 rfl) rfl (by show 2 * 0 + _ ≤ _; exact Nat.le_of_eq rfl) (hb hby at_292) (fun _ _ => ⟨rfl, e257, (by decide : 10 + 0 ≤ _), (by decide : 25 + 0 ≤ _)⟩)
                  dsimp only [Pt.U, Pt.locs, Pt.cells, Pt.slots] at X267 l267 y267 z267 st267 hQ267
                  subst l267 y267 z267
                  obtain ⟨rfl, Nq267, hh267⟩ := hQ267
                  obtain ⟨lc267, Xh267, N267⟩ := own_hide X267 (Fr.app N257 Nq267)
                  clear X267
                  refine Go.hop st267 ?_
                  show Go p.tables e below P T267 (mkF m 295 #[.val (.int p1), .val (.int p2), .val (.int p3), .val (.int p4), .val (.int (0 : Int32)), .val (.ref aNAME), .val (.int na), .val (.int v3_0), .val (.int nb), .val (.int v5_0), .val (.int ca), .val (.int cb), .val (.int cc), .val (.int cd), .val (.int ce), .val (.int cf), .val (.ref r_12), .val .null, .val (.ref b179), .val (.int ev), .val (.int (0 : Int32))] [(.int (0 : Int32))])
                  refine Go.via (fun t k => XS.iload Xh267.here hx rfl (hb hby at_295) rfl k) ?_
                  show Go p.tables e below P T267 (mkF m 297 #[.val (.int p1), .val (.int p2), .val (.int p3), .val (.int p4), .val (.int (0 : Int32)), .val (.ref aNAME), .val (.int na), .val (.int v3_0), .val (.int nb), .val (.int v5_0), .val (.int ca), .val (.int cb), .val (.int cc), .val (.int cd), .val (.int ce), .val (.int cf), .val (.ref r_12), .val .null, .val (.ref b179), .val (.int ev), .val (.int (0 : Int32))] [(.int (0 : Int32)), (.int (0 : Int32))])
                  refine Go.via (fun t k => XS.icmpNo Xh267.here hx rfl (hb hby at_297) rfl (teq (rfl : (0 : Int32) = (0 : Int32))).2 k) ?_
                  show Go p.tables e below P T267 (mkF m 300 #[.val (.int p1), .val (.int p2), .val (.int p3), .val (.int p4), .val (.int (0 : Int32)), .val (.ref aNAME), .val (.int na), .val (.int v3_0), .val (.int nb), .val (.int v5_0), .val (.int ca), .val (.int cb), .val (.int cc), .val (.int cd), .val (.int ce), .val (.int cf), .val (.ref r_12), .val .null, .val (.ref b179), .val (.int ev), .val (.int (0 : Int32))] [])
                  refine Go.via (fun t k => XS.iconst Xh267.here hx rfl (hb hby at_300) k) ?_
                  refine Go.via (fun t k => XS.goto Xh267.here hx rfl (pc0 := 301) (pc' := 305) rfl (hb hby at_301) (by decide) (by decide) k) ?_
                  show Go p.tables e below P T267 (mkF m 305 #[.val (.int p1), .val (.int p2), .val (.int p3), .val (.int p4), .val (.int (0 : Int32)), .val (.ref aNAME), .val (.int na), .val (.int v3_0), .val (.int nb), .val (.int v5_0), .val (.int ca), .val (.int cb), .val (.int cc), .val (.int cd), .val (.int ce), .val (.int cf), .val (.ref r_12), .val .null, .val (.ref b179), .val (.int ev), .val (.int (0 : Int32))] [(.int (1 : Int32))])
                  obtain ⟨fs, hr, hrun, hended, hend⟩ := Xh267.leaveW hS212 (by rw [hh267]; exact hk254) (v := some (.int (1 : Int32))) (fun h => by rw [Bd.returns] at h; cases h)
                  have hCf : CHr Z consts_1 s.vm s.heap (T267.setFrames fs).vm (T267.setFrames fs).heap := by
                    rw [hh]
                    show CHr Z consts_1 s.vm h0 T267.vm T267.heap
                    rw [hh267]
                    exact CHr.trans CR253 (CHv.at Xh267 hZ (own_EW hw) CR253.1)
                  refine ⟨_, _, retZ Xh267 hx (t := .boolean) Bd.returns (by simp) (hb hby at_305) rfl hr, hrun, hended, hP _ _ ⟨_, _, rfl, ?_, hCf, own_rew hend (by decide) (by decide)⟩⟩
                  show Q0 Z p1 p2 p3 p4 cs aNAME aPRIMED_NAME aNUMBER aSYMBOL aINVALID aEND h0 n0 _ T267.heap _
                  rw [hh267]
                  exact ⟨rfl, N267⟩
                by_cases hc256 : na = nb
                · refine Go.via (fun t k => XS.icmpNo Xh250.here hx rfl (hb hby at_211) rfl (teq hc256).2 k) ?_
                  show Go p.tables e below P T250 (mkF m 214 #[.val (.int p1), .val (.int p2), .val (.int p3), .val (.int p4), .val (.int (0 : Int32)), .val (.ref aNAME), .val (.int na), .val (.int v3_0), .val (.int nb), .val (.int v5_0), .val (.int ca), .val (.int cb), .val (.int cc), .val (.int cd), .val (.int ce), .val (.int cf), .val (.ref r_12), .val .null, .val (.ref b179), .unset, .unset] [])
                  refine Go.via (fun t k => XS.iload Xh250.here hx rfl (hb hby at_214) rfl k) ?_
                  refine Go.via (fun t k => XS.iconst Xh250.here hx rfl (hb hby at_216) k) ?_
                  show Go p.tables e below P T250 (mkF m 217 #[.val (.int p1), .val (.int p2), .val (.int p3), .val (.int p4), .val (.int (0 : Int32)), .val (.ref aNAME), .val (.int na), .val (.int v3_0), .val (.int nb), .val (.int v5_0), .val (.int ca), .val (.int cb), .val (.int cc), .val (.int cd), .val (.int ce), .val (.int cf), .val (.ref r_12), .val .null, .val (.ref b179), .unset, .unset] [(.int (1 : Int32)), (.int na)])
                  by_cases hc269 : na < (1 : Int32)
                  · refine Go.via (fun t k => XS.icmpYes Xh250.here hx rfl (pc0 := 217) (pc' := 227) rfl (hb hby at_217) rfl (tlt hc269).1 (by decide) (by decide) k) ?_
                    show Go p.tables e below P T250 (mkF m 227 #[.val (.int p1), .val (.int p2), .val (.int p3), .val (.int p4), .val (.int (0 : Int32)), .val (.ref aNAME), .val (.int na), .val (.int v3_0), .val (.int nb), .val (.int v5_0), .val (.int ca), .val (.int cb), .val (.int cc), .val (.int cd), .val (.int ce), .val (.int cf), .val (.ref r_12), .val .null, .val (.ref b179), .unset, .unset] [])
                    refine Go.via (fun t k => XS.iload Xh250.here hx rfl (hb hby at_227) rfl k) ?_
                    refine Go.via (fun t k => XS.iconst Xh250.here hx rfl (hb hby at_229) k) ?_
                    show Go p.tables e below P T250 (mkF m 230 #[.val (.int p1), .val (.int p2), .val (.int p3), .val (.int p4), .val (.int (0 : Int32)), .val (.ref aNAME), .val (.int na), .val (.int v3_0), .val (.int nb), .val (.int v5_0), .val (.int ca), .val (.int cb), .val (.int cc), .val (.int cd), .val (.int ce), .val (.int cf), .val (.ref r_12), .val .null, .val (.ref b179), .unset, .unset] [(.int (2 : Int32)), (.int na)])
                    by_cases hc270 : na < (2 : Int32)
                    · refine Go.via (fun t k => XS.icmpYes Xh250.here hx rfl (pc0 := 230) (pc' := 240) rfl (hb hby at_230) rfl (tlt hc270).1 (by decide) (by decide) k) ?_
                      show Go p.tables e below P T250 (mkF m 240 #[.val (.int p1), .val (.int p2), .val (.int p3), .val (.int p4), .val (.int (0 : Int32)), .val (.ref aNAME), .val (.int na), .val (.int v3_0), .val (.int nb), .val (.int v5_0), .val (.int ca), .val (.int cb), .val (.int cc), .val (.int cd), .val (.int ce), .val (.int cf), .val (.ref r_12), .val .null, .val (.ref b179), .unset, .unset] [])
                      refine Go.via (fun t k => XS.iload Xh250.here hx rfl (hb hby at_240) rfl k) ?_
                      refine Go.via (fun t k => XS.iconst Xh250.here hx rfl (hb hby at_242) k) ?_
                      show Go p.tables e below P T250 (mkF m 243 #[.val (.int p1), .val (.int p2), .val (.int p3), .val (.int p4), .val (.int (0 : Int32)), .val (.ref aNAME), .val (.int na), .val (.int v3_0), .val (.int nb), .val (.int v5_0), .val (.int ca), .val (.int cb), .val (.int cc), .val (.int cd), .val (.int ce), .val (.int cf), .val (.ref r_12), .val .null, .val (.ref b179), .unset, .unset] [(.int (3 : Int32)), (.int na)])
                      by_cases hc271 : na < (3 : Int32)
                      · refine Go.via (fun t k => XS.icmpYes Xh250.here hx rfl (pc0 := 243) (pc' := 253) rfl (hb hby at_243) rfl (tlt hc271).1 (by decide) (by decide) k) ?_
                        show Go p.tables e below P T250 (mkF m 253 #[.val (.int p1), .val (.int p2), .val (.int p3), .val (.int p4), .val (.int (0 : Int32)), .val (.ref aNAME), .val (.int na), .val (.int v3_0), .val (.int nb), .val (.int v5_0), .val (.int ca), .val (.int cb), .val (.int cc), .val (.int cd), .val (.int ce), .val (.int cf), .val (.ref r_12), .val .null, .val (.ref b179), .unset, .unset] [])
                        refine Go.via (fun t k => XS.iconst Xh250.here hx rfl (hb hby at_253) k) ?_
                        refine Go.via (fun t k => XS.goto Xh250.here hx rfl (pc0 := 254) (pc' := 258) rfl (hb hby at_254) (by decide) (by decide) k) ?_
                        exact LP257 T250 _ (1 : Int32) Xh250 rfl N250 (if_pos (own_mke yna hc256 (Or.inl hc269) (Or.inl hc270) (Or.inl hc271))).symm
                      · refine Go.via (fun t k => XS.icmpNo Xh250.here hx rfl (hb hby at_243) rfl (flt hc271).1 k) ?_
                        show Go p.tables e below P T250 (mkF m 246 #[.val (.int p1), .val (.int p2), .val (.int p3), .val (.int p4), .val (.int (0 : Int32)), .val (.ref aNAME), .val (.int na), .val (.int v3_0), .val (.int nb), .val (.int v5_0), .val (.int ca), .val (.int cb), .val (.int cc), .val (.int cd), .val (.int ce), .val (.int cf), .val (.ref r_12), .val .null, .val (.ref b179), .unset, .unset] [])
                        refine Go.via (fun t k => XS.iload Xh250.here hx rfl (hb hby at_246) rfl k) ?_
                        refine Go.via (fun t k => XS.iload Xh250.here hx rfl (hb hby at_248) rfl k) ?_
                        show Go p.tables e below P T250 (mkF m 250 #[.val (.int p1), .val (.int p2), .val (.int p3), .val (.int p4), .val (.int (0 : Int32)), .val (.ref aNAME), .val (.int na), .val (.int v3_0), .val (.int nb), .val (.int v5_0), .val (.int ca), .val (.int cb), .val (.int cc), .val (.int cd), .val (.int ce), .val (.int cf), .val (.ref r_12), .val .null, .val (.ref b179), .unset, .unset] [(.int cf), (.int cc)])
                        by_cases hc272 : cc = cf
                        · refine Go.via (fun t k => XS.icmpNo Xh250.here hx rfl (hb hby at_250) rfl (teq hc272).2 k) ?_
                          show Go p.tables e below P T250 (mkF m 253 #[.val (.int p1), .val (.int p2), .val (.int p3), .val (.int p4), .val (.int (0 : Int32)), .val (.ref aNAME), .val (.int na), .val (.int v3_0), .val (.int nb), .val (.int v5_0), .val (.int ca), .val (.int cb), .val (.int cc), .val (.int cd), .val (.int ce), .val (.int cf), .val (.ref r_12), .val .null, .val (.ref b179), .unset, .unset] [])
                          refine Go.via (fun t k => XS.iconst Xh250.here hx rfl (hb hby at_253) k) ?_
                          refine Go.via (fun t k => XS.goto Xh250.here hx rfl (pc0 := 254) (pc' := 258) rfl (hb hby at_254) (by decide) (by decide) k) ?_
                          exact LP257 T250 _ (1 : Int32) Xh250 rfl N250 (if_pos (own_mke yna hc256 (Or.inl hc269) (Or.inl hc270) (Or.inr hc272))).symm
                        · refine Go.via (fun t k => XS.icmpYes Xh250.here hx rfl (pc0 := 250) (pc' := 257) rfl (hb hby at_250) rfl (feq hc272).2 (by decide) (by decide) k) ?_
                          show Go p.tables e below P T250 (mkF m 257 #[.val (.int p1), .val (.int p2), .val (.int p3), .val (.int p4), .val (.int (0 : Int32)), .val (.ref aNAME), .val (.int na), .val (.int v3_0), .val (.int nb), .val (.int v5_0), .val (.int ca), .val (.int cb), .val (.int cc), .val (.int cd), .val (.int ce), .val (.int cf), .val (.ref r_12), .val .null, .val (.ref b179), .unset, .unset] [])
                          refine Go.via (fun t k => XS.iconst Xh250.here hx rfl (hb hby at_257) k) ?_
                          exact LP257 T250 _ (0 : Int32) Xh250 rfl N250 (if_neg (fun q => hc272 (own_Binj ycc ycf (own_mk2 yna hc256 hc271 q)))).symm
                    · refine Go.via (fun t k => XS.icmpNo Xh250.here hx rfl (hb hby at_230) rfl (flt hc270).1 k) ?_
                      show Go p.tables e below P T250 (mkF m 233 #[.val (.int p1), .val (.int p2), .val (.int p3), .val (.int p4), .val (.int (0 : Int32)), .val (.ref aNAME), .val (.int na), .val (.int v3_0), .val (.int nb), .val (.int v5_0), .val (.int ca), .val (.int cb), .val (.int cc), .val (.int cd), .val (.int ce), .val (.int cf), .val (.ref r_12), .val .null, .val (.ref b179), .unset, .unset] [])
                      refine Go.via (fun t k => XS.iload Xh250.here hx rfl (hb hby at_233) rfl k) ?_
                      refine Go.via (fun t k => XS.iload Xh250.here hx rfl (hb hby at_235) rfl k) ?_
                      show Go p.tables e below P T250 (mkF m 237 #[.val (.int p1), .val (.int p2), .val (.int p3), .val (.int p4), .val (.int (0 : Int32)), .val (.ref aNAME), .val (.int na), .val (.int v3_0), .val (.int nb), .val (.int v5_0), .val (.int ca), .val (.int cb), .val (.int cc), .val (.int cd), .val (.int ce), .val (.int cf), .val (.ref r_12), .val .null, .val (.ref b179), .unset, .unset] [(.int ce), (.int cb)])
                      by_cases hc273 : cb = ce
                      · refine Go.via (fun t k => XS.icmpNo Xh250.here hx rfl (hb hby at_237) rfl (teq hc273).2 k) ?_
                        show Go p.tables e below P T250 (mkF m 240 #[.val (.int p1), .val (.int p2), .val (.int p3), .val (.int p4), .val (.int (0 : Int32)), .val (.ref aNAME), .val (.int na), .val (.int v3_0), .val (.int nb), .val (.int v5_0), .val (.int ca), .val (.int cb), .val (.int cc), .val (.int cd), .val (.int ce), .val (.int cf), .val (.ref r_12), .val .null, .val (.ref b179), .unset, .unset] [])
                        refine Go.via (fun t k => XS.iload Xh250.here hx rfl (hb hby at_240) rfl k) ?_
                        refine Go.via (fun t k => XS.iconst Xh250.here hx rfl (hb hby at_242) k) ?_
                        show Go p.tables e below P T250 (mkF m 243 #[.val (.int p1), .val (.int p2), .val (.int p3), .val (.int p4), .val (.int (0 : Int32)), .val (.ref aNAME), .val (.int na), .val (.int v3_0), .val (.int nb), .val (.int v5_0), .val (.int ca), .val (.int cb), .val (.int cc), .val (.int cd), .val (.int ce), .val (.int cf), .val (.ref r_12), .val .null, .val (.ref b179), .unset, .unset] [(.int (3 : Int32)), (.int na)])
                        by_cases hc274 : na < (3 : Int32)
                        · refine Go.via (fun t k => XS.icmpYes Xh250.here hx rfl (pc0 := 243) (pc' := 253) rfl (hb hby at_243) rfl (tlt hc274).1 (by decide) (by decide) k) ?_
                          show Go p.tables e below P T250 (mkF m 253 #[.val (.int p1), .val (.int p2), .val (.int p3), .val (.int p4), .val (.int (0 : Int32)), .val (.ref aNAME), .val (.int na), .val (.int v3_0), .val (.int nb), .val (.int v5_0), .val (.int ca), .val (.int cb), .val (.int cc), .val (.int cd), .val (.int ce), .val (.int cf), .val (.ref r_12), .val .null, .val (.ref b179), .unset, .unset] [])
                          refine Go.via (fun t k => XS.iconst Xh250.here hx rfl (hb hby at_253) k) ?_
                          refine Go.via (fun t k => XS.goto Xh250.here hx rfl (pc0 := 254) (pc' := 258) rfl (hb hby at_254) (by decide) (by decide) k) ?_
                          exact LP257 T250 _ (1 : Int32) Xh250 rfl N250 (if_pos (own_mke yna hc256 (Or.inl hc269) (Or.inr hc273) (Or.inl hc274))).symm
                        · refine Go.via (fun t k => XS.icmpNo Xh250.here hx rfl (hb hby at_243) rfl (flt hc274).1 k) ?_
                          show Go p.tables e below P T250 (mkF m 246 #[.val (.int p1), .val (.int p2), .val (.int p3), .val (.int p4), .val (.int (0 : Int32)), .val (.ref aNAME), .val (.int na), .val (.int v3_0), .val (.int nb), .val (.int v5_0), .val (.int ca), .val (.int cb), .val (.int cc), .val (.int cd), .val (.int ce), .val (.int cf), .val (.ref r_12), .val .null, .val (.ref b179), .unset, .unset] [])
                          refine Go.via (fun t k => XS.iload Xh250.here hx rfl (hb hby at_246) rfl k) ?_
                          refine Go.via (fun t k => XS.iload Xh250.here hx rfl (hb hby at_248) rfl k) ?_
                          show Go p.tables e below P T250 (mkF m 250 #[.val (.int p1), .val (.int p2), .val (.int p3), .val (.int p4), .val (.int (0 : Int32)), .val (.ref aNAME), .val (.int na), .val (.int v3_0), .val (.int nb), .val (.int v5_0), .val (.int ca), .val (.int cb), .val (.int cc), .val (.int cd), .val (.int ce), .val (.int cf), .val (.ref r_12), .val .null, .val (.ref b179), .unset, .unset] [(.int cf), (.int cc)])
                          by_cases hc275 : cc = cf
                          · refine Go.via (fun t k => XS.icmpNo Xh250.here hx rfl (hb hby at_250) rfl (teq hc275).2 k) ?_
                            show Go p.tables e below P T250 (mkF m 253 #[.val (.int p1), .val (.int p2), .val (.int p3), .val (.int p4), .val (.int (0 : Int32)), .val (.ref aNAME), .val (.int na), .val (.int v3_0), .val (.int nb), .val (.int v5_0), .val (.int ca), .val (.int cb), .val (.int cc), .val (.int cd), .val (.int ce), .val (.int cf), .val (.ref r_12), .val .null, .val (.ref b179), .unset, .unset] [])
                            refine Go.via (fun t k => XS.iconst Xh250.here hx rfl (hb hby at_253) k) ?_
                            refine Go.via (fun t k => XS.goto Xh250.here hx rfl (pc0 := 254) (pc' := 258) rfl (hb hby at_254) (by decide) (by decide) k) ?_
                            exact LP257 T250 _ (1 : Int32) Xh250 rfl N250 (if_pos (own_mke yna hc256 (Or.inl hc269) (Or.inr hc273) (Or.inr hc275))).symm
                          · refine Go.via (fun t k => XS.icmpYes Xh250.here hx rfl (pc0 := 250) (pc' := 257) rfl (hb hby at_250) rfl (feq hc275).2 (by decide) (by decide) k) ?_
                            show Go p.tables e below P T250 (mkF m 257 #[.val (.int p1), .val (.int p2), .val (.int p3), .val (.int p4), .val (.int (0 : Int32)), .val (.ref aNAME), .val (.int na), .val (.int v3_0), .val (.int nb), .val (.int v5_0), .val (.int ca), .val (.int cb), .val (.int cc), .val (.int cd), .val (.int ce), .val (.int cf), .val (.ref r_12), .val .null, .val (.ref b179), .unset, .unset] [])
                            refine Go.via (fun t k => XS.iconst Xh250.here hx rfl (hb hby at_257) k) ?_
                            exact LP257 T250 _ (0 : Int32) Xh250 rfl N250 (if_neg (fun q => hc275 (own_Binj ycc ycf (own_mk2 yna hc256 hc274 q)))).symm
                      · refine Go.via (fun t k => XS.icmpYes Xh250.here hx rfl (pc0 := 237) (pc' := 257) rfl (hb hby at_237) rfl (feq hc273).2 (by decide) (by decide) k) ?_
                        show Go p.tables e below P T250 (mkF m 257 #[.val (.int p1), .val (.int p2), .val (.int p3), .val (.int p4), .val (.int (0 : Int32)), .val (.ref aNAME), .val (.int na), .val (.int v3_0), .val (.int nb), .val (.int v5_0), .val (.int ca), .val (.int cb), .val (.int cc), .val (.int cd), .val (.int ce), .val (.int cf), .val (.ref r_12), .val .null, .val (.ref b179), .unset, .unset] [])
                        refine Go.via (fun t k => XS.iconst Xh250.here hx rfl (hb hby at_257) k) ?_
                        exact LP257 T250 _ (0 : Int32) Xh250 rfl N250 (if_neg (fun q => hc273 (own_Binj ycb yce (own_mk1 yna hc256 hc270 q)))).symm
                  · refine Go.via (fun t k => XS.icmpNo Xh250.here hx rfl (hb hby at_217) rfl (flt hc269).1 k) ?_
                    show Go p.tables e below P T250 (mkF m 220 #[.val (.int p1), .val (.int p2), .val (.int p3), .val (.int p4), .val (.int (0 : Int32)), .val (.ref aNAME), .val (.int na), .val (.int v3_0), .val (.int nb), .val (.int v5_0), .val (.int ca), .val (.int cb), .val (.int cc), .val (.int cd), .val (.int ce), .val (.int cf), .val (.ref r_12), .val .null, .val (.ref b179), .unset, .unset] [])
                    refine Go.via (fun t k => XS.iload Xh250.here hx rfl (hb hby at_220) rfl k) ?_
                    refine Go.via (fun t k => XS.iload Xh250.here hx rfl (hb hby at_222) rfl k) ?_
                    show Go p.tables e below P T250 (mkF m 224 #[.val (.int p1), .val (.int p2), .val (.int p3), .val (.int p4), .val (.int (0 : Int32)), .val (.ref aNAME), .val (.int na), .val (.int v3_0), .val (.int nb), .val (.int v5_0), .val (.int ca), .val (.int cb), .val (.int cc), .val (.int cd), .val (.int ce), .val (.int cf), .val (.ref r_12), .val .null, .val (.ref b179), .unset, .unset] [(.int cd), (.int ca)])
                    by_cases hc276 : ca = cd
                    · refine Go.via (fun t k => XS.icmpNo Xh250.here hx rfl (hb hby at_224) rfl (teq hc276).2 k) ?_
                      show Go p.tables e below P T250 (mkF m 227 #[.val (.int p1), .val (.int p2), .val (.int p3), .val (.int p4), .val (.int (0 : Int32)), .val (.ref aNAME), .val (.int na), .val (.int v3_0), .val (.int nb), .val (.int v5_0), .val (.int ca), .val (.int cb), .val (.int cc), .val (.int cd), .val (.int ce), .val (.int cf), .val (.ref r_12), .val .null, .val (.ref b179), .unset, .unset] [])
                      refine Go.via (fun t k => XS.iload Xh250.here hx rfl (hb hby at_227) rfl k) ?_
                      refine Go.via (fun t k => XS.iconst Xh250.here hx rfl (hb hby at_229) k) ?_
                      show Go p.tables e below P T250 (mkF m 230 #[.val (.int p1), .val (.int p2), .val (.int p3), .val (.int p4), .val (.int (0 : Int32)), .val (.ref aNAME), .val (.int na), .val (.int v3_0), .val (.int nb), .val (.int v5_0), .val (.int ca), .val (.int cb), .val (.int cc), .val (.int cd), .val (.int ce), .val (.int cf), .val (.ref r_12), .val .null, .val (.ref b179), .unset, .unset] [(.int (2 : Int32)), (.int na)])
                      by_cases hc277 : na < (2 : Int32)
                      · refine Go.via (fun t k => XS.icmpYes Xh250.here hx rfl (pc0 := 230) (pc' := 240) rfl (hb hby at_230) rfl (tlt hc277).1 (by decide) (by decide) k) ?_
                        show Go p.tables e below P T250 (mkF m 240 #[.val (.int p1), .val (.int p2), .val (.int p3), .val (.int p4), .val (.int (0 : Int32)), .val (.ref aNAME), .val (.int na), .val (.int v3_0), .val (.int nb), .val (.int v5_0), .val (.int ca), .val (.int cb), .val (.int cc), .val (.int cd), .val (.int ce), .val (.int cf), .val (.ref r_12), .val .null, .val (.ref b179), .unset, .unset] [])
                        refine Go.via (fun t k => XS.iload Xh250.here hx rfl (hb hby at_240) rfl k) ?_
                        refine Go.via (fun t k => XS.iconst Xh250.here hx rfl (hb hby at_242) k) ?_
                        show Go p.tables e below P T250 (mkF m 243 #[.val (.int p1), .val (.int p2), .val (.int p3), .val (.int p4), .val (.int (0 : Int32)), .val (.ref aNAME), .val (.int na), .val (.int v3_0), .val (.int nb), .val (.int v5_0), .val (.int ca), .val (.int cb), .val (.int cc), .val (.int cd), .val (.int ce), .val (.int cf), .val (.ref r_12), .val .null, .val (.ref b179), .unset, .unset] [(.int (3 : Int32)), (.int na)])
                        by_cases hc278 : na < (3 : Int32)
                        · refine Go.via (fun t k => XS.icmpYes Xh250.here hx rfl (pc0 := 243) (pc' := 253) rfl (hb hby at_243) rfl (tlt hc278).1 (by decide) (by decide) k) ?_
                          show Go p.tables e below P T250 (mkF m 253 #[.val (.int p1), .val (.int p2), .val (.int p3), .val (.int p4), .val (.int (0 : Int32)), .val (.ref aNAME), .val (.int na), .val (.int v3_0), .val (.int nb), .val (.int v5_0), .val (.int ca), .val (.int cb), .val (.int cc), .val (.int cd), .val (.int ce), .val (.int cf), .val (.ref r_12), .val .null, .val (.ref b179), .unset, .unset] [])
                          refine Go.via (fun t k => XS.iconst Xh250.here hx rfl (hb hby at_253) k) ?_
                          refine Go.via (fun t k => XS.goto Xh250.here hx rfl (pc0 := 254) (pc' := 258) rfl (hb hby at_254) (by decide) (by decide) k) ?_
                          exact LP257 T250 _ (1 : Int32) Xh250 rfl N250 (if_pos (own_mke yna hc256 (Or.inr hc276) (Or.inl hc277) (Or.inl hc278))).symm
                        · refine Go.via (fun t k => XS.icmpNo Xh250.here hx rfl (hb hby at_243) rfl (flt hc278).1 k) ?_
                          show Go p.tables e below P T250 (mkF m 246 #[.val (.int p1), .val (.int p2), .val (.int p3), .val (.int p4), .val (.int (0 : Int32)), .val (.ref aNAME), .val (.int na), .val (.int v3_0), .val (.int nb), .val (.int v5_0), .val (.int ca), .val (.int cb), .val (.int cc), .val (.int cd), .val (.int ce), .val (.int cf), .val (.ref r_12), .val .null, .val (.ref b179), .unset, .unset] [])
                          refine Go.via (fun t k => XS.iload Xh250.here hx rfl (hb hby at_246) rfl k) ?_
                          refine Go.via (fun t k => XS.iload Xh250.here hx rfl (hb hby at_248) rfl k) ?_
                          show Go p.tables e below P T250 (mkF m 250 #[.val (.int p1), .val (.int p2), .val (.int p3), .val (.int p4), .val (.int (0 : Int32)), .val (.ref aNAME), .val (.int na), .val (.int v3_0), .val (.int nb), .val (.int v5_0), .val (.int ca), .val (.int cb), .val (.int cc), .val (.int cd), .val (.int ce), .val (.int cf), .val (.ref r_12), .val .null, .val (.ref b179), .unset, .unset] [(.int cf), (.int cc)])
                          by_cases hc279 : cc = cf
                          · refine Go.via (fun t k => XS.icmpNo Xh250.here hx rfl (hb hby at_250) rfl (teq hc279).2 k) ?_
                            show Go p.tables e below P T250 (mkF m 253 #[.val (.int p1), .val (.int p2), .val (.int p3), .val (.int p4), .val (.int (0 : Int32)), .val (.ref aNAME), .val (.int na), .val (.int v3_0), .val (.int nb), .val (.int v5_0), .val (.int ca), .val (.int cb), .val (.int cc), .val (.int cd), .val (.int ce), .val (.int cf), .val (.ref r_12), .val .null, .val (.ref b179), .unset, .unset] [])
                            refine Go.via (fun t k => XS.iconst Xh250.here hx rfl (hb hby at_253) k) ?_
                            refine Go.via (fun t k => XS.goto Xh250.here hx rfl (pc0 := 254) (pc' := 258) rfl (hb hby at_254) (by decide) (by decide) k) ?_
                            exact LP257 T250 _ (1 : Int32) Xh250 rfl N250 (if_pos (own_mke yna hc256 (Or.inr hc276) (Or.inl hc277) (Or.inr hc279))).symm
                          · refine Go.via (fun t k => XS.icmpYes Xh250.here hx rfl (pc0 := 250) (pc' := 257) rfl (hb hby at_250) rfl (feq hc279).2 (by decide) (by decide) k) ?_
                            show Go p.tables e below P T250 (mkF m 257 #[.val (.int p1), .val (.int p2), .val (.int p3), .val (.int p4), .val (.int (0 : Int32)), .val (.ref aNAME), .val (.int na), .val (.int v3_0), .val (.int nb), .val (.int v5_0), .val (.int ca), .val (.int cb), .val (.int cc), .val (.int cd), .val (.int ce), .val (.int cf), .val (.ref r_12), .val .null, .val (.ref b179), .unset, .unset] [])
                            refine Go.via (fun t k => XS.iconst Xh250.here hx rfl (hb hby at_257) k) ?_
                            exact LP257 T250 _ (0 : Int32) Xh250 rfl N250 (if_neg (fun q => hc279 (own_Binj ycc ycf (own_mk2 yna hc256 hc278 q)))).symm
                      · refine Go.via (fun t k => XS.icmpNo Xh250.here hx rfl (hb hby at_230) rfl (flt hc277).1 k) ?_
                        show Go p.tables e below P T250 (mkF m 233 #[.val (.int p1), .val (.int p2), .val (.int p3), .val (.int p4), .val (.int (0 : Int32)), .val (.ref aNAME), .val (.int na), .val (.int v3_0), .val (.int nb), .val (.int v5_0), .val (.int ca), .val (.int cb), .val (.int cc), .val (.int cd), .val (.int ce), .val (.int cf), .val (.ref r_12), .val .null, .val (.ref b179), .unset, .unset] [])
                        refine Go.via (fun t k => XS.iload Xh250.here hx rfl (hb hby at_233) rfl k) ?_
                        refine Go.via (fun t k => XS.iload Xh250.here hx rfl (hb hby at_235) rfl k) ?_
                        show Go p.tables e below P T250 (mkF m 237 #[.val (.int p1), .val (.int p2), .val (.int p3), .val (.int p4), .val (.int (0 : Int32)), .val (.ref aNAME), .val (.int na), .val (.int v3_0), .val (.int nb), .val (.int v5_0), .val (.int ca), .val (.int cb), .val (.int cc), .val (.int cd), .val (.int ce), .val (.int cf), .val (.ref r_12), .val .null, .val (.ref b179), .unset, .unset] [(.int ce), (.int cb)])
                        by_cases hc280 : cb = ce
                        · refine Go.via (fun t k => XS.icmpNo Xh250.here hx rfl (hb hby at_237) rfl (teq hc280).2 k) ?_
                          show Go p.tables e below P T250 (mkF m 240 #[.val (.int p1), .val (.int p2), .val (.int p3), .val (.int p4), .val (.int (0 : Int32)), .val (.ref aNAME), .val (.int na), .val (.int v3_0), .val (.int nb), .val (.int v5_0), .val (.int ca), .val (.int cb), .val (.int cc), .val (.int cd), .val (.int ce), .val (.int cf), .val (.ref r_12), .val .null, .val (.ref b179), .unset, .unset] [])
                          refine Go.via (fun t k => XS.iload Xh250.here hx rfl (hb hby at_240) rfl k) ?_
                          refine Go.via (fun t k => XS.iconst Xh250.here hx rfl (hb hby at_242) k) ?_
                          show Go p.tables e below P T250 (mkF m 243 #[.val (.int p1), .val (.int p2), .val (.int p3), .val (.int p4), .val (.int (0 : Int32)), .val (.ref aNAME), .val (.int na), .val (.int v3_0), .val (.int nb), .val (.int v5_0), .val (.int ca), .val (.int cb), .val (.int cc), .val (.int cd), .val (.int ce), .val (.int cf), .val (.ref r_12), .val .null, .val (.ref b179), .unset, .unset] [(.int (3 : Int32)), (.int na)])
                          by_cases hc281 : na < (3 : Int32)
                          · refine Go.via (fun t k => XS.icmpYes Xh250.here hx rfl (pc0 := 243) (pc' := 253) rfl (hb hby at_243) rfl (tlt hc281).1 (by decide) (by decide) k) ?_
                            show Go p.tables e below P T250 (mkF m 253 #[.val (.int p1), .val (.int p2), .val (.int p3), .val (.int p4), .val (.int (0 : Int32)), .val (.ref aNAME), .val (.int na), .val (.int v3_0), .val (.int nb), .val (.int v5_0), .val (.int ca), .val (.int cb), .val (.int cc), .val (.int cd), .val (.int ce), .val (.int cf), .val (.ref r_12), .val .null, .val (.ref b179), .unset, .unset] [])
                            refine Go.via (fun t k => XS.iconst Xh250.here hx rfl (hb hby at_253) k) ?_
                            refine Go.via (fun t k => XS.goto Xh250.here hx rfl (pc0 := 254) (pc' := 258) rfl (hb hby at_254) (by decide) (by decide) k) ?_
                            exact LP257 T250 _ (1 : Int32) Xh250 rfl N250 (if_pos (own_mke yna hc256 (Or.inr hc276) (Or.inr hc280) (Or.inl hc281))).symm
                          · refine Go.via (fun t k => XS.icmpNo Xh250.here hx rfl (hb hby at_243) rfl (flt hc281).1 k) ?_
                            show Go p.tables e below P T250 (mkF m 246 #[.val (.int p1), .val (.int p2), .val (.int p3), .val (.int p4), .val (.int (0 : Int32)), .val (.ref aNAME), .val (.int na), .val (.int v3_0), .val (.int nb), .val (.int v5_0), .val (.int ca), .val (.int cb), .val (.int cc), .val (.int cd), .val (.int ce), .val (.int cf), .val (.ref r_12), .val .null, .val (.ref b179), .unset, .unset] [])
                            refine Go.via (fun t k => XS.iload Xh250.here hx rfl (hb hby at_246) rfl k) ?_
                            refine Go.via (fun t k => XS.iload Xh250.here hx rfl (hb hby at_248) rfl k) ?_
                            show Go p.tables e below P T250 (mkF m 250 #[.val (.int p1), .val (.int p2), .val (.int p3), .val (.int p4), .val (.int (0 : Int32)), .val (.ref aNAME), .val (.int na), .val (.int v3_0), .val (.int nb), .val (.int v5_0), .val (.int ca), .val (.int cb), .val (.int cc), .val (.int cd), .val (.int ce), .val (.int cf), .val (.ref r_12), .val .null, .val (.ref b179), .unset, .unset] [(.int cf), (.int cc)])
                            by_cases hc282 : cc = cf
                            · refine Go.via (fun t k => XS.icmpNo Xh250.here hx rfl (hb hby at_250) rfl (teq hc282).2 k) ?_
                              show Go p.tables e below P T250 (mkF m 253 #[.val (.int p1), .val (.int p2), .val (.int p3), .val (.int p4), .val (.int (0 : Int32)), .val (.ref aNAME), .val (.int na), .val (.int v3_0), .val (.int nb), .val (.int v5_0), .val (.int ca), .val (.int cb), .val (.int cc), .val (.int cd), .val (.int ce), .val (.int cf), .val (.ref r_12), .val .null, .val (.ref b179), .unset, .unset] [])
                              refine Go.via (fun t k => XS.iconst Xh250.here hx rfl (hb hby at_253) k) ?_
                              refine Go.via (fun t k => XS.goto Xh250.here hx rfl (pc0 := 254) (pc' := 258) rfl (hb hby at_254) (by decide) (by decide) k) ?_
                              exact LP257 T250 _ (1 : Int32) Xh250 rfl N250 (if_pos (own_mke yna hc256 (Or.inr hc276) (Or.inr hc280) (Or.inr hc282))).symm
                            · refine Go.via (fun t k => XS.icmpYes Xh250.here hx rfl (pc0 := 250) (pc' := 257) rfl (hb hby at_250) rfl (feq hc282).2 (by decide) (by decide) k) ?_
                              show Go p.tables e below P T250 (mkF m 257 #[.val (.int p1), .val (.int p2), .val (.int p3), .val (.int p4), .val (.int (0 : Int32)), .val (.ref aNAME), .val (.int na), .val (.int v3_0), .val (.int nb), .val (.int v5_0), .val (.int ca), .val (.int cb), .val (.int cc), .val (.int cd), .val (.int ce), .val (.int cf), .val (.ref r_12), .val .null, .val (.ref b179), .unset, .unset] [])
                              refine Go.via (fun t k => XS.iconst Xh250.here hx rfl (hb hby at_257) k) ?_
                              exact LP257 T250 _ (0 : Int32) Xh250 rfl N250 (if_neg (fun q => hc282 (own_Binj ycc ycf (own_mk2 yna hc256 hc281 q)))).symm
                        · refine Go.via (fun t k => XS.icmpYes Xh250.here hx rfl (pc0 := 237) (pc' := 257) rfl (hb hby at_237) rfl (feq hc280).2 (by decide) (by decide) k) ?_
                          show Go p.tables e below P T250 (mkF m 257 #[.val (.int p1), .val (.int p2), .val (.int p3), .val (.int p4), .val (.int (0 : Int32)), .val (.ref aNAME), .val (.int na), .val (.int v3_0), .val (.int nb), .val (.int v5_0), .val (.int ca), .val (.int cb), .val (.int cc), .val (.int cd), .val (.int ce), .val (.int cf), .val (.ref r_12), .val .null, .val (.ref b179), .unset, .unset] [])
                          refine Go.via (fun t k => XS.iconst Xh250.here hx rfl (hb hby at_257) k) ?_
                          exact LP257 T250 _ (0 : Int32) Xh250 rfl N250 (if_neg (fun q => hc280 (own_Binj ycb yce (own_mk1 yna hc256 hc277 q)))).symm
                    · refine Go.via (fun t k => XS.icmpYes Xh250.here hx rfl (pc0 := 224) (pc' := 257) rfl (hb hby at_224) rfl (feq hc276).2 (by decide) (by decide) k) ?_
                      show Go p.tables e below P T250 (mkF m 257 #[.val (.int p1), .val (.int p2), .val (.int p3), .val (.int p4), .val (.int (0 : Int32)), .val (.ref aNAME), .val (.int na), .val (.int v3_0), .val (.int nb), .val (.int v5_0), .val (.int ca), .val (.int cb), .val (.int cc), .val (.int cd), .val (.int ce), .val (.int cf), .val (.ref r_12), .val .null, .val (.ref b179), .unset, .unset] [])
                      refine Go.via (fun t k => XS.iconst Xh250.here hx rfl (hb hby at_257) k) ?_
                      exact LP257 T250 _ (0 : Int32) Xh250 rfl N250 (if_neg (fun q => hc276 (own_Binj yca ycd (own_mk0 yna hc256 hc269 q)))).symm
                · refine Go.via (fun t k => XS.icmpYes Xh250.here hx rfl (pc0 := 211) (pc' := 257) rfl (hb hby at_211) rfl (feq hc256).2 (by decide) (by decide) k) ?_
                  show Go p.tables e below P T250 (mkF m 257 #[.val (.int p1), .val (.int p2), .val (.int p3), .val (.int p4), .val (.int (0 : Int32)), .val (.ref aNAME), .val (.int na), .val (.int v3_0), .val (.int nb), .val (.int v5_0), .val (.int ca), .val (.int cb), .val (.int cc), .val (.int cd), .val (.int ce), .val (.int cf), .val (.ref r_12), .val .null, .val (.ref b179), .unset, .unset] [])
                  refine Go.via (fun t k => XS.iconst Xh250.here hx rfl (hb hby at_257) k) ?_
                  exact LP257 T250 _ (0 : Int32) Xh250 rfl N250 (if_neg (fun q => hc256 (own_mkn yna ynb q))).symm
            by_cases hc10 : v3_0 = (0 : Int32)
            · refine Go.via (fun t k => XS.ifYes X9.here hx rfl (pc0 := 130) (pc' := 138) rfl (hb hby at_130) rfl ((if0 _ _).trans (teq hc10).1) (by decide) (by decide) k) ?_
              show Go p.tables e below P T9 (mkF m 138 #[.val (.int p1), .val (.int p2), .val (.int p3), .val (.int p4), .val (.int (0 : Int32)), .val (.ref aNAME), .val (.int (p4 &&& (3 : Int32))), .val (.int v3_0), .val (.int (((p4.toUInt32 >>> ((3 : Int32) &&& 31).toUInt32).toInt32) &&& (3 : Int32))), .val (.int v5_0), .val (.int ((p2 &&& (255 : Int32)).toUInt32.toUInt16.toUInt32.toInt32)), .val (.int ((((p2.toUInt32 >>> ((8 : Int32) &&& 31).toUInt32).toInt32) &&& (255 : Int32)).toUInt32.toUInt16.toUInt32.toInt32)), .val (.int ((((p2.toUInt32 >>> ((16 : Int32) &&& 31).toUInt32).toInt32) &&& (255 : Int32)).toUInt32.toUInt16.toUInt32.toInt32)), .val (.int v7_0), .val (.int v9_0), .unset, .unset, .unset, .unset, .unset, .unset] [])
              refine Go.via (fun t k => XS.iloadN X9.here hx rfl (hb hby at_138) rfl k) ?_
              refine Go.via (fun t k => XS.bipush X9.here hx rfl (hb hby at_139) k) ?_
              refine Go.via (fun t k => XS.iushr X9.here hx rfl (hb hby at_141) rfl k) ?_
              show Go p.tables e below P T9 (mkF m 142 #[.val (.int p1), .val (.int p2), .val (.int p3), .val (.int p4), .val (.int (0 : Int32)), .val (.ref aNAME), .val (.int (p4 &&& (3 : Int32))), .val (.int v3_0), .val (.int (((p4.toUInt32 >>> ((3 : Int32) &&& 31).toUInt32).toInt32) &&& (3 : Int32))), .val (.int v5_0), .val (.int ((p2 &&& (255 : Int32)).toUInt32.toUInt16.toUInt32.toInt32)), .val (.int ((((p2.toUInt32 >>> ((8 : Int32) &&& 31).toUInt32).toInt32) &&& (255 : Int32)).toUInt32.toUInt16.toUInt32.toInt32)), .val (.int ((((p2.toUInt32 >>> ((16 : Int32) &&& 31).toUInt32).toInt32) &&& (255 : Int32)).toUInt32.toUInt16.toUInt32.toInt32)), .val (.int v7_0), .val (.int v9_0), .unset, .unset, .unset, .unset, .unset, .unset] [(.int ((p3.toUInt32 >>> ((16 : Int32) &&& 31).toUInt32).toInt32))])
              refine Go.via (fun t k => XS.sipush X9.here hx rfl (hb hby at_142) k) ?_
              refine Go.via (fun t k => XS.iand X9.here hx rfl (hb hby at_145) rfl k) ?_
              refine Go.via (fun t k => XS.i2c X9.here hx rfl (hb hby at_146) rfl k) ?_
              exact J11 T9 _ ((((p3.toUInt32 >>> ((16 : Int32) &&& 31).toUInt32).toInt32) &&& (255 : Int32)).toUInt32.toUInt16.toUInt32.toInt32) (ownUp X9 (by decide) (by decide)) e9 N9 (if_pos hc10).symm
            · refine Go.via (fun t k => XS.ifNo X9.here hx rfl (hb hby at_130) rfl ((if0 _ _).trans (feq hc10).1) k) ?_
              show Go p.tables e below P T9 (mkF m 133 #[.val (.int p1), .val (.int p2), .val (.int p3), .val (.int p4), .val (.int (0 : Int32)), .val (.ref aNAME), .val (.int (p4 &&& (3 : Int32))), .val (.int v3_0), .val (.int (((p4.toUInt32 >>> ((3 : Int32) &&& 31).toUInt32).toInt32) &&& (3 : Int32))), .val (.int v5_0), .val (.int ((p2 &&& (255 : Int32)).toUInt32.toUInt16.toUInt32.toInt32)), .val (.int ((((p2.toUInt32 >>> ((8 : Int32) &&& 31).toUInt32).toInt32) &&& (255 : Int32)).toUInt32.toUInt16.toUInt32.toInt32)), .val (.int ((((p2.toUInt32 >>> ((16 : Int32) &&& 31).toUInt32).toInt32) &&& (255 : Int32)).toUInt32.toUInt16.toUInt32.toInt32)), .val (.int v7_0), .val (.int v9_0), .unset, .unset, .unset, .unset, .unset, .unset] [])
              refine Go.via (fun t k => XS.iload X9.here hx rfl (hb hby at_133) rfl k) ?_
              refine Go.via (fun t k => XS.goto X9.here hx rfl (pc0 := 135) (pc' := 147) rfl (hb hby at_135) (by decide) (by decide) k) ?_
              exact J11 T9 _ ((((p2.toUInt32 >>> ((16 : Int32) &&& 31).toUInt32).toInt32) &&& (255 : Int32)).toUInt32.toUInt16.toUInt32.toInt32) (ownUp X9 (by decide) (by decide)) e9 N9 (if_neg hc10).symm
          by_cases hc8 : v3_0 = (0 : Int32)
          · refine Go.via (fun t k => XS.ifYes X7.here hx rfl (pc0 := 109) (pc' := 117) rfl (hb hby at_109) rfl ((if0 _ _).trans (teq hc8).1) (by decide) (by decide) k) ?_
            show Go p.tables e below P T7 (mkF m 117 #[.val (.int p1), .val (.int p2), .val (.int p3), .val (.int p4), .val (.int (0 : Int32)), .val (.ref aNAME), .val (.int (p4 &&& (3 : Int32))), .val (.int v3_0), .val (.int (((p4.toUInt32 >>> ((3 : Int32) &&& 31).toUInt32).toInt32) &&& (3 : Int32))), .val (.int v5_0), .val (.int ((p2 &&& (255 : Int32)).toUInt32.toUInt16.toUInt32.toInt32)), .val (.int ((((p2.toUInt32 >>> ((8 : Int32) &&& 31).toUInt32).toInt32) &&& (255 : Int32)).toUInt32.toUInt16.toUInt32.toInt32)), .val (.int ((((p2.toUInt32 >>> ((16 : Int32) &&& 31).toUInt32).toInt32) &&& (255 : Int32)).toUInt32.toUInt16.toUInt32.toInt32)), .val (.int v7_0), .unset, .unset, .unset, .unset, .unset, .unset, .unset] [])
            refine Go.via (fun t k => XS.iloadN X7.here hx rfl (hb hby at_117) rfl k) ?_
            refine Go.via (fun t k => XS.bipush X7.here hx rfl (hb hby at_118) k) ?_
            refine Go.via (fun t k => XS.iushr X7.here hx rfl (hb hby at_120) rfl k) ?_
            show Go p.tables e below P T7 (mkF m 121 #[.val (.int p1), .val (.int p2), .val (.int p3), .val (.int p4), .val (.int (0 : Int32)), .val (.ref aNAME), .val (.int (p4 &&& (3 : Int32))), .val (.int v3_0), .val (.int (((p4.toUInt32 >>> ((3 : Int32) &&& 31).toUInt32).toInt32) &&& (3 : Int32))), .val (.int v5_0), .val (.int ((p2 &&& (255 : Int32)).toUInt32.toUInt16.toUInt32.toInt32)), .val (.int ((((p2.toUInt32 >>> ((8 : Int32) &&& 31).toUInt32).toInt32) &&& (255 : Int32)).toUInt32.toUInt16.toUInt32.toInt32)), .val (.int ((((p2.toUInt32 >>> ((16 : Int32) &&& 31).toUInt32).toInt32) &&& (255 : Int32)).toUInt32.toUInt16.toUInt32.toInt32)), .val (.int v7_0), .unset, .unset, .unset, .unset, .unset, .unset, .unset] [(.int ((p3.toUInt32 >>> ((8 : Int32) &&& 31).toUInt32).toInt32))])
            refine Go.via (fun t k => XS.sipush X7.here hx rfl (hb hby at_121) k) ?_
            refine Go.via (fun t k => XS.iand X7.here hx rfl (hb hby at_124) rfl k) ?_
            refine Go.via (fun t k => XS.i2c X7.here hx rfl (hb hby at_125) rfl k) ?_
            exact J9 T7 _ ((((p3.toUInt32 >>> ((8 : Int32) &&& 31).toUInt32).toInt32) &&& (255 : Int32)).toUInt32.toUInt16.toUInt32.toInt32) X7 e7 N7 (if_pos hc8).symm
          · refine Go.via (fun t k => XS.ifNo X7.here hx rfl (hb hby at_109) rfl ((if0 _ _).trans (feq hc8).1) k) ?_
            show Go p.tables e below P T7 (mkF m 112 #[.val (.int p1), .val (.int p2), .val (.int p3), .val (.int p4), .val (.int (0 : Int32)), .val (.ref aNAME), .val (.int (p4 &&& (3 : Int32))), .val (.int v3_0), .val (.int (((p4.toUInt32 >>> ((3 : Int32) &&& 31).toUInt32).toInt32) &&& (3 : Int32))), .val (.int v5_0), .val (.int ((p2 &&& (255 : Int32)).toUInt32.toUInt16.toUInt32.toInt32)), .val (.int ((((p2.toUInt32 >>> ((8 : Int32) &&& 31).toUInt32).toInt32) &&& (255 : Int32)).toUInt32.toUInt16.toUInt32.toInt32)), .val (.int ((((p2.toUInt32 >>> ((16 : Int32) &&& 31).toUInt32).toInt32) &&& (255 : Int32)).toUInt32.toUInt16.toUInt32.toInt32)), .val (.int v7_0), .unset, .unset, .unset, .unset, .unset, .unset, .unset] [])
            refine Go.via (fun t k => XS.iload X7.here hx rfl (hb hby at_112) rfl k) ?_
            refine Go.via (fun t k => XS.goto X7.here hx rfl (pc0 := 114) (pc' := 126) rfl (hb hby at_114) (by decide) (by decide) k) ?_
            exact J9 T7 _ ((((p2.toUInt32 >>> ((8 : Int32) &&& 31).toUInt32).toInt32) &&& (255 : Int32)).toUInt32.toUInt16.toUInt32.toInt32) X7 e7 N7 (if_neg hc8).symm
        by_cases hc6 : v3_0 = (0 : Int32)
        · refine Go.via (fun t k => XS.ifYes X5.here hx rfl (pc0 := 91) (pc' := 99) rfl (hb hby at_91) rfl ((if0 _ _).trans (teq hc6).1) (by decide) (by decide) k) ?_
          show Go p.tables e below P T5 (mkF m 99 #[.val (.int p1), .val (.int p2), .val (.int p3), .val (.int p4), .val (.int (0 : Int32)), .val (.ref aNAME), .val (.int (p4 &&& (3 : Int32))), .val (.int v3_0), .val (.int (((p4.toUInt32 >>> ((3 : Int32) &&& 31).toUInt32).toInt32) &&& (3 : Int32))), .val (.int v5_0), .val (.int ((p2 &&& (255 : Int32)).toUInt32.toUInt16.toUInt32.toInt32)), .val (.int ((((p2.toUInt32 >>> ((8 : Int32) &&& 31).toUInt32).toInt32) &&& (255 : Int32)).toUInt32.toUInt16.toUInt32.toInt32)), .val (.int ((((p2.toUInt32 >>> ((16 : Int32) &&& 31).toUInt32).toInt32) &&& (255 : Int32)).toUInt32.toUInt16.toUInt32.toInt32)), .unset, .unset, .unset, .unset, .unset, .unset, .unset, .unset] [])
          refine Go.via (fun t k => XS.iloadN X5.here hx rfl (hb hby at_99) rfl k) ?_
          refine Go.via (fun t k => XS.sipush X5.here hx rfl (hb hby at_100) k) ?_
          refine Go.via (fun t k => XS.iand X5.here hx rfl (hb hby at_103) rfl k) ?_
          show Go p.tables e below P T5 (mkF m 104 #[.val (.int p1), .val (.int p2), .val (.int p3), .val (.int p4), .val (.int (0 : Int32)), .val (.ref aNAME), .val (.int (p4 &&& (3 : Int32))), .val (.int v3_0), .val (.int (((p4.toUInt32 >>> ((3 : Int32) &&& 31).toUInt32).toInt32) &&& (3 : Int32))), .val (.int v5_0), .val (.int ((p2 &&& (255 : Int32)).toUInt32.toUInt16.toUInt32.toInt32)), .val (.int ((((p2.toUInt32 >>> ((8 : Int32) &&& 31).toUInt32).toInt32) &&& (255 : Int32)).toUInt32.toUInt16.toUInt32.toInt32)), .val (.int ((((p2.toUInt32 >>> ((16 : Int32) &&& 31).toUInt32).toInt32) &&& (255 : Int32)).toUInt32.toUInt16.toUInt32.toInt32)), .unset, .unset, .unset, .unset, .unset, .unset, .unset, .unset] [(.int (p3 &&& (255 : Int32)))])
          refine Go.via (fun t k => XS.i2c X5.here hx rfl (hb hby at_104) rfl k) ?_
          exact J7 T5 _ ((p3 &&& (255 : Int32)).toUInt32.toUInt16.toUInt32.toInt32) X5 e5 N5 (if_pos hc6).symm
        · refine Go.via (fun t k => XS.ifNo X5.here hx rfl (hb hby at_91) rfl ((if0 _ _).trans (feq hc6).1) k) ?_
          show Go p.tables e below P T5 (mkF m 94 #[.val (.int p1), .val (.int p2), .val (.int p3), .val (.int p4), .val (.int (0 : Int32)), .val (.ref aNAME), .val (.int (p4 &&& (3 : Int32))), .val (.int v3_0), .val (.int (((p4.toUInt32 >>> ((3 : Int32) &&& 31).toUInt32).toInt32) &&& (3 : Int32))), .val (.int v5_0), .val (.int ((p2 &&& (255 : Int32)).toUInt32.toUInt16.toUInt32.toInt32)), .val (.int ((((p2.toUInt32 >>> ((8 : Int32) &&& 31).toUInt32).toInt32) &&& (255 : Int32)).toUInt32.toUInt16.toUInt32.toInt32)), .val (.int ((((p2.toUInt32 >>> ((16 : Int32) &&& 31).toUInt32).toInt32) &&& (255 : Int32)).toUInt32.toUInt16.toUInt32.toInt32)), .unset, .unset, .unset, .unset, .unset, .unset, .unset, .unset] [])
          refine Go.via (fun t k => XS.iload X5.here hx rfl (hb hby at_94) rfl k) ?_
          refine Go.via (fun t k => XS.goto X5.here hx rfl (pc0 := 96) (pc' := 105) rfl (hb hby at_96) (by decide) (by decide) k) ?_
          exact J7 T5 _ ((p2 &&& (255 : Int32)).toUInt32.toUInt16.toUInt32.toInt32) X5 e5 N5 (if_neg hc6).symm
      by_cases hc4 : (((p4.toUInt32 >>> ((5 : Int32) &&& 31).toUInt32).toInt32) &&& (3 : Int32)) = (3 : Int32)
      · refine Go.via (fun t k => XS.icmpNo X3.here hx rfl (hb hby at_49) rfl (teq hc4).2 k) ?_
        show Go p.tables e below P T3 (mkF m 52 #[.val (.int p1), .val (.int p2), .val (.int p3), .val (.int p4), .val (.int (0 : Int32)), .val (.ref aNAME), .val (.int (p4 &&& (3 : Int32))), .val (.int v3_0), .val (.int (((p4.toUInt32 >>> ((3 : Int32) &&& 31).toUInt32).toInt32) &&& (3 : Int32))), .unset, .unset, .unset, .unset, .unset, .unset, .unset, .unset, .unset, .unset, .unset, .unset] [])
        refine Go.via (fun t k => XS.iconst X3.here hx rfl (hb hby at_52) k) ?_
        refine Go.via (fun t k => XS.goto X3.here hx rfl (pc0 := 53) (pc' := 57) rfl (hb hby at_53) (by decide) (by decide) k) ?_
        exact J5 T3 _ (1 : Int32) X3 e3 N3 (if_pos hc4).symm
      · refine Go.via (fun t k => XS.icmpYes X3.here hx rfl (pc0 := 49) (pc' := 56) rfl (hb hby at_49) rfl (feq hc4).2 (by decide) (by decide) k) ?_
        show Go p.tables e below P T3 (mkF m 56 #[.val (.int p1), .val (.int p2), .val (.int p3), .val (.int p4), .val (.int (0 : Int32)), .val (.ref aNAME), .val (.int (p4 &&& (3 : Int32))), .val (.int v3_0), .val (.int (((p4.toUInt32 >>> ((3 : Int32) &&& 31).toUInt32).toInt32) &&& (3 : Int32))), .unset, .unset, .unset, .unset, .unset, .unset, .unset, .unset, .unset, .unset, .unset, .unset] [])
        refine Go.via (fun t k => XS.iconst X3.here hx rfl (hb hby at_56) k) ?_
        exact J5 T3 _ (0 : Int32) X3 e3 N3 (if_neg hc4).symm
    by_cases hc2 : (((p4.toUInt32 >>> ((2 : Int32) &&& 31).toUInt32).toInt32) &&& (1 : Int32)) = (0 : Int32)
    · refine Go.via (fun t k => XS.ifYes Xh1.here hx rfl (pc0 := 26) (pc' := 33) rfl (hb hby at_26) rfl ((if0 _ _).trans (teq hc2).1) (by decide) (by decide) k) ?_
      show Go p.tables e below P T1 (mkF m 33 #[.val (.int p1), .val (.int p2), .val (.int p3), .val (.int p4), .val (.int (0 : Int32)), .val (.ref aNAME), .val (.int (p4 &&& (3 : Int32))), .unset, .unset, .unset, .unset, .unset, .unset, .unset, .unset, .unset, .unset, .unset, .unset, .unset, .unset] [])
      refine Go.via (fun t k => XS.iconst Xh1.here hx rfl (hb hby at_33) k) ?_
      exact J3 T1 _ (0 : Int32) Xh1 hh1 N1 (if_pos hc2).symm
    · refine Go.via (fun t k => XS.ifNo Xh1.here hx rfl (hb hby at_26) rfl ((if0 _ _).trans (feq hc2).1) k) ?_
      show Go p.tables e below P T1 (mkF m 29 #[.val (.int p1), .val (.int p2), .val (.int p3), .val (.int p4), .val (.int (0 : Int32)), .val (.ref aNAME), .val (.int (p4 &&& (3 : Int32))), .unset, .unset, .unset, .unset, .unset, .unset, .unset, .unset, .unset, .unset, .unset, .unset, .unset, .unset] [])
      refine Go.via (fun t k => XS.iconst Xh1.here hx rfl (hb hby at_29) k) ?_
      refine Go.via (fun t k => XS.goto Xh1.here hx rfl (pc0 := 30) (pc' := 34) rfl (hb hby at_30) (by decide) (by decide) k) ?_
      exact J3 T1 _ (1 : Int32) Xh1 hh1 N1 (if_neg hc2).symm
  · rw [c1, q1]
    show Go p.tables e below P T1 (mkF m 14 #[.val (.int p1), .val (.int p2), .val (.int p3), .val (.int p4), .val (.int (3 : Int32)), .unset, .unset, .unset, .unset, .unset, .unset, .unset, .unset, .unset, .unset, .unset, .unset, .unset, .unset, .unset, .unset] [(.ref aSYMBOL)])
    refine Go.via (fun t k => XS.astore Xh1.here hx rfl (hb hby at_14) rfl rfl (l' := #[.val (.int p1), .val (.int p2), .val (.int p3), .val (.int p4), .val (.int (3 : Int32)), .val (.ref aSYMBOL), .unset, .unset, .unset, .unset, .unset, .unset, .unset, .unset, .unset, .unset, .unset, .unset, .unset, .unset, .unset]) rfl k) ?_
    refine Go.via (fun t k => XS.iloadN Xh1.here hx rfl (hb hby at_16) rfl k) ?_
    refine Go.via (fun t k => XS.iconst Xh1.here hx rfl (hb hby at_17) k) ?_
    show Go p.tables e below P T1 (mkF m 18 #[.val (.int p1), .val (.int p2), .val (.int p3), .val (.int p4), .val (.int (3 : Int32)), .val (.ref aSYMBOL), .unset, .unset, .unset, .unset, .unset, .unset, .unset, .unset, .unset, .unset, .unset, .unset, .unset, .unset, .unset] [(.int (3 : Int32)), (.int p4)])
    refine Go.via (fun t k => XS.iand Xh1.here hx rfl (hb hby at_18) rfl k) ?_
    refine Go.via (fun t k => XS.istore Xh1.here hx rfl (hb hby at_19) rfl (l' := #[.val (.int p1), .val (.int p2), .val (.int p3), .val (.int p4), .val (.int (3 : Int32)), .val (.ref aSYMBOL), .val (.int (p4 &&& (3 : Int32))), .unset, .unset, .unset, .unset, .unset, .unset, .unset, .unset, .unset, .unset, .unset, .unset, .unset, .unset]) rfl k) ?_
    refine Go.via (fun t k => XS.iloadN Xh1.here hx rfl (hb hby at_21) rfl k) ?_
    show Go p.tables e below P T1 (mkF m 22 #[.val (.int p1), .val (.int p2), .val (.int p3), .val (.int p4), .val (.int (3 : Int32)), .val (.ref aSYMBOL), .val (.int (p4 &&& (3 : Int32))), .unset, .unset, .unset, .unset, .unset, .unset, .unset, .unset, .unset, .unset, .unset, .unset, .unset, .unset] [(.int p4)])
    refine Go.via (fun t k => XS.iconst Xh1.here hx rfl (hb hby at_22) k) ?_
    refine Go.via (fun t k => XS.iushr Xh1.here hx rfl (hb hby at_23) rfl k) ?_
    refine Go.via (fun t k => XS.iconst Xh1.here hx rfl (hb hby at_24) k) ?_
    show Go p.tables e below P T1 (mkF m 25 #[.val (.int p1), .val (.int p2), .val (.int p3), .val (.int p4), .val (.int (3 : Int32)), .val (.ref aSYMBOL), .val (.int (p4 &&& (3 : Int32))), .unset, .unset, .unset, .unset, .unset, .unset, .unset, .unset, .unset, .unset, .unset, .unset, .unset, .unset] [(.int (1 : Int32)), (.int ((p4.toUInt32 >>> ((2 : Int32) &&& 31).toUInt32).toInt32))])
    refine Go.via (fun t k => XS.iand Xh1.here hx rfl (hb hby at_25) rfl k) ?_
    show Go p.tables e below P T1 (mkF m 26 #[.val (.int p1), .val (.int p2), .val (.int p3), .val (.int p4), .val (.int (3 : Int32)), .val (.ref aSYMBOL), .val (.int (p4 &&& (3 : Int32))), .unset, .unset, .unset, .unset, .unset, .unset, .unset, .unset, .unset, .unset, .unset, .unset, .unset, .unset] [(.int (((p4.toUInt32 >>> ((2 : Int32) &&& 31).toUInt32).toInt32) &&& (1 : Int32)))])
    have J284 : ∀ (T284 : State) (locs284 : List Loc) (v284_0 : Int32), Stand p l e room_1 (s.setVm s.vm) m #[(.int p1), (.int p2), (.int p3), (.int p4)] below meth c T284 locs284 0 0 → T284.heap = h0 → Fr n0 locs284 → v284_0 = (if (((p4.toUInt32 >>> ((2 : Int32) &&& 31).toUInt32).toInt32) &&& (1 : Int32)) = (0 : Int32) then (0 : Int32) else (1 : Int32)) → Go p.tables e below P T284 (mkF m 34 #[.val (.int p1), .val (.int p2), .val (.int p3), .val (.int p4), .val (.int (3 : Int32)), .val (.ref aSYMBOL), .val (.int (p4 &&& (3 : Int32))), .unset, .unset, .unset, .unset, .unset, .unset, .unset, .unset, .unset, .unset, .unset, .unset, .unset, .unset] [(.int v284_0)]) := by
      intro T284 locs284 v284_0 X284 e284 N284 hv284_0
      have hbv284_0 : v284_0 = 0 ∨ v284_0 = 1 := by (subst hv284_0; (repeat' split) <;> first | (left; rfl) | (right; rfl))
      show Go p.tables e below P T284 (mkF m 34 #[.val (.int p1), .val (.int p2), .val (.int p3), .val (.int p4), .val (.int (3 : Int32)), .val (.ref aSYMBOL), .val (.int (p4 &&& (3 : Int32))), .unset, .unset, .unset, .unset, .unset, .unset, .unset, .unset, .unset, .unset, .unset, .unset, .unset, .unset] [(.int v284_0)])
      refine Go.via (fun t k => XS.istore X284.here hx rfl (hb hby at_34) rfl (l' := #[.val (.int p1), .val (.int p2), .val (.int p3), .val (.int p4), .val (.int (3 : Int32)), .val (.ref aSYMBOL), .val (.int (p4 &&& (3 : Int32))), .val (.int v284_0), .unset, .unset, .unset, .unset, .unset, .unset, .unset, .unset, .unset, .unset, .unset, .unset, .unset]) rfl k) ?_
      refine Go.via (fun t k => XS.iloadN X284.here hx rfl (hb hby at_36) rfl k) ?_
      refine Go.via (fun t k => XS.iconst X284.here hx rfl (hb hby at_37) k) ?_
      show Go p.tables e below P T284 (mkF m 38 #[.val (.int p1), .val (.int p2), .val (.int p3), .val (.int p4), .val (.int (3 : Int32)), .val (.ref aSYMBOL), .val (.int (p4 &&& (3 : Int32))), .val (.int v284_0), .unset, .unset, .unset, .unset, .unset, .unset, .unset, .unset, .unset, .unset, .unset, .unset, .unset] [(.int (3 : Int32)), (.int p4)])
      refine Go.via (fun t k => XS.iushr X284.here hx rfl (hb hby at_38) rfl k) ?_
      refine Go.via (fun t k => XS.iconst X284.here hx rfl (hb hby at_39) k) ?_
      refine Go.via (fun t k => XS.iand X284.here hx rfl (hb hby at_40) rfl k) ?_
      show Go p.tables e below P T284 (mkF m 41 #[.val (.int p1), .val (.int p2), .val (.int p3), .val (.int p4), .val (.int (3 : Int32)), .val (.ref aSYMBOL), .val (.int (p4 &&& (3 : Int32))), .val (.int v284_0), .unset, .unset, .unset, .unset, .unset, .unset, .unset, .unset, .unset, .unset, .unset, .unset, .unset] [(.int (((p4.toUInt32 >>> ((3 : Int32) &&& 31).toUInt32).toInt32) &&& (3 : Int32)))])
      refine Go.via (fun t k => XS.istore X284.here hx rfl (hb hby at_41) rfl (l' := #[.val (.int p1), .val (.int p2), .val (.int p3), .val (.int p4), .val (.int (3 : Int32)), .val (.ref aSYMBOL), .val (.int (p4 &&& (3 : Int32))), .val (.int v284_0), .val (.int (((p4.toUInt32 >>> ((3 : Int32) &&& 31).toUInt32).toInt32) &&& (3 : Int32))), .unset, .unset, .unset, .unset, .unset, .unset, .unset, .unset, .unset, .unset, .unset, .unset]) rfl k) ?_
      refine Go.via (fun t k => XS.iloadN X284.here hx rfl (hb hby at_43) rfl k) ?_
      refine Go.via (fun t k => XS.iconst X284.here hx rfl (hb hby at_44) k) ?_
      show Go p.tables e below P T284 (mkF m 45 #[.val (.int p1), .val (.int p2), .val (.int p3), .val (.int p4), .val (.int (3 : Int32)), .val (.ref aSYMBOL), .val (.int (p4 &&& (3 : Int32))), .val (.int v284_0), .val (.int (((p4.toUInt32 >>> ((3 : Int32) &&& 31).toUInt32).toInt32) &&& (3 : Int32))), .unset, .unset, .unset, .unset, .unset, .unset, .unset, .unset, .unset, .unset, .unset, .unset] [(.int (5 : Int32)), (.int p4)])
      refine Go.via (fun t k => XS.iushr X284.here hx rfl (hb hby at_45) rfl k) ?_
      refine Go.via (fun t k => XS.iconst X284.here hx rfl (hb hby at_46) k) ?_
      refine Go.via (fun t k => XS.iand X284.here hx rfl (hb hby at_47) rfl k) ?_
      show Go p.tables e below P T284 (mkF m 48 #[.val (.int p1), .val (.int p2), .val (.int p3), .val (.int p4), .val (.int (3 : Int32)), .val (.ref aSYMBOL), .val (.int (p4 &&& (3 : Int32))), .val (.int v284_0), .val (.int (((p4.toUInt32 >>> ((3 : Int32) &&& 31).toUInt32).toInt32) &&& (3 : Int32))), .unset, .unset, .unset, .unset, .unset, .unset, .unset, .unset, .unset, .unset, .unset, .unset] [(.int (((p4.toUInt32 >>> ((5 : Int32) &&& 31).toUInt32).toInt32) &&& (3 : Int32)))])
      refine Go.via (fun t k => XS.iconst X284.here hx rfl (hb hby at_48) k) ?_
      show Go p.tables e below P T284 (mkF m 49 #[.val (.int p1), .val (.int p2), .val (.int p3), .val (.int p4), .val (.int (3 : Int32)), .val (.ref aSYMBOL), .val (.int (p4 &&& (3 : Int32))), .val (.int v284_0), .val (.int (((p4.toUInt32 >>> ((3 : Int32) &&& 31).toUInt32).toInt32) &&& (3 : Int32))), .unset, .unset, .unset, .unset, .unset, .unset, .unset, .unset, .unset, .unset, .unset, .unset] [(.int (3 : Int32)), (.int (((p4.toUInt32 >>> ((5 : Int32) &&& 31).toUInt32).toInt32) &&& (3 : Int32)))])
      have J286 : ∀ (T286 : State) (locs286 : List Loc) (v286_0 : Int32), Stand p l e room_1 (s.setVm s.vm) m #[(.int p1), (.int p2), (.int p3), (.int p4)] below meth c T286 locs286 0 0 → T286.heap = h0 → Fr n0 locs286 → v286_0 = (if (((p4.toUInt32 >>> ((5 : Int32) &&& 31).toUInt32).toInt32) &&& (3 : Int32)) = (3 : Int32) then (1 : Int32) else (0 : Int32)) → Go p.tables e below P T286 (mkF m 57 #[.val (.int p1), .val (.int p2), .val (.int p3), .val (.int p4), .val (.int (3 : Int32)), .val (.ref aSYMBOL), .val (.int (p4 &&& (3 : Int32))), .val (.int v284_0), .val (.int (((p4.toUInt32 >>> ((3 : Int32) &&& 31).toUInt32).toInt32) &&& (3 : Int32))), .unset, .unset, .unset, .unset, .unset, .unset, .unset, .unset, .unset, .unset, .unset, .unset] [(.int v286_0)]) := by
        intro T286 locs286 v286_0 X286 e286 N286 hv286_0
        have hbv286_0 : v286_0 = 0 ∨ v286_0 = 1 := by (subst hv286_0; (repeat' split) <;> first | (left; rfl) | (right; rfl))
        show Go p.tables e below P T286 (mkF m 57 #[.val (.int p1), .val (.int p2), .val (.int p3), .val (.int p4), .val (.int (3 : Int32)), .val (.ref aSYMBOL), .val (.int (p4 &&& (3 : Int32))), .val (.int v284_0), .val (.int (((p4.toUInt32 >>> ((3 : Int32) &&& 31).toUInt32).toInt32) &&& (3 : Int32))), .unset, .unset, .unset, .unset, .unset, .unset, .unset, .unset, .unset, .unset, .unset, .unset] [(.int v286_0)])
        refine Go.via (fun t k => XS.istore X286.here hx rfl (hb hby at_57) rfl (l' := #[.val (.int p1), .val (.int p2), .val (.int p3), .val (.int p4), .val (.int (3 : Int32)), .val (.ref aSYMBOL), .val (.int (p4 &&& (3 : Int32))), .val (.int v284_0), .val (.int (((p4.toUInt32 >>> ((3 : Int32) &&& 31).toUInt32).toInt32) &&& (3 : Int32))), .val (.int v286_0), .unset, .unset, .unset, .unset, .unset, .unset, .unset, .unset, .unset, .unset, .unset]) rfl k) ?_
        refine Go.via (fun t k => XS.iloadN X286.here hx rfl (hb hby at_59) rfl k) ?_
        refine Go.via (fun t k => XS.sipush X286.here hx rfl (hb hby at_60) k) ?_
        show Go p.tables e below P T286 (mkF m 63 #[.val (.int p1), .val (.int p2), .val (.int p3), .val (.int p4), .val (.int (3 : Int32)), .val (.ref aSYMBOL), .val (.int (p4 &&& (3 : Int32))), .val (.int v284_0), .val (.int (((p4.toUInt32 >>> ((3 : Int32) &&& 31).toUInt32).toInt32) &&& (3 : Int32))), .val (.int v286_0), .unset, .unset, .unset, .unset, .unset, .unset, .unset, .unset, .unset, .unset, .unset] [(.int (255 : Int32)), (.int p2)])
        refine Go.via (fun t k => XS.iand X286.here hx rfl (hb hby at_63) rfl k) ?_
        refine Go.via (fun t k => XS.i2c X286.here hx rfl (hb hby at_64) rfl k) ?_
        refine Go.via (fun t k => XS.istore X286.here hx rfl (hb hby at_65) rfl (l' := #[.val (.int p1), .val (.int p2), .val (.int p3), .val (.int p4), .val (.int (3 : Int32)), .val (.ref aSYMBOL), .val (.int (p4 &&& (3 : Int32))), .val (.int v284_0), .val (.int (((p4.toUInt32 >>> ((3 : Int32) &&& 31).toUInt32).toInt32) &&& (3 : Int32))), .val (.int v286_0), .val (.int ((p2 &&& (255 : Int32)).toUInt32.toUInt16.toUInt32.toInt32)), .unset, .unset, .unset, .unset, .unset, .unset, .unset, .unset, .unset, .unset]) rfl k) ?_
        show Go p.tables e below P T286 (mkF m 67 #[.val (.int p1), .val (.int p2), .val (.int p3), .val (.int p4), .val (.int (3 : Int32)), .val (.ref aSYMBOL), .val (.int (p4 &&& (3 : Int32))), .val (.int v284_0), .val (.int (((p4.toUInt32 >>> ((3 : Int32) &&& 31).toUInt32).toInt32) &&& (3 : Int32))), .val (.int v286_0), .val (.int ((p2 &&& (255 : Int32)).toUInt32.toUInt16.toUInt32.toInt32)), .unset, .unset, .unset, .unset, .unset, .unset, .unset, .unset, .unset, .unset] [])
        refine Go.via (fun t k => XS.iloadN X286.here hx rfl (hb hby at_67) rfl k) ?_
        refine Go.via (fun t k => XS.bipush X286.here hx rfl (hb hby at_68) k) ?_
        refine Go.via (fun t k => XS.iushr X286.here hx rfl (hb hby at_70) rfl k) ?_
        show Go p.tables e below P T286 (mkF m 71 #[.val (.int p1), .val (.int p2), .val (.int p3), .val (.int p4), .val (.int (3 : Int32)), .val (.ref aSYMBOL), .val (.int (p4 &&& (3 : Int32))), .val (.int v284_0), .val (.int (((p4.toUInt32 >>> ((3 : Int32) &&& 31).toUInt32).toInt32) &&& (3 : Int32))), .val (.int v286_0), .val (.int ((p2 &&& (255 : Int32)).toUInt32.toUInt16.toUInt32.toInt32)), .unset, .unset, .unset, .unset, .unset, .unset, .unset, .unset, .unset, .unset] [(.int ((p2.toUInt32 >>> ((8 : Int32) &&& 31).toUInt32).toInt32))])
        refine Go.via (fun t k => XS.sipush X286.here hx rfl (hb hby at_71) k) ?_
        refine Go.via (fun t k => XS.iand X286.here hx rfl (hb hby at_74) rfl k) ?_
        refine Go.via (fun t k => XS.i2c X286.here hx rfl (hb hby at_75) rfl k) ?_
        show Go p.tables e below P T286 (mkF m 76 #[.val (.int p1), .val (.int p2), .val (.int p3), .val (.int p4), .val (.int (3 : Int32)), .val (.ref aSYMBOL), .val (.int (p4 &&& (3 : Int32))), .val (.int v284_0), .val (.int (((p4.toUInt32 >>> ((3 : Int32) &&& 31).toUInt32).toInt32) &&& (3 : Int32))), .val (.int v286_0), .val (.int ((p2 &&& (255 : Int32)).toUInt32.toUInt16.toUInt32.toInt32)), .unset, .unset, .unset, .unset, .unset, .unset, .unset, .unset, .unset, .unset] [(.int ((((p2.toUInt32 >>> ((8 : Int32) &&& 31).toUInt32).toInt32) &&& (255 : Int32)).toUInt32.toUInt16.toUInt32.toInt32))])
        refine Go.via (fun t k => XS.istore X286.here hx rfl (hb hby at_76) rfl (l' := #[.val (.int p1), .val (.int p2), .val (.int p3), .val (.int p4), .val (.int (3 : Int32)), .val (.ref aSYMBOL), .val (.int (p4 &&& (3 : Int32))), .val (.int v284_0), .val (.int (((p4.toUInt32 >>> ((3 : Int32) &&& 31).toUInt32).toInt32) &&& (3 : Int32))), .val (.int v286_0), .val (.int ((p2 &&& (255 : Int32)).toUInt32.toUInt16.toUInt32.toInt32)), .val (.int ((((p2.toUInt32 >>> ((8 : Int32) &&& 31).toUInt32).toInt32) &&& (255 : Int32)).toUInt32.toUInt16.toUInt32.toInt32)), .unset, .unset, .unset, .unset, .unset, .unset, .unset, .unset, .unset]) rfl k) ?_
        refine Go.via (fun t k => XS.iloadN X286.here hx rfl (hb hby at_78) rfl k) ?_
        refine Go.via (fun t k => XS.bipush X286.here hx rfl (hb hby at_79) k) ?_
        show Go p.tables e below P T286 (mkF m 81 #[.val (.int p1), .val (.int p2), .val (.int p3), .val (.int p4), .val (.int (3 : Int32)), .val (.ref aSYMBOL), .val (.int (p4 &&& (3 : Int32))), .val (.int v284_0), .val (.int (((p4.toUInt32 >>> ((3 : Int32) &&& 31).toUInt32).toInt32) &&& (3 : Int32))), .val (.int v286_0), .val (.int ((p2 &&& (255 : Int32)).toUInt32.toUInt16.toUInt32.toInt32)), .val (.int ((((p2.toUInt32 >>> ((8 : Int32) &&& 31).toUInt32).toInt32) &&& (255 : Int32)).toUInt32.toUInt16.toUInt32.toInt32)), .unset, .unset, .unset, .unset, .unset, .unset, .unset, .unset, .unset] [(.int (16 : Int32)), (.int p2)])
        refine Go.via (fun t k => XS.iushr X286.here hx rfl (hb hby at_81) rfl k) ?_
        refine Go.via (fun t k => XS.sipush X286.here hx rfl (hb hby at_82) k) ?_
        refine Go.via (fun t k => XS.iand X286.here hx rfl (hb hby at_85) rfl k) ?_
        show Go p.tables e below P T286 (mkF m 86 #[.val (.int p1), .val (.int p2), .val (.int p3), .val (.int p4), .val (.int (3 : Int32)), .val (.ref aSYMBOL), .val (.int (p4 &&& (3 : Int32))), .val (.int v284_0), .val (.int (((p4.toUInt32 >>> ((3 : Int32) &&& 31).toUInt32).toInt32) &&& (3 : Int32))), .val (.int v286_0), .val (.int ((p2 &&& (255 : Int32)).toUInt32.toUInt16.toUInt32.toInt32)), .val (.int ((((p2.toUInt32 >>> ((8 : Int32) &&& 31).toUInt32).toInt32) &&& (255 : Int32)).toUInt32.toUInt16.toUInt32.toInt32)), .unset, .unset, .unset, .unset, .unset, .unset, .unset, .unset, .unset] [(.int (((p2.toUInt32 >>> ((16 : Int32) &&& 31).toUInt32).toInt32) &&& (255 : Int32)))])
        refine Go.via (fun t k => XS.i2c X286.here hx rfl (hb hby at_86) rfl k) ?_
        refine Go.via (fun t k => XS.istore X286.here hx rfl (hb hby at_87) rfl (l' := #[.val (.int p1), .val (.int p2), .val (.int p3), .val (.int p4), .val (.int (3 : Int32)), .val (.ref aSYMBOL), .val (.int (p4 &&& (3 : Int32))), .val (.int v284_0), .val (.int (((p4.toUInt32 >>> ((3 : Int32) &&& 31).toUInt32).toInt32) &&& (3 : Int32))), .val (.int v286_0), .val (.int ((p2 &&& (255 : Int32)).toUInt32.toUInt16.toUInt32.toInt32)), .val (.int ((((p2.toUInt32 >>> ((8 : Int32) &&& 31).toUInt32).toInt32) &&& (255 : Int32)).toUInt32.toUInt16.toUInt32.toInt32)), .val (.int ((((p2.toUInt32 >>> ((16 : Int32) &&& 31).toUInt32).toInt32) &&& (255 : Int32)).toUInt32.toUInt16.toUInt32.toInt32)), .unset, .unset, .unset, .unset, .unset, .unset, .unset, .unset]) rfl k) ?_
        refine Go.via (fun t k => XS.iload X286.here hx rfl (hb hby at_89) rfl k) ?_
        show Go p.tables e below P T286 (mkF m 91 #[.val (.int p1), .val (.int p2), .val (.int p3), .val (.int p4), .val (.int (3 : Int32)), .val (.ref aSYMBOL), .val (.int (p4 &&& (3 : Int32))), .val (.int v284_0), .val (.int (((p4.toUInt32 >>> ((3 : Int32) &&& 31).toUInt32).toInt32) &&& (3 : Int32))), .val (.int v286_0), .val (.int ((p2 &&& (255 : Int32)).toUInt32.toUInt16.toUInt32.toInt32)), .val (.int ((((p2.toUInt32 >>> ((8 : Int32) &&& 31).toUInt32).toInt32) &&& (255 : Int32)).toUInt32.toUInt16.toUInt32.toInt32)), .val (.int ((((p2.toUInt32 >>> ((16 : Int32) &&& 31).toUInt32).toInt32) &&& (255 : Int32)).toUInt32.toUInt16.toUInt32.toInt32)), .unset, .unset, .unset, .unset, .unset, .unset, .unset, .unset] [(.int v284_0)])
        have J288 : ∀ (T288 : State) (locs288 : List Loc) (v288_0 : Int32), Stand p l e room_1 (s.setVm s.vm) m #[(.int p1), (.int p2), (.int p3), (.int p4)] below meth c T288 locs288 0 0 → T288.heap = h0 → Fr n0 locs288 → v288_0 = (if v284_0 = (0 : Int32) then ((p3 &&& (255 : Int32)).toUInt32.toUInt16.toUInt32.toInt32) else ((p2 &&& (255 : Int32)).toUInt32.toUInt16.toUInt32.toInt32)) → Go p.tables e below P T288 (mkF m 105 #[.val (.int p1), .val (.int p2), .val (.int p3), .val (.int p4), .val (.int (3 : Int32)), .val (.ref aSYMBOL), .val (.int (p4 &&& (3 : Int32))), .val (.int v284_0), .val (.int (((p4.toUInt32 >>> ((3 : Int32) &&& 31).toUInt32).toInt32) &&& (3 : Int32))), .val (.int v286_0), .val (.int ((p2 &&& (255 : Int32)).toUInt32.toUInt16.toUInt32.toInt32)), .val (.int ((((p2.toUInt32 >>> ((8 : Int32) &&& 31).toUInt32).toInt32) &&& (255 : Int32)).toUInt32.toUInt16.toUInt32.toInt32)), .val (.int ((((p2.toUInt32 >>> ((16 : Int32) &&& 31).toUInt32).toInt32) &&& (255 : Int32)).toUInt32.toUInt16.toUInt32.toInt32)), .unset, .unset, .unset, .unset, .unset, .unset, .unset, .unset] [(.int v288_0)]) := by
          intro T288 locs288 v288_0 X288 e288 N288 hv288_0
          show Go p.tables e below P T288 (mkF m 105 #[.val (.int p1), .val (.int p2), .val (.int p3), .val (.int p4), .val (.int (3 : Int32)), .val (.ref aSYMBOL), .val (.int (p4 &&& (3 : Int32))), .val (.int v284_0), .val (.int (((p4.toUInt32 >>> ((3 : Int32) &&& 31).toUInt32).toInt32) &&& (3 : Int32))), .val (.int v286_0), .val (.int ((p2 &&& (255 : Int32)).toUInt32.toUInt16.toUInt32.toInt32)), .val (.int ((((p2.toUInt32 >>> ((8 : Int32) &&& 31).toUInt32).toInt32) &&& (255 : Int32)).toUInt32.toUInt16.toUInt32.toInt32)), .val (.int ((((p2.toUInt32 >>> ((16 : Int32) &&& 31).toUInt32).toInt32) &&& (255 : Int32)).toUInt32.toUInt16.toUInt32.toInt32)), .unset, .unset, .unset, .unset, .unset, .unset, .unset, .unset] [(.int v288_0)])
          refine Go.via (fun t k => XS.istore X288.here hx rfl (hb hby at_105) rfl (l' := #[.val (.int p1), .val (.int p2), .val (.int p3), .val (.int p4), .val (.int (3 : Int32)), .val (.ref aSYMBOL), .val (.int (p4 &&& (3 : Int32))), .val (.int v284_0), .val (.int (((p4.toUInt32 >>> ((3 : Int32) &&& 31).toUInt32).toInt32) &&& (3 : Int32))), .val (.int v286_0), .val (.int ((p2 &&& (255 : Int32)).toUInt32.toUInt16.toUInt32.toInt32)), .val (.int ((((p2.toUInt32 >>> ((8 : Int32) &&& 31).toUInt32).toInt32) &&& (255 : Int32)).toUInt32.toUInt16.toUInt32.toInt32)), .val (.int ((((p2.toUInt32 >>> ((16 : Int32) &&& 31).toUInt32).toInt32) &&& (255 : Int32)).toUInt32.toUInt16.toUInt32.toInt32)), .val (.int v288_0), .unset, .unset, .unset, .unset, .unset, .unset, .unset]) rfl k) ?_
          refine Go.via (fun t k => XS.iload X288.here hx rfl (hb hby at_107) rfl k) ?_
          show Go p.tables e below P T288 (mkF m 109 #[.val (.int p1), .val (.int p2), .val (.int p3), .val (.int p4), .val (.int (3 : Int32)), .val (.ref aSYMBOL), .val (.int (p4 &&& (3 : Int32))), .val (.int v284_0), .val (.int (((p4.toUInt32 >>> ((3 : Int32) &&& 31).toUInt32).toInt32) &&& (3 : Int32))), .val (.int v286_0), .val (.int ((p2 &&& (255 : Int32)).toUInt32.toUInt16.toUInt32.toInt32)), .val (.int ((((p2.toUInt32 >>> ((8 : Int32) &&& 31).toUInt32).toInt32) &&& (255 : Int32)).toUInt32.toUInt16.toUInt32.toInt32)), .val (.int ((((p2.toUInt32 >>> ((16 : Int32) &&& 31).toUInt32).toInt32) &&& (255 : Int32)).toUInt32.toUInt16.toUInt32.toInt32)), .val (.int v288_0), .unset, .unset, .unset, .unset, .unset, .unset, .unset] [(.int v284_0)])
          have J290 : ∀ (T290 : State) (locs290 : List Loc) (v290_0 : Int32), Stand p l e room_1 (s.setVm s.vm) m #[(.int p1), (.int p2), (.int p3), (.int p4)] below meth c T290 locs290 0 0 → T290.heap = h0 → Fr n0 locs290 → v290_0 = (if v284_0 = (0 : Int32) then ((((p3.toUInt32 >>> ((8 : Int32) &&& 31).toUInt32).toInt32) &&& (255 : Int32)).toUInt32.toUInt16.toUInt32.toInt32) else ((((p2.toUInt32 >>> ((8 : Int32) &&& 31).toUInt32).toInt32) &&& (255 : Int32)).toUInt32.toUInt16.toUInt32.toInt32)) → Go p.tables e below P T290 (mkF m 126 #[.val (.int p1), .val (.int p2), .val (.int p3), .val (.int p4), .val (.int (3 : Int32)), .val (.ref aSYMBOL), .val (.int (p4 &&& (3 : Int32))), .val (.int v284_0), .val (.int (((p4.toUInt32 >>> ((3 : Int32) &&& 31).toUInt32).toInt32) &&& (3 : Int32))), .val (.int v286_0), .val (.int ((p2 &&& (255 : Int32)).toUInt32.toUInt16.toUInt32.toInt32)), .val (.int ((((p2.toUInt32 >>> ((8 : Int32) &&& 31).toUInt32).toInt32) &&& (255 : Int32)).toUInt32.toUInt16.toUInt32.toInt32)), .val (.int ((((p2.toUInt32 >>> ((16 : Int32) &&& 31).toUInt32).toInt32) &&& (255 : Int32)).toUInt32.toUInt16.toUInt32.toInt32)), .val (.int v288_0), .unset, .unset, .unset, .unset, .unset, .unset, .unset] [(.int v290_0)]) := by
            intro T290 locs290 v290_0 X290 e290 N290 hv290_0
            show Go p.tables e below P T290 (mkF m 126 #[.val (.int p1), .val (.int p2), .val (.int p3), .val (.int p4), .val (.int (3 : Int32)), .val (.ref aSYMBOL), .val (.int (p4 &&& (3 : Int32))), .val (.int v284_0), .val (.int (((p4.toUInt32 >>> ((3 : Int32) &&& 31).toUInt32).toInt32) &&& (3 : Int32))), .val (.int v286_0), .val (.int ((p2 &&& (255 : Int32)).toUInt32.toUInt16.toUInt32.toInt32)), .val (.int ((((p2.toUInt32 >>> ((8 : Int32) &&& 31).toUInt32).toInt32) &&& (255 : Int32)).toUInt32.toUInt16.toUInt32.toInt32)), .val (.int ((((p2.toUInt32 >>> ((16 : Int32) &&& 31).toUInt32).toInt32) &&& (255 : Int32)).toUInt32.toUInt16.toUInt32.toInt32)), .val (.int v288_0), .unset, .unset, .unset, .unset, .unset, .unset, .unset] [(.int v290_0)])
            refine Go.via (fun t k => XS.istore X290.here hx rfl (hb hby at_126) rfl (l' := #[.val (.int p1), .val (.int p2), .val (.int p3), .val (.int p4), .val (.int (3 : Int32)), .val (.ref aSYMBOL), .val (.int (p4 &&& (3 : Int32))), .val (.int v284_0), .val (.int (((p4.toUInt32 >>> ((3 : Int32) &&& 31).toUInt32).toInt32) &&& (3 : Int32))), .val (.int v286_0), .val (.int ((p2 &&& (255 : Int32)).toUInt32.toUInt16.toUInt32.toInt32)), .val (.int ((((p2.toUInt32 >>> ((8 : Int32) &&& 31).toUInt32).toInt32) &&& (255 : Int32)).toUInt32.toUInt16.toUInt32.toInt32)), .val (.int ((((p2.toUInt32 >>> ((16 : Int32) &&& 31).toUInt32).toInt32) &&& (255 : Int32)).toUInt32.toUInt16.toUInt32.toInt32)), .val (.int v288_0), .val (.int v290_0), .unset, .unset, .unset, .unset, .unset, .unset]) rfl k) ?_
            refine Go.via (fun t k => XS.iload X290.here hx rfl (hb hby at_128) rfl k) ?_
            show Go p.tables e below P T290 (mkF m 130 #[.val (.int p1), .val (.int p2), .val (.int p3), .val (.int p4), .val (.int (3 : Int32)), .val (.ref aSYMBOL), .val (.int (p4 &&& (3 : Int32))), .val (.int v284_0), .val (.int (((p4.toUInt32 >>> ((3 : Int32) &&& 31).toUInt32).toInt32) &&& (3 : Int32))), .val (.int v286_0), .val (.int ((p2 &&& (255 : Int32)).toUInt32.toUInt16.toUInt32.toInt32)), .val (.int ((((p2.toUInt32 >>> ((8 : Int32) &&& 31).toUInt32).toInt32) &&& (255 : Int32)).toUInt32.toUInt16.toUInt32.toInt32)), .val (.int ((((p2.toUInt32 >>> ((16 : Int32) &&& 31).toUInt32).toInt32) &&& (255 : Int32)).toUInt32.toUInt16.toUInt32.toInt32)), .val (.int v288_0), .val (.int v290_0), .unset, .unset, .unset, .unset, .unset, .unset] [(.int v284_0)])
            have J292 : ∀ (T292 : State) (locs292 : List Loc) (v292_0 : Int32), Stand p l e room_1 (s.setVm s.vm) m #[(.int p1), (.int p2), (.int p3), (.int p4)] below meth c T292 locs292 0 0 → T292.heap = h0 → Fr n0 locs292 → v292_0 = (if v284_0 = (0 : Int32) then ((((p3.toUInt32 >>> ((16 : Int32) &&& 31).toUInt32).toInt32) &&& (255 : Int32)).toUInt32.toUInt16.toUInt32.toInt32) else ((((p2.toUInt32 >>> ((16 : Int32) &&& 31).toUInt32).toInt32) &&& (255 : Int32)).toUInt32.toUInt16.toUInt32.toInt32)) → Go p.tables e below P T292 (mkF m 147 #[.val (.int p1), .val (.int p2), .val (.int p3), .val (.int p4), .val (.int (3 : Int32)), .val (.ref aSYMBOL), .val (.int (p4 &&& (3 : Int32))), .val (.int v284_0), .val (.int (((p4.toUInt32 >>> ((3 : Int32) &&& 31).toUInt32).toInt32) &&& (3 : Int32))), .val (.int v286_0), .val (.int ((p2 &&& (255 : Int32)).toUInt32.toUInt16.toUInt32.toInt32)), .val (.int ((((p2.toUInt32 >>> ((8 : Int32) &&& 31).toUInt32).toInt32) &&& (255 : Int32)).toUInt32.toUInt16.toUInt32.toInt32)), .val (.int ((((p2.toUInt32 >>> ((16 : Int32) &&& 31).toUInt32).toInt32) &&& (255 : Int32)).toUInt32.toUInt16.toUInt32.toInt32)), .val (.int v288_0), .val (.int v290_0), .unset, .unset, .unset, .unset, .unset, .unset] [(.int v292_0)]) := by
              intro T292 locs292 v292_0 X292 e292 N292 hv292_0
              show Go p.tables e below P T292 (mkF m 147 #[.val (.int p1), .val (.int p2), .val (.int p3), .val (.int p4), .val (.int (3 : Int32)), .val (.ref aSYMBOL), .val (.int (p4 &&& (3 : Int32))), .val (.int v284_0), .val (.int (((p4.toUInt32 >>> ((3 : Int32) &&& 31).toUInt32).toInt32) &&& (3 : Int32))), .val (.int v286_0), .val (.int ((p2 &&& (255 : Int32)).toUInt32.toUInt16.toUInt32.toInt32)), .val (.int ((((p2.toUInt32 >>> ((8 : Int32) &&& 31).toUInt32).toInt32) &&& (255 : Int32)).toUInt32.toUInt16.toUInt32.toInt32)), .val (.int ((((p2.toUInt32 >>> ((16 : Int32) &&& 31).toUInt32).toInt32) &&& (255 : Int32)).toUInt32.toUInt16.toUInt32.toInt32)), .val (.int v288_0), .val (.int v290_0), .unset, .unset, .unset, .unset, .unset, .unset] [(.int v292_0)])
              refine Go.via (fun t k => XS.istore X292.here hx rfl (hb hby at_147) rfl (l' := #[.val (.int p1), .val (.int p2), .val (.int p3), .val (.int p4), .val (.int (3 : Int32)), .val (.ref aSYMBOL), .val (.int (p4 &&& (3 : Int32))), .val (.int v284_0), .val (.int (((p4.toUInt32 >>> ((3 : Int32) &&& 31).toUInt32).toInt32) &&& (3 : Int32))), .val (.int v286_0), .val (.int ((p2 &&& (255 : Int32)).toUInt32.toUInt16.toUInt32.toInt32)), .val (.int ((((p2.toUInt32 >>> ((8 : Int32) &&& 31).toUInt32).toInt32) &&& (255 : Int32)).toUInt32.toUInt16.toUInt32.toInt32)), .val (.int ((((p2.toUInt32 >>> ((16 : Int32) &&& 31).toUInt32).toInt32) &&& (255 : Int32)).toUInt32.toUInt16.toUInt32.toInt32)), .val (.int v288_0), .val (.int v290_0), .val (.int v292_0), .unset, .unset, .unset, .unset, .unset]) rfl k) ?_
              show Go p.tables e below P T292 (mkF m 149 #[.val (.int p1), .val (.int p2), .val (.int p3), .val (.int p4), .val (.int (3 : Int32)), .val (.ref aSYMBOL), .val (.int (p4 &&& (3 : Int32))), .val (.int v284_0), .val (.int (((p4.toUInt32 >>> ((3 : Int32) &&& 31).toUInt32).toInt32) &&& (3 : Int32))), .val (.int v286_0), .val (.int ((p2 &&& (255 : Int32)).toUInt32.toUInt16.toUInt32.toInt32)), .val (.int ((((p2.toUInt32 >>> ((8 : Int32) &&& 31).toUInt32).toInt32) &&& (255 : Int32)).toUInt32.toUInt16.toUInt32.toInt32)), .val (.int ((((p2.toUInt32 >>> ((16 : Int32) &&& 31).toUInt32).toInt32) &&& (255 : Int32)).toUInt32.toUInt16.toUInt32.toInt32)), .val (.int v288_0), .val (.int v290_0), .val (.int v292_0), .unset, .unset, .unset, .unset, .unset] [])
              obtain ⟨ca, hca⟩ : ∃ z, z = ((p2 &&& (255 : Int32)).toUInt32.toUInt16.toUInt32.toInt32) := ⟨_, rfl⟩
              rw [← hca]
              have yca : own_by ca := by rw [hca]; exact own_byc _
              obtain ⟨cb, hcb⟩ : ∃ z, z = ((((p2.toUInt32 >>> ((8 : Int32) &&& 31).toUInt32).toInt32) &&& (255 : Int32)).toUInt32.toUInt16.toUInt32.toInt32) := ⟨_, rfl⟩
              rw [← hcb]
              have ycb : own_by cb := by rw [hcb]; exact own_byc _
              obtain ⟨cc, hcc⟩ : ∃ z, z = ((((p2.toUInt32 >>> ((16 : Int32) &&& 31).toUInt32).toInt32) &&& (255 : Int32)).toUInt32.toUInt16.toUInt32.toInt32) := ⟨_, rfl⟩
              rw [← hcc]
              have ycc : own_by cc := by rw [hcc]; exact own_byc _
              obtain ⟨cd, hcd⟩ : ∃ z, z = v288_0 := ⟨_, rfl⟩
              rw [← hcd]
              have ycd : own_by cd := by rw [hcd, hv288_0]; split <;> exact own_byc _
              obtain ⟨ce, hce⟩ : ∃ z, z = v290_0 := ⟨_, rfl⟩
              rw [← hce]
              have yce : own_by ce := by rw [hce, hv290_0]; split <;> exact own_byc _
              obtain ⟨cf, hcf⟩ : ∃ z, z = v292_0 := ⟨_, rfl⟩
              rw [← hcf]
              have ycf : own_by cf := by rw [hcf, hv292_0]; split <;> exact own_byc _
              obtain ⟨na, hna⟩ : ∃ z, z = (p4 &&& (3 : Int32)) := ⟨_, rfl⟩
              rw [← hna]
              have yna : own_four na := by rw [hna]; exact own_n4 _
              obtain ⟨nb, hnb⟩ : ∃ z, z = (((p4.toUInt32 >>> ((3 : Int32) &&& 31).toUInt32).toInt32) &&& (3 : Int32)) := ⟨_, rfl⟩
              rw [← hnb]
              have ynb : own_four nb := by rw [hnb]; exact own_n4 _
              refine Go.via (fun t k => XS.iload X292.here hx rfl (hb hby at_149) rfl k) ?_
              refine Go.via (fun t k => XS.iload X292.here hx rfl (hb hby at_151) rfl k) ?_
              refine Go.via (fun t k => XS.iload X292.here hx rfl (hb hby at_153) rfl k) ?_
              show Go p.tables e below P T292 (mkF m 155 #[.val (.int p1), .val (.int p2), .val (.int p3), .val (.int p4), .val (.int (3 : Int32)), .val (.ref aSYMBOL), .val (.int na), .val (.int v284_0), .val (.int nb), .val (.int v286_0), .val (.int ca), .val (.int cb), .val (.int cc), .val (.int cd), .val (.int ce), .val (.int cf), .unset, .unset, .unset, .unset, .unset] [(.int cb), (.int ca), (.int na)])
              refine Go.via (fun t k => XS.iload X292.here hx rfl (hb hby at_155) rfl k) ?_
              show Go p.tables e below P T292 (mkF m 157 #[.val (.int p1), .val (.int p2), .val (.int p3), .val (.int p4), .val (.int (3 : Int32)), .val (.ref aSYMBOL), .val (.int na), .val (.int v284_0), .val (.int nb), .val (.int v286_0), .val (.int ca), .val (.int cb), .val (.int cc), .val (.int cd), .val (.int ce), .val (.int cf), .unset, .unset, .unset, .unset, .unset] [(.int cc), (.int cb), (.int ca), (.int na)])
              obtain ⟨_, _, ⟨T293, L293, k293, n293⟩, -, X293, hSn293, hgn293, ⟨Lc293, hQ293, l293, y293, z293, hC293⟩, st293⟩ := callSS X292 hx (y := (⟨"com/example/numeric_planner/numericplanner/rddl/TokenIsPinLaw", "mk", "(ICCC)Ljava/lang/String;"⟩ : MethodName)) hown (mvT hZ (hw _ (List.mem_of_getElem? (i := 8) rfl))) (mvT hZ (hw _ (List.mem_of_getElem? (i := 9) rfl))) (mvT hZ (hw _ (List.mem_of_getElem? (i := 3) rfl))) (mvT hZ (hw _ (List.mem_of_getElem? (i := 10) rfl))) (by decide) (backOfSH (W := 0) (rm2 l Z a0 hw [] na ca cb cc cs h0 n0 Z0 O0 P1 (by first | assumption | decide | omega : ¬ cs = (0 : Int32)) yca ycb ycc) hZ (hw _ (List.mem_of_getElem? (i := 10) rfl)) (hw _ (List.mem_of_getElem? (i := 3) rfl)) (by decide) (by decide) (own_EW hw) CR0.1) (g := (mkF m 157 #[.val (.int p1), .val (.int p2), .val (.int p3), .val (.int p4), .val (.int (3 : Int32)), .val (.ref aSYMBOL), .val (.int na), .val (.int v284_0), .val (.int nb), .val (.int v286_0), .val (.int ca), .val (.int cb), .val (.int cc), .val (.int cd), .val (.int ce), .val (.int cf), .unset, .unset, .unset, .unset, .unset] [(.int cc), (.int cb), (.int ca), (.int na)])) rfl (by rw [hml]; rfl) (argsL := [(.int na), (.int ca), (.int cb), (.int cc)]) (rest := []) (lenOf own_pd6 rfl) rfl (by show 2 * 0 + _ ≤ _; exact Nat.le_of_eq rfl) (hb hby at_157) (fun _ _ => ⟨rfl, e292, (by decide : 0 + 6 ≤ _), (by decide : 0 + 12 ≤ _)⟩)
              dsimp only [Pt.U, Pt.locs, Pt.cells, Pt.slots] at X293 l293 y293 z293 st293 hQ293 hSn293 hgn293 hC293
              subst l293 y293 z293
              have hS293 : s.Since T293.vm T293.heap.size := foldS hS0 (by rw [e292]; exact (Nat.zero_le _)) hSn293 hgn293
              have X293 : Stand p l e room_1 (s.setVm T293.vm) m #[(.int p1), (.int p2), (.int p3), (.int p4)] below meth c T293 _ _ _ := X293
              have hown : (s.setVm T293.vm).vm.findClass "com/example/numeric_planner/numericplanner/rddl/TokenIsPinLaw" = some m.cls := by rw [show (s.setVm T293.vm).vm = T293.vm from rfl, hSn293.1.alike.findClass]; exact hown
              have hZ : Z.Warmed39 (s.setVm T293.vm).vm := State.Warmed39.trans (t := s.setVm s.vm) hZ hSn293.1
              obtain ⟨r_293, tb_293, kk_293, rfl, Nq293, K293, fr293_r, u293_0, u293_1, u293_2, u293_3, u293_4, u293_5⟩ := hQ293
              obtain ⟨lc293, Xh293, N293⟩ := own_hide X293 (Fr.app N292 Nq293)
              clear X293
              refine Go.hop st293 ?_
              have CR294 := CHr.trans CR0 hC293
              have g295 : n0 ≤ r_293 := Nat.le_trans Z0 fr293_r
              have sz296 : h0.size ≤ r_293 := Nat.le_trans K0.1 fr293_r
              have Z297 : n0 ≤ T293.heap.size := Nat.le_trans Z0 K293.1
              have K298 : Keep h0 T293.heap [] := K0.trans K293 own_all0
              have O299 : Old Z n0 T293.heap := O0.keep K293 own_all0
              have hk300 : T293.heap.size ≤ T293.heap.size := Nat.le_refl _
              show Go p.tables e below P T293 (mkF m 160 #[.val (.int p1), .val (.int p2), .val (.int p3), .val (.int p4), .val (.int (3 : Int32)), .val (.ref aSYMBOL), .val (.int na), .val (.int v284_0), .val (.int nb), .val (.int v286_0), .val (.int ca), .val (.int cb), .val (.int cc), .val (.int cd), .val (.int ce), .val (.int cf), .unset, .unset, .unset, .unset, .unset] [(.ref r_293)])
              refine Go.via (fun t k => XS.astore Xh293.here hx rfl (hb hby at_160) rfl rfl (l' := #[.val (.int p1), .val (.int p2), .val (.int p3), .val (.int p4), .val (.int (3 : Int32)), .val (.ref aSYMBOL), .val (.int na), .val (.int v284_0), .val (.int nb), .val (.int v286_0), .val (.int ca), .val (.int cb), .val (.int cc), .val (.int cd), .val (.int ce), .val (.int cf), .val (.ref r_293), .unset, .unset, .unset, .unset]) rfl k) ?_
              refine Go.via (fun t k => XS.iload Xh293.here hx rfl (hb hby at_162) rfl k) ?_
              show Go p.tables e below P T293 (mkF m 164 #[.val (.int p1), .val (.int p2), .val (.int p3), .val (.int p4), .val (.int (3 : Int32)), .val (.ref aSYMBOL), .val (.int na), .val (.int v284_0), .val (.int nb), .val (.int v286_0), .val (.int ca), .val (.int cb), .val (.int cc), .val (.int cd), .val (.int ce), .val (.int cf), .val (.ref r_293), .unset, .unset, .unset, .unset] [(.int v286_0)])
              by_cases hc301 : v286_0 = (0 : Int32)
              · refine Go.via (fun t k => XS.ifYes Xh293.here hx rfl (pc0 := 164) (pc' := 171) rfl (hb hby at_164) rfl ((if0 _ _).trans (teq hc301).1) (by decide) (by decide) k) ?_
                show Go p.tables e below P T293 (mkF m 171 #[.val (.int p1), .val (.int p2), .val (.int p3), .val (.int p4), .val (.int (3 : Int32)), .val (.ref aSYMBOL), .val (.int na), .val (.int v284_0), .val (.int nb), .val (.int v286_0), .val (.int ca), .val (.int cb), .val (.int cc), .val (.int cd), .val (.int ce), .val (.int cf), .val (.ref r_293), .unset, .unset, .unset, .unset] [])
                refine Go.via (fun t k => XS.iload Xh293.here hx rfl (hb hby at_171) rfl k) ?_
                refine Go.via (fun t k => XS.iload Xh293.here hx rfl (hb hby at_173) rfl k) ?_
                refine Go.via (fun t k => XS.iload Xh293.here hx rfl (hb hby at_175) rfl k) ?_
                show Go p.tables e below P T293 (mkF m 177 #[.val (.int p1), .val (.int p2), .val (.int p3), .val (.int p4), .val (.int (3 : Int32)), .val (.ref aSYMBOL), .val (.int na), .val (.int v284_0), .val (.int nb), .val (.int v286_0), .val (.int ca), .val (.int cb), .val (.int cc), .val (.int cd), .val (.int ce), .val (.int cf), .val (.ref r_293), .unset, .unset, .unset, .unset] [(.int ce), (.int cd), (.int nb)])
                refine Go.via (fun t k => XS.iload Xh293.here hx rfl (hb hby at_177) rfl k) ?_
                show Go p.tables e below P T293 (mkF m 179 #[.val (.int p1), .val (.int p2), .val (.int p3), .val (.int p4), .val (.int (3 : Int32)), .val (.ref aSYMBOL), .val (.int na), .val (.int v284_0), .val (.int nb), .val (.int v286_0), .val (.int ca), .val (.int cb), .val (.int cc), .val (.int cd), .val (.int ce), .val (.int cf), .val (.ref r_293), .unset, .unset, .unset, .unset] [(.int cf), (.int ce), (.int cd), (.int nb)])
                obtain ⟨_, _, ⟨T302, L302, k302, n302⟩, -, X302, hSn302, hgn302, ⟨Lc302, hQ302, l302, y302, z302, hC302⟩, st302⟩ := callSS Xh293 hx (y := (⟨"com/example/numeric_planner/numericplanner/rddl/TokenIsPinLaw", "mk", "(ICCC)Ljava/lang/String;"⟩ : MethodName)) hown (mvT hZ (hw _ (List.mem_of_getElem? (i := 8) rfl))) (mvT hZ (hw _ (List.mem_of_getElem? (i := 9) rfl))) (mvT hZ (hw _ (List.mem_of_getElem? (i := 3) rfl))) (mvT hZ (hw _ (List.mem_of_getElem? (i := 10) rfl))) (by decide) (backOfSH (W := 0) (rm2 l Z a0 hw [] nb cd ce cf cs T293.heap n0 Z297 O299 P1 (by first | assumption | decide | omega : ¬ cs = (0 : Int32)) ycd yce ycf) hZ (hw _ (List.mem_of_getElem? (i := 10) rfl)) (hw _ (List.mem_of_getElem? (i := 3) rfl)) (by decide) (by decide) (own_EW hw) CR294.1) (g := (mkF m 179 #[.val (.int p1), .val (.int p2), .val (.int p3), .val (.int p4), .val (.int (3 : Int32)), .val (.ref aSYMBOL), .val (.int na), .val (.int v284_0), .val (.int nb), .val (.int v286_0), .val (.int ca), .val (.int cb), .val (.int cc), .val (.int cd), .val (.int ce), .val (.int cf), .val (.ref r_293), .unset, .unset, .unset, .unset] [(.int cf), (.int ce), (.int cd), (.int nb)])) rfl (by rw [hml]; rfl) (argsL := [(.int nb), (.int cd), (.int ce), (.int cf)]) (rest := []) (lenOf own_pd6 rfl) rfl (by show 2 * 0 + _ ≤ _; exact Nat.le_of_eq rfl) (hb hby at_179) (fun _ _ => ⟨rfl, rfl, (by decide : 6 + 6 ≤ _), (by decide : 12 + 12 ≤ _)⟩)
                dsimp only [Pt.U, Pt.locs, Pt.cells, Pt.slots] at X302 l302 y302 z302 st302 hQ302 hSn302 hgn302 hC302
                subst l302 y302 z302
                have hS302 : s.Since T302.vm T302.heap.size := foldS hS293 (by exact hk300) hSn302 hgn302
                have X302 : Stand p l e room_1 (s.setVm T302.vm) m #[(.int p1), (.int p2), (.int p3), (.int p4)] below meth c T302 _ _ _ := X302
                have hown : (s.setVm T302.vm).vm.findClass "com/example/numeric_planner/numericplanner/rddl/TokenIsPinLaw" = some m.cls := by rw [show (s.setVm T302.vm).vm = T302.vm from rfl, hSn302.1.alike.findClass]; exact hown
                have hZ : Z.Warmed39 (s.setVm T302.vm).vm := State.Warmed39.trans (t := s.setVm T293.vm) hZ hSn302.1
                obtain ⟨r_302, tb_302, kk_302, rfl, Nq302, K302, fr302_r, u302_0, u302_1, u302_2, u302_3, u302_4, u302_5⟩ := hQ302
                obtain ⟨lc302, Xh302, N302⟩ := own_hide X302 (Fr.app N293 Nq302)
                clear X302
                refine Go.hop st302 ?_
                have CR303 := CHr.trans CR294 hC302
                have ne304 : r_293 ≠ r_302 := Nat.ne_of_lt (Nat.lt_of_lt_of_le u293_0.lt fr302_r)
                have ne305 : tb_293 ≠ r_302 := Nat.ne_of_lt (Nat.lt_of_lt_of_le u293_3.lt fr302_r)
                have g306 : n0 ≤ r_302 := Nat.le_trans Z297 fr302_r
                have sz307 : h0.size ≤ r_302 := Nat.le_trans K298.1 fr302_r
                have Z308 : n0 ≤ T302.heap.size := Nat.le_trans Z297 K302.1
                have K309 : Keep h0 T302.heap [] := K298.trans K302 own_all0
                have O310 : Old Z n0 T302.heap := O299.keep K302 own_all0
                have hk311 : T302.heap.size ≤ T302.heap.size := Nat.le_refl _
                show Go p.tables e below P T302 (mkF m 182 #[.val (.int p1), .val (.int p2), .val (.int p3), .val (.int p4), .val (.int (3 : Int32)), .val (.ref aSYMBOL), .val (.int na), .val (.int v284_0), .val (.int nb), .val (.int v286_0), .val (.int ca), .val (.int cb), .val (.int cc), .val (.int cd), .val (.int ce), .val (.int cf), .val (.ref r_293), .unset, .unset, .unset, .unset] [(.ref r_302)])
                refine Go.via (fun t k => XS.astore Xh302.here hx rfl (hb hby at_182) rfl rfl (l' := #[.val (.int p1), .val (.int p2), .val (.int p3), .val (.int p4), .val (.int (3 : Int32)), .val (.ref aSYMBOL), .val (.int na), .val (.int v284_0), .val (.int nb), .val (.int v286_0), .val (.int ca), .val (.int cb), .val (.int cc), .val (.int cd), .val (.int ce), .val (.int cf), .val (.ref r_293), .val (.ref r_302), .unset, .unset, .unset]) rfl k) ?_
                show Go p.tables e below P T302 (mkF m 184 #[.val (.int p1), .val (.int p2), .val (.int p3), .val (.int p4), .val (.int (3 : Int32)), .val (.ref aSYMBOL), .val (.int na), .val (.int v284_0), .val (.int nb), .val (.int v286_0), .val (.int ca), .val (.int cb), .val (.int cc), .val (.int cd), .val (.int ce), .val (.int cf), .val (.ref r_293), .val (.ref r_302), .unset, .unset, .unset] [])
                have F313 : Exa Z T302.heap r_293 "java/lang/String" := (u293_0.keep K302)
                have F314 : Fld Z T302.heap r_293 "java/lang/String" "value" "[B" (.ref tb_293) := (u293_1.keep K302 own_nin0)
                have F315 : Fld Z T302.heap r_293 "java/lang/String" "coder" "B" (.int (0 : Int32)) := (u293_2.keep K302 own_nin0)
                have F316 : Arv Z T302.heap tb_293 kk_293 .byte (own_lg (own_mk na ca cb cc)) ((own_mk na ca cb cc).map Value.int) (.int (0 : Int32)) := (u293_3.keep K302 own_nin0)
                obtain ⟨T312, h312, X312, e312, E312, A312, D312, -, st312⟩ := newO Xh302 hx hZ hown (hw _ (List.mem_of_getElem? (i := 44) rfl)) (hw _ (List.mem_of_getElem? (i := 45) rfl)) (hw _ (List.mem_of_getElem? (i := 46) rfl)) rfl (g := (mkF m 184 #[.val (.int p1), .val (.int p2), .val (.int p3), .val (.int p4), .val (.int (3 : Int32)), .val (.ref aSYMBOL), .val (.int na), .val (.int v284_0), .val (.int nb), .val (.int v286_0), .val (.int ca), .val (.int cb), .val (.int cc), .val (.int cd), .val (.int ce), .val (.int cf), .val (.ref r_293), .val (.ref r_302), .unset, .unset, .unset] [])) rfl (hb hby at_184) (by decide) (by decide)
                obtain ⟨b312, g312⟩ : ∃ z, z = T302.heap.size := ⟨_, rfl⟩
                rw [← g312] at A312 D312 st312
                refine Go.via st312 ?_
                have ne317 : r_293 ≠ b312 := Nat.ne_of_lt (Nat.lt_of_lt_of_le F313.lt (Nat.le_of_eq g312.symm))
                have ne318 : tb_293 ≠ b312 := Nat.ne_of_lt (Nat.lt_of_lt_of_le F316.lt (Nat.le_of_eq g312.symm))
                have ne319 : r_302 ≠ b312 := Nat.ne_of_lt (Nat.lt_of_lt_of_le u302_0.lt (Nat.le_of_eq g312.symm))
                have ne320 : tb_302 ≠ b312 := Nat.ne_of_lt (Nat.lt_of_lt_of_le u302_3.lt (Nat.le_of_eq g312.symm))
                have g321 : n0 ≤ b312 := Nat.le_trans Z308 (Nat.le_of_eq g312.symm)
                have sz322 : h0.size ≤ b312 := Nat.le_trans K309.1 (Nat.le_of_eq g312.symm)
                have Z323 : n0 ≤ h312.size := Nat.le_trans Z308 E312.1
                have K324 : Keep h0 h312 [] := K309.ext E312
                have O325 : Old Z n0 h312 := O310.ext E312
                have CR326 := CHr.trans CR303 (CHr.ext E312 CR303.1)
                have hk327 := Nat.le_trans hk311 E312.1
                show Go p.tables e below P T312 (mkF m 187 #[.val (.int p1), .val (.int p2), .val (.int p3), .val (.int p4), .val (.int (3 : Int32)), .val (.ref aSYMBOL), .val (.int na), .val (.int v284_0), .val (.int nb), .val (.int v286_0), .val (.int ca), .val (.int cb), .val (.int cc), .val (.int cd), .val (.int ce), .val (.int cf), .val (.ref r_293), .val (.ref r_302), .unset, .unset, .unset] [(.ref b312)])
                refine Go.via (fun t k => XS.dup X312.here hx rfl (hb hby at_187) rfl rfl k) ?_
                refine Go.via (fun t k => XS.aload X312.here hx rfl (hb hby at_188) rfl rfl k) ?_
                refine Go.via (fun t k => XS.aload X312.here hx rfl (hb hby at_190) rfl rfl k) ?_
                show Go p.tables e below P T312 (mkF m 192 #[.val (.int p1), .val (.int p2), .val (.int p3), .val (.int p4), .val (.int (3 : Int32)), .val (.ref aSYMBOL), .val (.int na), .val (.int v284_0), .val (.int nb), .val (.int v286_0), .val (.int ca), .val (.int cb), .val (.int cc), .val (.int cd), .val (.int ce), .val (.int cf), .val (.ref r_293), .val (.ref r_302), .unset, .unset, .unset] [(.ref r_293), (.ref aSYMBOL), (.ref b312), (.ref b312)])
                have F329 : Exa Z h312 r_293 "java/lang/String" := (F313.ext E312)
                have F330 : Fld Z h312 r_293 "java/lang/String" "value" "[B" (.ref tb_293) := (F314.ext E312)
                have F331 : Fld Z h312 r_293 "java/lang/String" "coder" "B" (.int (0 : Int32)) := (F315.ext E312)
                have F332 : Arv Z h312 tb_293 kk_293 .byte (own_lg (own_mk na ca cb cc)) ((own_mk na ca cb cc).map Value.int) (.int (0 : Int32)) := (F316.ext E312)
                have F333 : Exa Z h312 r_302 "java/lang/String" := (u302_0.ext E312)
                have F334 : Fld Z h312 r_302 "java/lang/String" "value" "[B" (.ref tb_302) := (u302_1.ext E312)
                have F335 : Fld Z h312 r_302 "java/lang/String" "coder" "B" (.int (0 : Int32)) := (u302_2.ext E312)
                have F336 : Arv Z h312 tb_302 kk_302 .byte (own_lg (own_mk nb cd ce cf)) ((own_mk nb cd ce cf).map Value.int) (.int (0 : Int32)) := (u302_3.ext E312)
                obtain ⟨T328, h328, X328, e328, E328, A328, D328, -, st328⟩ := newO X312 hx hZ hown (hw _ (List.mem_of_getElem? (i := 47) rfl)) (hw _ (List.mem_of_getElem? (i := 48) rfl)) (hw _ (List.mem_of_getElem? (i := 49) rfl)) e312 (g := (mkF m 192 #[.val (.int p1), .val (.int p2), .val (.int p3), .val (.int p4), .val (.int (3 : Int32)), .val (.ref aSYMBOL), .val (.int na), .val (.int v284_0), .val (.int nb), .val (.int v286_0), .val (.int ca), .val (.int cb), .val (.int cc), .val (.int cd), .val (.int ce), .val (.int cf), .val (.ref r_293), .val (.ref r_302), .unset, .unset, .unset] [(.ref r_293), (.ref aSYMBOL), (.ref b312), (.ref b312)])) rfl (hb hby at_192) (by decide) (by decide)
                obtain ⟨b328, g328⟩ : ∃ z, z = h312.size := ⟨_, rfl⟩
                rw [← g328] at A328 D328 st328
                refine Go.via st328 ?_
                have ne337 : r_293 ≠ b328 := Nat.ne_of_lt (Nat.lt_of_lt_of_le F329.lt (Nat.le_of_eq g328.symm))
                have ne338 : tb_293 ≠ b328 := Nat.ne_of_lt (Nat.lt_of_lt_of_le F332.lt (Nat.le_of_eq g328.symm))
                have ne339 : r_302 ≠ b328 := Nat.ne_of_lt (Nat.lt_of_lt_of_le F333.lt (Nat.le_of_eq g328.symm))
                have ne340 : tb_302 ≠ b328 := Nat.ne_of_lt (Nat.lt_of_lt_of_le F336.lt (Nat.le_of_eq g328.symm))
                have ne341 : b312 ≠ b328 := Nat.ne_of_lt (Nat.lt_of_lt_of_le A312.lt (Nat.le_of_eq g328.symm))
                have g342 : n0 ≤ b328 := Nat.le_trans Z323 (Nat.le_of_eq g328.symm)
                have sz343 : h0.size ≤ b328 := Nat.le_trans K324.1 (Nat.le_of_eq g328.symm)
                have Z344 : n0 ≤ h328.size := Nat.le_trans Z323 E328.1
                have K345 : Keep h0 h328 [] := K324.ext E328
                have O346 : Old Z n0 h328 := O325.ext E328
                have CR347 := CHr.trans CR326 (CHr.ext E328 CR326.1)
                have hk348 := Nat.le_trans hk327 E328.1
                show Go p.tables e below P T328 (mkF m 195 #[.val (.int p1), .val (.int p2), .val (.int p3), .val (.int p4), .val (.int (3 : Int32)), .val (.ref aSYMBOL), .val (.int na), .val (.int v284_0), .val (.int nb), .val (.int v286_0), .val (.int ca), .val (.int cb), .val (.int cc), .val (.int cd), .val (.int ce), .val (.int cf), .val (.ref r_293), .val (.ref r_302), .unset, .unset, .unset] [(.ref b328), (.ref r_293), (.ref aSYMBOL), (.ref b312), (.ref b312)])
                refine Go.via (fun t k => XS.dup X328.here hx rfl (hb hby at_195) rfl rfl k) ?_
                show Go p.tables e below P T328 (mkF m 196 #[.val (.int p1), .val (.int p2), .val (.int p3), .val (.int p4), .val (.int (3 : Int32)), .val (.ref aSYMBOL), .val (.int na), .val (.int v284_0), .val (.int nb), .val (.int v286_0), .val (.int ca), .val (.int cb), .val (.int cc), .val (.int cd), .val (.int ce), .val (.int cf), .val (.ref r_293), .val (.ref r_302), .unset, .unset, .unset] [(.ref b328), (.ref b328), (.ref r_293), (.ref aSYMBOL), (.ref b312), (.ref b312)])
                have F349 : Exa Z h328 r_293 "java/lang/String" := (F329.ext E328)
                have F350 : Fld Z h328 r_293 "java/lang/String" "value" "[B" (.ref tb_293) := (F330.ext E328)
                have F351 : Fld Z h328 r_293 "java/lang/String" "coder" "B" (.int (0 : Int32)) := (F331.ext E328)
                have F352 : Arv Z h328 tb_293 kk_293 .byte (own_lg (own_mk na ca cb cc)) ((own_mk na ca cb cc).map Value.int) (.int (0 : Int32)) := (F332.ext E328)
                have F353 : Exa Z h328 r_302 "java/lang/String" := (F333.ext E328)
                have F354 : Fld Z h328 r_302 "java/lang/String" "value" "[B" (.ref tb_302) := (F334.ext E328)
                have F355 : Fld Z h328 r_302 "java/lang/String" "coder" "B" (.int (0 : Int32)) := (F335.ext E328)
                have F356 : Arv Z h328 tb_302 kk_302 .byte (own_lg (own_mk nb cd ce cf)) ((own_mk nb cd ce cf).map Value.int) (.int (0 : Int32)) := (F336.ext E328)
                have F357 : Exa Z h328 b312 "com/example/numeric_planner/numericplanner/rddl/Token" := (A312.ext E328)
                have F358 : Fld Z h328 b312 "com/example/numeric_planner/numericplanner/rddl/Token" "kind" "Lcom/example/numeric_planner/numericplanner/rddl/Token$Kind;" .null := ((D312 (Or.inr (hw _ (List.mem_of_getElem? (i := 69) rfl))) (ty := (.object "com/example/numeric_planner/numericplanner/rddl/Token$Kind")) (by decide) : Fld Z h312 b312 "com/example/numeric_planner/numericplanner/rddl/Token" "kind" "Lcom/example/numeric_planner/numericplanner/rddl/Token$Kind;" .null).ext E328)
                have F359 : Fld Z h328 b312 "com/example/numeric_planner/numericplanner/rddl/Token" "text" "Ljava/lang/String;" .null := ((D312 (Or.inr (hw _ (List.mem_of_getElem? (i := 71) rfl))) (ty := (.object "java/lang/String")) (by decide) : Fld Z h312 b312 "com/example/numeric_planner/numericplanner/rddl/Token" "text" "Ljava/lang/String;" .null).ext E328)
                have F360 : Fld Z h328 b312 "com/example/numeric_planner/numericplanner/rddl/Token" "location" "Lcom/example/numeric_planner/numericplanner/rddl/Location;" .null := ((D312 (Or.inr (hw _ (List.mem_of_getElem? (i := 73) rfl))) (ty := (.object "com/example/numeric_planner/numericplanner/rddl/Location")) (by decide) : Fld Z h312 b312 "com/example/numeric_planner/numericplanner/rddl/Token" "location" "Lcom/example/numeric_planner/numericplanner/rddl/Location;" .null).ext E328)
                obtain ⟨a361, T361, h361, kn361, b361, kb361, X361, e361, E361, hS361, hk361, hZ, hown, Ex361, Fc361, Fv361, Va361, lta361, ltb361, hC361, -, ne361, st361⟩ := ldcCH X328 hx hZ hown (hw _ (List.mem_of_getElem? (i := 50) rfl)) (own_sa hw) e328 hS302 hk348 (own_EW hw) (by decide : (("com/example/numeric_planner/numericplanner/rddl/TokenIsPinLaw", 22) : String × Nat) ∈ consts_1) CR347.1 (vs := [(.int (102 : Int32))]) (z := (1 : Int32)) ⟨by decide, rfl⟩ (by decide) rfl (g := (mkF m 196 #[.val (.int p1), .val (.int p2), .val (.int p3), .val (.int p4), .val (.int (3 : Int32)), .val (.ref aSYMBOL), .val (.int na), .val (.int v284_0), .val (.int nb), .val (.int v286_0), .val (.int ca), .val (.int cb), .val (.int cc), .val (.int cd), .val (.int ce), .val (.int cf), .val (.ref r_293), .val (.ref r_302), .unset, .unset, .unset] [(.ref b328), (.ref b328), (.ref r_293), (.ref aSYMBOL), (.ref b312), (.ref b312)])) rfl (hb hby at_196) (n := 4) (by decide) (by decide) (by decide) (by decide)
                refine Go.via st361 ?_
                have CR362 := CHr.trans CR347 hC361
                have Z363 : n0 ≤ h361.size := Nat.le_trans Z344 E361.1
                have K364 : Keep h0 h361 [] := K345.ext E361
                have O365 : Old Z n0 h361 := O346.ext E361
                have F366 : Exa Z h361 b312 "com/example/numeric_planner/numericplanner/rddl/Token" := (F357.ext E361)
                have nq367 := (ne361 _ (Safe.exa hZ.alike F366 (by decide) (by decide))).1
                have nq368 := (ne361 _ (Safe.exa hZ.alike F366 (by decide) (by decide))).2
                have F369 : Exa Z h361 b328 "com/example/numeric_planner/numericplanner/rddl/Location" := (A328.ext E361)
                have nq370 := (ne361 _ (Safe.exa hZ.alike F369 (by decide) (by decide))).1
                have nq371 := (ne361 _ (Safe.exa hZ.alike F369 (by decide) (by decide))).2
                show Go p.tables e below P T361 (mkF m 198 #[.val (.int p1), .val (.int p2), .val (.int p3), .val (.int p4), .val (.int (3 : Int32)), .val (.ref aSYMBOL), .val (.int na), .val (.int v284_0), .val (.int nb), .val (.int v286_0), .val (.int ca), .val (.int cb), .val (.int cc), .val (.int cd), .val (.int ce), .val (.int cf), .val (.ref r_293), .val (.ref r_302), .unset, .unset, .unset] [(.ref a361), (.ref b328), (.ref b328), (.ref r_293), (.ref aSYMBOL), (.ref b312), (.ref b312)])
                refine Go.via (fun t k => XS.iloadN X361.here hx rfl (hb hby at_198) rfl k) ?_
                show Go p.tables e below P T361 (mkF m 199 #[.val (.int p1), .val (.int p2), .val (.int p3), .val (.int p4), .val (.int (3 : Int32)), .val (.ref aSYMBOL), .val (.int na), .val (.int v284_0), .val (.int nb), .val (.int v286_0), .val (.int ca), .val (.int cb), .val (.int cc), .val (.int cd), .val (.int ce), .val (.int cf), .val (.ref r_293), .val (.ref r_302), .unset, .unset, .unset] [(.int p1), (.ref a361), (.ref b328), (.ref b328), (.ref r_293), (.ref aSYMBOL), (.ref b312), (.ref b312)])
                have F372 : Fld Z h361 b328 "com/example/numeric_planner/numericplanner/rddl/Location" "file" "Ljava/lang/String;" .null := ((D328 (Or.inr (hw _ (List.mem_of_getElem? (i := 61) rfl))) (ty := (.object "java/lang/String")) (by decide) : Fld Z h328 b328 "com/example/numeric_planner/numericplanner/rddl/Location" "file" "Ljava/lang/String;" .null).ext E361)
                have F373 : Fld Z h361 b328 "com/example/numeric_planner/numericplanner/rddl/Location" "line" "I" (.int (0 : Int32)) := ((D328 (Or.inr (hw _ (List.mem_of_getElem? (i := 63) rfl))) (ty := .int) (by decide) : Fld Z h328 b328 "com/example/numeric_planner/numericplanner/rddl/Location" "line" "I" (.int (0 : Int32))).ext E361)
                have F374 : Exa Z h361 r_293 "java/lang/String" := (F349.ext E361)
                have F375 : Fld Z h361 r_293 "java/lang/String" "value" "[B" (.ref tb_293) := (F350.ext E361)
                have F376 : Fld Z h361 r_293 "java/lang/String" "coder" "B" (.int (0 : Int32)) := (F351.ext E361)
                have F377 : Arv Z h361 tb_293 kk_293 .byte (own_lg (own_mk na ca cb cc)) ((own_mk na ca cb cc).map Value.int) (.int (0 : Int32)) := (F352.ext E361)
                have F378 : Exa Z h361 r_302 "java/lang/String" := (F353.ext E361)
                have F379 : Fld Z h361 r_302 "java/lang/String" "value" "[B" (.ref tb_302) := (F354.ext E361)
                have F380 : Fld Z h361 r_302 "java/lang/String" "coder" "B" (.int (0 : Int32)) := (F355.ext E361)
                have F381 : Arv Z h361 tb_302 kk_302 .byte (own_lg (own_mk nb cd ce cf)) ((own_mk nb cd ce cf).map Value.int) (.int (0 : Int32)) := (F356.ext E361)
                have F382 : Fld Z h361 b312 "com/example/numeric_planner/numericplanner/rddl/Token" "kind" "Lcom/example/numeric_planner/numericplanner/rddl/Token$Kind;" .null := (F358.ext E361)
                have F383 : Fld Z h361 b312 "com/example/numeric_planner/numericplanner/rddl/Token" "text" "Ljava/lang/String;" .null := (F359.ext E361)
                have F384 : Fld Z h361 b312 "com/example/numeric_planner/numericplanner/rddl/Token" "location" "Lcom/example/numeric_planner/numericplanner/rddl/Location;" .null := (F360.ext E361)
                obtain ⟨_, _, ⟨T385, L385, k385, n385⟩, -, X385, ⟨Lc385, hQ385, l385, y385, z385⟩, st385⟩ := X361.specialBack hx (y := (⟨"com/example/numeric_planner/numericplanner/rddl/Location", "<init>", "(Ljava/lang/String;I)V"⟩ : MethodName)) rfl hown (mvT hZ (hw _ (List.mem_of_getElem? (i := 51) rfl))) (mvT hZ (hw _ (List.mem_of_getElem? (i := 52) rfl))) (mvT hZ (hw _ (List.mem_of_getElem? (i := 53) rfl))) (by decide) (backOf (W := 5) (rm9 l Z a0 hw [] b328 a361 p1 h361 n0 Z363 F369 F372 F373 g342) hZ (hw _ (List.mem_of_getElem? (i := 53) rfl)) (hw _ (List.mem_of_getElem? (i := 49) rfl)) (by decide) (by decide)) (g := (mkF m 199 #[.val (.int p1), .val (.int p2), .val (.int p3), .val (.int p4), .val (.int (3 : Int32)), .val (.ref aSYMBOL), .val (.int na), .val (.int v284_0), .val (.int nb), .val (.int v286_0), .val (.int ca), .val (.int cb), .val (.int cc), .val (.int cd), .val (.int ce), .val (.int cf), .val (.ref r_293), .val (.ref r_302), .unset, .unset, .unset] [(.int p1), (.ref a361), (.ref b328), (.ref b328), (.ref r_293), (.ref aSYMBOL), (.ref b312), (.ref b312)])) rfl (by rw [hml]; rfl) (Steps.refl _) (a := b328) (argsL := [(.ref a361), (.int p1)]) (rest := [(.ref b328), (.ref r_293), (.ref aSYMBOL), (.ref b312), (.ref b312)]) (lenOf own_pd7 rfl) rfl (by show 2 * 0 + _ ≤ _; exact Nat.le_of_eq rfl) (hb hby at_199) (fun _ _ => ⟨rfl, e361, (by decide : 16 + 0 ≤ _), (by decide : 37 + 0 ≤ _)⟩)
                dsimp only [Pt.U, Pt.locs, Pt.cells, Pt.slots] at X385 l385 y385 z385 st385 hQ385
                subst l385 y385 z385
                obtain ⟨rfl, Nq385, K385, u385_0⟩ := hQ385
                obtain ⟨lc385, Xh385, N385⟩ := own_hide X385 (Fr.app N302 Nq385)
                clear X385
                refine Go.hop st385 ?_
                have Z386 : n0 ≤ T385.heap.size := Nat.le_trans Z363 K385.1
                have K387 : Keep h0 T385.heap [] := K364.trans K385 (own_allC (Or.inr sz343) own_all0)
                have CR388 := CHr.trans CR362 (CHr.keep K385 (sfS (Safe.exa hZ.alike F369 (by decide) (by decide)) sf0) CR362.1)
                have hk389 := Nat.le_trans hk361 K385.1
                have O390 : Old Z n0 T385.heap := O365.keep K385 (own_allC g342 own_all0)
                show Go p.tables e below P T385 (mkF m 202 #[.val (.int p1), .val (.int p2), .val (.int p3), .val (.int p4), .val (.int (3 : Int32)), .val (.ref aSYMBOL), .val (.int na), .val (.int v284_0), .val (.int nb), .val (.int v286_0), .val (.int ca), .val (.int cb), .val (.int cc), .val (.int cd), .val (.int ce), .val (.int cf), .val (.ref r_293), .val (.ref r_302), .unset, .unset, .unset] [(.ref b328), (.ref r_293), (.ref aSYMBOL), (.ref b312), (.ref b312)])
                have F391 : Exa Z T385.heap b312 "com/example/numeric_planner/numericplanner/rddl/Token" := (F366.keep K385)
                have F392 : Fld Z T385.heap b312 "com/example/numeric_planner/numericplanner/rddl/Token" "kind" "Lcom/example/numeric_planner/numericplanner/rddl/Token$Kind;" .null := (F382.keep K385 (own_ninC ne341 own_nin0))
                have F393 : Fld Z T385.heap b312 "com/example/numeric_planner/numericplanner/rddl/Token" "text" "Ljava/lang/String;" .null := (F383.keep K385 (own_ninC ne341 own_nin0))
                have F394 : Fld Z T385.heap b312 "com/example/numeric_planner/numericplanner/rddl/Token" "location" "Lcom/example/numeric_planner/numericplanner/rddl/Location;" .null := (F384.keep K385 (own_ninC ne341 own_nin0))
                have F395 : Exa Z T385.heap r_293 "java/lang/String" := (F374.keep K385)
                have F396 : Fld Z T385.heap r_293 "java/lang/String" "value" "[B" (.ref tb_293) := (F375.keep K385 (own_ninC ne337 own_nin0))
                have F397 : Fld Z T385.heap r_293 "java/lang/String" "coder" "B" (.int (0 : Int32)) := (F376.keep K385 (own_ninC ne337 own_nin0))
                have F398 : Arv Z T385.heap tb_293 kk_293 .byte (own_lg (own_mk na ca cb cc)) ((own_mk na ca cb cc).map Value.int) (.int (0 : Int32)) := (F377.keep K385 (own_ninC ne338 own_nin0))
                have F399 : Exa Z T385.heap r_302 "java/lang/String" := (F378.keep K385)
                have F400 : Fld Z T385.heap r_302 "java/lang/String" "value" "[B" (.ref tb_302) := (F379.keep K385 (own_ninC ne339 own_nin0))
                have F401 : Fld Z T385.heap r_302 "java/lang/String" "coder" "B" (.int (0 : Int32)) := (F380.keep K385 (own_ninC ne339 own_nin0))
                have F402 : Arv Z T385.heap tb_302 kk_302 .byte (own_lg (own_mk nb cd ce cf)) ((own_mk nb cd ce cf).map Value.int) (.int (0 : Int32)) := (F381.keep K385 (own_ninC ne340 own_nin0))
                have F403 : Exa Z T385.heap a361 "java/lang/String" := (Ex361.keep K385)
                have F404 : Fld Z T385.heap a361 "java/lang/String" "coder" "B" (.int (0 : Int32)) := (Fc361.keep K385 (own_ninC (Ne.symm nq370) own_nin0))
                have F405 : Fld Z T385.heap a361 "java/lang/String" "value" "[B" (.ref b361) := (Fv361.keep K385 (own_ninC (Ne.symm nq370) own_nin0))
                have F406 : Arv Z T385.heap b361 kb361 .byte (1 : Int32) [(.int (102 : Int32))] (.int (0 : Int32)) := (Va361.keep K385 (own_ninC (Ne.symm nq371) own_nin0))
                obtain ⟨_, _, ⟨T407, L407, k407, n407⟩, -, X407, ⟨Lc407, hQ407, l407, y407, z407⟩, st407⟩ := Xh385.specialBack hx (y := (⟨"com/example/numeric_planner/numericplanner/rddl/Token", "<init>", "(Lcom/example/numeric_planner/numericplanner/rddl/Token$Kind;Ljava/lang/String;Lcom/example/numeric_planner/numericplanner/rddl/Location;)V"⟩ : MethodName)) rfl hown (mvT hZ (hw _ (List.mem_of_getElem? (i := 64) rfl))) (mvT hZ (hw _ (List.mem_of_getElem? (i := 65) rfl))) (mvT hZ (hw _ (List.mem_of_getElem? (i := 66) rfl))) (by decide) (backOf (W := 1) (rm11 l Z a0 hw [] b312 aSYMBOL r_293 b328 T385.heap n0 Z386 F391 F392 F393 F394 g321) hZ (hw _ (List.mem_of_getElem? (i := 66) rfl)) (hw _ (List.mem_of_getElem? (i := 46) rfl)) (by decide) (by decide)) (g := (mkF m 202 #[.val (.int p1), .val (.int p2), .val (.int p3), .val (.int p4), .val (.int (3 : Int32)), .val (.ref aSYMBOL), .val (.int na), .val (.int v284_0), .val (.int nb), .val (.int v286_0), .val (.int ca), .val (.int cb), .val (.int cc), .val (.int cd), .val (.int ce), .val (.int cf), .val (.ref r_293), .val (.ref r_302), .unset, .unset, .unset] [(.ref b328), (.ref r_293), (.ref aSYMBOL), (.ref b312), (.ref b312)])) rfl (by rw [hml]; rfl) (Steps.refl _) (a := b312) (argsL := [(.ref aSYMBOL), (.ref r_293), (.ref b328)]) (rest := [(.ref b312)]) (lenOf own_pd8 rfl) rfl (by show 2 * 0 + _ ≤ _; exact Nat.le_of_eq rfl) (hb hby at_202) (fun _ _ => ⟨rfl, rfl, (by decide : 16 + 0 ≤ _), (by decide : 37 + 0 ≤ _)⟩)
                dsimp only [Pt.U, Pt.locs, Pt.cells, Pt.slots] at X407 l407 y407 z407 st407 hQ407
                subst l407 y407 z407
                obtain ⟨rfl, Nq407, K407, u407_0, u407_1, u407_2, u407_3⟩ := hQ407
                obtain ⟨lc407, Xh407, N407⟩ := own_hide X407 (Fr.app N385 Nq407)
                clear X407
                refine Go.hop st407 ?_
                have Z408 : n0 ≤ T407.heap.size := Nat.le_trans Z386 K407.1
                have K409 : Keep h0 T407.heap [] := K387.trans K407 (own_allC (Or.inr sz322) own_all0)
                have CR410 := CHr.trans CR388 (CHr.keep K407 (sfS (Safe.exa hZ.alike F391 (by decide) (by decide)) sf0) CR388.1)
                have hk411 := Nat.le_trans hk389 K407.1
                have O412 : Old Z n0 T407.heap := O390.keep K407 (own_allC g321 own_all0)
                show Go p.tables e below P T407 (mkF m 205 #[.val (.int p1), .val (.int p2), .val (.int p3), .val (.int p4), .val (.int (3 : Int32)), .val (.ref aSYMBOL), .val (.int na), .val (.int v284_0), .val (.int nb), .val (.int v286_0), .val (.int ca), .val (.int cb), .val (.int cc), .val (.int cd), .val (.int ce), .val (.int cf), .val (.ref r_293), .val (.ref r_302), .unset, .unset, .unset] [(.ref b312)])
                refine Go.via (fun t k => XS.astore Xh407.here hx rfl (hb hby at_205) rfl rfl (l' := #[.val (.int p1), .val (.int p2), .val (.int p3), .val (.int p4), .val (.int (3 : Int32)), .val (.ref aSYMBOL), .val (.int na), .val (.int v284_0), .val (.int nb), .val (.int v286_0), .val (.int ca), .val (.int cb), .val (.int cc), .val (.int cd), .val (.int ce), .val (.int cf), .val (.ref r_293), .val (.ref r_302), .val (.ref b312), .unset, .unset]) rfl k) ?_
                refine Go.via (fun t k => XS.iload Xh407.here hx rfl (hb hby at_207) rfl k) ?_
                refine Go.via (fun t k => XS.iload Xh407.here hx rfl (hb hby at_209) rfl k) ?_
                show Go p.tables e below P T407 (mkF m 211 #[.val (.int p1), .val (.int p2), .val (.int p3), .val (.int p4), .val (.int (3 : Int32)), .val (.ref aSYMBOL), .val (.int na), .val (.int v284_0), .val (.int nb), .val (.int v286_0), .val (.int ca), .val (.int cb), .val (.int cc), .val (.int cd), .val (.int ce), .val (.int cf), .val (.ref r_293), .val (.ref r_302), .val (.ref b312), .unset, .unset] [(.int nb), (.int na)])
                have LP414 : ∀ (T414 : State) (locs414 : List Loc) (ev : Int32), Stand p l e room_1 (s.setVm T361.vm) m #[(.int p1), (.int p2), (.int p3), (.int p4)] below meth c T414 locs414 16 37 → T414.heap = T407.heap → Fr n0 locs414 → ev = (if own_mk na ca cb cc = own_mk nb cd ce cf then (1 : Int32) else (0 : Int32)) → Go p.tables e below P T414 (mkF m 258 #[.val (.int p1), .val (.int p2), .val (.int p3), .val (.int p4), .val (.int (3 : Int32)), .val (.ref aSYMBOL), .val (.int na), .val (.int v284_0), .val (.int nb), .val (.int v286_0), .val (.int ca), .val (.int cb), .val (.int cc), .val (.int cd), .val (.int ce), .val (.int cf), .val (.ref r_293), .val (.ref r_302), .val (.ref b312), .unset, .unset] [(.int ev)]) := by
                  intro T414 locs414 ev X414 e414 N414 hev
                  show Go p.tables e below P T414 (mkF m 258 #[.val (.int p1), .val (.int p2), .val (.int p3), .val (.int p4), .val (.int (3 : Int32)), .val (.ref aSYMBOL), .val (.int na), .val (.int v284_0), .val (.int nb), .val (.int v286_0), .val (.int ca), .val (.int cb), .val (.int cc), .val (.int cd), .val (.int ce), .val (.int cf), .val (.ref r_293), .val (.ref r_302), .val (.ref b312), .unset, .unset] [(.int ev)])
                  refine Go.via (fun t k => XS.istore X414.here hx rfl (hb hby at_258) rfl (l' := #[.val (.int p1), .val (.int p2), .val (.int p3), .val (.int p4), .val (.int (3 : Int32)), .val (.ref aSYMBOL), .val (.int na), .val (.int v284_0), .val (.int nb), .val (.int v286_0), .val (.int ca), .val (.int cb), .val (.int cc), .val (.int cd), .val (.int ce), .val (.int cf), .val (.ref r_293), .val (.ref r_302), .val (.ref b312), .val (.int ev), .unset]) rfl k) ?_
                  refine Go.via (fun t k => XS.iload X414.here hx rfl (hb hby at_260) rfl k) ?_
                  show Go p.tables e below P T414 (mkF m 262 #[.val (.int p1), .val (.int p2), .val (.int p3), .val (.int p4), .val (.int (3 : Int32)), .val (.ref aSYMBOL), .val (.int na), .val (.int v284_0), .val (.int nb), .val (.int v286_0), .val (.int ca), .val (.int cb), .val (.int cc), .val (.int cd), .val (.int ce), .val (.int cf), .val (.ref r_293), .val (.ref r_302), .val (.ref b312), .val (.int ev), .unset] [(.int (3 : Int32))])
                  refine Go.via (fun t k => XS.ifNo X414.here hx rfl (hb hby at_262) rfl ((if0 _ _).trans (feq (by decide : ¬ ((3 : Int32) = (0 : Int32)))).1) k) ?_
                  show Go p.tables e below P T414 (mkF m 265 #[.val (.int p1), .val (.int p2), .val (.int p3), .val (.int p4), .val (.int (3 : Int32)), .val (.ref aSYMBOL), .val (.int na), .val (.int v284_0), .val (.int nb), .val (.int v286_0), .val (.int ca), .val (.int cb), .val (.int cc), .val (.int cd), .val (.int ce), .val (.int cf), .val (.ref r_293), .val (.ref r_302), .val (.ref b312), .val (.int ev), .unset] [])
                  refine Go.via (fun t k => XS.iload X414.here hx rfl (hb hby at_265) rfl k) ?_
                  refine Go.via (fun t k => XS.iconst X414.here hx rfl (hb hby at_267) k) ?_
                  show Go p.tables e below P T414 (mkF m 268 #[.val (.int p1), .val (.int p2), .val (.int p3), .val (.int p4), .val (.int (3 : Int32)), .val (.ref aSYMBOL), .val (.int na), .val (.int v284_0), .val (.int nb), .val (.int v286_0), .val (.int ca), .val (.int cb), .val (.int cc), .val (.int cd), .val (.int ce), .val (.int cf), .val (.ref r_293), .val (.ref r_302), .val (.ref b312), .val (.int ev), .unset] [(.int (3 : Int32)), (.int (3 : Int32))])
                  refine Go.via (fun t k => XS.icmpNo X414.here hx rfl (hb hby at_268) rfl (teq (rfl : (3 : Int32) = (3 : Int32))).2 k) ?_
                  show Go p.tables e below P T414 (mkF m 271 #[.val (.int p1), .val (.int p2), .val (.int p3), .val (.int p4), .val (.int (3 : Int32)), .val (.ref aSYMBOL), .val (.int na), .val (.int v284_0), .val (.int nb), .val (.int v286_0), .val (.int ca), .val (.int cb), .val (.int cc), .val (.int cd), .val (.int ce), .val (.int cf), .val (.ref r_293), .val (.ref r_302), .val (.ref b312), .val (.int ev), .unset] [])
                  refine Go.via (fun t k => XS.iload X414.here hx rfl (hb hby at_271) rfl k) ?_
                  show Go p.tables e below P T414 (mkF m 273 #[.val (.int p1), .val (.int p2), .val (.int p3), .val (.int p4), .val (.int (3 : Int32)), .val (.ref aSYMBOL), .val (.int na), .val (.int v284_0), .val (.int nb), .val (.int v286_0), .val (.int ca), .val (.int cb), .val (.int cc), .val (.int cd), .val (.int ce), .val (.int cf), .val (.ref r_293), .val (.ref r_302), .val (.ref b312), .val (.int ev), .unset] [(.int v286_0)])
                  refine Go.via (fun t k => XS.ifNo X414.here hx rfl (hb hby at_273) rfl ((if0 _ _).trans (teq hc301).2) k) ?_
                  show Go p.tables e below P T414 (mkF m 276 #[.val (.int p1), .val (.int p2), .val (.int p3), .val (.int p4), .val (.int (3 : Int32)), .val (.ref aSYMBOL), .val (.int na), .val (.int v284_0), .val (.int nb), .val (.int v286_0), .val (.int ca), .val (.int cb), .val (.int cc), .val (.int cd), .val (.int ce), .val (.int cf), .val (.ref r_293), .val (.ref r_302), .val (.ref b312), .val (.int ev), .unset] [])
                  refine Go.via (fun t k => XS.iload X414.here hx rfl (hb hby at_276) rfl k) ?_
                  show Go p.tables e below P T414 (mkF m 278 #[.val (.int p1), .val (.int p2), .val (.int p3), .val (.int p4), .val (.int (3 : Int32)), .val (.ref aSYMBOL), .val (.int na), .val (.int v284_0), .val (.int nb), .val (.int v286_0), .val (.int ca), .val (.int cb), .val (.int cc), .val (.int cd), .val (.int ce), .val (.int cf), .val (.ref r_293), .val (.ref r_302), .val (.ref b312), .val (.int ev), .unset] [(.int ev)])
                  by_cases hc415 : ev = (0 : Int32)
                  · refine Go.via (fun t k => XS.ifYes X414.here hx rfl (pc0 := 278) (pc' := 285) rfl (hb hby at_278) rfl ((if0 _ _).trans (teq hc415).1) (by decide) (by decide) k) ?_
                    show Go p.tables e below P T414 (mkF m 285 #[.val (.int p1), .val (.int p2), .val (.int p3), .val (.int p4), .val (.int (3 : Int32)), .val (.ref aSYMBOL), .val (.int na), .val (.int v284_0), .val (.int nb), .val (.int v286_0), .val (.int ca), .val (.int cb), .val (.int cc), .val (.int cd), .val (.int ce), .val (.int cf), .val (.ref r_293), .val (.ref r_302), .val (.ref b312), .val (.int ev), .unset] [])
                    refine Go.via (fun t k => XS.iconst X414.here hx rfl (hb hby at_285) k) ?_
                    refine Go.via (fun t k => XS.istore X414.here hx rfl (hb hby at_286) rfl (l' := #[.val (.int p1), .val (.int p2), .val (.int p3), .val (.int p4), .val (.int (3 : Int32)), .val (.ref aSYMBOL), .val (.int na), .val (.int v284_0), .val (.int nb), .val (.int v286_0), .val (.int ca), .val (.int cb), .val (.int cc), .val (.int cd), .val (.int ce), .val (.int cf), .val (.ref r_293), .val (.ref r_302), .val (.ref b312), .val (.int ev), .val (.int (0 : Int32))]) rfl k) ?_
                    refine Go.via (fun t k => XS.aload X414.here hx rfl (hb hby at_288) rfl rfl k) ?_
                    show Go p.tables e below P T414 (mkF m 290 #[.val (.int p1), .val (.int p2), .val (.int p3), .val (.int p4), .val (.int (3 : Int32)), .val (.ref aSYMBOL), .val (.int na), .val (.int v284_0), .val (.int nb), .val (.int v286_0), .val (.int ca), .val (.int cb), .val (.int cc), .val (.int cd), .val (.int ce), .val (.int cf), .val (.ref r_293), .val (.ref r_302), .val (.ref b312), .val (.int ev), .val (.int (0 : Int32))] [(.ref b312)])
                    refine Go.via (fun t k => XS.aload X414.here hx rfl (hb hby at_290) rfl rfl k) ?_
                    show Go p.tables e below P T414 (mkF m 292 #[.val (.int p1), .val (.int p2), .val (.int p3), .val (.int p4), .val (.int (3 : Int32)), .val (.ref aSYMBOL), .val (.int na), .val (.int v284_0), .val (.int nb), .val (.int v286_0), .val (.int ca), .val (.int cb), .val (.int cc), .val (.int cd), .val (.int ce), .val (.int cf), .val (.ref r_293), .val (.ref r_302), .val (.ref b312), .val (.int ev), .val (.int (0 : Int32))] [(.ref r_302), (.ref b312)])
                    have F416 : Exa Z T407.heap r_293 "java/lang/String" := (F395.keep K407)
                    have F417 : Fld Z T407.heap r_293 "java/lang/String" "value" "[B" (.ref tb_293) := (F396.keep K407 (own_ninC ne317 own_nin0))
                    have F418 : Fld Z T407.heap r_293 "java/lang/String" "coder" "B" (.int (0 : Int32)) := (F397.keep K407 (own_ninC ne317 own_nin0))
                    have F419 : Arv Z T407.heap tb_293 kk_293 .byte (own_lg (own_mk na ca cb cc)) ((own_mk na ca cb cc).map Value.int) (.int (0 : Int32)) := (F398.keep K407 (own_ninC ne318 own_nin0))
                    have F420 : Exa Z T407.heap r_302 "java/lang/String" := (F399.keep K407)
                    have F421 : Fld Z T407.heap r_302 "java/lang/String" "value" "[B" (.ref tb_302) := (F400.keep K407 (own_ninC ne319 own_nin0))
                    have F422 : Fld Z T407.heap r_302 "java/lang/String" "coder" "B" (.int (0 : Int32)) := (F401.keep K407 (own_ninC ne319 own_nin0))
                    have F423 : Arv Z T407.heap tb_302 kk_302 .byte (own_lg (own_mk nb cd ce cf)) ((own_mk nb cd ce cf).map Value.int) (.int (0 : Int32)) := (F402.keep K407 (own_ninC ne320 own_nin0))
                    have F424 : Exa Z T407.heap b328 "com/example/numeric_planner/numericplanner/rddl/Location" := (u385_0.keep K407)
                    have F425 : Exa Z T407.heap a361 "java/lang/String" := (F403.keep K407)
                    have F426 : Fld Z T407.heap a361 "java/lang/String" "coder" "B" (.int (0 : Int32)) := (F404.keep K407 (own_ninC (Ne.symm nq367) own_nin0))
                    have F427 : Fld Z T407.heap a361 "java/lang/String" "value" "[B" (.ref b361) := (F405.keep K407 (own_ninC (Ne.symm nq367) own_nin0))
                    have F428 : Arv Z T407.heap b361 kb361 .byte (1 : Int32) [(.int (102 : Int32))] (.int (0 : Int32)) := (F406.keep K407 (own_ninC (Ne.symm nq368) own_nin0))
                    obtain ⟨cq429, kq429, q429a, q429b, q429c⟩ := isOf hZ e414 u407_0
                    obtain ⟨_, _, ⟨T429, L429, k429, n429⟩, -, X429, ⟨Lc429, hQ429, l429, y429, z429⟩, st429⟩ := X414.virtualBack hx (y := (⟨"com/example/numeric_planner/numericplanner/rddl/Token", "is", "(Ljava/lang/String;)Z"⟩ : MethodName)) (z := (⟨"com/example/numeric_planner/numericplanner/rddl/Token", "is", "(Ljava/lang/String;)Z"⟩ : MethodName)) hown (mvT hZ (hw _ (List.mem_of_getElem? (i := 74) rfl))) (mvT hZ (hw _ (List.mem_of_getElem? (i := 75) rfl))) (notFace_of_selects (args := #[]) (mvT hZ (hw _ (List.mem_of_getElem? (i := 77) rfl)))) (mvT hZ (hw _ (List.mem_of_getElem? (i := 77) rfl))) (mvT hZ (hw _ (List.mem_of_getElem? (i := 76) rfl))) (by decide) (backOf (W := 0) (rm12sr l Z a0 hw [] b312 aNAME aSYMBOL r_302 r_293 cs tb_293 tb_302 kk_293 kk_302 (own_mk na ca cb cc) (own_mk nb cd ce cf) T407.heap n0 Z408 O412 P3 P6 u407_1 u407_2 F416 P1 (by first | assumption | decide | omega : ¬ cs = (0 : Int32)) F417 F418 F419 F420 F421 F422 F423 (own_mkl _ _ _ _) (own_mkl _ _ _ _) (fun q => absurd q ne304)) hZ (hw _ (List.mem_of_getElem? (i := 78) rfl)) (hw _ (List.mem_of_getElem? (i := 46) rfl)) (by decide) (by decide)) q429a q429c (g := (mkF m 292 #[.val (.int p1), .val (.int p2), .val (.int p3), .val (.int p4), .val (.int (3 : Int32)), .val (.ref aSYMBOL), .val (.int na), .val (.int v284_0), .val (.int nb), .val (.int v286_0), .val (.int ca), .val (.int cb), .val (.int cc), .val (.int cd), .val (.int ce), .val (.int cf), .val (.ref r_293), .val (.ref r_302), .val (.ref b312), .val (.int ev), .val (.int (0 : Int32))] [(.ref r_302), (.ref b312)])) rfl (by rw [hml]; rfl) (Steps.refl _) (argsL := [(.ref r_302)]) (rest := []) (lenOf own_pd9 rfl) rfl (by show 2 * 0 + _ ≤ _; exact Nat.le_of_eq rfl) (hb hby at_292) (fun _ _ => ⟨rfl, e414, (by decide : 16 + 0 ≤ _), (by decide : 37 + 0 ≤ _)⟩)
                    dsimp only [Pt.U, Pt.locs, Pt.cells, Pt.slots] at X429 l429 y429 z429 st429 hQ429
                    subst l429 y429 z429
                    obtain ⟨rfl, Nq429, hh429⟩ := hQ429
                    obtain ⟨lc429, Xh429, N429⟩ := own_hide X429 (Fr.app N414 Nq429)
                    clear X429
                    refine Go.hop st429 ?_
                    show Go p.tables e below P T429 (mkF m 295 #[.val (.int p1), .val (.int p2), .val (.int p3), .val (.int p4), .val (.int (3 : Int32)), .val (.ref aSYMBOL), .val (.int na), .val (.int v284_0), .val (.int nb), .val (.int v286_0), .val (.int ca), .val (.int cb), .val (.int cc), .val (.int cd), .val (.int ce), .val (.int cf), .val (.ref r_293), .val (.ref r_302), .val (.ref b312), .val (.int ev), .val (.int (0 : Int32))] [(.int (if (own_mk na ca cb cc) = (own_mk nb cd ce cf) then (1 : Int32) else (0 : Int32)))])
                    refine Go.via (fun t k => XS.iload Xh429.here hx rfl (hb hby at_295) rfl k) ?_
                    show Go p.tables e below P T429 (mkF m 297 #[.val (.int p1), .val (.int p2), .val (.int p3), .val (.int p4), .val (.int (3 : Int32)), .val (.ref aSYMBOL), .val (.int na), .val (.int v284_0), .val (.int nb), .val (.int v286_0), .val (.int ca), .val (.int cb), .val (.int cc), .val (.int cd), .val (.int ce), .val (.int cf), .val (.ref r_293), .val (.ref r_302), .val (.ref b312), .val (.int ev), .val (.int (0 : Int32))] [(.int (0 : Int32)), (.int (if (own_mk na ca cb cc) = (own_mk nb cd ce cf) then (1 : Int32) else (0 : Int32)))])
                    refine Go.via (fun t k => XS.icmpNo Xh429.here hx rfl (hb hby at_297) rfl (teq (hev.symm.trans hc415)).2 k) ?_
                    show Go p.tables e below P T429 (mkF m 300 #[.val (.int p1), .val (.int p2), .val (.int p3), .val (.int p4), .val (.int (3 : Int32)), .val (.ref aSYMBOL), .val (.int na), .val (.int v284_0), .val (.int nb), .val (.int v286_0), .val (.int ca), .val (.int cb), .val (.int cc), .val (.int cd), .val (.int ce), .val (.int cf), .val (.ref r_293), .val (.ref r_302), .val (.ref b312), .val (.int ev), .val (.int (0 : Int32))] [])
                    refine Go.via (fun t k => XS.iconst Xh429.here hx rfl (hb hby at_300) k) ?_
                    refine Go.via (fun t k => XS.goto Xh429.here hx rfl (pc0 := 301) (pc' := 305) rfl (hb hby at_301) (by decide) (by decide) k) ?_
                    show Go p.tables e below P T429 (mkF m 305 #[.val (.int p1), .val (.int p2), .val (.int p3), .val (.int p4), .val (.int (3 : Int32)), .val (.ref aSYMBOL), .val (.int na), .val (.int v284_0), .val (.int nb), .val (.int v286_0), .val (.int ca), .val (.int cb), .val (.int cc), .val (.int cd), .val (.int ce), .val (.int cf), .val (.ref r_293), .val (.ref r_302), .val (.ref b312), .val (.int ev), .val (.int (0 : Int32))] [(.int (1 : Int32))])
                    obtain ⟨fs, hr, hrun, hended, hend⟩ := Xh429.leaveW hS361 (by rw [hh429]; exact hk411) (v := some (.int (1 : Int32))) (fun h => by rw [Bd.returns] at h; cases h)
                    have hCf : CHr Z consts_1 s.vm s.heap (T429.setFrames fs).vm (T429.setFrames fs).heap := by
                      rw [hh]
                      show CHr Z consts_1 s.vm h0 T429.vm T429.heap
                      rw [hh429]
                      exact CHr.trans CR410 (CHv.at Xh429 hZ (own_EW hw) CR410.1)
                    refine ⟨_, _, retZ Xh429 hx (t := .boolean) Bd.returns (by simp) (hb hby at_305) rfl hr, hrun, hended, hP _ _ ⟨_, _, rfl, ?_, hCf, own_rew hend (by decide) (by decide)⟩⟩
                    show Q0 Z p1 p2 p3 p4 cs aNAME aPRIMED_NAME aNUMBER aSYMBOL aINVALID aEND h0 n0 _ T429.heap _
                    rw [hh429]
                    exact ⟨rfl, N429⟩
                  · refine Go.via (fun t k => XS.ifNo X414.here hx rfl (hb hby at_278) rfl ((if0 _ _).trans (feq hc415).1) k) ?_
                    show Go p.tables e below P T414 (mkF m 281 #[.val (.int p1), .val (.int p2), .val (.int p3), .val (.int p4), .val (.int (3 : Int32)), .val (.ref aSYMBOL), .val (.int na), .val (.int v284_0), .val (.int nb), .val (.int v286_0), .val (.int ca), .val (.int cb), .val (.int cc), .val (.int cd), .val (.int ce), .val (.int cf), .val (.ref r_293), .val (.ref r_302), .val (.ref b312), .val (.int ev), .unset] [])
                    refine Go.via (fun t k => XS.iconst X414.here hx rfl (hb hby at_281) k) ?_
                    refine Go.via (fun t k => XS.goto X414.here hx rfl (pc0 := 282) (pc' := 286) rfl (hb hby at_282) (by decide) (by decide) k) ?_
                    refine Go.via (fun t k => XS.istore X414.here hx rfl (hb hby at_286) rfl (l' := #[.val (.int p1), .val (.int p2), .val (.int p3), .val (.int p4), .val (.int (3 : Int32)), .val (.ref aSYMBOL), .val (.int na), .val (.int v284_0), .val (.int nb), .val (.int v286_0), .val (.int ca), .val (.int cb), .val (.int cc), .val (.int cd), .val (.int ce), .val (.int cf), .val (.ref r_293), .val (.ref r_302), .val (.ref b312), .val (.int ev), .val (.int (1 : Int32))]) rfl k) ?_
                    show Go p.tables e below P T414 (mkF m 288 #[.val (.int p1), .val (.int p2), .val (.int p3), .val (.int p4), .val (.int (3 : Int32)), .val (.ref aSYMBOL), .val (.int na), .val (.int v284_0), .val (.int nb), .val (.int v286_0), .val (.int ca), .val (.int cb), .val (.int cc), .val (.int cd), .val (.int ce), .val (.int cf), .val (.ref r_293), .val (.ref r_302), .val (.ref b312), .val (.int ev), .val (.int (1 : Int32))] [])
                    refine Go.via (fun t k => XS.aload X414.here hx rfl (hb hby at_288) rfl rfl k) ?_
                    refine Go.via (fun t k => XS.aload X414.here hx rfl (hb hby at_290) rfl rfl k) ?_
                    show Go p.tables e below P T414 (mkF m 292 #[.val (.int p1), .val (.int p2), .val (.int p3), .val (.int p4), .val (.int (3 : Int32)), .val (.ref aSYMBOL), .val (.int na), .val (.int v284_0), .val (.int nb), .val (.int v286_0), .val (.int ca), .val (.int cb), .val (.int cc), .val (.int cd), .val (.int ce), .val (.int cf), .val (.ref r_293), .val (.ref r_302), .val (.ref b312), .val (.int ev), .val (.int (1 : Int32))] [(.ref r_302), (.ref b312)])
                    have F431 : Exa Z T407.heap r_293 "java/lang/String" := (F395.keep K407)
                    have F432 : Fld Z T407.heap r_293 "java/lang/String" "value" "[B" (.ref tb_293) := (F396.keep K407 (own_ninC ne317 own_nin0))
                    have F433 : Fld Z T407.heap r_293 "java/lang/String" "coder" "B" (.int (0 : Int32)) := (F397.keep K407 (own_ninC ne317 own_nin0))
                    have F434 : Arv Z T407.heap tb_293 kk_293 .byte (own_lg (own_mk na ca cb cc)) ((own_mk na ca cb cc).map Value.int) (.int (0 : Int32)) := (F398.keep K407 (own_ninC ne318 own_nin0))
                    have F435 : Exa Z T407.heap r_302 "java/lang/String" := (F399.keep K407)
                    have F436 : Fld Z T407.heap r_302 "java/lang/String" "value" "[B" (.ref tb_302) := (F400.keep K407 (own_ninC ne319 own_nin0))
                    have F437 : Fld Z T407.heap r_302 "java/lang/String" "coder" "B" (.int (0 : Int32)) := (F401.keep K407 (own_ninC ne319 own_nin0))
                    have F438 : Arv Z T407.heap tb_302 kk_302 .byte (own_lg (own_mk nb cd ce cf)) ((own_mk nb cd ce cf).map Value.int) (.int (0 : Int32)) := (F402.keep K407 (own_ninC ne320 own_nin0))
                    have F439 : Exa Z T407.heap b328 "com/example/numeric_planner/numericplanner/rddl/Location" := (u385_0.keep K407)
                    have F440 : Exa Z T407.heap a361 "java/lang/String" := (F403.keep K407)
                    have F441 : Fld Z T407.heap a361 "java/lang/String" "coder" "B" (.int (0 : Int32)) := (F404.keep K407 (own_ninC (Ne.symm nq367) own_nin0))
                    have F442 : Fld Z T407.heap a361 "java/lang/String" "value" "[B" (.ref b361) := (F405.keep K407 (own_ninC (Ne.symm nq367) own_nin0))
                    have F443 : Arv Z T407.heap b361 kb361 .byte (1 : Int32) [(.int (102 : Int32))] (.int (0 : Int32)) := (F406.keep K407 (own_ninC (Ne.symm nq368) own_nin0))
                    obtain ⟨cq444, kq444, q444a, q444b, q444c⟩ := isOf hZ e414 u407_0
                    obtain ⟨_, _, ⟨T444, L444, k444, n444⟩, -, X444, ⟨Lc444, hQ444, l444, y444, z444⟩, st444⟩ := X414.virtualBack hx (y := (⟨"com/example/numeric_planner/numericplanner/rddl/Token", "is", "(Ljava/lang/String;)Z"⟩ : MethodName)) (z := (⟨"com/example/numeric_planner/numericplanner/rddl/Token", "is", "(Ljava/lang/String;)Z"⟩ : MethodName)) hown (mvT hZ (hw _ (List.mem_of_getElem? (i := 74) rfl))) (mvT hZ (hw _ (List.mem_of_getElem? (i := 75) rfl))) (notFace_of_selects (args := #[]) (mvT hZ (hw _ (List.mem_of_getElem? (i := 77) rfl)))) (mvT hZ (hw _ (List.mem_of_getElem? (i := 77) rfl))) (mvT hZ (hw _ (List.mem_of_getElem? (i := 76) rfl))) (by decide) (backOf (W := 0) (rm12sr l Z a0 hw [] b312 aNAME aSYMBOL r_302 r_293 cs tb_293 tb_302 kk_293 kk_302 (own_mk na ca cb cc) (own_mk nb cd ce cf) T407.heap n0 Z408 O412 P3 P6 u407_1 u407_2 F431 P1 (by first | assumption | decide | omega : ¬ cs = (0 : Int32)) F432 F433 F434 F435 F436 F437 F438 (own_mkl _ _ _ _) (own_mkl _ _ _ _) (fun q => absurd q ne304)) hZ (hw _ (List.mem_of_getElem? (i := 78) rfl)) (hw _ (List.mem_of_getElem? (i := 46) rfl)) (by decide) (by decide)) q444a q444c (g := (mkF m 292 #[.val (.int p1), .val (.int p2), .val (.int p3), .val (.int p4), .val (.int (3 : Int32)), .val (.ref aSYMBOL), .val (.int na), .val (.int v284_0), .val (.int nb), .val (.int v286_0), .val (.int ca), .val (.int cb), .val (.int cc), .val (.int cd), .val (.int ce), .val (.int cf), .val (.ref r_293), .val (.ref r_302), .val (.ref b312), .val (.int ev), .val (.int (1 : Int32))] [(.ref r_302), (.ref b312)])) rfl (by rw [hml]; rfl) (Steps.refl _) (argsL := [(.ref r_302)]) (rest := []) (lenOf own_pd9 rfl) rfl (by show 2 * 0 + _ ≤ _; exact Nat.le_of_eq rfl) (hb hby at_292) (fun _ _ => ⟨rfl, e414, (by decide : 16 + 0 ≤ _), (by decide : 37 + 0 ≤ _)⟩)
                    dsimp only [Pt.U, Pt.locs, Pt.cells, Pt.slots] at X444 l444 y444 z444 st444 hQ444
                    subst l444 y444 z444
                    obtain ⟨rfl, Nq444, hh444⟩ := hQ444
                    obtain ⟨lc444, Xh444, N444⟩ := own_hide X444 (Fr.app N414 Nq444)
                    clear X444
                    refine Go.hop st444 ?_
                    show Go p.tables e below P T444 (mkF m 295 #[.val (.int p1), .val (.int p2), .val (.int p3), .val (.int p4), .val (.int (3 : Int32)), .val (.ref aSYMBOL), .val (.int na), .val (.int v284_0), .val (.int nb), .val (.int v286_0), .val (.int ca), .val (.int cb), .val (.int cc), .val (.int cd), .val (.int ce), .val (.int cf), .val (.ref r_293), .val (.ref r_302), .val (.ref b312), .val (.int ev), .val (.int (1 : Int32))] [(.int (if (own_mk na ca cb cc) = (own_mk nb cd ce cf) then (1 : Int32) else (0 : Int32)))])
                    refine Go.via (fun t k => XS.iload Xh444.here hx rfl (hb hby at_295) rfl k) ?_
                    show Go p.tables e below P T444 (mkF m 297 #[.val (.int p1), .val (.int p2), .val (.int p3), .val (.int p4), .val (.int (3 : Int32)), .val (.ref aSYMBOL), .val (.int na), .val (.int v284_0), .val (.int nb), .val (.int v286_0), .val (.int ca), .val (.int cb), .val (.int cc), .val (.int cd), .val (.int ce), .val (.int cf), .val (.ref r_293), .val (.ref r_302), .val (.ref b312), .val (.int ev), .val (.int (1 : Int32))] [(.int (1 : Int32)), (.int (if (own_mk na ca cb cc) = (own_mk nb cd ce cf) then (1 : Int32) else (0 : Int32)))])
                    refine Go.via (fun t k => XS.icmpNo Xh444.here hx rfl (hb hby at_297) rfl (teq (if_pos (own_i1 (hev ▸ hc415)))).2 k) ?_
                    show Go p.tables e below P T444 (mkF m 300 #[.val (.int p1), .val (.int p2), .val (.int p3), .val (.int p4), .val (.int (3 : Int32)), .val (.ref aSYMBOL), .val (.int na), .val (.int v284_0), .val (.int nb), .val (.int v286_0), .val (.int ca), .val (.int cb), .val (.int cc), .val (.int cd), .val (.int ce), .val (.int cf), .val (.ref r_293), .val (.ref r_302), .val (.ref b312), .val (.int ev), .val (.int (1 : Int32))] [])
                    refine Go.via (fun t k => XS.iconst Xh444.here hx rfl (hb hby at_300) k) ?_
                    refine Go.via (fun t k => XS.goto Xh444.here hx rfl (pc0 := 301) (pc' := 305) rfl (hb hby at_301) (by decide) (by decide) k) ?_
                    show Go p.tables e below P T444 (mkF m 305 #[.val (.int p1), .val (.int p2), .val (.int p3), .val (.int p4), .val (.int (3 : Int32)), .val (.ref aSYMBOL), .val (.int na), .val (.int v284_0), .val (.int nb), .val (.int v286_0), .val (.int ca), .val (.int cb), .val (.int cc), .val (.int cd), .val (.int ce), .val (.int cf), .val (.ref r_293), .val (.ref r_302), .val (.ref b312), .val (.int ev), .val (.int (1 : Int32))] [(.int (1 : Int32))])
                    obtain ⟨fs, hr, hrun, hended, hend⟩ := Xh444.leaveW hS361 (by rw [hh444]; exact hk411) (v := some (.int (1 : Int32))) (fun h => by rw [Bd.returns] at h; cases h)
                    have hCf : CHr Z consts_1 s.vm s.heap (T444.setFrames fs).vm (T444.setFrames fs).heap := by
                      rw [hh]
                      show CHr Z consts_1 s.vm h0 T444.vm T444.heap
                      rw [hh444]
                      exact CHr.trans CR410 (CHv.at Xh444 hZ (own_EW hw) CR410.1)
                    refine ⟨_, _, retZ Xh444 hx (t := .boolean) Bd.returns (by simp) (hb hby at_305) rfl hr, hrun, hended, hP _ _ ⟨_, _, rfl, ?_, hCf, own_rew hend (by decide) (by decide)⟩⟩
                    show Q0 Z p1 p2 p3 p4 cs aNAME aPRIMED_NAME aNUMBER aSYMBOL aINVALID aEND h0 n0 _ T444.heap _
                    rw [hh444]
                    exact ⟨rfl, N444⟩
                by_cases hc413 : na = nb
                · refine Go.via (fun t k => XS.icmpNo Xh407.here hx rfl (hb hby at_211) rfl (teq hc413).2 k) ?_
                  show Go p.tables e below P T407 (mkF m 214 #[.val (.int p1), .val (.int p2), .val (.int p3), .val (.int p4), .val (.int (3 : Int32)), .val (.ref aSYMBOL), .val (.int na), .val (.int v284_0), .val (.int nb), .val (.int v286_0), .val (.int ca), .val (.int cb), .val (.int cc), .val (.int cd), .val (.int ce), .val (.int cf), .val (.ref r_293), .val (.ref r_302), .val (.ref b312), .unset, .unset] [])
                  refine Go.via (fun t k => XS.iload Xh407.here hx rfl (hb hby at_214) rfl k) ?_
                  refine Go.via (fun t k => XS.iconst Xh407.here hx rfl (hb hby at_216) k) ?_
                  show Go p.tables e below P T407 (mkF m 217 #[.val (.int p1), .val (.int p2), .val (.int p3), .val (.int p4), .val (.int (3 : Int32)), .val (.ref aSYMBOL), .val (.int na), .val (.int v284_0), .val (.int nb), .val (.int v286_0), .val (.int ca), .val (.int cb), .val (.int cc), .val (.int cd), .val (.int ce), .val (.int cf), .val (.ref r_293), .val (.ref r_302), .val (.ref b312), .unset, .unset] [(.int (1 : Int32)), (.int na)])
                  by_cases hc446 : na < (1 : Int32)
                  · refine Go.via (fun t k => XS.icmpYes Xh407.here hx rfl (pc0 := 217) (pc' := 227) rfl (hb hby at_217) rfl (tlt hc446).1 (by decide) (by decide) k) ?_
                    show Go p.tables e below P T407 (mkF m 227 #[.val (.int p1), .val (.int p2), .val (.int p3), .val (.int p4), .val (.int (3 : Int32)), .val (.ref aSYMBOL), .val (.int na), .val (.int v284_0), .val (.int nb), .val (.int v286_0), .val (.int ca), .val (.int cb), .val (.int cc), .val (.int cd), .val (.int ce), .val (.int cf), .val (.ref r_293), .val (.ref r_302), .val (.ref b312), .unset, .unset] [])
                    refine Go.via (fun t k => XS.iload Xh407.here hx rfl (hb hby at_227) rfl k) ?_
                    refine Go.via (fun t k => XS.iconst Xh407.here hx rfl (hb hby at_229) k) ?_
                    show Go p.tables e below P T407 (mkF m 230 #[.val (.int p1), .val (.int p2), .val (.int p3), .val (.int p4), .val (.int (3 : Int32)), .val (.ref aSYMBOL), .val (.int na), .val (.int v284_0), .val (.int nb), .val (.int v286_0), .val (.int ca), .val (.int cb), .val (.int cc), .val (.int cd), .val (.int ce), .val (.int cf), .val (.ref r_293), .val (.ref r_302), .val (.ref b312), .unset, .unset] [(.int (2 : Int32)), (.int na)])
                    by_cases hc447 : na < (2 : Int32)
                    · refine Go.via (fun t k => XS.icmpYes Xh407.here hx rfl (pc0 := 230) (pc' := 240) rfl (hb hby at_230) rfl (tlt hc447).1 (by decide) (by decide) k) ?_
                      show Go p.tables e below P T407 (mkF m 240 #[.val (.int p1), .val (.int p2), .val (.int p3), .val (.int p4), .val (.int (3 : Int32)), .val (.ref aSYMBOL), .val (.int na), .val (.int v284_0), .val (.int nb), .val (.int v286_0), .val (.int ca), .val (.int cb), .val (.int cc), .val (.int cd), .val (.int ce), .val (.int cf), .val (.ref r_293), .val (.ref r_302), .val (.ref b312), .unset, .unset] [])
                      refine Go.via (fun t k => XS.iload Xh407.here hx rfl (hb hby at_240) rfl k) ?_
                      refine Go.via (fun t k => XS.iconst Xh407.here hx rfl (hb hby at_242) k) ?_
                      show Go p.tables e below P T407 (mkF m 243 #[.val (.int p1), .val (.int p2), .val (.int p3), .val (.int p4), .val (.int (3 : Int32)), .val (.ref aSYMBOL), .val (.int na), .val (.int v284_0), .val (.int nb), .val (.int v286_0), .val (.int ca), .val (.int cb), .val (.int cc), .val (.int cd), .val (.int ce), .val (.int cf), .val (.ref r_293), .val (.ref r_302), .val (.ref b312), .unset, .unset] [(.int (3 : Int32)), (.int na)])
                      by_cases hc448 : na < (3 : Int32)
                      · refine Go.via (fun t k => XS.icmpYes Xh407.here hx rfl (pc0 := 243) (pc' := 253) rfl (hb hby at_243) rfl (tlt hc448).1 (by decide) (by decide) k) ?_
                        show Go p.tables e below P T407 (mkF m 253 #[.val (.int p1), .val (.int p2), .val (.int p3), .val (.int p4), .val (.int (3 : Int32)), .val (.ref aSYMBOL), .val (.int na), .val (.int v284_0), .val (.int nb), .val (.int v286_0), .val (.int ca), .val (.int cb), .val (.int cc), .val (.int cd), .val (.int ce), .val (.int cf), .val (.ref r_293), .val (.ref r_302), .val (.ref b312), .unset, .unset] [])
                        refine Go.via (fun t k => XS.iconst Xh407.here hx rfl (hb hby at_253) k) ?_
                        refine Go.via (fun t k => XS.goto Xh407.here hx rfl (pc0 := 254) (pc' := 258) rfl (hb hby at_254) (by decide) (by decide) k) ?_
                        exact LP414 T407 _ (1 : Int32) Xh407 rfl N407 (if_pos (own_mke yna hc413 (Or.inl hc446) (Or.inl hc447) (Or.inl hc448))).symm
                      · refine Go.via (fun t k => XS.icmpNo Xh407.here hx rfl (hb hby at_243) rfl (flt hc448).1 k) ?_
                        show Go p.tables e below P T407 (mkF m 246 #[.val (.int p1), .val (.int p2), .val (.int p3), .val (.int p4), .val (.int (3 : Int32)), .val (.ref aSYMBOL), .val (.int na), .val (.int v284_0), .val (.int nb), .val (.int v286_0), .val (.int ca), .val (.int cb), .val (.int cc), .val (.int cd), .val (.int ce), .val (.int cf), .val (.ref r_293), .val (.ref r_302), .val (.ref b312), .unset, .unset] [])
                        refine Go.via (fun t k => XS.iload Xh407.here hx rfl (hb hby at_246) rfl k) ?_
                        refine Go.via (fun t k => XS.iload Xh407.here hx rfl (hb hby at_248) rfl k) ?_
                        show Go p.tables e below P T407 (mkF m 250 #[.val (.int p1), .val (.int p2), .val (.int p3), .val (.int p4), .val (.int (3 : Int32)), .val (.ref aSYMBOL), .val (.int na), .val (.int v284_0), .val (.int nb), .val (.int v286_0), .val (.int ca), .val (.int cb), .val (.int cc), .val (.int cd), .val (.int ce), .val (.int cf), .val (.ref r_293), .val (.ref r_302), .val (.ref b312), .unset, .unset] [(.int cf), (.int cc)])
                        by_cases hc449 : cc = cf
                        · refine Go.via (fun t k => XS.icmpNo Xh407.here hx rfl (hb hby at_250) rfl (teq hc449).2 k) ?_
                          show Go p.tables e below P T407 (mkF m 253 #[.val (.int p1), .val (.int p2), .val (.int p3), .val (.int p4), .val (.int (3 : Int32)), .val (.ref aSYMBOL), .val (.int na), .val (.int v284_0), .val (.int nb), .val (.int v286_0), .val (.int ca), .val (.int cb), .val (.int cc), .val (.int cd), .val (.int ce), .val (.int cf), .val (.ref r_293), .val (.ref r_302), .val (.ref b312), .unset, .unset] [])
                          refine Go.via (fun t k => XS.iconst Xh407.here hx rfl (hb hby at_253) k) ?_
                          refine Go.via (fun t k => XS.goto Xh407.here hx rfl (pc0 := 254) (pc' := 258) rfl (hb hby at_254) (by decide) (by decide) k) ?_
                          exact LP414 T407 _ (1 : Int32) Xh407 rfl N407 (if_pos (own_mke yna hc413 (Or.inl hc446) (Or.inl hc447) (Or.inr hc449))).symm
                        · refine Go.via (fun t k => XS.icmpYes Xh407.here hx rfl (pc0 := 250) (pc' := 257) rfl (hb hby at_250) rfl (feq hc449).2 (by decide) (by decide) k) ?_
                          show Go p.tables e below P T407 (mkF m 257 #[.val (.int p1), .val (.int p2), .val (.int p3), .val (.int p4), .val (.int (3 : Int32)), .val (.ref aSYMBOL), .val (.int na), .val (.int v284_0), .val (.int nb), .val (.int v286_0), .val (.int ca), .val (.int cb), .val (.int cc), .val (.int cd), .val (.int ce), .val (.int cf), .val (.ref r_293), .val (.ref r_302), .val (.ref b312), .unset, .unset] [])
                          refine Go.via (fun t k => XS.iconst Xh407.here hx rfl (hb hby at_257) k) ?_
                          exact LP414 T407 _ (0 : Int32) Xh407 rfl N407 (if_neg (fun q => hc449 (own_Binj ycc ycf (own_mk2 yna hc413 hc448 q)))).symm
                    · refine Go.via (fun t k => XS.icmpNo Xh407.here hx rfl (hb hby at_230) rfl (flt hc447).1 k) ?_
                      show Go p.tables e below P T407 (mkF m 233 #[.val (.int p1), .val (.int p2), .val (.int p3), .val (.int p4), .val (.int (3 : Int32)), .val (.ref aSYMBOL), .val (.int na), .val (.int v284_0), .val (.int nb), .val (.int v286_0), .val (.int ca), .val (.int cb), .val (.int cc), .val (.int cd), .val (.int ce), .val (.int cf), .val (.ref r_293), .val (.ref r_302), .val (.ref b312), .unset, .unset] [])
                      refine Go.via (fun t k => XS.iload Xh407.here hx rfl (hb hby at_233) rfl k) ?_
                      refine Go.via (fun t k => XS.iload Xh407.here hx rfl (hb hby at_235) rfl k) ?_
                      show Go p.tables e below P T407 (mkF m 237 #[.val (.int p1), .val (.int p2), .val (.int p3), .val (.int p4), .val (.int (3 : Int32)), .val (.ref aSYMBOL), .val (.int na), .val (.int v284_0), .val (.int nb), .val (.int v286_0), .val (.int ca), .val (.int cb), .val (.int cc), .val (.int cd), .val (.int ce), .val (.int cf), .val (.ref r_293), .val (.ref r_302), .val (.ref b312), .unset, .unset] [(.int ce), (.int cb)])
                      by_cases hc450 : cb = ce
                      · refine Go.via (fun t k => XS.icmpNo Xh407.here hx rfl (hb hby at_237) rfl (teq hc450).2 k) ?_
                        show Go p.tables e below P T407 (mkF m 240 #[.val (.int p1), .val (.int p2), .val (.int p3), .val (.int p4), .val (.int (3 : Int32)), .val (.ref aSYMBOL), .val (.int na), .val (.int v284_0), .val (.int nb), .val (.int v286_0), .val (.int ca), .val (.int cb), .val (.int cc), .val (.int cd), .val (.int ce), .val (.int cf), .val (.ref r_293), .val (.ref r_302), .val (.ref b312), .unset, .unset] [])
                        refine Go.via (fun t k => XS.iload Xh407.here hx rfl (hb hby at_240) rfl k) ?_
                        refine Go.via (fun t k => XS.iconst Xh407.here hx rfl (hb hby at_242) k) ?_
                        show Go p.tables e below P T407 (mkF m 243 #[.val (.int p1), .val (.int p2), .val (.int p3), .val (.int p4), .val (.int (3 : Int32)), .val (.ref aSYMBOL), .val (.int na), .val (.int v284_0), .val (.int nb), .val (.int v286_0), .val (.int ca), .val (.int cb), .val (.int cc), .val (.int cd), .val (.int ce), .val (.int cf), .val (.ref r_293), .val (.ref r_302), .val (.ref b312), .unset, .unset] [(.int (3 : Int32)), (.int na)])
                        by_cases hc451 : na < (3 : Int32)
                        · refine Go.via (fun t k => XS.icmpYes Xh407.here hx rfl (pc0 := 243) (pc' := 253) rfl (hb hby at_243) rfl (tlt hc451).1 (by decide) (by decide) k) ?_
                          show Go p.tables e below P T407 (mkF m 253 #[.val (.int p1), .val (.int p2), .val (.int p3), .val (.int p4), .val (.int (3 : Int32)), .val (.ref aSYMBOL), .val (.int na), .val (.int v284_0), .val (.int nb), .val (.int v286_0), .val (.int ca), .val (.int cb), .val (.int cc), .val (.int cd), .val (.int ce), .val (.int cf), .val (.ref r_293), .val (.ref r_302), .val (.ref b312), .unset, .unset] [])
                          refine Go.via (fun t k => XS.iconst Xh407.here hx rfl (hb hby at_253) k) ?_
                          refine Go.via (fun t k => XS.goto Xh407.here hx rfl (pc0 := 254) (pc' := 258) rfl (hb hby at_254) (by decide) (by decide) k) ?_
                          exact LP414 T407 _ (1 : Int32) Xh407 rfl N407 (if_pos (own_mke yna hc413 (Or.inl hc446) (Or.inr hc450) (Or.inl hc451))).symm
                        · refine Go.via (fun t k => XS.icmpNo Xh407.here hx rfl (hb hby at_243) rfl (flt hc451).1 k) ?_
                          show Go p.tables e below P T407 (mkF m 246 #[.val (.int p1), .val (.int p2), .val (.int p3), .val (.int p4), .val (.int (3 : Int32)), .val (.ref aSYMBOL), .val (.int na), .val (.int v284_0), .val (.int nb), .val (.int v286_0), .val (.int ca), .val (.int cb), .val (.int cc), .val (.int cd), .val (.int ce), .val (.int cf), .val (.ref r_293), .val (.ref r_302), .val (.ref b312), .unset, .unset] [])
                          refine Go.via (fun t k => XS.iload Xh407.here hx rfl (hb hby at_246) rfl k) ?_
                          refine Go.via (fun t k => XS.iload Xh407.here hx rfl (hb hby at_248) rfl k) ?_
                          show Go p.tables e below P T407 (mkF m 250 #[.val (.int p1), .val (.int p2), .val (.int p3), .val (.int p4), .val (.int (3 : Int32)), .val (.ref aSYMBOL), .val (.int na), .val (.int v284_0), .val (.int nb), .val (.int v286_0), .val (.int ca), .val (.int cb), .val (.int cc), .val (.int cd), .val (.int ce), .val (.int cf), .val (.ref r_293), .val (.ref r_302), .val (.ref b312), .unset, .unset] [(.int cf), (.int cc)])
                          by_cases hc452 : cc = cf
                          · refine Go.via (fun t k => XS.icmpNo Xh407.here hx rfl (hb hby at_250) rfl (teq hc452).2 k) ?_
                            show Go p.tables e below P T407 (mkF m 253 #[.val (.int p1), .val (.int p2), .val (.int p3), .val (.int p4), .val (.int (3 : Int32)), .val (.ref aSYMBOL), .val (.int na), .val (.int v284_0), .val (.int nb), .val (.int v286_0), .val (.int ca), .val (.int cb), .val (.int cc), .val (.int cd), .val (.int ce), .val (.int cf), .val (.ref r_293), .val (.ref r_302), .val (.ref b312), .unset, .unset] [])
                            refine Go.via (fun t k => XS.iconst Xh407.here hx rfl (hb hby at_253) k) ?_
                            refine Go.via (fun t k => XS.goto Xh407.here hx rfl (pc0 := 254) (pc' := 258) rfl (hb hby at_254) (by decide) (by decide) k) ?_
                            exact LP414 T407 _ (1 : Int32) Xh407 rfl N407 (if_pos (own_mke yna hc413 (Or.inl hc446) (Or.inr hc450) (Or.inr hc452))).symm
                          · refine Go.via (fun t k => XS.icmpYes Xh407.here hx rfl (pc0 := 250) (pc' := 257) rfl (hb hby at_250) rfl (feq hc452).2 (by decide) (by decide) k) ?_
                            show Go p.tables e below P T407 (mkF m 257 #[.val (.int p1), .val (.int p2), .val (.int p3), .val (.int p4), .val (.int (3 : Int32)), .val (.ref aSYMBOL), .val (.int na), .val (.int v284_0), .val (.int nb), .val (.int v286_0), .val (.int ca), .val (.int cb), .val (.int cc), .val (.int cd), .val (.int ce), .val (.int cf), .val (.ref r_293), .val (.ref r_302), .val (.ref b312), .unset, .unset] [])
                            refine Go.via (fun t k => XS.iconst Xh407.here hx rfl (hb hby at_257) k) ?_
                            exact LP414 T407 _ (0 : Int32) Xh407 rfl N407 (if_neg (fun q => hc452 (own_Binj ycc ycf (own_mk2 yna hc413 hc451 q)))).symm
                      · refine Go.via (fun t k => XS.icmpYes Xh407.here hx rfl (pc0 := 237) (pc' := 257) rfl (hb hby at_237) rfl (feq hc450).2 (by decide) (by decide) k) ?_
                        show Go p.tables e below P T407 (mkF m 257 #[.val (.int p1), .val (.int p2), .val (.int p3), .val (.int p4), .val (.int (3 : Int32)), .val (.ref aSYMBOL), .val (.int na), .val (.int v284_0), .val (.int nb), .val (.int v286_0), .val (.int ca), .val (.int cb), .val (.int cc), .val (.int cd), .val (.int ce), .val (.int cf), .val (.ref r_293), .val (.ref r_302), .val (.ref b312), .unset, .unset] [])
                        refine Go.via (fun t k => XS.iconst Xh407.here hx rfl (hb hby at_257) k) ?_
                        exact LP414 T407 _ (0 : Int32) Xh407 rfl N407 (if_neg (fun q => hc450 (own_Binj ycb yce (own_mk1 yna hc413 hc447 q)))).symm
                  · refine Go.via (fun t k => XS.icmpNo Xh407.here hx rfl (hb hby at_217) rfl (flt hc446).1 k) ?_
                    show Go p.tables e below P T407 (mkF m 220 #[.val (.int p1), .val (.int p2), .val (.int p3), .val (.int p4), .val (.int (3 : Int32)), .val (.ref aSYMBOL), .val (.int na), .val (.int v284_0), .val (.int nb), .val (.int v286_0), .val (.int ca), .val (.int cb), .val (.int cc), .val (.int cd), .val (.int ce), .val (.int cf), .val (.ref r_293), .val (.ref r_302), .val (.ref b312), .unset, .unset] [])
                    refine Go.via (fun t k => XS.iload Xh407.here hx rfl (hb hby at_220) rfl k) ?_
                    refine Go.via (fun t k => XS.iload Xh407.here hx rfl (hb hby at_222) rfl k) ?_
                    show Go p.tables e below P T407 (mkF m 224 #[.val (.int p1), .val (.int p2), .val (.int p3), .val (.int p4), .val (.int (3 : Int32)), .val (.ref aSYMBOL), .val (.int na), .val (.int v284_0), .val (.int nb), .val (.int v286_0), .val (.int ca), .val (.int cb), .val (.int cc), .val (.int cd), .val (.int ce), .val (.int cf), .val (.ref r_293), .val (.ref r_302), .val (.ref b312), .unset, .unset] [(.int cd), (.int ca)])
                    by_cases hc453 : ca = cd
                    · refine Go.via (fun t k => XS.icmpNo Xh407.here hx rfl (hb hby at_224) rfl (teq hc453).2 k) ?_
                      show Go p.tables e below P T407 (mkF m 227 #[.val (.int p1), .val (.int p2), .val (.int p3), .val (.int p4), .val (.int (3 : Int32)), .val (.ref aSYMBOL), .val (.int na), .val (.int v284_0), .val (.int nb), .val (.int v286_0), .val (.int ca), .val (.int cb), .val (.int cc), .val (.int cd), .val (.int ce), .val (.int cf), .val (.ref r_293), .val (.ref r_302), .val (.ref b312), .unset, .unset] [])
                      refine Go.via (fun t k => XS.iload Xh407.here hx rfl (hb hby at_227) rfl k) ?_
                      refine Go.via (fun t k => XS.iconst Xh407.here hx rfl (hb hby at_229) k) ?_
                      show Go p.tables e below P T407 (mkF m 230 #[.val (.int p1), .val (.int p2), .val (.int p3), .val (.int p4), .val (.int (3 : Int32)), .val (.ref aSYMBOL), .val (.int na), .val (.int v284_0), .val (.int nb), .val (.int v286_0), .val (.int ca), .val (.int cb), .val (.int cc), .val (.int cd), .val (.int ce), .val (.int cf), .val (.ref r_293), .val (.ref r_302), .val (.ref b312), .unset, .unset] [(.int (2 : Int32)), (.int na)])
                      by_cases hc454 : na < (2 : Int32)
                      · refine Go.via (fun t k => XS.icmpYes Xh407.here hx rfl (pc0 := 230) (pc' := 240) rfl (hb hby at_230) rfl (tlt hc454).1 (by decide) (by decide) k) ?_
                        show Go p.tables e below P T407 (mkF m 240 #[.val (.int p1), .val (.int p2), .val (.int p3), .val (.int p4), .val (.int (3 : Int32)), .val (.ref aSYMBOL), .val (.int na), .val (.int v284_0), .val (.int nb), .val (.int v286_0), .val (.int ca), .val (.int cb), .val (.int cc), .val (.int cd), .val (.int ce), .val (.int cf), .val (.ref r_293), .val (.ref r_302), .val (.ref b312), .unset, .unset] [])
                        refine Go.via (fun t k => XS.iload Xh407.here hx rfl (hb hby at_240) rfl k) ?_
                        refine Go.via (fun t k => XS.iconst Xh407.here hx rfl (hb hby at_242) k) ?_
                        show Go p.tables e below P T407 (mkF m 243 #[.val (.int p1), .val (.int p2), .val (.int p3), .val (.int p4), .val (.int (3 : Int32)), .val (.ref aSYMBOL), .val (.int na), .val (.int v284_0), .val (.int nb), .val (.int v286_0), .val (.int ca), .val (.int cb), .val (.int cc), .val (.int cd), .val (.int ce), .val (.int cf), .val (.ref r_293), .val (.ref r_302), .val (.ref b312), .unset, .unset] [(.int (3 : Int32)), (.int na)])
                        by_cases hc455 : na < (3 : Int32)
                        · refine Go.via (fun t k => XS.icmpYes Xh407.here hx rfl (pc0 := 243) (pc' := 253) rfl (hb hby at_243) rfl (tlt hc455).1 (by decide) (by decide) k) ?_
                          show Go p.tables e below P T407 (mkF m 253 #[.val (.int p1), .val (.int p2), .val (.int p3), .val (.int p4), .val (.int (3 : Int32)), .val (.ref aSYMBOL), .val (.int na), .val (.int v284_0), .val (.int nb), .val (.int v286_0), .val (.int ca), .val (.int cb), .val (.int cc), .val (.int cd), .val (.int ce), .val (.int cf), .val (.ref r_293), .val (.ref r_302), .val (.ref b312), .unset, .unset] [])
                          refine Go.via (fun t k => XS.iconst Xh407.here hx rfl (hb hby at_253) k) ?_
                          refine Go.via (fun t k => XS.goto Xh407.here hx rfl (pc0 := 254) (pc' := 258) rfl (hb hby at_254) (by decide) (by decide) k) ?_
                          exact LP414 T407 _ (1 : Int32) Xh407 rfl N407 (if_pos (own_mke yna hc413 (Or.inr hc453) (Or.inl hc454) (Or.inl hc455))).symm
                        · refine Go.via (fun t k => XS.icmpNo Xh407.here hx rfl (hb hby at_243) rfl (flt hc455).1 k) ?_
                          show Go p.tables e below P T407 (mkF m 246 #[.val (.int p1), .val (.int p2), .val (.int p3), .val (.int p4), .val (.int (3 : Int32)), .val (.ref aSYMBOL), .val (.int na), .val (.int v284_0), .val (.int nb), .val (.int v286_0), .val (.int ca), .val (.int cb), .val (.int cc), .val (.int cd), .val (.int ce), .val (.int cf), .val (.ref r_293), .val (.ref r_302), .val (.ref b312), .unset, .unset] [])
                          refine Go.via (fun t k => XS.iload Xh407.here hx rfl (hb hby at_246) rfl k) ?_
                          refine Go.via (fun t k => XS.iload Xh407.here hx rfl (hb hby at_248) rfl k) ?_
                          show Go p.tables e below P T407 (mkF m 250 #[.val (.int p1), .val (.int p2), .val (.int p3), .val (.int p4), .val (.int (3 : Int32)), .val (.ref aSYMBOL), .val (.int na), .val (.int v284_0), .val (.int nb), .val (.int v286_0), .val (.int ca), .val (.int cb), .val (.int cc), .val (.int cd), .val (.int ce), .val (.int cf), .val (.ref r_293), .val (.ref r_302), .val (.ref b312), .unset, .unset] [(.int cf), (.int cc)])
                          by_cases hc456 : cc = cf
                          · refine Go.via (fun t k => XS.icmpNo Xh407.here hx rfl (hb hby at_250) rfl (teq hc456).2 k) ?_
                            show Go p.tables e below P T407 (mkF m 253 #[.val (.int p1), .val (.int p2), .val (.int p3), .val (.int p4), .val (.int (3 : Int32)), .val (.ref aSYMBOL), .val (.int na), .val (.int v284_0), .val (.int nb), .val (.int v286_0), .val (.int ca), .val (.int cb), .val (.int cc), .val (.int cd), .val (.int ce), .val (.int cf), .val (.ref r_293), .val (.ref r_302), .val (.ref b312), .unset, .unset] [])
                            refine Go.via (fun t k => XS.iconst Xh407.here hx rfl (hb hby at_253) k) ?_
                            refine Go.via (fun t k => XS.goto Xh407.here hx rfl (pc0 := 254) (pc' := 258) rfl (hb hby at_254) (by decide) (by decide) k) ?_
                            exact LP414 T407 _ (1 : Int32) Xh407 rfl N407 (if_pos (own_mke yna hc413 (Or.inr hc453) (Or.inl hc454) (Or.inr hc456))).symm
                          · refine Go.via (fun t k => XS.icmpYes Xh407.here hx rfl (pc0 := 250) (pc' := 257) rfl (hb hby at_250) rfl (feq hc456).2 (by decide) (by decide) k) ?_
                            show Go p.tables e below P T407 (mkF m 257 #[.val (.int p1), .val (.int p2), .val (.int p3), .val (.int p4), .val (.int (3 : Int32)), .val (.ref aSYMBOL), .val (.int na), .val (.int v284_0), .val (.int nb), .val (.int v286_0), .val (.int ca), .val (.int cb), .val (.int cc), .val (.int cd), .val (.int ce), .val (.int cf), .val (.ref r_293), .val (.ref r_302), .val (.ref b312), .unset, .unset] [])
                            refine Go.via (fun t k => XS.iconst Xh407.here hx rfl (hb hby at_257) k) ?_
                            exact LP414 T407 _ (0 : Int32) Xh407 rfl N407 (if_neg (fun q => hc456 (own_Binj ycc ycf (own_mk2 yna hc413 hc455 q)))).symm
                      · refine Go.via (fun t k => XS.icmpNo Xh407.here hx rfl (hb hby at_230) rfl (flt hc454).1 k) ?_
                        show Go p.tables e below P T407 (mkF m 233 #[.val (.int p1), .val (.int p2), .val (.int p3), .val (.int p4), .val (.int (3 : Int32)), .val (.ref aSYMBOL), .val (.int na), .val (.int v284_0), .val (.int nb), .val (.int v286_0), .val (.int ca), .val (.int cb), .val (.int cc), .val (.int cd), .val (.int ce), .val (.int cf), .val (.ref r_293), .val (.ref r_302), .val (.ref b312), .unset, .unset] [])
                        refine Go.via (fun t k => XS.iload Xh407.here hx rfl (hb hby at_233) rfl k) ?_
                        refine Go.via (fun t k => XS.iload Xh407.here hx rfl (hb hby at_235) rfl k) ?_
                        show Go p.tables e below P T407 (mkF m 237 #[.val (.int p1), .val (.int p2), .val (.int p3), .val (.int p4), .val (.int (3 : Int32)), .val (.ref aSYMBOL), .val (.int na), .val (.int v284_0), .val (.int nb), .val (.int v286_0), .val (.int ca), .val (.int cb), .val (.int cc), .val (.int cd), .val (.int ce), .val (.int cf), .val (.ref r_293), .val (.ref r_302), .val (.ref b312), .unset, .unset] [(.int ce), (.int cb)])
                        by_cases hc457 : cb = ce
                        · refine Go.via (fun t k => XS.icmpNo Xh407.here hx rfl (hb hby at_237) rfl (teq hc457).2 k) ?_
                          show Go p.tables e below P T407 (mkF m 240 #[.val (.int p1), .val (.int p2), .val (.int p3), .val (.int p4), .val (.int (3 : Int32)), .val (.ref aSYMBOL), .val (.int na), .val (.int v284_0), .val (.int nb), .val (.int v286_0), .val (.int ca), .val (.int cb), .val (.int cc), .val (.int cd), .val (.int ce), .val (.int cf), .val (.ref r_293), .val (.ref r_302), .val (.ref b312), .unset, .unset] [])
                          refine Go.via (fun t k => XS.iload Xh407.here hx rfl (hb hby at_240) rfl k) ?_
                          refine Go.via (fun t k => XS.iconst Xh407.here hx rfl (hb hby at_242) k) ?_
                          show Go p.tables e below P T407 (mkF m 243 #[.val (.int p1), .val (.int p2), .val (.int p3), .val (.int p4), .val (.int (3 : Int32)), .val (.ref aSYMBOL), .val (.int na), .val (.int v284_0), .val (.int nb), .val (.int v286_0), .val (.int ca), .val (.int cb), .val (.int cc), .val (.int cd), .val (.int ce), .val (.int cf), .val (.ref r_293), .val (.ref r_302), .val (.ref b312), .unset, .unset] [(.int (3 : Int32)), (.int na)])
                          by_cases hc458 : na < (3 : Int32)
                          · refine Go.via (fun t k => XS.icmpYes Xh407.here hx rfl (pc0 := 243) (pc' := 253) rfl (hb hby at_243) rfl (tlt hc458).1 (by decide) (by decide) k) ?_
                            show Go p.tables e below P T407 (mkF m 253 #[.val (.int p1), .val (.int p2), .val (.int p3), .val (.int p4), .val (.int (3 : Int32)), .val (.ref aSYMBOL), .val (.int na), .val (.int v284_0), .val (.int nb), .val (.int v286_0), .val (.int ca), .val (.int cb), .val (.int cc), .val (.int cd), .val (.int ce), .val (.int cf), .val (.ref r_293), .val (.ref r_302), .val (.ref b312), .unset, .unset] [])
                            refine Go.via (fun t k => XS.iconst Xh407.here hx rfl (hb hby at_253) k) ?_
                            refine Go.via (fun t k => XS.goto Xh407.here hx rfl (pc0 := 254) (pc' := 258) rfl (hb hby at_254) (by decide) (by decide) k) ?_
                            exact LP414 T407 _ (1 : Int32) Xh407 rfl N407 (if_pos (own_mke yna hc413 (Or.inr hc453) (Or.inr hc457) (Or.inl hc458))).symm
                          · refine Go.via (fun t k => XS.icmpNo Xh407.here hx rfl (hb hby at_243) rfl (flt hc458).1 k) ?_
                            show Go p.tables e below P T407 (mkF m 246 #[.val (.int p1), .val (.int p2), .val (.int p3), .val (.int p4), .val (.int (3 : Int32)), .val (.ref aSYMBOL), .val (.int na), .val (.int v284_0), .val (.int nb), .val (.int v286_0), .val (.int ca), .val (.int cb), .val (.int cc), .val (.int cd), .val (.int ce), .val (.int cf), .val (.ref r_293), .val (.ref r_302), .val (.ref b312), .unset, .unset] [])
                            refine Go.via (fun t k => XS.iload Xh407.here hx rfl (hb hby at_246) rfl k) ?_
                            refine Go.via (fun t k => XS.iload Xh407.here hx rfl (hb hby at_248) rfl k) ?_
                            show Go p.tables e below P T407 (mkF m 250 #[.val (.int p1), .val (.int p2), .val (.int p3), .val (.int p4), .val (.int (3 : Int32)), .val (.ref aSYMBOL), .val (.int na), .val (.int v284_0), .val (.int nb), .val (.int v286_0), .val (.int ca), .val (.int cb), .val (.int cc), .val (.int cd), .val (.int ce), .val (.int cf), .val (.ref r_293), .val (.ref r_302), .val (.ref b312), .unset, .unset] [(.int cf), (.int cc)])
                            by_cases hc459 : cc = cf
                            · refine Go.via (fun t k => XS.icmpNo Xh407.here hx rfl (hb hby at_250) rfl (teq hc459).2 k) ?_
                              show Go p.tables e below P T407 (mkF m 253 #[.val (.int p1), .val (.int p2), .val (.int p3), .val (.int p4), .val (.int (3 : Int32)), .val (.ref aSYMBOL), .val (.int na), .val (.int v284_0), .val (.int nb), .val (.int v286_0), .val (.int ca), .val (.int cb), .val (.int cc), .val (.int cd), .val (.int ce), .val (.int cf), .val (.ref r_293), .val (.ref r_302), .val (.ref b312), .unset, .unset] [])
                              refine Go.via (fun t k => XS.iconst Xh407.here hx rfl (hb hby at_253) k) ?_
                              refine Go.via (fun t k => XS.goto Xh407.here hx rfl (pc0 := 254) (pc' := 258) rfl (hb hby at_254) (by decide) (by decide) k) ?_
                              exact LP414 T407 _ (1 : Int32) Xh407 rfl N407 (if_pos (own_mke yna hc413 (Or.inr hc453) (Or.inr hc457) (Or.inr hc459))).symm
                            · refine Go.via (fun t k => XS.icmpYes Xh407.here hx rfl (pc0 := 250) (pc' := 257) rfl (hb hby at_250) rfl (feq hc459).2 (by decide) (by decide) k) ?_
                              show Go p.tables e below P T407 (mkF m 257 #[.val (.int p1), .val (.int p2), .val (.int p3), .val (.int p4), .val (.int (3 : Int32)), .val (.ref aSYMBOL), .val (.int na), .val (.int v284_0), .val (.int nb), .val (.int v286_0), .val (.int ca), .val (.int cb), .val (.int cc), .val (.int cd), .val (.int ce), .val (.int cf), .val (.ref r_293), .val (.ref r_302), .val (.ref b312), .unset, .unset] [])
                              refine Go.via (fun t k => XS.iconst Xh407.here hx rfl (hb hby at_257) k) ?_
                              exact LP414 T407 _ (0 : Int32) Xh407 rfl N407 (if_neg (fun q => hc459 (own_Binj ycc ycf (own_mk2 yna hc413 hc458 q)))).symm
                        · refine Go.via (fun t k => XS.icmpYes Xh407.here hx rfl (pc0 := 237) (pc' := 257) rfl (hb hby at_237) rfl (feq hc457).2 (by decide) (by decide) k) ?_
                          show Go p.tables e below P T407 (mkF m 257 #[.val (.int p1), .val (.int p2), .val (.int p3), .val (.int p4), .val (.int (3 : Int32)), .val (.ref aSYMBOL), .val (.int na), .val (.int v284_0), .val (.int nb), .val (.int v286_0), .val (.int ca), .val (.int cb), .val (.int cc), .val (.int cd), .val (.int ce), .val (.int cf), .val (.ref r_293), .val (.ref r_302), .val (.ref b312), .unset, .unset] [])
                          refine Go.via (fun t k => XS.iconst Xh407.here hx rfl (hb hby at_257) k) ?_
                          exact LP414 T407 _ (0 : Int32) Xh407 rfl N407 (if_neg (fun q => hc457 (own_Binj ycb yce (own_mk1 yna hc413 hc454 q)))).symm
                    · refine Go.via (fun t k => XS.icmpYes Xh407.here hx rfl (pc0 := 224) (pc' := 257) rfl (hb hby at_224) rfl (feq hc453).2 (by decide) (by decide) k) ?_
                      show Go p.tables e below P T407 (mkF m 257 #[.val (.int p1), .val (.int p2), .val (.int p3), .val (.int p4), .val (.int (3 : Int32)), .val (.ref aSYMBOL), .val (.int na), .val (.int v284_0), .val (.int nb), .val (.int v286_0), .val (.int ca), .val (.int cb), .val (.int cc), .val (.int cd), .val (.int ce), .val (.int cf), .val (.ref r_293), .val (.ref r_302), .val (.ref b312), .unset, .unset] [])
                      refine Go.via (fun t k => XS.iconst Xh407.here hx rfl (hb hby at_257) k) ?_
                      exact LP414 T407 _ (0 : Int32) Xh407 rfl N407 (if_neg (fun q => hc453 (own_Binj yca ycd (own_mk0 yna hc413 hc446 q)))).symm
                · refine Go.via (fun t k => XS.icmpYes Xh407.here hx rfl (pc0 := 211) (pc' := 257) rfl (hb hby at_211) rfl (feq hc413).2 (by decide) (by decide) k) ?_
                  show Go p.tables e below P T407 (mkF m 257 #[.val (.int p1), .val (.int p2), .val (.int p3), .val (.int p4), .val (.int (3 : Int32)), .val (.ref aSYMBOL), .val (.int na), .val (.int v284_0), .val (.int nb), .val (.int v286_0), .val (.int ca), .val (.int cb), .val (.int cc), .val (.int cd), .val (.int ce), .val (.int cf), .val (.ref r_293), .val (.ref r_302), .val (.ref b312), .unset, .unset] [])
                  refine Go.via (fun t k => XS.iconst Xh407.here hx rfl (hb hby at_257) k) ?_
                  exact LP414 T407 _ (0 : Int32) Xh407 rfl N407 (if_neg (fun q => hc413 (own_mkn yna ynb q))).symm
              · refine Go.via (fun t k => XS.ifNo Xh293.here hx rfl (hb hby at_164) rfl ((if0 _ _).trans (feq hc301).1) k) ?_
                show Go p.tables e below P T293 (mkF m 167 #[.val (.int p1), .val (.int p2), .val (.int p3), .val (.int p4), .val (.int (3 : Int32)), .val (.ref aSYMBOL), .val (.int na), .val (.int v284_0), .val (.int nb), .val (.int v286_0), .val (.int ca), .val (.int cb), .val (.int cc), .val (.int cd), .val (.int ce), .val (.int cf), .val (.ref r_293), .unset, .unset, .unset, .unset] [])
                refine Go.via (fun t k => XS.aconstNull Xh293.here hx rfl (hb hby at_167) k) ?_
                show Go p.tables e below P T293 (mkF m 168 #[.val (.int p1), .val (.int p2), .val (.int p3), .val (.int p4), .val (.int (3 : Int32)), .val (.ref aSYMBOL), .val (.int na), .val (.int v284_0), .val (.int nb), .val (.int v286_0), .val (.int ca), .val (.int cb), .val (.int cc), .val (.int cd), .val (.int ce), .val (.int cf), .val (.ref r_293), .unset, .unset, .unset, .unset] [.null])
                refine Go.via (fun t k => XS.goto Xh293.here hx rfl (pc0 := 168) (pc' := 182) rfl (hb hby at_168) (by decide) (by decide) k) ?_
                refine Go.via (fun t k => XS.astore Xh293.here hx rfl (hb hby at_182) rfl rfl (l' := #[.val (.int p1), .val (.int p2), .val (.int p3), .val (.int p4), .val (.int (3 : Int32)), .val (.ref aSYMBOL), .val (.int na), .val (.int v284_0), .val (.int nb), .val (.int v286_0), .val (.int ca), .val (.int cb), .val (.int cc), .val (.int cd), .val (.int ce), .val (.int cf), .val (.ref r_293), .val .null, .unset, .unset, .unset]) rfl k) ?_
                show Go p.tables e below P T293 (mkF m 184 #[.val (.int p1), .val (.int p2), .val (.int p3), .val (.int p4), .val (.int (3 : Int32)), .val (.ref aSYMBOL), .val (.int na), .val (.int v284_0), .val (.int nb), .val (.int v286_0), .val (.int ca), .val (.int cb), .val (.int cc), .val (.int cd), .val (.int ce), .val (.int cf), .val (.ref r_293), .val .null, .unset, .unset, .unset] [])
                obtain ⟨T460, h460, X460, e460, E460, A460, D460, -, st460⟩ := newO Xh293 hx hZ hown (hw _ (List.mem_of_getElem? (i := 44) rfl)) (hw _ (List.mem_of_getElem? (i := 45) rfl)) (hw _ (List.mem_of_getElem? (i := 46) rfl)) rfl (g := (mkF m 184 #[.val (.int p1), .val (.int p2), .val (.int p3), .val (.int p4), .val (.int (3 : Int32)), .val (.ref aSYMBOL), .val (.int na), .val (.int v284_0), .val (.int nb), .val (.int v286_0), .val (.int ca), .val (.int cb), .val (.int cc), .val (.int cd), .val (.int ce), .val (.int cf), .val (.ref r_293), .val .null, .unset, .unset, .unset] [])) rfl (hb hby at_184) (by decide) (by decide)
                obtain ⟨b460, g460⟩ : ∃ z, z = T293.heap.size := ⟨_, rfl⟩
                rw [← g460] at A460 D460 st460
                refine Go.via st460 ?_
                have ne461 : r_293 ≠ b460 := Nat.ne_of_lt (Nat.lt_of_lt_of_le u293_0.lt (Nat.le_of_eq g460.symm))
                have ne462 : tb_293 ≠ b460 := Nat.ne_of_lt (Nat.lt_of_lt_of_le u293_3.lt (Nat.le_of_eq g460.symm))
                have g463 : n0 ≤ b460 := Nat.le_trans Z297 (Nat.le_of_eq g460.symm)
                have sz464 : h0.size ≤ b460 := Nat.le_trans K298.1 (Nat.le_of_eq g460.symm)
                have Z465 : n0 ≤ h460.size := Nat.le_trans Z297 E460.1
                have K466 : Keep h0 h460 [] := K298.ext E460
                have O467 : Old Z n0 h460 := O299.ext E460
                have CR468 := CHr.trans CR294 (CHr.ext E460 CR294.1)
                have hk469 := Nat.le_trans hk300 E460.1
                show Go p.tables e below P T460 (mkF m 187 #[.val (.int p1), .val (.int p2), .val (.int p3), .val (.int p4), .val (.int (3 : Int32)), .val (.ref aSYMBOL), .val (.int na), .val (.int v284_0), .val (.int nb), .val (.int v286_0), .val (.int ca), .val (.int cb), .val (.int cc), .val (.int cd), .val (.int ce), .val (.int cf), .val (.ref r_293), .val .null, .unset, .unset, .unset] [(.ref b460)])
                refine Go.via (fun t k => XS.dup X460.here hx rfl (hb hby at_187) rfl rfl k) ?_
                refine Go.via (fun t k => XS.aload X460.here hx rfl (hb hby at_188) rfl rfl k) ?_
                refine Go.via (fun t k => XS.aload X460.here hx rfl (hb hby at_190) rfl rfl k) ?_
                show Go p.tables e below P T460 (mkF m 192 #[.val (.int p1), .val (.int p2), .val (.int p3), .val (.int p4), .val (.int (3 : Int32)), .val (.ref aSYMBOL), .val (.int na), .val (.int v284_0), .val (.int nb), .val (.int v286_0), .val (.int ca), .val (.int cb), .val (.int cc), .val (.int cd), .val (.int ce), .val (.int cf), .val (.ref r_293), .val .null, .unset, .unset, .unset] [(.ref r_293), (.ref aSYMBOL), (.ref b460), (.ref b460)])
                have F471 : Exa Z h460 r_293 "java/lang/String" := (u293_0.ext E460)
                have F472 : Fld Z h460 r_293 "java/lang/String" "value" "[B" (.ref tb_293) := (u293_1.ext E460)
                have F473 : Fld Z h460 r_293 "java/lang/String" "coder" "B" (.int (0 : Int32)) := (u293_2.ext E460)
                have F474 : Arv Z h460 tb_293 kk_293 .byte (own_lg (own_mk na ca cb cc)) ((own_mk na ca cb cc).map Value.int) (.int (0 : Int32)) := (u293_3.ext E460)
                obtain ⟨T470, h470, X470, e470, E470, A470, D470, -, st470⟩ := newO X460 hx hZ hown (hw _ (List.mem_of_getElem? (i := 47) rfl)) (hw _ (List.mem_of_getElem? (i := 48) rfl)) (hw _ (List.mem_of_getElem? (i := 49) rfl)) e460 (g := (mkF m 192 #[.val (.int p1), .val (.int p2), .val (.int p3), .val (.int p4), .val (.int (3 : Int32)), .val (.ref aSYMBOL), .val (.int na), .val (.int v284_0), .val (.int nb), .val (.int v286_0), .val (.int ca), .val (.int cb), .val (.int cc), .val (.int cd), .val (.int ce), .val (.int cf), .val (.ref r_293), .val .null, .unset, .unset, .unset] [(.ref r_293), (.ref aSYMBOL), (.ref b460), (.ref b460)])) rfl (hb hby at_192) (by decide) (by decide)
                obtain ⟨b470, g470⟩ : ∃ z, z = h460.size := ⟨_, rfl⟩
                rw [← g470] at A470 D470 st470
                refine Go.via st470 ?_
                have ne475 : r_293 ≠ b470 := Nat.ne_of_lt (Nat.lt_of_lt_of_le F471.lt (Nat.le_of_eq g470.symm))
                have ne476 : tb_293 ≠ b470 := Nat.ne_of_lt (Nat.lt_of_lt_of_le F474.lt (Nat.le_of_eq g470.symm))
                have ne477 : b460 ≠ b470 := Nat.ne_of_lt (Nat.lt_of_lt_of_le A460.lt (Nat.le_of_eq g470.symm))
                have g478 : n0 ≤ b470 := Nat.le_trans Z465 (Nat.le_of_eq g470.symm)
                have sz479 : h0.size ≤ b470 := Nat.le_trans K466.1 (Nat.le_of_eq g470.symm)
                have Z480 : n0 ≤ h470.size := Nat.le_trans Z465 E470.1
                have K481 : Keep h0 h470 [] := K466.ext E470
                have O482 : Old Z n0 h470 := O467.ext E470
                have CR483 := CHr.trans CR468 (CHr.ext E470 CR468.1)
                have hk484 := Nat.le_trans hk469 E470.1
                show Go p.tables e below P T470 (mkF m 195 #[.val (.int p1), .val (.int p2), .val (.int p3), .val (.int p4), .val (.int (3 : Int32)), .val (.ref aSYMBOL), .val (.int na), .val (.int v284_0), .val (.int nb), .val (.int v286_0), .val (.int ca), .val (.int cb), .val (.int cc), .val (.int cd), .val (.int ce), .val (.int cf), .val (.ref r_293), .val .null, .unset, .unset, .unset] [(.ref b470), (.ref r_293), (.ref aSYMBOL), (.ref b460), (.ref b460)])
                refine Go.via (fun t k => XS.dup X470.here hx rfl (hb hby at_195) rfl rfl k) ?_
                show Go p.tables e below P T470 (mkF m 196 #[.val (.int p1), .val (.int p2), .val (.int p3), .val (.int p4), .val (.int (3 : Int32)), .val (.ref aSYMBOL), .val (.int na), .val (.int v284_0), .val (.int nb), .val (.int v286_0), .val (.int ca), .val (.int cb), .val (.int cc), .val (.int cd), .val (.int ce), .val (.int cf), .val (.ref r_293), .val .null, .unset, .unset, .unset] [(.ref b470), (.ref b470), (.ref r_293), (.ref aSYMBOL), (.ref b460), (.ref b460)])
                have F485 : Exa Z h470 r_293 "java/lang/String" := (F471.ext E470)
                have F486 : Fld Z h470 r_293 "java/lang/String" "value" "[B" (.ref tb_293) := (F472.ext E470)
                have F487 : Fld Z h470 r_293 "java/lang/String" "coder" "B" (.int (0 : Int32)) := (F473.ext E470)
                have F488 : Arv Z h470 tb_293 kk_293 .byte (own_lg (own_mk na ca cb cc)) ((own_mk na ca cb cc).map Value.int) (.int (0 : Int32)) := (F474.ext E470)
                have F489 : Exa Z h470 b460 "com/example/numeric_planner/numericplanner/rddl/Token" := (A460.ext E470)
                have F490 : Fld Z h470 b460 "com/example/numeric_planner/numericplanner/rddl/Token" "kind" "Lcom/example/numeric_planner/numericplanner/rddl/Token$Kind;" .null := ((D460 (Or.inr (hw _ (List.mem_of_getElem? (i := 69) rfl))) (ty := (.object "com/example/numeric_planner/numericplanner/rddl/Token$Kind")) (by decide) : Fld Z h460 b460 "com/example/numeric_planner/numericplanner/rddl/Token" "kind" "Lcom/example/numeric_planner/numericplanner/rddl/Token$Kind;" .null).ext E470)
                have F491 : Fld Z h470 b460 "com/example/numeric_planner/numericplanner/rddl/Token" "text" "Ljava/lang/String;" .null := ((D460 (Or.inr (hw _ (List.mem_of_getElem? (i := 71) rfl))) (ty := (.object "java/lang/String")) (by decide) : Fld Z h460 b460 "com/example/numeric_planner/numericplanner/rddl/Token" "text" "Ljava/lang/String;" .null).ext E470)
                have F492 : Fld Z h470 b460 "com/example/numeric_planner/numericplanner/rddl/Token" "location" "Lcom/example/numeric_planner/numericplanner/rddl/Location;" .null := ((D460 (Or.inr (hw _ (List.mem_of_getElem? (i := 73) rfl))) (ty := (.object "com/example/numeric_planner/numericplanner/rddl/Location")) (by decide) : Fld Z h460 b460 "com/example/numeric_planner/numericplanner/rddl/Token" "location" "Lcom/example/numeric_planner/numericplanner/rddl/Location;" .null).ext E470)
                obtain ⟨a493, T493, h493, kn493, b493, kb493, X493, e493, E493, hS493, hk493, hZ, hown, Ex493, Fc493, Fv493, Va493, lta493, ltb493, hC493, -, ne493, st493⟩ := ldcCH X470 hx hZ hown (hw _ (List.mem_of_getElem? (i := 50) rfl)) (own_sa hw) e470 hS293 hk484 (own_EW hw) (by decide : (("com/example/numeric_planner/numericplanner/rddl/TokenIsPinLaw", 22) : String × Nat) ∈ consts_1) CR483.1 (vs := [(.int (102 : Int32))]) (z := (1 : Int32)) ⟨by decide, rfl⟩ (by decide) rfl (g := (mkF m 196 #[.val (.int p1), .val (.int p2), .val (.int p3), .val (.int p4), .val (.int (3 : Int32)), .val (.ref aSYMBOL), .val (.int na), .val (.int v284_0), .val (.int nb), .val (.int v286_0), .val (.int ca), .val (.int cb), .val (.int cc), .val (.int cd), .val (.int ce), .val (.int cf), .val (.ref r_293), .val .null, .unset, .unset, .unset] [(.ref b470), (.ref b470), (.ref r_293), (.ref aSYMBOL), (.ref b460), (.ref b460)])) rfl (hb hby at_196) (n := 4) (by decide) (by decide) (by decide) (by decide)
                refine Go.via st493 ?_
                have CR494 := CHr.trans CR483 hC493
                have Z495 : n0 ≤ h493.size := Nat.le_trans Z480 E493.1
                have K496 : Keep h0 h493 [] := K481.ext E493
                have O497 : Old Z n0 h493 := O482.ext E493
                have F498 : Exa Z h493 b460 "com/example/numeric_planner/numericplanner/rddl/Token" := (F489.ext E493)
                have nq499 := (ne493 _ (Safe.exa hZ.alike F498 (by decide) (by decide))).1
                have nq500 := (ne493 _ (Safe.exa hZ.alike F498 (by decide) (by decide))).2
                have F501 : Exa Z h493 b470 "com/example/numeric_planner/numericplanner/rddl/Location" := (A470.ext E493)
                have nq502 := (ne493 _ (Safe.exa hZ.alike F501 (by decide) (by decide))).1
                have nq503 := (ne493 _ (Safe.exa hZ.alike F501 (by decide) (by decide))).2
                show Go p.tables e below P T493 (mkF m 198 #[.val (.int p1), .val (.int p2), .val (.int p3), .val (.int p4), .val (.int (3 : Int32)), .val (.ref aSYMBOL), .val (.int na), .val (.int v284_0), .val (.int nb), .val (.int v286_0), .val (.int ca), .val (.int cb), .val (.int cc), .val (.int cd), .val (.int ce), .val (.int cf), .val (.ref r_293), .val .null, .unset, .unset, .unset] [(.ref a493), (.ref b470), (.ref b470), (.ref r_293), (.ref aSYMBOL), (.ref b460), (.ref b460)])
                refine Go.via (fun t k => XS.iloadN X493.here hx rfl (hb hby at_198) rfl k) ?_
                show Go p.tables e below P T493 (mkF m 199 #[.val (.int p1), .val (.int p2), .val (.int p3), .val (.int p4), .val (.int (3 : Int32)), .val (.ref aSYMBOL), .val (.int na), .val (.int v284_0), .val (.int nb), .val (.int v286_0), .val (.int ca), .val (.int cb), .val (.int cc), .val (.int cd), .val (.int ce), .val (.int cf), .val (.ref r_293), .val .null, .unset, .unset, .unset] [(.int p1), (.ref a493), (.ref b470), (.ref b470), (.ref r_293), (.ref aSYMBOL), (.ref b460), (.ref b460)])
                have F504 : Fld Z h493 b470 "com/example/numeric_planner/numericplanner/rddl/Location" "file" "Ljava/lang/String;" .null := ((D470 (Or.inr (hw _ (List.mem_of_getElem? (i := 61) rfl))) (ty := (.object "java/lang/String")) (by decide) : Fld Z h470 b470 "com/example/numeric_planner/numericplanner/rddl/Location" "file" "Ljava/lang/String;" .null).ext E493)
                have F505 : Fld Z h493 b470 "com/example/numeric_planner/numericplanner/rddl/Location" "line" "I" (.int (0 : Int32)) := ((D470 (Or.inr (hw _ (List.mem_of_getElem? (i := 63) rfl))) (ty := .int) (by decide) : Fld Z h470 b470 "com/example/numeric_planner/numericplanner/rddl/Location" "line" "I" (.int (0 : Int32))).ext E493)
                have F506 : Exa Z h493 r_293 "java/lang/String" := (F485.ext E493)
                have F507 : Fld Z h493 r_293 "java/lang/String" "value" "[B" (.ref tb_293) := (F486.ext E493)
                have F508 : Fld Z h493 r_293 "java/lang/String" "coder" "B" (.int (0 : Int32)) := (F487.ext E493)
                have F509 : Arv Z h493 tb_293 kk_293 .byte (own_lg (own_mk na ca cb cc)) ((own_mk na ca cb cc).map Value.int) (.int (0 : Int32)) := (F488.ext E493)
                have F510 : Fld Z h493 b460 "com/example/numeric_planner/numericplanner/rddl/Token" "kind" "Lcom/example/numeric_planner/numericplanner/rddl/Token$Kind;" .null := (F490.ext E493)
                have F511 : Fld Z h493 b460 "com/example/numeric_planner/numericplanner/rddl/Token" "text" "Ljava/lang/String;" .null := (F491.ext E493)
                have F512 : Fld Z h493 b460 "com/example/numeric_planner/numericplanner/rddl/Token" "location" "Lcom/example/numeric_planner/numericplanner/rddl/Location;" .null := (F492.ext E493)
                obtain ⟨_, _, ⟨T513, L513, k513, n513⟩, -, X513, ⟨Lc513, hQ513, l513, y513, z513⟩, st513⟩ := X493.specialBack hx (y := (⟨"com/example/numeric_planner/numericplanner/rddl/Location", "<init>", "(Ljava/lang/String;I)V"⟩ : MethodName)) rfl hown (mvT hZ (hw _ (List.mem_of_getElem? (i := 51) rfl))) (mvT hZ (hw _ (List.mem_of_getElem? (i := 52) rfl))) (mvT hZ (hw _ (List.mem_of_getElem? (i := 53) rfl))) (by decide) (backOf (W := 5) (rm9 l Z a0 hw [] b470 a493 p1 h493 n0 Z495 F501 F504 F505 g478) hZ (hw _ (List.mem_of_getElem? (i := 53) rfl)) (hw _ (List.mem_of_getElem? (i := 49) rfl)) (by decide) (by decide)) (g := (mkF m 199 #[.val (.int p1), .val (.int p2), .val (.int p3), .val (.int p4), .val (.int (3 : Int32)), .val (.ref aSYMBOL), .val (.int na), .val (.int v284_0), .val (.int nb), .val (.int v286_0), .val (.int ca), .val (.int cb), .val (.int cc), .val (.int cd), .val (.int ce), .val (.int cf), .val (.ref r_293), .val .null, .unset, .unset, .unset] [(.int p1), (.ref a493), (.ref b470), (.ref b470), (.ref r_293), (.ref aSYMBOL), (.ref b460), (.ref b460)])) rfl (by rw [hml]; rfl) (Steps.refl _) (a := b470) (argsL := [(.ref a493), (.int p1)]) (rest := [(.ref b470), (.ref r_293), (.ref aSYMBOL), (.ref b460), (.ref b460)]) (lenOf own_pd7 rfl) rfl (by show 2 * 0 + _ ≤ _; exact Nat.le_of_eq rfl) (hb hby at_199) (fun _ _ => ⟨rfl, e493, (by decide : 10 + 0 ≤ _), (by decide : 25 + 0 ≤ _)⟩)
                dsimp only [Pt.U, Pt.locs, Pt.cells, Pt.slots] at X513 l513 y513 z513 st513 hQ513
                subst l513 y513 z513
                obtain ⟨rfl, Nq513, K513, u513_0⟩ := hQ513
                obtain ⟨lc513, Xh513, N513⟩ := own_hide X513 (Fr.app N293 Nq513)
                clear X513
                refine Go.hop st513 ?_
                have Z514 : n0 ≤ T513.heap.size := Nat.le_trans Z495 K513.1
                have K515 : Keep h0 T513.heap [] := K496.trans K513 (own_allC (Or.inr sz479) own_all0)
                have CR516 := CHr.trans CR494 (CHr.keep K513 (sfS (Safe.exa hZ.alike F501 (by decide) (by decide)) sf0) CR494.1)
                have hk517 := Nat.le_trans hk493 K513.1
                have O518 : Old Z n0 T513.heap := O497.keep K513 (own_allC g478 own_all0)
                show Go p.tables e below P T513 (mkF m 202 #[.val (.int p1), .val (.int p2), .val (.int p3), .val (.int p4), .val (.int (3 : Int32)), .val (.ref aSYMBOL), .val (.int na), .val (.int v284_0), .val (.int nb), .val (.int v286_0), .val (.int ca), .val (.int cb), .val (.int cc), .val (.int cd), .val (.int ce), .val (.int cf), .val (.ref r_293), .val .null, .unset, .unset, .unset] [(.ref b470), (.ref r_293), (.ref aSYMBOL), (.ref b460), (.ref b460)])
                have F519 : Exa Z T513.heap b460 "com/example/numeric_planner/numericplanner/rddl/Token" := (F498.keep K513)
                have F520 : Fld Z T513.heap b460 "com/example/numeric_planner/numericplanner/rddl/Token" "kind" "Lcom/example/numeric_planner/numericplanner/rddl/Token$Kind;" .null := (F510.keep K513 (own_ninC ne477 own_nin0))
                have F521 : Fld Z T513.heap b460 "com/example/numeric_planner/numericplanner/rddl/Token" "text" "Ljava/lang/String;" .null := (F511.keep K513 (own_ninC ne477 own_nin0))
                have F522 : Fld Z T513.heap b460 "com/example/numeric_planner/numericplanner/rddl/Token" "location" "Lcom/example/numeric_planner/numericplanner/rddl/Location;" .null := (F512.keep K513 (own_ninC ne477 own_nin0))
                have F523 : Exa Z T513.heap r_293 "java/lang/String" := (F506.keep K513)
                have F524 : Fld Z T513.heap r_293 "java/lang/String" "value" "[B" (.ref tb_293) := (F507.keep K513 (own_ninC ne475 own_nin0))
                have F525 : Fld Z T513.heap r_293 "java/lang/String" "coder" "B" (.int (0 : Int32)) := (F508.keep K513 (own_ninC ne475 own_nin0))
                have F526 : Arv Z T513.heap tb_293 kk_293 .byte (own_lg (own_mk na ca cb cc)) ((own_mk na ca cb cc).map Value.int) (.int (0 : Int32)) := (F509.keep K513 (own_ninC ne476 own_nin0))
                have F527 : Exa Z T513.heap a493 "java/lang/String" := (Ex493.keep K513)
                have F528 : Fld Z T513.heap a493 "java/lang/String" "coder" "B" (.int (0 : Int32)) := (Fc493.keep K513 (own_ninC (Ne.symm nq502) own_nin0))
                have F529 : Fld Z T513.heap a493 "java/lang/String" "value" "[B" (.ref b493) := (Fv493.keep K513 (own_ninC (Ne.symm nq502) own_nin0))
                have F530 : Arv Z T513.heap b493 kb493 .byte (1 : Int32) [(.int (102 : Int32))] (.int (0 : Int32)) := (Va493.keep K513 (own_ninC (Ne.symm nq503) own_nin0))
                obtain ⟨_, _, ⟨T531, L531, k531, n531⟩, -, X531, ⟨Lc531, hQ531, l531, y531, z531⟩, st531⟩ := Xh513.specialBack hx (y := (⟨"com/example/numeric_planner/numericplanner/rddl/Token", "<init>", "(Lcom/example/numeric_planner/numericplanner/rddl/Token$Kind;Ljava/lang/String;Lcom/example/numeric_planner/numericplanner/rddl/Location;)V"⟩ : MethodName)) rfl hown (mvT hZ (hw _ (List.mem_of_getElem? (i := 64) rfl))) (mvT hZ (hw _ (List.mem_of_getElem? (i := 65) rfl))) (mvT hZ (hw _ (List.mem_of_getElem? (i := 66) rfl))) (by decide) (backOf (W := 1) (rm11 l Z a0 hw [] b460 aSYMBOL r_293 b470 T513.heap n0 Z514 F519 F520 F521 F522 g463) hZ (hw _ (List.mem_of_getElem? (i := 66) rfl)) (hw _ (List.mem_of_getElem? (i := 46) rfl)) (by decide) (by decide)) (g := (mkF m 202 #[.val (.int p1), .val (.int p2), .val (.int p3), .val (.int p4), .val (.int (3 : Int32)), .val (.ref aSYMBOL), .val (.int na), .val (.int v284_0), .val (.int nb), .val (.int v286_0), .val (.int ca), .val (.int cb), .val (.int cc), .val (.int cd), .val (.int ce), .val (.int cf), .val (.ref r_293), .val .null, .unset, .unset, .unset] [(.ref b470), (.ref r_293), (.ref aSYMBOL), (.ref b460), (.ref b460)])) rfl (by rw [hml]; rfl) (Steps.refl _) (a := b460) (argsL := [(.ref aSYMBOL), (.ref r_293), (.ref b470)]) (rest := [(.ref b460)]) (lenOf own_pd8 rfl) rfl (by show 2 * 0 + _ ≤ _; exact Nat.le_of_eq rfl) (hb hby at_202) (fun _ _ => ⟨rfl, rfl, (by decide : 10 + 0 ≤ _), (by decide : 25 + 0 ≤ _)⟩)
                dsimp only [Pt.U, Pt.locs, Pt.cells, Pt.slots] at X531 l531 y531 z531 st531 hQ531
                subst l531 y531 z531
                obtain ⟨rfl, Nq531, K531, u531_0, u531_1, u531_2, u531_3⟩ := hQ531
                obtain ⟨lc531, Xh531, N531⟩ := own_hide X531 (Fr.app N513 Nq531)
                clear X531
                refine Go.hop st531 ?_
                have Z532 : n0 ≤ T531.heap.size := Nat.le_trans Z514 K531.1
                have K533 : Keep h0 T531.heap [] := K515.trans K531 (own_allC (Or.inr sz464) own_all0)
                have CR534 := CHr.trans CR516 (CHr.keep K531 (sfS (Safe.exa hZ.alike F519 (by decide) (by decide)) sf0) CR516.1)
                have hk535 := Nat.le_trans hk517 K531.1
                have O536 : Old Z n0 T531.heap := O518.keep K531 (own_allC g463 own_all0)
                show Go p.tables e below P T531 (mkF m 205 #[.val (.int p1), .val (.int p2), .val (.int p3), .val (.int p4), .val (.int (3 : Int32)), .val (.ref aSYMBOL), .val (.int na), .val (.int v284_0), .val (.int nb), .val (.int v286_0), .val (.int ca), .val (.int cb), .val (.int cc), .val (.int cd), .val (.int ce), .val (.int cf), .val (.ref r_293), .val .null, .unset, .unset, .unset] [(.ref b460)])
                refine Go.via (fun t k => XS.astore Xh531.here hx rfl (hb hby at_205) rfl rfl (l' := #[.val (.int p1), .val (.int p2), .val (.int p3), .val (.int p4), .val (.int (3 : Int32)), .val (.ref aSYMBOL), .val (.int na), .val (.int v284_0), .val (.int nb), .val (.int v286_0), .val (.int ca), .val (.int cb), .val (.int cc), .val (.int cd), .val (.int ce), .val (.int cf), .val (.ref r_293), .val .null, .val (.ref b460), .unset, .unset]) rfl k) ?_
                refine Go.via (fun t k => XS.iload Xh531.here hx rfl (hb hby at_207) rfl k) ?_
                refine Go.via (fun t k => XS.iload Xh531.here hx rfl (hb hby at_209) rfl k) ?_
                show Go p.tables e below P T531 (mkF m 211 #[.val (.int p1), .val (.int p2), .val (.int p3), .val (.int p4), .val (.int (3 : Int32)), .val (.ref aSYMBOL), .val (.int na), .val (.int v284_0), .val (.int nb), .val (.int v286_0), .val (.int ca), .val (.int cb), .val (.int cc), .val (.int cd), .val (.int ce), .val (.int cf), .val (.ref r_293), .val .null, .val (.ref b460), .unset, .unset] [(.int nb), (.int na)])
                have LP538 : ∀ (T538 : State) (locs538 : List Loc) (ev : Int32), Stand p l e room_1 (s.setVm T493.vm) m #[(.int p1), (.int p2), (.int p3), (.int p4)] below meth c T538 locs538 10 25 → T538.heap = T531.heap → Fr n0 locs538 → ev = (if own_mk na ca cb cc = own_mk nb cd ce cf then (1 : Int32) else (0 : Int32)) → Go p.tables e below P T538 (mkF m 258 #[.val (.int p1), .val (.int p2), .val (.int p3), .val (.int p4), .val (.int (3 : Int32)), .val (.ref aSYMBOL), .val (.int na), .val (.int v284_0), .val (.int nb), .val (.int v286_0), .val (.int ca), .val (.int cb), .val (.int cc), .val (.int cd), .val (.int ce), .val (.int cf), .val (.ref r_293), .val .null, .val (.ref b460), .unset, .unset] [(.int ev)]) := by
                  intro T538 locs538 ev X538 e538 N538 hev
                  show Go p.tables e below P T538 (mkF m 258 #[.val (.int p1), .val (.int p2), .val (.int p3), .val (.int p4), .val (.int (3 : Int32)), .val (.ref aSYMBOL), .val (.int na), .val (.int v284_0), .val (.int nb), .val (.int v286_0), .val (.int ca), .val (.int cb), .val (.int cc), .val (.int cd), .val (.int ce), .val (.int cf), .val (.ref r_293), .val .null, .val (.ref b460), .unset, .unset] [(.int ev)])
                  refine Go.via (fun t k => XS.istore X538.here hx rfl (hb hby at_258) rfl (l' := #[.val (.int p1), .val (.int p2), .val (.int p3), .val (.int p4), .val (.int (3 : Int32)), .val (.ref aSYMBOL), .val (.int na), .val (.int v284_0), .val (.int nb), .val (.int v286_0), .val (.int ca), .val (.int cb), .val (.int cc), .val (.int cd), .val (.int ce), .val (.int cf), .val (.ref r_293), .val .null, .val (.ref b460), .val (.int ev), .unset]) rfl k) ?_
                  refine Go.via (fun t k => XS.iload X538.here hx rfl (hb hby at_260) rfl k) ?_
                  show Go p.tables e below P T538 (mkF m 262 #[.val (.int p1), .val (.int p2), .val (.int p3), .val (.int p4), .val (.int (3 : Int32)), .val (.ref aSYMBOL), .val (.int na), .val (.int v284_0), .val (.int nb), .val (.int v286_0), .val (.int ca), .val (.int cb), .val (.int cc), .val (.int cd), .val (.int ce), .val (.int cf), .val (.ref r_293), .val .null, .val (.ref b460), .val (.int ev), .unset] [(.int (3 : Int32))])
                  refine Go.via (fun t k => XS.ifNo X538.here hx rfl (hb hby at_262) rfl ((if0 _ _).trans (feq (by decide : ¬ ((3 : Int32) = (0 : Int32)))).1) k) ?_
                  show Go p.tables e below P T538 (mkF m 265 #[.val (.int p1), .val (.int p2), .val (.int p3), .val (.int p4), .val (.int (3 : Int32)), .val (.ref aSYMBOL), .val (.int na), .val (.int v284_0), .val (.int nb), .val (.int v286_0), .val (.int ca), .val (.int cb), .val (.int cc), .val (.int cd), .val (.int ce), .val (.int cf), .val (.ref r_293), .val .null, .val (.ref b460), .val (.int ev), .unset] [])
                  refine Go.via (fun t k => XS.iload X538.here hx rfl (hb hby at_265) rfl k) ?_
                  refine Go.via (fun t k => XS.iconst X538.here hx rfl (hb hby at_267) k) ?_
                  show Go p.tables e below P T538 (mkF m 268 #[.val (.int p1), .val (.int p2), .val (.int p3), .val (.int p4), .val (.int (3 : Int32)), .val (.ref aSYMBOL), .val (.int na), .val (.int v284_0), .val (.int nb), .val (.int v286_0), .val (.int ca), .val (.int cb), .val (.int cc), .val (.int cd), .val (.int ce), .val (.int cf), .val (.ref r_293), .val .null, .val (.ref b460), .val (.int ev), .unset] [(.int (3 : Int32)), (.int (3 : Int32))])
                  refine Go.via (fun t k => XS.icmpNo X538.here hx rfl (hb hby at_268) rfl (teq (rfl : (3 : Int32) = (3 : Int32))).2 k) ?_
                  show Go p.tables e below P T538 (mkF m 271 #[.val (.int p1), .val (.int p2), .val (.int p3), .val (.int p4), .val (.int (3 : Int32)), .val (.ref aSYMBOL), .val (.int na), .val (.int v284_0), .val (.int nb), .val (.int v286_0), .val (.int ca), .val (.int cb), .val (.int cc), .val (.int cd), .val (.int ce), .val (.int cf), .val (.ref r_293), .val .null, .val (.ref b460), .val (.int ev), .unset] [])
                  refine Go.via (fun t k => XS.iload X538.here hx rfl (hb hby at_271) rfl k) ?_
                  show Go p.tables e below P T538 (mkF m 273 #[.val (.int p1), .val (.int p2), .val (.int p3), .val (.int p4), .val (.int (3 : Int32)), .val (.ref aSYMBOL), .val (.int na), .val (.int v284_0), .val (.int nb), .val (.int v286_0), .val (.int ca), .val (.int cb), .val (.int cc), .val (.int cd), .val (.int ce), .val (.int cf), .val (.ref r_293), .val .null, .val (.ref b460), .val (.int ev), .unset] [(.int v286_0)])
                  refine Go.via (fun t k => XS.ifYes X538.here hx rfl (pc0 := 273) (pc' := 285) rfl (hb hby at_273) rfl ((if0 _ _).trans (feq hc301).2) (by decide) (by decide) k) ?_
                  show Go p.tables e below P T538 (mkF m 285 #[.val (.int p1), .val (.int p2), .val (.int p3), .val (.int p4), .val (.int (3 : Int32)), .val (.ref aSYMBOL), .val (.int na), .val (.int v284_0), .val (.int nb), .val (.int v286_0), .val (.int ca), .val (.int cb), .val (.int cc), .val (.int cd), .val (.int ce), .val (.int cf), .val (.ref r_293), .val .null, .val (.ref b460), .val (.int ev), .unset] [])
                  refine Go.via (fun t k => XS.iconst X538.here hx rfl (hb hby at_285) k) ?_
                  refine Go.via (fun t k => XS.istore X538.here hx rfl (hb hby at_286) rfl (l' := #[.val (.int p1), .val (.int p2), .val (.int p3), .val (.int p4), .val (.int (3 : Int32)), .val (.ref aSYMBOL), .val (.int na), .val (.int v284_0), .val (.int nb), .val (.int v286_0), .val (.int ca), .val (.int cb), .val (.int cc), .val (.int cd), .val (.int ce), .val (.int cf), .val (.ref r_293), .val .null, .val (.ref b460), .val (.int ev), .val (.int (0 : Int32))]) rfl k) ?_
                  refine Go.via (fun t k => XS.aload X538.here hx rfl (hb hby at_288) rfl rfl k) ?_
                  show Go p.tables e below P T538 (mkF m 290 #[.val (.int p1), .val (.int p2), .val (.int p3), .val (.int p4), .val (.int (3 : Int32)), .val (.ref aSYMBOL), .val (.int na), .val (.int v284_0), .val (.int nb), .val (.int v286_0), .val (.int ca), .val (.int cb), .val (.int cc), .val (.int cd), .val (.int ce), .val (.int cf), .val (.ref r_293), .val .null, .val (.ref b460), .val (.int ev), .val (.int (0 : Int32))] [(.ref b460)])
                  refine Go.via (fun t k => XS.aload X538.here hx rfl (hb hby at_290) rfl rfl k) ?_
                  show Go p.tables e below P T538 (mkF m 292 #[.val (.int p1), .val (.int p2), .val (.int p3), .val (.int p4), .val (.int (3 : Int32)), .val (.ref aSYMBOL), .val (.int na), .val (.int v284_0), .val (.int nb), .val (.int v286_0), .val (.int ca), .val (.int cb), .val (.int cc), .val (.int cd), .val (.int ce), .val (.int cf), .val (.ref r_293), .val .null, .val (.ref b460), .val (.int ev), .val (.int (0 : Int32))] [.null, (.ref b460)])
                  have F539 : Exa Z T531.heap r_293 "java/lang/String" := (F523.keep K531)
                  have F540 : Fld Z T531.heap r_293 "java/lang/String" "value" "[B" (.ref tb_293) := (F524.keep K531 (own_ninC ne461 own_nin0))
                  have F541 : Fld Z T531.heap r_293 "java/lang/String" "coder" "B" (.int (0 : Int32)) := (F525.keep K531 (own_ninC ne461 own_nin0))
                  have F542 : Arv Z T531.heap tb_293 kk_293 .byte (own_lg (own_mk na ca cb cc)) ((own_mk na ca cb cc).map Value.int) (.int (0 : Int32)) := (F526.keep K531 (own_ninC ne462 own_nin0))
                  have F543 : Exa Z T531.heap b470 "com/example/numeric_planner/numericplanner/rddl/Location" := (u513_0.keep K531)
                  have F544 : Exa Z T531.heap a493 "java/lang/String" := (F527.keep K531)
                  have F545 : Fld Z T531.heap a493 "java/lang/String" "coder" "B" (.int (0 : Int32)) := (F528.keep K531 (own_ninC (Ne.symm nq499) own_nin0))
                  have F546 : Fld Z T531.heap a493 "java/lang/String" "value" "[B" (.ref b493) := (F529.keep K531 (own_ninC (Ne.symm nq499) own_nin0))
                  have F547 : Arv Z T531.heap b493 kb493 .byte (1 : Int32) [(.int (102 : Int32))] (.int (0 : Int32)) := (F530.keep K531 (own_ninC (Ne.symm nq500) own_nin0))
                  obtain ⟨cq548, kq548, q548a, q548b, q548c⟩ := isOf hZ e538 u531_0
                  obtain ⟨_, _, ⟨T548, L548, k548, n548⟩, -, X548, ⟨Lc548, hQ548, l548, y548, z548⟩, st548⟩ := X538.virtualBack hx (y := (⟨"com/example/numeric_planner/numericplanner/rddl/Token", "is", "(Ljava/lang/String;)Z"⟩ : MethodName)) (z := (⟨"com/example/numeric_planner/numericplanner/rddl/Token", "is", "(Ljava/lang/String;)Z"⟩ : MethodName)) hown (mvT hZ (hw _ (List.mem_of_getElem? (i := 74) rfl))) (mvT hZ (hw _ (List.mem_of_getElem? (i := 75) rfl))) (notFace_of_selects (args := #[]) (mvT hZ (hw _ (List.mem_of_getElem? (i := 77) rfl)))) (mvT hZ (hw _ (List.mem_of_getElem? (i := 77) rfl))) (mvT hZ (hw _ (List.mem_of_getElem? (i := 76) rfl))) (by decide) (backOf (W := 0) (rm12sn l Z a0 hw [] b460 aNAME aSYMBOL r_293 T531.heap n0 Z532 O536 P3 P6 u531_1 u531_2 F539) hZ (hw _ (List.mem_of_getElem? (i := 78) rfl)) (hw _ (List.mem_of_getElem? (i := 46) rfl)) (by decide) (by decide)) q548a q548c (g := (mkF m 292 #[.val (.int p1), .val (.int p2), .val (.int p3), .val (.int p4), .val (.int (3 : Int32)), .val (.ref aSYMBOL), .val (.int na), .val (.int v284_0), .val (.int nb), .val (.int v286_0), .val (.int ca), .val (.int cb), .val (.int cc), .val (.int cd), .val (.int ce), .val (.int cf), .val (.ref r_293), .val .null, .val (.ref b460), .val (.int ev), .val (.int (0 : Int32))] [.null, (.ref b460)])) rfl (by rw [hml]; rfl) (Steps.refl _) (argsL := [.null]) (rest := []) (lenOf own_pd9 rfl) rfl (by show 2 * 0 + _ ≤ _; exact Nat.le_of_eq rfl) (hb hby at_292) (fun _ _ => ⟨rfl, e538, (by decide : 10 + 0 ≤ _), (by decide : 25 + 0 ≤ _)⟩)
                  dsimp only [Pt.U, Pt.locs, Pt.cells, Pt.slots] at X548 l548 y548 z548 st548 hQ548
                  subst l548 y548 z548
                  obtain ⟨rfl, Nq548, hh548⟩ := hQ548
                  obtain ⟨lc548, Xh548, N548⟩ := own_hide X548 (Fr.app N538 Nq548)
                  clear X548
                  refine Go.hop st548 ?_
                  show Go p.tables e below P T548 (mkF m 295 #[.val (.int p1), .val (.int p2), .val (.int p3), .val (.int p4), .val (.int (3 : Int32)), .val (.ref aSYMBOL), .val (.int na), .val (.int v284_0), .val (.int nb), .val (.int v286_0), .val (.int ca), .val (.int cb), .val (.int cc), .val (.int cd), .val (.int ce), .val (.int cf), .val (.ref r_293), .val .null, .val (.ref b460), .val (.int ev), .val (.int (0 : Int32))] [(.int (0 : Int32))])
                  refine Go.via (fun t k => XS.iload Xh548.here hx rfl (hb hby at_295) rfl k) ?_
                  show Go p.tables e below P T548 (mkF m 297 #[.val (.int p1), .val (.int p2), .val (.int p3), .val (.int p4), .val (.int (3 : Int32)), .val (.ref aSYMBOL), .val (.int na), .val (.int v284_0), .val (.int nb), .val (.int v286_0), .val (.int ca), .val (.int cb), .val (.int cc), .val (.int cd), .val (.int ce), .val (.int cf), .val (.ref r_293), .val .null, .val (.ref b460), .val (.int ev), .val (.int (0 : Int32))] [(.int (0 : Int32)), (.int (0 : Int32))])
                  refine Go.via (fun t k => XS.icmpNo Xh548.here hx rfl (hb hby at_297) rfl (teq (rfl : (0 : Int32) = (0 : Int32))).2 k) ?_
                  show Go p.tables e below P T548 (mkF m 300 #[.val (.int p1), .val (.int p2), .val (.int p3), .val (.int p4), .val (.int (3 : Int32)), .val (.ref aSYMBOL), .val (.int na), .val (.int v284_0), .val (.int nb), .val (.int v286_0), .val (.int ca), .val (.int cb), .val (.int cc), .val (.int cd), .val (.int ce), .val (.int cf), .val (.ref r_293), .val .null, .val (.ref b460), .val (.int ev), .val (.int (0 : Int32))] [])
                  refine Go.via (fun t k => XS.iconst Xh548.here hx rfl (hb hby at_300) k) ?_
                  refine Go.via (fun t k => XS.goto Xh548.here hx rfl (pc0 := 301) (pc' := 305) rfl (hb hby at_301) (by decide) (by decide) k) ?_
                  show Go p.tables e below P T548 (mkF m 305 #[.val (.int p1), .val (.int p2), .val (.int p3), .val (.int p4), .val (.int (3 : Int32)), .val (.ref aSYMBOL), .val (.int na), .val (.int v284_0), .val (.int nb), .val (.int v286_0), .val (.int ca), .val (.int cb), .val (.int cc), .val (.int cd), .val (.int ce), .val (.int cf), .val (.ref r_293), .val .null, .val (.ref b460), .val (.int ev), .val (.int (0 : Int32))] [(.int (1 : Int32))])
                  obtain ⟨fs, hr, hrun, hended, hend⟩ := Xh548.leaveW hS493 (by rw [hh548]; exact hk535) (v := some (.int (1 : Int32))) (fun h => by rw [Bd.returns] at h; cases h)
                  have hCf : CHr Z consts_1 s.vm s.heap (T548.setFrames fs).vm (T548.setFrames fs).heap := by
                    rw [hh]
                    show CHr Z consts_1 s.vm h0 T548.vm T548.heap
                    rw [hh548]
                    exact CHr.trans CR534 (CHv.at Xh548 hZ (own_EW hw) CR534.1)
                  refine ⟨_, _, retZ Xh548 hx (t := .boolean) Bd.returns (by simp) (hb hby at_305) rfl hr, hrun, hended, hP _ _ ⟨_, _, rfl, ?_, hCf, own_rew hend (by decide) (by decide)⟩⟩
                  show Q0 Z p1 p2 p3 p4 cs aNAME aPRIMED_NAME aNUMBER aSYMBOL aINVALID aEND h0 n0 _ T548.heap _
                  rw [hh548]
                  exact ⟨rfl, N548⟩
                by_cases hc537 : na = nb
                · refine Go.via (fun t k => XS.icmpNo Xh531.here hx rfl (hb hby at_211) rfl (teq hc537).2 k) ?_
                  show Go p.tables e below P T531 (mkF m 214 #[.val (.int p1), .val (.int p2), .val (.int p3), .val (.int p4), .val (.int (3 : Int32)), .val (.ref aSYMBOL), .val (.int na), .val (.int v284_0), .val (.int nb), .val (.int v286_0), .val (.int ca), .val (.int cb), .val (.int cc), .val (.int cd), .val (.int ce), .val (.int cf), .val (.ref r_293), .val .null, .val (.ref b460), .unset, .unset] [])
                  refine Go.via (fun t k => XS.iload Xh531.here hx rfl (hb hby at_214) rfl k) ?_
                  refine Go.via (fun t k => XS.iconst Xh531.here hx rfl (hb hby at_216) k) ?_
                  show Go p.tables e below P T531 (mkF m 217 #[.val (.int p1), .val (.int p2), .val (.int p3), .val (.int p4), .val (.int (3 : Int32)), .val (.ref aSYMBOL), .val (.int na), .val (.int v284_0), .val (.int nb), .val (.int v286_0), .val (.int ca), .val (.int cb), .val (.int cc), .val (.int cd), .val (.int ce), .val (.int cf), .val (.ref r_293), .val .null, .val (.ref b460), .unset, .unset] [(.int (1 : Int32)), (.int na)])
                  by_cases hc550 : na < (1 : Int32)
                  · refine Go.via (fun t k => XS.icmpYes Xh531.here hx rfl (pc0 := 217) (pc' := 227) rfl (hb hby at_217) rfl (tlt hc550).1 (by decide) (by decide) k) ?_
                    show Go p.tables e below P T531 (mkF m 227 #[.val (.int p1), .val (.int p2), .val (.int p3), .val (.int p4), .val (.int (3 : Int32)), .val (.ref aSYMBOL), .val (.int na), .val (.int v284_0), .val (.int nb), .val (.int v286_0), .val (.int ca), .val (.int cb), .val (.int cc), .val (.int cd), .val (.int ce), .val (.int cf), .val (.ref r_293), .val .null, .val (.ref b460), .unset, .unset] [])
                    refine Go.via (fun t k => XS.iload Xh531.here hx rfl (hb hby at_227) rfl k) ?_
                    refine Go.via (fun t k => XS.iconst Xh531.here hx rfl (hb hby at_229) k) ?_
                    show Go p.tables e below P T531 (mkF m 230 #[.val (.int p1), .val (.int p2), .val (.int p3), .val (.int p4), .val (.int (3 : Int32)), .val (.ref aSYMBOL), .val (.int na), .val (.int v284_0), .val (.int nb), .val (.int v286_0), .val (.int ca), .val (.int cb), .val (.int cc), .val (.int cd), .val (.int ce), .val (.int cf), .val (.ref r_293), .val .null, .val (.ref b460), .unset, .unset] [(.int (2 : Int32)), (.int na)])
                    by_cases hc551 : na < (2 : Int32)
                    · refine Go.via (fun t k => XS.icmpYes Xh531.here hx rfl (pc0 := 230) (pc' := 240) rfl (hb hby at_230) rfl (tlt hc551).1 (by decide) (by decide) k) ?_
                      show Go p.tables e below P T531 (mkF m 240 #[.val (.int p1), .val (.int p2), .val (.int p3), .val (.int p4), .val (.int (3 : Int32)), .val (.ref aSYMBOL), .val (.int na), .val (.int v284_0), .val (.int nb), .val (.int v286_0), .val (.int ca), .val (.int cb), .val (.int cc), .val (.int cd), .val (.int ce), .val (.int cf), .val (.ref r_293), .val .null, .val (.ref b460), .unset, .unset] [])
                      refine Go.via (fun t k => XS.iload Xh531.here hx rfl (hb hby at_240) rfl k) ?_
                      refine Go.via (fun t k => XS.iconst Xh531.here hx rfl (hb hby at_242) k) ?_
                      show Go p.tables e below P T531 (mkF m 243 #[.val (.int p1), .val (.int p2), .val (.int p3), .val (.int p4), .val (.int (3 : Int32)), .val (.ref aSYMBOL), .val (.int na), .val (.int v284_0), .val (.int nb), .val (.int v286_0), .val (.int ca), .val (.int cb), .val (.int cc), .val (.int cd), .val (.int ce), .val (.int cf), .val (.ref r_293), .val .null, .val (.ref b460), .unset, .unset] [(.int (3 : Int32)), (.int na)])
                      by_cases hc552 : na < (3 : Int32)
                      · refine Go.via (fun t k => XS.icmpYes Xh531.here hx rfl (pc0 := 243) (pc' := 253) rfl (hb hby at_243) rfl (tlt hc552).1 (by decide) (by decide) k) ?_
                        show Go p.tables e below P T531 (mkF m 253 #[.val (.int p1), .val (.int p2), .val (.int p3), .val (.int p4), .val (.int (3 : Int32)), .val (.ref aSYMBOL), .val (.int na), .val (.int v284_0), .val (.int nb), .val (.int v286_0), .val (.int ca), .val (.int cb), .val (.int cc), .val (.int cd), .val (.int ce), .val (.int cf), .val (.ref r_293), .val .null, .val (.ref b460), .unset, .unset] [])
                        refine Go.via (fun t k => XS.iconst Xh531.here hx rfl (hb hby at_253) k) ?_
                        refine Go.via (fun t k => XS.goto Xh531.here hx rfl (pc0 := 254) (pc' := 258) rfl (hb hby at_254) (by decide) (by decide) k) ?_
                        exact LP538 T531 _ (1 : Int32) Xh531 rfl N531 (if_pos (own_mke yna hc537 (Or.inl hc550) (Or.inl hc551) (Or.inl hc552))).symm
                      · refine Go.via (fun t k => XS.icmpNo Xh531.here hx rfl (hb hby at_243) rfl (flt hc552).1 k) ?_
                        show Go p.tables e below P T531 (mkF m 246 #[.val (.int p1), .val (.int p2), .val (.int p3), .val (.int p4), .val (.int (3 : Int32)), .val (.ref aSYMBOL), .val (.int na), .val (.int v284_0), .val (.int nb), .val (.int v286_0), .val (.int ca), .val (.int cb), .val (.int cc), .val (.int cd), .val (.int ce), .val (.int cf), .val (.ref r_293), .val .null, .val (.ref b460), .unset, .unset] [])
                        refine Go.via (fun t k => XS.iload Xh531.here hx rfl (hb hby at_246) rfl k) ?_
                        refine Go.via (fun t k => XS.iload Xh531.here hx rfl (hb hby at_248) rfl k) ?_
                        show Go p.tables e below P T531 (mkF m 250 #[.val (.int p1), .val (.int p2), .val (.int p3), .val (.int p4), .val (.int (3 : Int32)), .val (.ref aSYMBOL), .val (.int na), .val (.int v284_0), .val (.int nb), .val (.int v286_0), .val (.int ca), .val (.int cb), .val (.int cc), .val (.int cd), .val (.int ce), .val (.int cf), .val (.ref r_293), .val .null, .val (.ref b460), .unset, .unset] [(.int cf), (.int cc)])
                        by_cases hc553 : cc = cf
                        · refine Go.via (fun t k => XS.icmpNo Xh531.here hx rfl (hb hby at_250) rfl (teq hc553).2 k) ?_
                          show Go p.tables e below P T531 (mkF m 253 #[.val (.int p1), .val (.int p2), .val (.int p3), .val (.int p4), .val (.int (3 : Int32)), .val (.ref aSYMBOL), .val (.int na), .val (.int v284_0), .val (.int nb), .val (.int v286_0), .val (.int ca), .val (.int cb), .val (.int cc), .val (.int cd), .val (.int ce), .val (.int cf), .val (.ref r_293), .val .null, .val (.ref b460), .unset, .unset] [])
                          refine Go.via (fun t k => XS.iconst Xh531.here hx rfl (hb hby at_253) k) ?_
                          refine Go.via (fun t k => XS.goto Xh531.here hx rfl (pc0 := 254) (pc' := 258) rfl (hb hby at_254) (by decide) (by decide) k) ?_
                          exact LP538 T531 _ (1 : Int32) Xh531 rfl N531 (if_pos (own_mke yna hc537 (Or.inl hc550) (Or.inl hc551) (Or.inr hc553))).symm
                        · refine Go.via (fun t k => XS.icmpYes Xh531.here hx rfl (pc0 := 250) (pc' := 257) rfl (hb hby at_250) rfl (feq hc553).2 (by decide) (by decide) k) ?_
                          show Go p.tables e below P T531 (mkF m 257 #[.val (.int p1), .val (.int p2), .val (.int p3), .val (.int p4), .val (.int (3 : Int32)), .val (.ref aSYMBOL), .val (.int na), .val (.int v284_0), .val (.int nb), .val (.int v286_0), .val (.int ca), .val (.int cb), .val (.int cc), .val (.int cd), .val (.int ce), .val (.int cf), .val (.ref r_293), .val .null, .val (.ref b460), .unset, .unset] [])
                          refine Go.via (fun t k => XS.iconst Xh531.here hx rfl (hb hby at_257) k) ?_
                          exact LP538 T531 _ (0 : Int32) Xh531 rfl N531 (if_neg (fun q => hc553 (own_Binj ycc ycf (own_mk2 yna hc537 hc552 q)))).symm
                    · refine Go.via (fun t k => XS.icmpNo Xh531.here hx rfl (hb hby at_230) rfl (flt hc551).1 k) ?_
                      show Go p.tables e below P T531 (mkF m 233 #[.val (.int p1), .val (.int p2), .val (.int p3), .val (.int p4), .val (.int (3 : Int32)), .val (.ref aSYMBOL), .val (.int na), .val (.int v284_0), .val (.int nb), .val (.int v286_0), .val (.int ca), .val (.int cb), .val (.int cc), .val (.int cd), .val (.int ce), .val (.int cf), .val (.ref r_293), .val .null, .val (.ref b460), .unset, .unset] [])
                      refine Go.via (fun t k => XS.iload Xh531.here hx rfl (hb hby at_233) rfl k) ?_
                      refine Go.via (fun t k => XS.iload Xh531.here hx rfl (hb hby at_235) rfl k) ?_
                      show Go p.tables e below P T531 (mkF m 237 #[.val (.int p1), .val (.int p2), .val (.int p3), .val (.int p4), .val (.int (3 : Int32)), .val (.ref aSYMBOL), .val (.int na), .val (.int v284_0), .val (.int nb), .val (.int v286_0), .val (.int ca), .val (.int cb), .val (.int cc), .val (.int cd), .val (.int ce), .val (.int cf), .val (.ref r_293), .val .null, .val (.ref b460), .unset, .unset] [(.int ce), (.int cb)])
                      by_cases hc554 : cb = ce
                      · refine Go.via (fun t k => XS.icmpNo Xh531.here hx rfl (hb hby at_237) rfl (teq hc554).2 k) ?_
                        show Go p.tables e below P T531 (mkF m 240 #[.val (.int p1), .val (.int p2), .val (.int p3), .val (.int p4), .val (.int (3 : Int32)), .val (.ref aSYMBOL), .val (.int na), .val (.int v284_0), .val (.int nb), .val (.int v286_0), .val (.int ca), .val (.int cb), .val (.int cc), .val (.int cd), .val (.int ce), .val (.int cf), .val (.ref r_293), .val .null, .val (.ref b460), .unset, .unset] [])
                        refine Go.via (fun t k => XS.iload Xh531.here hx rfl (hb hby at_240) rfl k) ?_
                        refine Go.via (fun t k => XS.iconst Xh531.here hx rfl (hb hby at_242) k) ?_
                        show Go p.tables e below P T531 (mkF m 243 #[.val (.int p1), .val (.int p2), .val (.int p3), .val (.int p4), .val (.int (3 : Int32)), .val (.ref aSYMBOL), .val (.int na), .val (.int v284_0), .val (.int nb), .val (.int v286_0), .val (.int ca), .val (.int cb), .val (.int cc), .val (.int cd), .val (.int ce), .val (.int cf), .val (.ref r_293), .val .null, .val (.ref b460), .unset, .unset] [(.int (3 : Int32)), (.int na)])
                        by_cases hc555 : na < (3 : Int32)
                        · refine Go.via (fun t k => XS.icmpYes Xh531.here hx rfl (pc0 := 243) (pc' := 253) rfl (hb hby at_243) rfl (tlt hc555).1 (by decide) (by decide) k) ?_
                          show Go p.tables e below P T531 (mkF m 253 #[.val (.int p1), .val (.int p2), .val (.int p3), .val (.int p4), .val (.int (3 : Int32)), .val (.ref aSYMBOL), .val (.int na), .val (.int v284_0), .val (.int nb), .val (.int v286_0), .val (.int ca), .val (.int cb), .val (.int cc), .val (.int cd), .val (.int ce), .val (.int cf), .val (.ref r_293), .val .null, .val (.ref b460), .unset, .unset] [])
                          refine Go.via (fun t k => XS.iconst Xh531.here hx rfl (hb hby at_253) k) ?_
                          refine Go.via (fun t k => XS.goto Xh531.here hx rfl (pc0 := 254) (pc' := 258) rfl (hb hby at_254) (by decide) (by decide) k) ?_
                          exact LP538 T531 _ (1 : Int32) Xh531 rfl N531 (if_pos (own_mke yna hc537 (Or.inl hc550) (Or.inr hc554) (Or.inl hc555))).symm
                        · refine Go.via (fun t k => XS.icmpNo Xh531.here hx rfl (hb hby at_243) rfl (flt hc555).1 k) ?_
                          show Go p.tables e below P T531 (mkF m 246 #[.val (.int p1), .val (.int p2), .val (.int p3), .val (.int p4), .val (.int (3 : Int32)), .val (.ref aSYMBOL), .val (.int na), .val (.int v284_0), .val (.int nb), .val (.int v286_0), .val (.int ca), .val (.int cb), .val (.int cc), .val (.int cd), .val (.int ce), .val (.int cf), .val (.ref r_293), .val .null, .val (.ref b460), .unset, .unset] [])
                          refine Go.via (fun t k => XS.iload Xh531.here hx rfl (hb hby at_246) rfl k) ?_
                          refine Go.via (fun t k => XS.iload Xh531.here hx rfl (hb hby at_248) rfl k) ?_
                          show Go p.tables e below P T531 (mkF m 250 #[.val (.int p1), .val (.int p2), .val (.int p3), .val (.int p4), .val (.int (3 : Int32)), .val (.ref aSYMBOL), .val (.int na), .val (.int v284_0), .val (.int nb), .val (.int v286_0), .val (.int ca), .val (.int cb), .val (.int cc), .val (.int cd), .val (.int ce), .val (.int cf), .val (.ref r_293), .val .null, .val (.ref b460), .unset, .unset] [(.int cf), (.int cc)])
                          by_cases hc556 : cc = cf
                          · refine Go.via (fun t k => XS.icmpNo Xh531.here hx rfl (hb hby at_250) rfl (teq hc556).2 k) ?_
                            show Go p.tables e below P T531 (mkF m 253 #[.val (.int p1), .val (.int p2), .val (.int p3), .val (.int p4), .val (.int (3 : Int32)), .val (.ref aSYMBOL), .val (.int na), .val (.int v284_0), .val (.int nb), .val (.int v286_0), .val (.int ca), .val (.int cb), .val (.int cc), .val (.int cd), .val (.int ce), .val (.int cf), .val (.ref r_293), .val .null, .val (.ref b460), .unset, .unset] [])
                            refine Go.via (fun t k => XS.iconst Xh531.here hx rfl (hb hby at_253) k) ?_
                            refine Go.via (fun t k => XS.goto Xh531.here hx rfl (pc0 := 254) (pc' := 258) rfl (hb hby at_254) (by decide) (by decide) k) ?_
                            exact LP538 T531 _ (1 : Int32) Xh531 rfl N531 (if_pos (own_mke yna hc537 (Or.inl hc550) (Or.inr hc554) (Or.inr hc556))).symm
                          · refine Go.via (fun t k => XS.icmpYes Xh531.here hx rfl (pc0 := 250) (pc' := 257) rfl (hb hby at_250) rfl (feq hc556).2 (by decide) (by decide) k) ?_
                            show Go p.tables e below P T531 (mkF m 257 #[.val (.int p1), .val (.int p2), .val (.int p3), .val (.int p4), .val (.int (3 : Int32)), .val (.ref aSYMBOL), .val (.int na), .val (.int v284_0), .val (.int nb), .val (.int v286_0), .val (.int ca), .val (.int cb), .val (.int cc), .val (.int cd), .val (.int ce), .val (.int cf), .val (.ref r_293), .val .null, .val (.ref b460), .unset, .unset] [])
                            refine Go.via (fun t k => XS.iconst Xh531.here hx rfl (hb hby at_257) k) ?_
                            exact LP538 T531 _ (0 : Int32) Xh531 rfl N531 (if_neg (fun q => hc556 (own_Binj ycc ycf (own_mk2 yna hc537 hc555 q)))).symm
                      · refine Go.via (fun t k => XS.icmpYes Xh531.here hx rfl (pc0 := 237) (pc' := 257) rfl (hb hby at_237) rfl (feq hc554).2 (by decide) (by decide) k) ?_
                        show Go p.tables e below P T531 (mkF m 257 #[.val (.int p1), .val (.int p2), .val (.int p3), .val (.int p4), .val (.int (3 : Int32)), .val (.ref aSYMBOL), .val (.int na), .val (.int v284_0), .val (.int nb), .val (.int v286_0), .val (.int ca), .val (.int cb), .val (.int cc), .val (.int cd), .val (.int ce), .val (.int cf), .val (.ref r_293), .val .null, .val (.ref b460), .unset, .unset] [])
                        refine Go.via (fun t k => XS.iconst Xh531.here hx rfl (hb hby at_257) k) ?_
                        exact LP538 T531 _ (0 : Int32) Xh531 rfl N531 (if_neg (fun q => hc554 (own_Binj ycb yce (own_mk1 yna hc537 hc551 q)))).symm
                  · refine Go.via (fun t k => XS.icmpNo Xh531.here hx rfl (hb hby at_217) rfl (flt hc550).1 k) ?_
                    show Go p.tables e below P T531 (mkF m 220 #[.val (.int p1), .val (.int p2), .val (.int p3), .val (.int p4), .val (.int (3 : Int32)), .val (.ref aSYMBOL), .val (.int na), .val (.int v284_0), .val (.int nb), .val (.int v286_0), .val (.int ca), .val (.int cb), .val (.int cc), .val (.int cd), .val (.int ce), .val (.int cf), .val (.ref r_293), .val .null, .val (.ref b460), .unset, .unset] [])
                    refine Go.via (fun t k => XS.iload Xh531.here hx rfl (hb hby at_220) rfl k) ?_
                    refine Go.via (fun t k => XS.iload Xh531.here hx rfl (hb hby at_222) rfl k) ?_
                    show Go p.tables e below P T531 (mkF m 224 #[.val (.int p1), .val (.int p2), .val (.int p3), .val (.int p4), .val (.int (3 : Int32)), .val (.ref aSYMBOL), .val (.int na), .val (.int v284_0), .val (.int nb), .val (.int v286_0), .val (.int ca), .val (.int cb), .val (.int cc), .val (.int cd), .val (.int ce), .val (.int cf), .val (.ref r_293), .val .null, .val (.ref b460), .unset, .unset] [(.int cd), (.int ca)])
                    by_cases hc557 : ca = cd
                    · refine Go.via (fun t k => XS.icmpNo Xh531.here hx rfl (hb hby at_224) rfl (teq hc557).2 k) ?_
                      show Go p.tables e below P T531 (mkF m 227 #[.val (.int p1), .val (.int p2), .val (.int p3), .val (.int p4), .val (.int (3 : Int32)), .val (.ref aSYMBOL), .val (.int na), .val (.int v284_0), .val (.int nb), .val (.int v286_0), .val (.int ca), .val (.int cb), .val (.int cc), .val (.int cd), .val (.int ce), .val (.int cf), .val (.ref r_293), .val .null, .val (.ref b460), .unset, .unset] [])
                      refine Go.via (fun t k => XS.iload Xh531.here hx rfl (hb hby at_227) rfl k) ?_
                      refine Go.via (fun t k => XS.iconst Xh531.here hx rfl (hb hby at_229) k) ?_
                      show Go p.tables e below P T531 (mkF m 230 #[.val (.int p1), .val (.int p2), .val (.int p3), .val (.int p4), .val (.int (3 : Int32)), .val (.ref aSYMBOL), .val (.int na), .val (.int v284_0), .val (.int nb), .val (.int v286_0), .val (.int ca), .val (.int cb), .val (.int cc), .val (.int cd), .val (.int ce), .val (.int cf), .val (.ref r_293), .val .null, .val (.ref b460), .unset, .unset] [(.int (2 : Int32)), (.int na)])
                      by_cases hc558 : na < (2 : Int32)
                      · refine Go.via (fun t k => XS.icmpYes Xh531.here hx rfl (pc0 := 230) (pc' := 240) rfl (hb hby at_230) rfl (tlt hc558).1 (by decide) (by decide) k) ?_
                        show Go p.tables e below P T531 (mkF m 240 #[.val (.int p1), .val (.int p2), .val (.int p3), .val (.int p4), .val (.int (3 : Int32)), .val (.ref aSYMBOL), .val (.int na), .val (.int v284_0), .val (.int nb), .val (.int v286_0), .val (.int ca), .val (.int cb), .val (.int cc), .val (.int cd), .val (.int ce), .val (.int cf), .val (.ref r_293), .val .null, .val (.ref b460), .unset, .unset] [])
                        refine Go.via (fun t k => XS.iload Xh531.here hx rfl (hb hby at_240) rfl k) ?_
                        refine Go.via (fun t k => XS.iconst Xh531.here hx rfl (hb hby at_242) k) ?_
                        show Go p.tables e below P T531 (mkF m 243 #[.val (.int p1), .val (.int p2), .val (.int p3), .val (.int p4), .val (.int (3 : Int32)), .val (.ref aSYMBOL), .val (.int na), .val (.int v284_0), .val (.int nb), .val (.int v286_0), .val (.int ca), .val (.int cb), .val (.int cc), .val (.int cd), .val (.int ce), .val (.int cf), .val (.ref r_293), .val .null, .val (.ref b460), .unset, .unset] [(.int (3 : Int32)), (.int na)])
                        by_cases hc559 : na < (3 : Int32)
                        · refine Go.via (fun t k => XS.icmpYes Xh531.here hx rfl (pc0 := 243) (pc' := 253) rfl (hb hby at_243) rfl (tlt hc559).1 (by decide) (by decide) k) ?_
                          show Go p.tables e below P T531 (mkF m 253 #[.val (.int p1), .val (.int p2), .val (.int p3), .val (.int p4), .val (.int (3 : Int32)), .val (.ref aSYMBOL), .val (.int na), .val (.int v284_0), .val (.int nb), .val (.int v286_0), .val (.int ca), .val (.int cb), .val (.int cc), .val (.int cd), .val (.int ce), .val (.int cf), .val (.ref r_293), .val .null, .val (.ref b460), .unset, .unset] [])
                          refine Go.via (fun t k => XS.iconst Xh531.here hx rfl (hb hby at_253) k) ?_
                          refine Go.via (fun t k => XS.goto Xh531.here hx rfl (pc0 := 254) (pc' := 258) rfl (hb hby at_254) (by decide) (by decide) k) ?_
                          exact LP538 T531 _ (1 : Int32) Xh531 rfl N531 (if_pos (own_mke yna hc537 (Or.inr hc557) (Or.inl hc558) (Or.inl hc559))).symm
                        · refine Go.via (fun t k => XS.icmpNo Xh531.here hx rfl (hb hby at_243) rfl (flt hc559).1 k) ?_
                          show Go p.tables e below P T531 (mkF m 246 #[.val (.int p1), .val (.int p2), .val (.int p3), .val (.int p4), .val (.int (3 : Int32)), .val (.ref aSYMBOL), .val (.int na), .val (.int v284_0), .val (.int nb), .val (.int v286_0), .val (.int ca), .val (.int cb), .val (.int cc), .val (.int cd), .val (.int ce), .val (.int cf), .val (.ref r_293), .val .null, .val (.ref b460), .unset, .unset] [])
                          refine Go.via (fun t k => XS.iload Xh531.here hx rfl (hb hby at_246) rfl k) ?_
                          refine Go.via (fun t k => XS.iload Xh531.here hx rfl (hb hby at_248) rfl k) ?_
                          show Go p.tables e below P T531 (mkF m 250 #[.val (.int p1), .val (.int p2), .val (.int p3), .val (.int p4), .val (.int (3 : Int32)), .val (.ref aSYMBOL), .val (.int na), .val (.int v284_0), .val (.int nb), .val (.int v286_0), .val (.int ca), .val (.int cb), .val (.int cc), .val (.int cd), .val (.int ce), .val (.int cf), .val (.ref r_293), .val .null, .val (.ref b460), .unset, .unset] [(.int cf), (.int cc)])
                          by_cases hc560 : cc = cf
                          · refine Go.via (fun t k => XS.icmpNo Xh531.here hx rfl (hb hby at_250) rfl (teq hc560).2 k) ?_
                            show Go p.tables e below P T531 (mkF m 253 #[.val (.int p1), .val (.int p2), .val (.int p3), .val (.int p4), .val (.int (3 : Int32)), .val (.ref aSYMBOL), .val (.int na), .val (.int v284_0), .val (.int nb), .val (.int v286_0), .val (.int ca), .val (.int cb), .val (.int cc), .val (.int cd), .val (.int ce), .val (.int cf), .val (.ref r_293), .val .null, .val (.ref b460), .unset, .unset] [])
                            refine Go.via (fun t k => XS.iconst Xh531.here hx rfl (hb hby at_253) k) ?_
                            refine Go.via (fun t k => XS.goto Xh531.here hx rfl (pc0 := 254) (pc' := 258) rfl (hb hby at_254) (by decide) (by decide) k) ?_
                            exact LP538 T531 _ (1 : Int32) Xh531 rfl N531 (if_pos (own_mke yna hc537 (Or.inr hc557) (Or.inl hc558) (Or.inr hc560))).symm
                          · refine Go.via (fun t k => XS.icmpYes Xh531.here hx rfl (pc0 := 250) (pc' := 257) rfl (hb hby at_250) rfl (feq hc560).2 (by decide) (by decide) k) ?_
                            show Go p.tables e below P T531 (mkF m 257 #[.val (.int p1), .val (.int p2), .val (.int p3), .val (.int p4), .val (.int (3 : Int32)), .val (.ref aSYMBOL), .val (.int na), .val (.int v284_0), .val (.int nb), .val (.int v286_0), .val (.int ca), .val (.int cb), .val (.int cc), .val (.int cd), .val (.int ce), .val (.int cf), .val (.ref r_293), .val .null, .val (.ref b460), .unset, .unset] [])
                            refine Go.via (fun t k => XS.iconst Xh531.here hx rfl (hb hby at_257) k) ?_
                            exact LP538 T531 _ (0 : Int32) Xh531 rfl N531 (if_neg (fun q => hc560 (own_Binj ycc ycf (own_mk2 yna hc537 hc559 q)))).symm
                      · refine Go.via (fun t k => XS.icmpNo Xh531.here hx rfl (hb hby at_230) rfl (flt hc558).1 k) ?_
                        show Go p.tables e below P T531 (mkF m 233 #[.val (.int p1), .val (.int p2), .val (.int p3), .val (.int p4), .val (.int (3 : Int32)), .val (.ref aSYMBOL), .val (.int na), .val (.int v284_0), .val (.int nb), .val (.int v286_0), .val (.int ca), .val (.int cb), .val (.int cc), .val (.int cd), .val (.int ce), .val (.int cf), .val (.ref r_293), .val .null, .val (.ref b460), .unset, .unset] [])
                        refine Go.via (fun t k => XS.iload Xh531.here hx rfl (hb hby at_233) rfl k) ?_
                        refine Go.via (fun t k => XS.iload Xh531.here hx rfl (hb hby at_235) rfl k) ?_
                        show Go p.tables e below P T531 (mkF m 237 #[.val (.int p1), .val (.int p2), .val (.int p3), .val (.int p4), .val (.int (3 : Int32)), .val (.ref aSYMBOL), .val (.int na), .val (.int v284_0), .val (.int nb), .val (.int v286_0), .val (.int ca), .val (.int cb), .val (.int cc), .val (.int cd), .val (.int ce), .val (.int cf), .val (.ref r_293), .val .null, .val (.ref b460), .unset, .unset] [(.int ce), (.int cb)])
                        by_cases hc561 : cb = ce
                        · refine Go.via (fun t k => XS.icmpNo Xh531.here hx rfl (hb hby at_237) rfl (teq hc561).2 k) ?_
                          show Go p.tables e below P T531 (mkF m 240 #[.val (.int p1), .val (.int p2), .val (.int p3), .val (.int p4), .val (.int (3 : Int32)), .val (.ref aSYMBOL), .val (.int na), .val (.int v284_0), .val (.int nb), .val (.int v286_0), .val (.int ca), .val (.int cb), .val (.int cc), .val (.int cd), .val (.int ce), .val (.int cf), .val (.ref r_293), .val .null, .val (.ref b460), .unset, .unset] [])
                          refine Go.via (fun t k => XS.iload Xh531.here hx rfl (hb hby at_240) rfl k) ?_
                          refine Go.via (fun t k => XS.iconst Xh531.here hx rfl (hb hby at_242) k) ?_
                          show Go p.tables e below P T531 (mkF m 243 #[.val (.int p1), .val (.int p2), .val (.int p3), .val (.int p4), .val (.int (3 : Int32)), .val (.ref aSYMBOL), .val (.int na), .val (.int v284_0), .val (.int nb), .val (.int v286_0), .val (.int ca), .val (.int cb), .val (.int cc), .val (.int cd), .val (.int ce), .val (.int cf), .val (.ref r_293), .val .null, .val (.ref b460), .unset, .unset] [(.int (3 : Int32)), (.int na)])
                          by_cases hc562 : na < (3 : Int32)
                          · refine Go.via (fun t k => XS.icmpYes Xh531.here hx rfl (pc0 := 243) (pc' := 253) rfl (hb hby at_243) rfl (tlt hc562).1 (by decide) (by decide) k) ?_
                            show Go p.tables e below P T531 (mkF m 253 #[.val (.int p1), .val (.int p2), .val (.int p3), .val (.int p4), .val (.int (3 : Int32)), .val (.ref aSYMBOL), .val (.int na), .val (.int v284_0), .val (.int nb), .val (.int v286_0), .val (.int ca), .val (.int cb), .val (.int cc), .val (.int cd), .val (.int ce), .val (.int cf), .val (.ref r_293), .val .null, .val (.ref b460), .unset, .unset] [])
                            refine Go.via (fun t k => XS.iconst Xh531.here hx rfl (hb hby at_253) k) ?_
                            refine Go.via (fun t k => XS.goto Xh531.here hx rfl (pc0 := 254) (pc' := 258) rfl (hb hby at_254) (by decide) (by decide) k) ?_
                            exact LP538 T531 _ (1 : Int32) Xh531 rfl N531 (if_pos (own_mke yna hc537 (Or.inr hc557) (Or.inr hc561) (Or.inl hc562))).symm
                          · refine Go.via (fun t k => XS.icmpNo Xh531.here hx rfl (hb hby at_243) rfl (flt hc562).1 k) ?_
                            show Go p.tables e below P T531 (mkF m 246 #[.val (.int p1), .val (.int p2), .val (.int p3), .val (.int p4), .val (.int (3 : Int32)), .val (.ref aSYMBOL), .val (.int na), .val (.int v284_0), .val (.int nb), .val (.int v286_0), .val (.int ca), .val (.int cb), .val (.int cc), .val (.int cd), .val (.int ce), .val (.int cf), .val (.ref r_293), .val .null, .val (.ref b460), .unset, .unset] [])
                            refine Go.via (fun t k => XS.iload Xh531.here hx rfl (hb hby at_246) rfl k) ?_
                            refine Go.via (fun t k => XS.iload Xh531.here hx rfl (hb hby at_248) rfl k) ?_
                            show Go p.tables e below P T531 (mkF m 250 #[.val (.int p1), .val (.int p2), .val (.int p3), .val (.int p4), .val (.int (3 : Int32)), .val (.ref aSYMBOL), .val (.int na), .val (.int v284_0), .val (.int nb), .val (.int v286_0), .val (.int ca), .val (.int cb), .val (.int cc), .val (.int cd), .val (.int ce), .val (.int cf), .val (.ref r_293), .val .null, .val (.ref b460), .unset, .unset] [(.int cf), (.int cc)])
                            by_cases hc563 : cc = cf
                            · refine Go.via (fun t k => XS.icmpNo Xh531.here hx rfl (hb hby at_250) rfl (teq hc563).2 k) ?_
                              show Go p.tables e below P T531 (mkF m 253 #[.val (.int p1), .val (.int p2), .val (.int p3), .val (.int p4), .val (.int (3 : Int32)), .val (.ref aSYMBOL), .val (.int na), .val (.int v284_0), .val (.int nb), .val (.int v286_0), .val (.int ca), .val (.int cb), .val (.int cc), .val (.int cd), .val (.int ce), .val (.int cf), .val (.ref r_293), .val .null, .val (.ref b460), .unset, .unset] [])
                              refine Go.via (fun t k => XS.iconst Xh531.here hx rfl (hb hby at_253) k) ?_
                              refine Go.via (fun t k => XS.goto Xh531.here hx rfl (pc0 := 254) (pc' := 258) rfl (hb hby at_254) (by decide) (by decide) k) ?_
                              exact LP538 T531 _ (1 : Int32) Xh531 rfl N531 (if_pos (own_mke yna hc537 (Or.inr hc557) (Or.inr hc561) (Or.inr hc563))).symm
                            · refine Go.via (fun t k => XS.icmpYes Xh531.here hx rfl (pc0 := 250) (pc' := 257) rfl (hb hby at_250) rfl (feq hc563).2 (by decide) (by decide) k) ?_
                              show Go p.tables e below P T531 (mkF m 257 #[.val (.int p1), .val (.int p2), .val (.int p3), .val (.int p4), .val (.int (3 : Int32)), .val (.ref aSYMBOL), .val (.int na), .val (.int v284_0), .val (.int nb), .val (.int v286_0), .val (.int ca), .val (.int cb), .val (.int cc), .val (.int cd), .val (.int ce), .val (.int cf), .val (.ref r_293), .val .null, .val (.ref b460), .unset, .unset] [])
                              refine Go.via (fun t k => XS.iconst Xh531.here hx rfl (hb hby at_257) k) ?_
                              exact LP538 T531 _ (0 : Int32) Xh531 rfl N531 (if_neg (fun q => hc563 (own_Binj ycc ycf (own_mk2 yna hc537 hc562 q)))).symm
                        · refine Go.via (fun t k => XS.icmpYes Xh531.here hx rfl (pc0 := 237) (pc' := 257) rfl (hb hby at_237) rfl (feq hc561).2 (by decide) (by decide) k) ?_
                          show Go p.tables e below P T531 (mkF m 257 #[.val (.int p1), .val (.int p2), .val (.int p3), .val (.int p4), .val (.int (3 : Int32)), .val (.ref aSYMBOL), .val (.int na), .val (.int v284_0), .val (.int nb), .val (.int v286_0), .val (.int ca), .val (.int cb), .val (.int cc), .val (.int cd), .val (.int ce), .val (.int cf), .val (.ref r_293), .val .null, .val (.ref b460), .unset, .unset] [])
                          refine Go.via (fun t k => XS.iconst Xh531.here hx rfl (hb hby at_257) k) ?_
                          exact LP538 T531 _ (0 : Int32) Xh531 rfl N531 (if_neg (fun q => hc561 (own_Binj ycb yce (own_mk1 yna hc537 hc558 q)))).symm
                    · refine Go.via (fun t k => XS.icmpYes Xh531.here hx rfl (pc0 := 224) (pc' := 257) rfl (hb hby at_224) rfl (feq hc557).2 (by decide) (by decide) k) ?_
                      show Go p.tables e below P T531 (mkF m 257 #[.val (.int p1), .val (.int p2), .val (.int p3), .val (.int p4), .val (.int (3 : Int32)), .val (.ref aSYMBOL), .val (.int na), .val (.int v284_0), .val (.int nb), .val (.int v286_0), .val (.int ca), .val (.int cb), .val (.int cc), .val (.int cd), .val (.int ce), .val (.int cf), .val (.ref r_293), .val .null, .val (.ref b460), .unset, .unset] [])
                      refine Go.via (fun t k => XS.iconst Xh531.here hx rfl (hb hby at_257) k) ?_
                      exact LP538 T531 _ (0 : Int32) Xh531 rfl N531 (if_neg (fun q => hc557 (own_Binj yca ycd (own_mk0 yna hc537 hc550 q)))).symm
                · refine Go.via (fun t k => XS.icmpYes Xh531.here hx rfl (pc0 := 211) (pc' := 257) rfl (hb hby at_211) rfl (feq hc537).2 (by decide) (by decide) k) ?_
                  show Go p.tables e below P T531 (mkF m 257 #[.val (.int p1), .val (.int p2), .val (.int p3), .val (.int p4), .val (.int (3 : Int32)), .val (.ref aSYMBOL), .val (.int na), .val (.int v284_0), .val (.int nb), .val (.int v286_0), .val (.int ca), .val (.int cb), .val (.int cc), .val (.int cd), .val (.int ce), .val (.int cf), .val (.ref r_293), .val .null, .val (.ref b460), .unset, .unset] [])
                  refine Go.via (fun t k => XS.iconst Xh531.here hx rfl (hb hby at_257) k) ?_
                  exact LP538 T531 _ (0 : Int32) Xh531 rfl N531 (if_neg (fun q => hc537 (own_mkn yna ynb q))).symm
            by_cases hc291 : v284_0 = (0 : Int32)
            · refine Go.via (fun t k => XS.ifYes X290.here hx rfl (pc0 := 130) (pc' := 138) rfl (hb hby at_130) rfl ((if0 _ _).trans (teq hc291).1) (by decide) (by decide) k) ?_
              show Go p.tables e below P T290 (mkF m 138 #[.val (.int p1), .val (.int p2), .val (.int p3), .val (.int p4), .val (.int (3 : Int32)), .val (.ref aSYMBOL), .val (.int (p4 &&& (3 : Int32))), .val (.int v284_0), .val (.int (((p4.toUInt32 >>> ((3 : Int32) &&& 31).toUInt32).toInt32) &&& (3 : Int32))), .val (.int v286_0), .val (.int ((p2 &&& (255 : Int32)).toUInt32.toUInt16.toUInt32.toInt32)), .val (.int ((((p2.toUInt32 >>> ((8 : Int32) &&& 31).toUInt32).toInt32) &&& (255 : Int32)).toUInt32.toUInt16.toUInt32.toInt32)), .val (.int ((((p2.toUInt32 >>> ((16 : Int32) &&& 31).toUInt32).toInt32) &&& (255 : Int32)).toUInt32.toUInt16.toUInt32.toInt32)), .val (.int v288_0), .val (.int v290_0), .unset, .unset, .unset, .unset, .unset, .unset] [])
              refine Go.via (fun t k => XS.iloadN X290.here hx rfl (hb hby at_138) rfl k) ?_
              refine Go.via (fun t k => XS.bipush X290.here hx rfl (hb hby at_139) k) ?_
              refine Go.via (fun t k => XS.iushr X290.here hx rfl (hb hby at_141) rfl k) ?_
              show Go p.tables e below P T290 (mkF m 142 #[.val (.int p1), .val (.int p2), .val (.int p3), .val (.int p4), .val (.int (3 : Int32)), .val (.ref aSYMBOL), .val (.int (p4 &&& (3 : Int32))), .val (.int v284_0), .val (.int (((p4.toUInt32 >>> ((3 : Int32) &&& 31).toUInt32).toInt32) &&& (3 : Int32))), .val (.int v286_0), .val (.int ((p2 &&& (255 : Int32)).toUInt32.toUInt16.toUInt32.toInt32)), .val (.int ((((p2.toUInt32 >>> ((8 : Int32) &&& 31).toUInt32).toInt32) &&& (255 : Int32)).toUInt32.toUInt16.toUInt32.toInt32)), .val (.int ((((p2.toUInt32 >>> ((16 : Int32) &&& 31).toUInt32).toInt32) &&& (255 : Int32)).toUInt32.toUInt16.toUInt32.toInt32)), .val (.int v288_0), .val (.int v290_0), .unset, .unset, .unset, .unset, .unset, .unset] [(.int ((p3.toUInt32 >>> ((16 : Int32) &&& 31).toUInt32).toInt32))])
              refine Go.via (fun t k => XS.sipush X290.here hx rfl (hb hby at_142) k) ?_
              refine Go.via (fun t k => XS.iand X290.here hx rfl (hb hby at_145) rfl k) ?_
              refine Go.via (fun t k => XS.i2c X290.here hx rfl (hb hby at_146) rfl k) ?_
              exact J292 T290 _ ((((p3.toUInt32 >>> ((16 : Int32) &&& 31).toUInt32).toInt32) &&& (255 : Int32)).toUInt32.toUInt16.toUInt32.toInt32) (ownUp X290 (by decide) (by decide)) e290 N290 (if_pos hc291).symm
            · refine Go.via (fun t k => XS.ifNo X290.here hx rfl (hb hby at_130) rfl ((if0 _ _).trans (feq hc291).1) k) ?_
              show Go p.tables e below P T290 (mkF m 133 #[.val (.int p1), .val (.int p2), .val (.int p3), .val (.int p4), .val (.int (3 : Int32)), .val (.ref aSYMBOL), .val (.int (p4 &&& (3 : Int32))), .val (.int v284_0), .val (.int (((p4.toUInt32 >>> ((3 : Int32) &&& 31).toUInt32).toInt32) &&& (3 : Int32))), .val (.int v286_0), .val (.int ((p2 &&& (255 : Int32)).toUInt32.toUInt16.toUInt32.toInt32)), .val (.int ((((p2.toUInt32 >>> ((8 : Int32) &&& 31).toUInt32).toInt32) &&& (255 : Int32)).toUInt32.toUInt16.toUInt32.toInt32)), .val (.int ((((p2.toUInt32 >>> ((16 : Int32) &&& 31).toUInt32).toInt32) &&& (255 : Int32)).toUInt32.toUInt16.toUInt32.toInt32)), .val (.int v288_0), .val (.int v290_0), .unset, .unset, .unset, .unset, .unset, .unset] [])
              refine Go.via (fun t k => XS.iload X290.here hx rfl (hb hby at_133) rfl k) ?_
              refine Go.via (fun t k => XS.goto X290.here hx rfl (pc0 := 135) (pc' := 147) rfl (hb hby at_135) (by decide) (by decide) k) ?_
              exact J292 T290 _ ((((p2.toUInt32 >>> ((16 : Int32) &&& 31).toUInt32).toInt32) &&& (255 : Int32)).toUInt32.toUInt16.toUInt32.toInt32) (ownUp X290 (by decide) (by decide)) e290 N290 (if_neg hc291).symm
          by_cases hc289 : v284_0 = (0 : Int32)
          · refine Go.via (fun t k => XS.ifYes X288.here hx rfl (pc0 := 109) (pc' := 117) rfl (hb hby at_109) rfl ((if0 _ _).trans (teq hc289).1) (by decide) (by decide) k) ?_
            show Go p.tables e below P T288 (mkF m 117 #[.val (.int p1), .val (.int p2), .val (.int p3), .val (.int p4), .val (.int (3 : Int32)), .val (.ref aSYMBOL), .val (.int (p4 &&& (3 : Int32))), .val (.int v284_0), .val (.int (((p4.toUInt32 >>> ((3 : Int32) &&& 31).toUInt32).toInt32) &&& (3 : Int32))), .val (.int v286_0), .val (.int ((p2 &&& (255 : Int32)).toUInt32.toUInt16.toUInt32.toInt32)), .val (.int ((((p2.toUInt32 >>> ((8 : Int32) &&& 31).toUInt32).toInt32) &&& (255 : Int32)).toUInt32.toUInt16.toUInt32.toInt32)), .val (.int ((((p2.toUInt32 >>> ((16 : Int32) &&& 31).toUInt32).toInt32) &&& (255 : Int32)).toUInt32.toUInt16.toUInt32.toInt32)), .val (.int v288_0), .unset, .unset, .unset, .unset, .unset, .unset, .unset] [])
            refine Go.via (fun t k => XS.iloadN X288.here hx rfl (hb hby at_117) rfl k) ?_
            refine Go.via (fun t k => XS.bipush X288.here hx rfl (hb hby at_118) k) ?_
            refine Go.via (fun t k => XS.iushr X288.here hx rfl (hb hby at_120) rfl k) ?_
            show Go p.tables e below P T288 (mkF m 121 #[.val (.int p1), .val (.int p2), .val (.int p3), .val (.int p4), .val (.int (3 : Int32)), .val (.ref aSYMBOL), .val (.int (p4 &&& (3 : Int32))), .val (.int v284_0), .val (.int (((p4.toUInt32 >>> ((3 : Int32) &&& 31).toUInt32).toInt32) &&& (3 : Int32))), .val (.int v286_0), .val (.int ((p2 &&& (255 : Int32)).toUInt32.toUInt16.toUInt32.toInt32)), .val (.int ((((p2.toUInt32 >>> ((8 : Int32) &&& 31).toUInt32).toInt32) &&& (255 : Int32)).toUInt32.toUInt16.toUInt32.toInt32)), .val (.int ((((p2.toUInt32 >>> ((16 : Int32) &&& 31).toUInt32).toInt32) &&& (255 : Int32)).toUInt32.toUInt16.toUInt32.toInt32)), .val (.int v288_0), .unset, .unset, .unset, .unset, .unset, .unset, .unset] [(.int ((p3.toUInt32 >>> ((8 : Int32) &&& 31).toUInt32).toInt32))])
            refine Go.via (fun t k => XS.sipush X288.here hx rfl (hb hby at_121) k) ?_
            refine Go.via (fun t k => XS.iand X288.here hx rfl (hb hby at_124) rfl k) ?_
            refine Go.via (fun t k => XS.i2c X288.here hx rfl (hb hby at_125) rfl k) ?_
            exact J290 T288 _ ((((p3.toUInt32 >>> ((8 : Int32) &&& 31).toUInt32).toInt32) &&& (255 : Int32)).toUInt32.toUInt16.toUInt32.toInt32) X288 e288 N288 (if_pos hc289).symm
          · refine Go.via (fun t k => XS.ifNo X288.here hx rfl (hb hby at_109) rfl ((if0 _ _).trans (feq hc289).1) k) ?_
            show Go p.tables e below P T288 (mkF m 112 #[.val (.int p1), .val (.int p2), .val (.int p3), .val (.int p4), .val (.int (3 : Int32)), .val (.ref aSYMBOL), .val (.int (p4 &&& (3 : Int32))), .val (.int v284_0), .val (.int (((p4.toUInt32 >>> ((3 : Int32) &&& 31).toUInt32).toInt32) &&& (3 : Int32))), .val (.int v286_0), .val (.int ((p2 &&& (255 : Int32)).toUInt32.toUInt16.toUInt32.toInt32)), .val (.int ((((p2.toUInt32 >>> ((8 : Int32) &&& 31).toUInt32).toInt32) &&& (255 : Int32)).toUInt32.toUInt16.toUInt32.toInt32)), .val (.int ((((p2.toUInt32 >>> ((16 : Int32) &&& 31).toUInt32).toInt32) &&& (255 : Int32)).toUInt32.toUInt16.toUInt32.toInt32)), .val (.int v288_0), .unset, .unset, .unset, .unset, .unset, .unset, .unset] [])
            refine Go.via (fun t k => XS.iload X288.here hx rfl (hb hby at_112) rfl k) ?_
            refine Go.via (fun t k => XS.goto X288.here hx rfl (pc0 := 114) (pc' := 126) rfl (hb hby at_114) (by decide) (by decide) k) ?_
            exact J290 T288 _ ((((p2.toUInt32 >>> ((8 : Int32) &&& 31).toUInt32).toInt32) &&& (255 : Int32)).toUInt32.toUInt16.toUInt32.toInt32) X288 e288 N288 (if_neg hc289).symm
        by_cases hc287 : v284_0 = (0 : Int32)
        · refine Go.via (fun t k => XS.ifYes X286.here hx rfl (pc0 := 91) (pc' := 99) rfl (hb hby at_91) rfl ((if0 _ _).trans (teq hc287).1) (by decide) (by decide) k) ?_
          show Go p.tables e below P T286 (mkF m 99 #[.val (.int p1), .val (.int p2), .val (.int p3), .val (.int p4), .val (.int (3 : Int32)), .val (.ref aSYMBOL), .val (.int (p4 &&& (3 : Int32))), .val (.int v284_0), .val (.int (((p4.toUInt32 >>> ((3 : Int32) &&& 31).toUInt32).toInt32) &&& (3 : Int32))), .val (.int v286_0), .val (.int ((p2 &&& (255 : Int32)).toUInt32.toUInt16.toUInt32.toInt32)), .val (.int ((((p2.toUInt32 >>> ((8 : Int32) &&& 31).toUInt32).toInt32) &&& (255 : Int32)).toUInt32.toUInt16.toUInt32.toInt32)), .val (.int ((((p2.toUInt32 >>> ((16 : Int32) &&& 31).toUInt32).toInt32) &&& (255 : Int32)).toUInt32.toUInt16.toUInt32.toInt32)), .unset, .unset, .unset, .unset, .unset, .unset, .unset, .unset] [])
          refine Go.via (fun t k => XS.iloadN X286.here hx rfl (hb hby at_99) rfl k) ?_
          refine Go.via (fun t k => XS.sipush X286.here hx rfl (hb hby at_100) k) ?_
          refine Go.via (fun t k => XS.iand X286.here hx rfl (hb hby at_103) rfl k) ?_
          show Go p.tables e below P T286 (mkF m 104 #[.val (.int p1), .val (.int p2), .val (.int p3), .val (.int p4), .val (.int (3 : Int32)), .val (.ref aSYMBOL), .val (.int (p4 &&& (3 : Int32))), .val (.int v284_0), .val (.int (((p4.toUInt32 >>> ((3 : Int32) &&& 31).toUInt32).toInt32) &&& (3 : Int32))), .val (.int v286_0), .val (.int ((p2 &&& (255 : Int32)).toUInt32.toUInt16.toUInt32.toInt32)), .val (.int ((((p2.toUInt32 >>> ((8 : Int32) &&& 31).toUInt32).toInt32) &&& (255 : Int32)).toUInt32.toUInt16.toUInt32.toInt32)), .val (.int ((((p2.toUInt32 >>> ((16 : Int32) &&& 31).toUInt32).toInt32) &&& (255 : Int32)).toUInt32.toUInt16.toUInt32.toInt32)), .unset, .unset, .unset, .unset, .unset, .unset, .unset, .unset] [(.int (p3 &&& (255 : Int32)))])
          refine Go.via (fun t k => XS.i2c X286.here hx rfl (hb hby at_104) rfl k) ?_
          exact J288 T286 _ ((p3 &&& (255 : Int32)).toUInt32.toUInt16.toUInt32.toInt32) X286 e286 N286 (if_pos hc287).symm
        · refine Go.via (fun t k => XS.ifNo X286.here hx rfl (hb hby at_91) rfl ((if0 _ _).trans (feq hc287).1) k) ?_
          show Go p.tables e below P T286 (mkF m 94 #[.val (.int p1), .val (.int p2), .val (.int p3), .val (.int p4), .val (.int (3 : Int32)), .val (.ref aSYMBOL), .val (.int (p4 &&& (3 : Int32))), .val (.int v284_0), .val (.int (((p4.toUInt32 >>> ((3 : Int32) &&& 31).toUInt32).toInt32) &&& (3 : Int32))), .val (.int v286_0), .val (.int ((p2 &&& (255 : Int32)).toUInt32.toUInt16.toUInt32.toInt32)), .val (.int ((((p2.toUInt32 >>> ((8 : Int32) &&& 31).toUInt32).toInt32) &&& (255 : Int32)).toUInt32.toUInt16.toUInt32.toInt32)), .val (.int ((((p2.toUInt32 >>> ((16 : Int32) &&& 31).toUInt32).toInt32) &&& (255 : Int32)).toUInt32.toUInt16.toUInt32.toInt32)), .unset, .unset, .unset, .unset, .unset, .unset, .unset, .unset] [])
          refine Go.via (fun t k => XS.iload X286.here hx rfl (hb hby at_94) rfl k) ?_
          refine Go.via (fun t k => XS.goto X286.here hx rfl (pc0 := 96) (pc' := 105) rfl (hb hby at_96) (by decide) (by decide) k) ?_
          exact J288 T286 _ ((p2 &&& (255 : Int32)).toUInt32.toUInt16.toUInt32.toInt32) X286 e286 N286 (if_neg hc287).symm
      by_cases hc285 : (((p4.toUInt32 >>> ((5 : Int32) &&& 31).toUInt32).toInt32) &&& (3 : Int32)) = (3 : Int32)
      · refine Go.via (fun t k => XS.icmpNo X284.here hx rfl (hb hby at_49) rfl (teq hc285).2 k) ?_
        show Go p.tables e below P T284 (mkF m 52 #[.val (.int p1), .val (.int p2), .val (.int p3), .val (.int p4), .val (.int (3 : Int32)), .val (.ref aSYMBOL), .val (.int (p4 &&& (3 : Int32))), .val (.int v284_0), .val (.int (((p4.toUInt32 >>> ((3 : Int32) &&& 31).toUInt32).toInt32) &&& (3 : Int32))), .unset, .unset, .unset, .unset, .unset, .unset, .unset, .unset, .unset, .unset, .unset, .unset] [])
        refine Go.via (fun t k => XS.iconst X284.here hx rfl (hb hby at_52) k) ?_
        refine Go.via (fun t k => XS.goto X284.here hx rfl (pc0 := 53) (pc' := 57) rfl (hb hby at_53) (by decide) (by decide) k) ?_
        exact J286 T284 _ (1 : Int32) X284 e284 N284 (if_pos hc285).symm
      · refine Go.via (fun t k => XS.icmpYes X284.here hx rfl (pc0 := 49) (pc' := 56) rfl (hb hby at_49) rfl (feq hc285).2 (by decide) (by decide) k) ?_
        show Go p.tables e below P T284 (mkF m 56 #[.val (.int p1), .val (.int p2), .val (.int p3), .val (.int p4), .val (.int (3 : Int32)), .val (.ref aSYMBOL), .val (.int (p4 &&& (3 : Int32))), .val (.int v284_0), .val (.int (((p4.toUInt32 >>> ((3 : Int32) &&& 31).toUInt32).toInt32) &&& (3 : Int32))), .unset, .unset, .unset, .unset, .unset, .unset, .unset, .unset, .unset, .unset, .unset, .unset] [])
        refine Go.via (fun t k => XS.iconst X284.here hx rfl (hb hby at_56) k) ?_
        exact J286 T284 _ (0 : Int32) X284 e284 N284 (if_neg hc285).symm
    by_cases hc283 : (((p4.toUInt32 >>> ((2 : Int32) &&& 31).toUInt32).toInt32) &&& (1 : Int32)) = (0 : Int32)
    · refine Go.via (fun t k => XS.ifYes Xh1.here hx rfl (pc0 := 26) (pc' := 33) rfl (hb hby at_26) rfl ((if0 _ _).trans (teq hc283).1) (by decide) (by decide) k) ?_
      show Go p.tables e below P T1 (mkF m 33 #[.val (.int p1), .val (.int p2), .val (.int p3), .val (.int p4), .val (.int (3 : Int32)), .val (.ref aSYMBOL), .val (.int (p4 &&& (3 : Int32))), .unset, .unset, .unset, .unset, .unset, .unset, .unset, .unset, .unset, .unset, .unset, .unset, .unset, .unset] [])
      refine Go.via (fun t k => XS.iconst Xh1.here hx rfl (hb hby at_33) k) ?_
      exact J284 T1 _ (0 : Int32) Xh1 hh1 N1 (if_pos hc283).symm
    · refine Go.via (fun t k => XS.ifNo Xh1.here hx rfl (hb hby at_26) rfl ((if0 _ _).trans (feq hc283).1) k) ?_
      show Go p.tables e below P T1 (mkF m 29 #[.val (.int p1), .val (.int p2), .val (.int p3), .val (.int p4), .val (.int (3 : Int32)), .val (.ref aSYMBOL), .val (.int (p4 &&& (3 : Int32))), .unset, .unset, .unset, .unset, .unset, .unset, .unset, .unset, .unset, .unset, .unset, .unset, .unset, .unset] [])
      refine Go.via (fun t k => XS.iconst Xh1.here hx rfl (hb hby at_29) k) ?_
      refine Go.via (fun t k => XS.goto Xh1.here hx rfl (pc0 := 30) (pc' := 34) rfl (hb hby at_30) (by decide) (by decide) k) ?_
      exact J284 T1 _ (1 : Int32) Xh1 hh1 N1 (if_neg hc283).symm
  · show Go p.tables e below P T1 (mkF m 14 #[.val (.int p1), .val (.int p2), .val (.int p3), .val (.int p4), .val (.int kn), .unset, .unset, .unset, .unset, .unset, .unset, .unset, .unset, .unset, .unset, .unset, .unset, .unset, .unset, .unset, .unset] [(.ref r_1)])
    refine Go.via (fun t k => XS.astore Xh1.here hx rfl (hb hby at_14) rfl rfl (l' := #[.val (.int p1), .val (.int p2), .val (.int p3), .val (.int p4), .val (.int kn), .val (.ref r_1), .unset, .unset, .unset, .unset, .unset, .unset, .unset, .unset, .unset, .unset, .unset, .unset, .unset, .unset, .unset]) rfl k) ?_
    refine Go.via (fun t k => XS.iloadN Xh1.here hx rfl (hb hby at_16) rfl k) ?_
    show Go p.tables e below P T1 (mkF m 17 #[.val (.int p1), .val (.int p2), .val (.int p3), .val (.int p4), .val (.int kn), .val (.ref r_1), .unset, .unset, .unset, .unset, .unset, .unset, .unset, .unset, .unset, .unset, .unset, .unset, .unset, .unset, .unset] [(.int p4)])
    refine Go.via (fun t k => XS.iconst Xh1.here hx rfl (hb hby at_17) k) ?_
    refine Go.via (fun t k => XS.iand Xh1.here hx rfl (hb hby at_18) rfl k) ?_
    refine Go.via (fun t k => XS.istore Xh1.here hx rfl (hb hby at_19) rfl (l' := #[.val (.int p1), .val (.int p2), .val (.int p3), .val (.int p4), .val (.int kn), .val (.ref r_1), .val (.int (p4 &&& (3 : Int32))), .unset, .unset, .unset, .unset, .unset, .unset, .unset, .unset, .unset, .unset, .unset, .unset, .unset, .unset]) rfl k) ?_
    show Go p.tables e below P T1 (mkF m 21 #[.val (.int p1), .val (.int p2), .val (.int p3), .val (.int p4), .val (.int kn), .val (.ref r_1), .val (.int (p4 &&& (3 : Int32))), .unset, .unset, .unset, .unset, .unset, .unset, .unset, .unset, .unset, .unset, .unset, .unset, .unset, .unset] [])
    refine Go.via (fun t k => XS.iloadN Xh1.here hx rfl (hb hby at_21) rfl k) ?_
    refine Go.via (fun t k => XS.iconst Xh1.here hx rfl (hb hby at_22) k) ?_
    refine Go.via (fun t k => XS.iushr Xh1.here hx rfl (hb hby at_23) rfl k) ?_
    show Go p.tables e below P T1 (mkF m 24 #[.val (.int p1), .val (.int p2), .val (.int p3), .val (.int p4), .val (.int kn), .val (.ref r_1), .val (.int (p4 &&& (3 : Int32))), .unset, .unset, .unset, .unset, .unset, .unset, .unset, .unset, .unset, .unset, .unset, .unset, .unset, .unset] [(.int ((p4.toUInt32 >>> ((2 : Int32) &&& 31).toUInt32).toInt32))])
    refine Go.via (fun t k => XS.iconst Xh1.here hx rfl (hb hby at_24) k) ?_
    refine Go.via (fun t k => XS.iand Xh1.here hx rfl (hb hby at_25) rfl k) ?_
    show Go p.tables e below P T1 (mkF m 26 #[.val (.int p1), .val (.int p2), .val (.int p3), .val (.int p4), .val (.int kn), .val (.ref r_1), .val (.int (p4 &&& (3 : Int32))), .unset, .unset, .unset, .unset, .unset, .unset, .unset, .unset, .unset, .unset, .unset, .unset, .unset, .unset] [(.int (((p4.toUInt32 >>> ((2 : Int32) &&& 31).toUInt32).toInt32) &&& (1 : Int32)))])
    have J565 : ∀ (T565 : State) (locs565 : List Loc) (v565_0 : Int32), Stand p l e room_1 (s.setVm s.vm) m #[(.int p1), (.int p2), (.int p3), (.int p4)] below meth c T565 locs565 0 0 → T565.heap = h0 → Fr n0 locs565 → v565_0 = (if (((p4.toUInt32 >>> ((2 : Int32) &&& 31).toUInt32).toInt32) &&& (1 : Int32)) = (0 : Int32) then (0 : Int32) else (1 : Int32)) → Go p.tables e below P T565 (mkF m 34 #[.val (.int p1), .val (.int p2), .val (.int p3), .val (.int p4), .val (.int kn), .val (.ref r_1), .val (.int (p4 &&& (3 : Int32))), .unset, .unset, .unset, .unset, .unset, .unset, .unset, .unset, .unset, .unset, .unset, .unset, .unset, .unset] [(.int v565_0)]) := by
      intro T565 locs565 v565_0 X565 e565 N565 hv565_0
      have hbv565_0 : v565_0 = 0 ∨ v565_0 = 1 := by (subst hv565_0; (repeat' split) <;> first | (left; rfl) | (right; rfl))
      show Go p.tables e below P T565 (mkF m 34 #[.val (.int p1), .val (.int p2), .val (.int p3), .val (.int p4), .val (.int kn), .val (.ref r_1), .val (.int (p4 &&& (3 : Int32))), .unset, .unset, .unset, .unset, .unset, .unset, .unset, .unset, .unset, .unset, .unset, .unset, .unset, .unset] [(.int v565_0)])
      refine Go.via (fun t k => XS.istore X565.here hx rfl (hb hby at_34) rfl (l' := #[.val (.int p1), .val (.int p2), .val (.int p3), .val (.int p4), .val (.int kn), .val (.ref r_1), .val (.int (p4 &&& (3 : Int32))), .val (.int v565_0), .unset, .unset, .unset, .unset, .unset, .unset, .unset, .unset, .unset, .unset, .unset, .unset, .unset]) rfl k) ?_
      refine Go.via (fun t k => XS.iloadN X565.here hx rfl (hb hby at_36) rfl k) ?_
      refine Go.via (fun t k => XS.iconst X565.here hx rfl (hb hby at_37) k) ?_
      show Go p.tables e below P T565 (mkF m 38 #[.val (.int p1), .val (.int p2), .val (.int p3), .val (.int p4), .val (.int kn), .val (.ref r_1), .val (.int (p4 &&& (3 : Int32))), .val (.int v565_0), .unset, .unset, .unset, .unset, .unset, .unset, .unset, .unset, .unset, .unset, .unset, .unset, .unset] [(.int (3 : Int32)), (.int p4)])
      refine Go.via (fun t k => XS.iushr X565.here hx rfl (hb hby at_38) rfl k) ?_
      refine Go.via (fun t k => XS.iconst X565.here hx rfl (hb hby at_39) k) ?_
      refine Go.via (fun t k => XS.iand X565.here hx rfl (hb hby at_40) rfl k) ?_
      show Go p.tables e below P T565 (mkF m 41 #[.val (.int p1), .val (.int p2), .val (.int p3), .val (.int p4), .val (.int kn), .val (.ref r_1), .val (.int (p4 &&& (3 : Int32))), .val (.int v565_0), .unset, .unset, .unset, .unset, .unset, .unset, .unset, .unset, .unset, .unset, .unset, .unset, .unset] [(.int (((p4.toUInt32 >>> ((3 : Int32) &&& 31).toUInt32).toInt32) &&& (3 : Int32)))])
      refine Go.via (fun t k => XS.istore X565.here hx rfl (hb hby at_41) rfl (l' := #[.val (.int p1), .val (.int p2), .val (.int p3), .val (.int p4), .val (.int kn), .val (.ref r_1), .val (.int (p4 &&& (3 : Int32))), .val (.int v565_0), .val (.int (((p4.toUInt32 >>> ((3 : Int32) &&& 31).toUInt32).toInt32) &&& (3 : Int32))), .unset, .unset, .unset, .unset, .unset, .unset, .unset, .unset, .unset, .unset, .unset, .unset]) rfl k) ?_
      refine Go.via (fun t k => XS.iloadN X565.here hx rfl (hb hby at_43) rfl k) ?_
      refine Go.via (fun t k => XS.iconst X565.here hx rfl (hb hby at_44) k) ?_
      show Go p.tables e below P T565 (mkF m 45 #[.val (.int p1), .val (.int p2), .val (.int p3), .val (.int p4), .val (.int kn), .val (.ref r_1), .val (.int (p4 &&& (3 : Int32))), .val (.int v565_0), .val (.int (((p4.toUInt32 >>> ((3 : Int32) &&& 31).toUInt32).toInt32) &&& (3 : Int32))), .unset, .unset, .unset, .unset, .unset, .unset, .unset, .unset, .unset, .unset, .unset, .unset] [(.int (5 : Int32)), (.int p4)])
      refine Go.via (fun t k => XS.iushr X565.here hx rfl (hb hby at_45) rfl k) ?_
      refine Go.via (fun t k => XS.iconst X565.here hx rfl (hb hby at_46) k) ?_
      refine Go.via (fun t k => XS.iand X565.here hx rfl (hb hby at_47) rfl k) ?_
      show Go p.tables e below P T565 (mkF m 48 #[.val (.int p1), .val (.int p2), .val (.int p3), .val (.int p4), .val (.int kn), .val (.ref r_1), .val (.int (p4 &&& (3 : Int32))), .val (.int v565_0), .val (.int (((p4.toUInt32 >>> ((3 : Int32) &&& 31).toUInt32).toInt32) &&& (3 : Int32))), .unset, .unset, .unset, .unset, .unset, .unset, .unset, .unset, .unset, .unset, .unset, .unset] [(.int (((p4.toUInt32 >>> ((5 : Int32) &&& 31).toUInt32).toInt32) &&& (3 : Int32)))])
      refine Go.via (fun t k => XS.iconst X565.here hx rfl (hb hby at_48) k) ?_
      show Go p.tables e below P T565 (mkF m 49 #[.val (.int p1), .val (.int p2), .val (.int p3), .val (.int p4), .val (.int kn), .val (.ref r_1), .val (.int (p4 &&& (3 : Int32))), .val (.int v565_0), .val (.int (((p4.toUInt32 >>> ((3 : Int32) &&& 31).toUInt32).toInt32) &&& (3 : Int32))), .unset, .unset, .unset, .unset, .unset, .unset, .unset, .unset, .unset, .unset, .unset, .unset] [(.int (3 : Int32)), (.int (((p4.toUInt32 >>> ((5 : Int32) &&& 31).toUInt32).toInt32) &&& (3 : Int32)))])
      have J567 : ∀ (T567 : State) (locs567 : List Loc) (v567_0 : Int32), Stand p l e room_1 (s.setVm s.vm) m #[(.int p1), (.int p2), (.int p3), (.int p4)] below meth c T567 locs567 0 0 → T567.heap = h0 → Fr n0 locs567 → v567_0 = (if (((p4.toUInt32 >>> ((5 : Int32) &&& 31).toUInt32).toInt32) &&& (3 : Int32)) = (3 : Int32) then (1 : Int32) else (0 : Int32)) → Go p.tables e below P T567 (mkF m 57 #[.val (.int p1), .val (.int p2), .val (.int p3), .val (.int p4), .val (.int kn), .val (.ref r_1), .val (.int (p4 &&& (3 : Int32))), .val (.int v565_0), .val (.int (((p4.toUInt32 >>> ((3 : Int32) &&& 31).toUInt32).toInt32) &&& (3 : Int32))), .unset, .unset, .unset, .unset, .unset, .unset, .unset, .unset, .unset, .unset, .unset, .unset] [(.int v567_0)]) := by
        intro T567 locs567 v567_0 X567 e567 N567 hv567_0
        have hbv567_0 : v567_0 = 0 ∨ v567_0 = 1 := by (subst hv567_0; (repeat' split) <;> first | (left; rfl) | (right; rfl))
        show Go p.tables e below P T567 (mkF m 57 #[.val (.int p1), .val (.int p2), .val (.int p3), .val (.int p4), .val (.int kn), .val (.ref r_1), .val (.int (p4 &&& (3 : Int32))), .val (.int v565_0), .val (.int (((p4.toUInt32 >>> ((3 : Int32) &&& 31).toUInt32).toInt32) &&& (3 : Int32))), .unset, .unset, .unset, .unset, .unset, .unset, .unset, .unset, .unset, .unset, .unset, .unset] [(.int v567_0)])
        refine Go.via (fun t k => XS.istore X567.here hx rfl (hb hby at_57) rfl (l' := #[.val (.int p1), .val (.int p2), .val (.int p3), .val (.int p4), .val (.int kn), .val (.ref r_1), .val (.int (p4 &&& (3 : Int32))), .val (.int v565_0), .val (.int (((p4.toUInt32 >>> ((3 : Int32) &&& 31).toUInt32).toInt32) &&& (3 : Int32))), .val (.int v567_0), .unset, .unset, .unset, .unset, .unset, .unset, .unset, .unset, .unset, .unset, .unset]) rfl k) ?_
        refine Go.via (fun t k => XS.iloadN X567.here hx rfl (hb hby at_59) rfl k) ?_
        refine Go.via (fun t k => XS.sipush X567.here hx rfl (hb hby at_60) k) ?_
        show Go p.tables e below P T567 (mkF m 63 #[.val (.int p1), .val (.int p2), .val (.int p3), .val (.int p4), .val (.int kn), .val (.ref r_1), .val (.int (p4 &&& (3 : Int32))), .val (.int v565_0), .val (.int (((p4.toUInt32 >>> ((3 : Int32) &&& 31).toUInt32).toInt32) &&& (3 : Int32))), .val (.int v567_0), .unset, .unset, .unset, .unset, .unset, .unset, .unset, .unset, .unset, .unset, .unset] [(.int (255 : Int32)), (.int p2)])
        refine Go.via (fun t k => XS.iand X567.here hx rfl (hb hby at_63) rfl k) ?_
        refine Go.via (fun t k => XS.i2c X567.here hx rfl (hb hby at_64) rfl k) ?_
        refine Go.via (fun t k => XS.istore X567.here hx rfl (hb hby at_65) rfl (l' := #[.val (.int p1), .val (.int p2), .val (.int p3), .val (.int p4), .val (.int kn), .val (.ref r_1), .val (.int (p4 &&& (3 : Int32))), .val (.int v565_0), .val (.int (((p4.toUInt32 >>> ((3 : Int32) &&& 31).toUInt32).toInt32) &&& (3 : Int32))), .val (.int v567_0), .val (.int ((p2 &&& (255 : Int32)).toUInt32.toUInt16.toUInt32.toInt32)), .unset, .unset, .unset, .unset, .unset, .unset, .unset, .unset, .unset, .unset]) rfl k) ?_
        show Go p.tables e below P T567 (mkF m 67 #[.val (.int p1), .val (.int p2), .val (.int p3), .val (.int p4), .val (.int kn), .val (.ref r_1), .val (.int (p4 &&& (3 : Int32))), .val (.int v565_0), .val (.int (((p4.toUInt32 >>> ((3 : Int32) &&& 31).toUInt32).toInt32) &&& (3 : Int32))), .val (.int v567_0), .val (.int ((p2 &&& (255 : Int32)).toUInt32.toUInt16.toUInt32.toInt32)), .unset, .unset, .unset, .unset, .unset, .unset, .unset, .unset, .unset, .unset] [])
        refine Go.via (fun t k => XS.iloadN X567.here hx rfl (hb hby at_67) rfl k) ?_
        refine Go.via (fun t k => XS.bipush X567.here hx rfl (hb hby at_68) k) ?_
        refine Go.via (fun t k => XS.iushr X567.here hx rfl (hb hby at_70) rfl k) ?_
        show Go p.tables e below P T567 (mkF m 71 #[.val (.int p1), .val (.int p2), .val (.int p3), .val (.int p4), .val (.int kn), .val (.ref r_1), .val (.int (p4 &&& (3 : Int32))), .val (.int v565_0), .val (.int (((p4.toUInt32 >>> ((3 : Int32) &&& 31).toUInt32).toInt32) &&& (3 : Int32))), .val (.int v567_0), .val (.int ((p2 &&& (255 : Int32)).toUInt32.toUInt16.toUInt32.toInt32)), .unset, .unset, .unset, .unset, .unset, .unset, .unset, .unset, .unset, .unset] [(.int ((p2.toUInt32 >>> ((8 : Int32) &&& 31).toUInt32).toInt32))])
        refine Go.via (fun t k => XS.sipush X567.here hx rfl (hb hby at_71) k) ?_
        refine Go.via (fun t k => XS.iand X567.here hx rfl (hb hby at_74) rfl k) ?_
        refine Go.via (fun t k => XS.i2c X567.here hx rfl (hb hby at_75) rfl k) ?_
        show Go p.tables e below P T567 (mkF m 76 #[.val (.int p1), .val (.int p2), .val (.int p3), .val (.int p4), .val (.int kn), .val (.ref r_1), .val (.int (p4 &&& (3 : Int32))), .val (.int v565_0), .val (.int (((p4.toUInt32 >>> ((3 : Int32) &&& 31).toUInt32).toInt32) &&& (3 : Int32))), .val (.int v567_0), .val (.int ((p2 &&& (255 : Int32)).toUInt32.toUInt16.toUInt32.toInt32)), .unset, .unset, .unset, .unset, .unset, .unset, .unset, .unset, .unset, .unset] [(.int ((((p2.toUInt32 >>> ((8 : Int32) &&& 31).toUInt32).toInt32) &&& (255 : Int32)).toUInt32.toUInt16.toUInt32.toInt32))])
        refine Go.via (fun t k => XS.istore X567.here hx rfl (hb hby at_76) rfl (l' := #[.val (.int p1), .val (.int p2), .val (.int p3), .val (.int p4), .val (.int kn), .val (.ref r_1), .val (.int (p4 &&& (3 : Int32))), .val (.int v565_0), .val (.int (((p4.toUInt32 >>> ((3 : Int32) &&& 31).toUInt32).toInt32) &&& (3 : Int32))), .val (.int v567_0), .val (.int ((p2 &&& (255 : Int32)).toUInt32.toUInt16.toUInt32.toInt32)), .val (.int ((((p2.toUInt32 >>> ((8 : Int32) &&& 31).toUInt32).toInt32) &&& (255 : Int32)).toUInt32.toUInt16.toUInt32.toInt32)), .unset, .unset, .unset, .unset, .unset, .unset, .unset, .unset, .unset]) rfl k) ?_
        refine Go.via (fun t k => XS.iloadN X567.here hx rfl (hb hby at_78) rfl k) ?_
        refine Go.via (fun t k => XS.bipush X567.here hx rfl (hb hby at_79) k) ?_
        show Go p.tables e below P T567 (mkF m 81 #[.val (.int p1), .val (.int p2), .val (.int p3), .val (.int p4), .val (.int kn), .val (.ref r_1), .val (.int (p4 &&& (3 : Int32))), .val (.int v565_0), .val (.int (((p4.toUInt32 >>> ((3 : Int32) &&& 31).toUInt32).toInt32) &&& (3 : Int32))), .val (.int v567_0), .val (.int ((p2 &&& (255 : Int32)).toUInt32.toUInt16.toUInt32.toInt32)), .val (.int ((((p2.toUInt32 >>> ((8 : Int32) &&& 31).toUInt32).toInt32) &&& (255 : Int32)).toUInt32.toUInt16.toUInt32.toInt32)), .unset, .unset, .unset, .unset, .unset, .unset, .unset, .unset, .unset] [(.int (16 : Int32)), (.int p2)])
        refine Go.via (fun t k => XS.iushr X567.here hx rfl (hb hby at_81) rfl k) ?_
        refine Go.via (fun t k => XS.sipush X567.here hx rfl (hb hby at_82) k) ?_
        refine Go.via (fun t k => XS.iand X567.here hx rfl (hb hby at_85) rfl k) ?_
        show Go p.tables e below P T567 (mkF m 86 #[.val (.int p1), .val (.int p2), .val (.int p3), .val (.int p4), .val (.int kn), .val (.ref r_1), .val (.int (p4 &&& (3 : Int32))), .val (.int v565_0), .val (.int (((p4.toUInt32 >>> ((3 : Int32) &&& 31).toUInt32).toInt32) &&& (3 : Int32))), .val (.int v567_0), .val (.int ((p2 &&& (255 : Int32)).toUInt32.toUInt16.toUInt32.toInt32)), .val (.int ((((p2.toUInt32 >>> ((8 : Int32) &&& 31).toUInt32).toInt32) &&& (255 : Int32)).toUInt32.toUInt16.toUInt32.toInt32)), .unset, .unset, .unset, .unset, .unset, .unset, .unset, .unset, .unset] [(.int (((p2.toUInt32 >>> ((16 : Int32) &&& 31).toUInt32).toInt32) &&& (255 : Int32)))])
        refine Go.via (fun t k => XS.i2c X567.here hx rfl (hb hby at_86) rfl k) ?_
        refine Go.via (fun t k => XS.istore X567.here hx rfl (hb hby at_87) rfl (l' := #[.val (.int p1), .val (.int p2), .val (.int p3), .val (.int p4), .val (.int kn), .val (.ref r_1), .val (.int (p4 &&& (3 : Int32))), .val (.int v565_0), .val (.int (((p4.toUInt32 >>> ((3 : Int32) &&& 31).toUInt32).toInt32) &&& (3 : Int32))), .val (.int v567_0), .val (.int ((p2 &&& (255 : Int32)).toUInt32.toUInt16.toUInt32.toInt32)), .val (.int ((((p2.toUInt32 >>> ((8 : Int32) &&& 31).toUInt32).toInt32) &&& (255 : Int32)).toUInt32.toUInt16.toUInt32.toInt32)), .val (.int ((((p2.toUInt32 >>> ((16 : Int32) &&& 31).toUInt32).toInt32) &&& (255 : Int32)).toUInt32.toUInt16.toUInt32.toInt32)), .unset, .unset, .unset, .unset, .unset, .unset, .unset, .unset]) rfl k) ?_
        refine Go.via (fun t k => XS.iload X567.here hx rfl (hb hby at_89) rfl k) ?_
        show Go p.tables e below P T567 (mkF m 91 #[.val (.int p1), .val (.int p2), .val (.int p3), .val (.int p4), .val (.int kn), .val (.ref r_1), .val (.int (p4 &&& (3 : Int32))), .val (.int v565_0), .val (.int (((p4.toUInt32 >>> ((3 : Int32) &&& 31).toUInt32).toInt32) &&& (3 : Int32))), .val (.int v567_0), .val (.int ((p2 &&& (255 : Int32)).toUInt32.toUInt16.toUInt32.toInt32)), .val (.int ((((p2.toUInt32 >>> ((8 : Int32) &&& 31).toUInt32).toInt32) &&& (255 : Int32)).toUInt32.toUInt16.toUInt32.toInt32)), .val (.int ((((p2.toUInt32 >>> ((16 : Int32) &&& 31).toUInt32).toInt32) &&& (255 : Int32)).toUInt32.toUInt16.toUInt32.toInt32)), .unset, .unset, .unset, .unset, .unset, .unset, .unset, .unset] [(.int v565_0)])
        have J569 : ∀ (T569 : State) (locs569 : List Loc) (v569_0 : Int32), Stand p l e room_1 (s.setVm s.vm) m #[(.int p1), (.int p2), (.int p3), (.int p4)] below meth c T569 locs569 0 0 → T569.heap = h0 → Fr n0 locs569 → v569_0 = (if v565_0 = (0 : Int32) then ((p3 &&& (255 : Int32)).toUInt32.toUInt16.toUInt32.toInt32) else ((p2 &&& (255 : Int32)).toUInt32.toUInt16.toUInt32.toInt32)) → Go p.tables e below P T569 (mkF m 105 #[.val (.int p1), .val (.int p2), .val (.int p3), .val (.int p4), .val (.int kn), .val (.ref r_1), .val (.int (p4 &&& (3 : Int32))), .val (.int v565_0), .val (.int (((p4.toUInt32 >>> ((3 : Int32) &&& 31).toUInt32).toInt32) &&& (3 : Int32))), .val (.int v567_0), .val (.int ((p2 &&& (255 : Int32)).toUInt32.toUInt16.toUInt32.toInt32)), .val (.int ((((p2.toUInt32 >>> ((8 : Int32) &&& 31).toUInt32).toInt32) &&& (255 : Int32)).toUInt32.toUInt16.toUInt32.toInt32)), .val (.int ((((p2.toUInt32 >>> ((16 : Int32) &&& 31).toUInt32).toInt32) &&& (255 : Int32)).toUInt32.toUInt16.toUInt32.toInt32)), .unset, .unset, .unset, .unset, .unset, .unset, .unset, .unset] [(.int v569_0)]) := by
          intro T569 locs569 v569_0 X569 e569 N569 hv569_0
          show Go p.tables e below P T569 (mkF m 105 #[.val (.int p1), .val (.int p2), .val (.int p3), .val (.int p4), .val (.int kn), .val (.ref r_1), .val (.int (p4 &&& (3 : Int32))), .val (.int v565_0), .val (.int (((p4.toUInt32 >>> ((3 : Int32) &&& 31).toUInt32).toInt32) &&& (3 : Int32))), .val (.int v567_0), .val (.int ((p2 &&& (255 : Int32)).toUInt32.toUInt16.toUInt32.toInt32)), .val (.int ((((p2.toUInt32 >>> ((8 : Int32) &&& 31).toUInt32).toInt32) &&& (255 : Int32)).toUInt32.toUInt16.toUInt32.toInt32)), .val (.int ((((p2.toUInt32 >>> ((16 : Int32) &&& 31).toUInt32).toInt32) &&& (255 : Int32)).toUInt32.toUInt16.toUInt32.toInt32)), .unset, .unset, .unset, .unset, .unset, .unset, .unset, .unset] [(.int v569_0)])
          refine Go.via (fun t k => XS.istore X569.here hx rfl (hb hby at_105) rfl (l' := #[.val (.int p1), .val (.int p2), .val (.int p3), .val (.int p4), .val (.int kn), .val (.ref r_1), .val (.int (p4 &&& (3 : Int32))), .val (.int v565_0), .val (.int (((p4.toUInt32 >>> ((3 : Int32) &&& 31).toUInt32).toInt32) &&& (3 : Int32))), .val (.int v567_0), .val (.int ((p2 &&& (255 : Int32)).toUInt32.toUInt16.toUInt32.toInt32)), .val (.int ((((p2.toUInt32 >>> ((8 : Int32) &&& 31).toUInt32).toInt32) &&& (255 : Int32)).toUInt32.toUInt16.toUInt32.toInt32)), .val (.int ((((p2.toUInt32 >>> ((16 : Int32) &&& 31).toUInt32).toInt32) &&& (255 : Int32)).toUInt32.toUInt16.toUInt32.toInt32)), .val (.int v569_0), .unset, .unset, .unset, .unset, .unset, .unset, .unset]) rfl k) ?_
          refine Go.via (fun t k => XS.iload X569.here hx rfl (hb hby at_107) rfl k) ?_
          show Go p.tables e below P T569 (mkF m 109 #[.val (.int p1), .val (.int p2), .val (.int p3), .val (.int p4), .val (.int kn), .val (.ref r_1), .val (.int (p4 &&& (3 : Int32))), .val (.int v565_0), .val (.int (((p4.toUInt32 >>> ((3 : Int32) &&& 31).toUInt32).toInt32) &&& (3 : Int32))), .val (.int v567_0), .val (.int ((p2 &&& (255 : Int32)).toUInt32.toUInt16.toUInt32.toInt32)), .val (.int ((((p2.toUInt32 >>> ((8 : Int32) &&& 31).toUInt32).toInt32) &&& (255 : Int32)).toUInt32.toUInt16.toUInt32.toInt32)), .val (.int ((((p2.toUInt32 >>> ((16 : Int32) &&& 31).toUInt32).toInt32) &&& (255 : Int32)).toUInt32.toUInt16.toUInt32.toInt32)), .val (.int v569_0), .unset, .unset, .unset, .unset, .unset, .unset, .unset] [(.int v565_0)])
          have J571 : ∀ (T571 : State) (locs571 : List Loc) (v571_0 : Int32), Stand p l e room_1 (s.setVm s.vm) m #[(.int p1), (.int p2), (.int p3), (.int p4)] below meth c T571 locs571 0 0 → T571.heap = h0 → Fr n0 locs571 → v571_0 = (if v565_0 = (0 : Int32) then ((((p3.toUInt32 >>> ((8 : Int32) &&& 31).toUInt32).toInt32) &&& (255 : Int32)).toUInt32.toUInt16.toUInt32.toInt32) else ((((p2.toUInt32 >>> ((8 : Int32) &&& 31).toUInt32).toInt32) &&& (255 : Int32)).toUInt32.toUInt16.toUInt32.toInt32)) → Go p.tables e below P T571 (mkF m 126 #[.val (.int p1), .val (.int p2), .val (.int p3), .val (.int p4), .val (.int kn), .val (.ref r_1), .val (.int (p4 &&& (3 : Int32))), .val (.int v565_0), .val (.int (((p4.toUInt32 >>> ((3 : Int32) &&& 31).toUInt32).toInt32) &&& (3 : Int32))), .val (.int v567_0), .val (.int ((p2 &&& (255 : Int32)).toUInt32.toUInt16.toUInt32.toInt32)), .val (.int ((((p2.toUInt32 >>> ((8 : Int32) &&& 31).toUInt32).toInt32) &&& (255 : Int32)).toUInt32.toUInt16.toUInt32.toInt32)), .val (.int ((((p2.toUInt32 >>> ((16 : Int32) &&& 31).toUInt32).toInt32) &&& (255 : Int32)).toUInt32.toUInt16.toUInt32.toInt32)), .val (.int v569_0), .unset, .unset, .unset, .unset, .unset, .unset, .unset] [(.int v571_0)]) := by
            intro T571 locs571 v571_0 X571 e571 N571 hv571_0
            show Go p.tables e below P T571 (mkF m 126 #[.val (.int p1), .val (.int p2), .val (.int p3), .val (.int p4), .val (.int kn), .val (.ref r_1), .val (.int (p4 &&& (3 : Int32))), .val (.int v565_0), .val (.int (((p4.toUInt32 >>> ((3 : Int32) &&& 31).toUInt32).toInt32) &&& (3 : Int32))), .val (.int v567_0), .val (.int ((p2 &&& (255 : Int32)).toUInt32.toUInt16.toUInt32.toInt32)), .val (.int ((((p2.toUInt32 >>> ((8 : Int32) &&& 31).toUInt32).toInt32) &&& (255 : Int32)).toUInt32.toUInt16.toUInt32.toInt32)), .val (.int ((((p2.toUInt32 >>> ((16 : Int32) &&& 31).toUInt32).toInt32) &&& (255 : Int32)).toUInt32.toUInt16.toUInt32.toInt32)), .val (.int v569_0), .unset, .unset, .unset, .unset, .unset, .unset, .unset] [(.int v571_0)])
            refine Go.via (fun t k => XS.istore X571.here hx rfl (hb hby at_126) rfl (l' := #[.val (.int p1), .val (.int p2), .val (.int p3), .val (.int p4), .val (.int kn), .val (.ref r_1), .val (.int (p4 &&& (3 : Int32))), .val (.int v565_0), .val (.int (((p4.toUInt32 >>> ((3 : Int32) &&& 31).toUInt32).toInt32) &&& (3 : Int32))), .val (.int v567_0), .val (.int ((p2 &&& (255 : Int32)).toUInt32.toUInt16.toUInt32.toInt32)), .val (.int ((((p2.toUInt32 >>> ((8 : Int32) &&& 31).toUInt32).toInt32) &&& (255 : Int32)).toUInt32.toUInt16.toUInt32.toInt32)), .val (.int ((((p2.toUInt32 >>> ((16 : Int32) &&& 31).toUInt32).toInt32) &&& (255 : Int32)).toUInt32.toUInt16.toUInt32.toInt32)), .val (.int v569_0), .val (.int v571_0), .unset, .unset, .unset, .unset, .unset, .unset]) rfl k) ?_
            refine Go.via (fun t k => XS.iload X571.here hx rfl (hb hby at_128) rfl k) ?_
            show Go p.tables e below P T571 (mkF m 130 #[.val (.int p1), .val (.int p2), .val (.int p3), .val (.int p4), .val (.int kn), .val (.ref r_1), .val (.int (p4 &&& (3 : Int32))), .val (.int v565_0), .val (.int (((p4.toUInt32 >>> ((3 : Int32) &&& 31).toUInt32).toInt32) &&& (3 : Int32))), .val (.int v567_0), .val (.int ((p2 &&& (255 : Int32)).toUInt32.toUInt16.toUInt32.toInt32)), .val (.int ((((p2.toUInt32 >>> ((8 : Int32) &&& 31).toUInt32).toInt32) &&& (255 : Int32)).toUInt32.toUInt16.toUInt32.toInt32)), .val (.int ((((p2.toUInt32 >>> ((16 : Int32) &&& 31).toUInt32).toInt32) &&& (255 : Int32)).toUInt32.toUInt16.toUInt32.toInt32)), .val (.int v569_0), .val (.int v571_0), .unset, .unset, .unset, .unset, .unset, .unset] [(.int v565_0)])
            have J573 : ∀ (T573 : State) (locs573 : List Loc) (v573_0 : Int32), Stand p l e room_1 (s.setVm s.vm) m #[(.int p1), (.int p2), (.int p3), (.int p4)] below meth c T573 locs573 0 0 → T573.heap = h0 → Fr n0 locs573 → v573_0 = (if v565_0 = (0 : Int32) then ((((p3.toUInt32 >>> ((16 : Int32) &&& 31).toUInt32).toInt32) &&& (255 : Int32)).toUInt32.toUInt16.toUInt32.toInt32) else ((((p2.toUInt32 >>> ((16 : Int32) &&& 31).toUInt32).toInt32) &&& (255 : Int32)).toUInt32.toUInt16.toUInt32.toInt32)) → Go p.tables e below P T573 (mkF m 147 #[.val (.int p1), .val (.int p2), .val (.int p3), .val (.int p4), .val (.int kn), .val (.ref r_1), .val (.int (p4 &&& (3 : Int32))), .val (.int v565_0), .val (.int (((p4.toUInt32 >>> ((3 : Int32) &&& 31).toUInt32).toInt32) &&& (3 : Int32))), .val (.int v567_0), .val (.int ((p2 &&& (255 : Int32)).toUInt32.toUInt16.toUInt32.toInt32)), .val (.int ((((p2.toUInt32 >>> ((8 : Int32) &&& 31).toUInt32).toInt32) &&& (255 : Int32)).toUInt32.toUInt16.toUInt32.toInt32)), .val (.int ((((p2.toUInt32 >>> ((16 : Int32) &&& 31).toUInt32).toInt32) &&& (255 : Int32)).toUInt32.toUInt16.toUInt32.toInt32)), .val (.int v569_0), .val (.int v571_0), .unset, .unset, .unset, .unset, .unset, .unset] [(.int v573_0)]) := by
              intro T573 locs573 v573_0 X573 e573 N573 hv573_0
              show Go p.tables e below P T573 (mkF m 147 #[.val (.int p1), .val (.int p2), .val (.int p3), .val (.int p4), .val (.int kn), .val (.ref r_1), .val (.int (p4 &&& (3 : Int32))), .val (.int v565_0), .val (.int (((p4.toUInt32 >>> ((3 : Int32) &&& 31).toUInt32).toInt32) &&& (3 : Int32))), .val (.int v567_0), .val (.int ((p2 &&& (255 : Int32)).toUInt32.toUInt16.toUInt32.toInt32)), .val (.int ((((p2.toUInt32 >>> ((8 : Int32) &&& 31).toUInt32).toInt32) &&& (255 : Int32)).toUInt32.toUInt16.toUInt32.toInt32)), .val (.int ((((p2.toUInt32 >>> ((16 : Int32) &&& 31).toUInt32).toInt32) &&& (255 : Int32)).toUInt32.toUInt16.toUInt32.toInt32)), .val (.int v569_0), .val (.int v571_0), .unset, .unset, .unset, .unset, .unset, .unset] [(.int v573_0)])
              refine Go.via (fun t k => XS.istore X573.here hx rfl (hb hby at_147) rfl (l' := #[.val (.int p1), .val (.int p2), .val (.int p3), .val (.int p4), .val (.int kn), .val (.ref r_1), .val (.int (p4 &&& (3 : Int32))), .val (.int v565_0), .val (.int (((p4.toUInt32 >>> ((3 : Int32) &&& 31).toUInt32).toInt32) &&& (3 : Int32))), .val (.int v567_0), .val (.int ((p2 &&& (255 : Int32)).toUInt32.toUInt16.toUInt32.toInt32)), .val (.int ((((p2.toUInt32 >>> ((8 : Int32) &&& 31).toUInt32).toInt32) &&& (255 : Int32)).toUInt32.toUInt16.toUInt32.toInt32)), .val (.int ((((p2.toUInt32 >>> ((16 : Int32) &&& 31).toUInt32).toInt32) &&& (255 : Int32)).toUInt32.toUInt16.toUInt32.toInt32)), .val (.int v569_0), .val (.int v571_0), .val (.int v573_0), .unset, .unset, .unset, .unset, .unset]) rfl k) ?_
              show Go p.tables e below P T573 (mkF m 149 #[.val (.int p1), .val (.int p2), .val (.int p3), .val (.int p4), .val (.int kn), .val (.ref r_1), .val (.int (p4 &&& (3 : Int32))), .val (.int v565_0), .val (.int (((p4.toUInt32 >>> ((3 : Int32) &&& 31).toUInt32).toInt32) &&& (3 : Int32))), .val (.int v567_0), .val (.int ((p2 &&& (255 : Int32)).toUInt32.toUInt16.toUInt32.toInt32)), .val (.int ((((p2.toUInt32 >>> ((8 : Int32) &&& 31).toUInt32).toInt32) &&& (255 : Int32)).toUInt32.toUInt16.toUInt32.toInt32)), .val (.int ((((p2.toUInt32 >>> ((16 : Int32) &&& 31).toUInt32).toInt32) &&& (255 : Int32)).toUInt32.toUInt16.toUInt32.toInt32)), .val (.int v569_0), .val (.int v571_0), .val (.int v573_0), .unset, .unset, .unset, .unset, .unset] [])
              obtain ⟨ca, hca⟩ : ∃ z, z = ((p2 &&& (255 : Int32)).toUInt32.toUInt16.toUInt32.toInt32) := ⟨_, rfl⟩
              rw [← hca]
              have yca : own_by ca := by rw [hca]; exact own_byc _
              obtain ⟨cb, hcb⟩ : ∃ z, z = ((((p2.toUInt32 >>> ((8 : Int32) &&& 31).toUInt32).toInt32) &&& (255 : Int32)).toUInt32.toUInt16.toUInt32.toInt32) := ⟨_, rfl⟩
              rw [← hcb]
              have ycb : own_by cb := by rw [hcb]; exact own_byc _
              obtain ⟨cc, hcc⟩ : ∃ z, z = ((((p2.toUInt32 >>> ((16 : Int32) &&& 31).toUInt32).toInt32) &&& (255 : Int32)).toUInt32.toUInt16.toUInt32.toInt32) := ⟨_, rfl⟩
              rw [← hcc]
              have ycc : own_by cc := by rw [hcc]; exact own_byc _
              obtain ⟨cd, hcd⟩ : ∃ z, z = v569_0 := ⟨_, rfl⟩
              rw [← hcd]
              have ycd : own_by cd := by rw [hcd, hv569_0]; split <;> exact own_byc _
              obtain ⟨ce, hce⟩ : ∃ z, z = v571_0 := ⟨_, rfl⟩
              rw [← hce]
              have yce : own_by ce := by rw [hce, hv571_0]; split <;> exact own_byc _
              obtain ⟨cf, hcf⟩ : ∃ z, z = v573_0 := ⟨_, rfl⟩
              rw [← hcf]
              have ycf : own_by cf := by rw [hcf, hv573_0]; split <;> exact own_byc _
              obtain ⟨na, hna⟩ : ∃ z, z = (p4 &&& (3 : Int32)) := ⟨_, rfl⟩
              rw [← hna]
              have yna : own_four na := by rw [hna]; exact own_n4 _
              obtain ⟨nb, hnb⟩ : ∃ z, z = (((p4.toUInt32 >>> ((3 : Int32) &&& 31).toUInt32).toInt32) &&& (3 : Int32)) := ⟨_, rfl⟩
              rw [← hnb]
              have ynb : own_four nb := by rw [hnb]; exact own_n4 _
              refine Go.via (fun t k => XS.iload X573.here hx rfl (hb hby at_149) rfl k) ?_
              refine Go.via (fun t k => XS.iload X573.here hx rfl (hb hby at_151) rfl k) ?_
              refine Go.via (fun t k => XS.iload X573.here hx rfl (hb hby at_153) rfl k) ?_
              show Go p.tables e below P T573 (mkF m 155 #[.val (.int p1), .val (.int p2), .val (.int p3), .val (.int p4), .val (.int kn), .val (.ref r_1), .val (.int na), .val (.int v565_0), .val (.int nb), .val (.int v567_0), .val (.int ca), .val (.int cb), .val (.int cc), .val (.int cd), .val (.int ce), .val (.int cf), .unset, .unset, .unset, .unset, .unset] [(.int cb), (.int ca), (.int na)])
              refine Go.via (fun t k => XS.iload X573.here hx rfl (hb hby at_155) rfl k) ?_
              show Go p.tables e below P T573 (mkF m 157 #[.val (.int p1), .val (.int p2), .val (.int p3), .val (.int p4), .val (.int kn), .val (.ref r_1), .val (.int na), .val (.int v565_0), .val (.int nb), .val (.int v567_0), .val (.int ca), .val (.int cb), .val (.int cc), .val (.int cd), .val (.int ce), .val (.int cf), .unset, .unset, .unset, .unset, .unset] [(.int cc), (.int cb), (.int ca), (.int na)])
              obtain ⟨_, _, ⟨T574, L574, k574, n574⟩, -, X574, hSn574, hgn574, ⟨Lc574, hQ574, l574, y574, z574, hC574⟩, st574⟩ := callSS X573 hx (y := (⟨"com/example/numeric_planner/numericplanner/rddl/TokenIsPinLaw", "mk", "(ICCC)Ljava/lang/String;"⟩ : MethodName)) hown (mvT hZ (hw _ (List.mem_of_getElem? (i := 8) rfl))) (mvT hZ (hw _ (List.mem_of_getElem? (i := 9) rfl))) (mvT hZ (hw _ (List.mem_of_getElem? (i := 3) rfl))) (mvT hZ (hw _ (List.mem_of_getElem? (i := 10) rfl))) (by decide) (backOfSH (W := 0) (rm2 l Z a0 hw [] na ca cb cc cs h0 n0 Z0 O0 P1 (by first | assumption | decide | omega : ¬ cs = (0 : Int32)) yca ycb ycc) hZ (hw _ (List.mem_of_getElem? (i := 10) rfl)) (hw _ (List.mem_of_getElem? (i := 3) rfl)) (by decide) (by decide) (own_EW hw) CR0.1) (g := (mkF m 157 #[.val (.int p1), .val (.int p2), .val (.int p3), .val (.int p4), .val (.int kn), .val (.ref r_1), .val (.int na), .val (.int v565_0), .val (.int nb), .val (.int v567_0), .val (.int ca), .val (.int cb), .val (.int cc), .val (.int cd), .val (.int ce), .val (.int cf), .unset, .unset, .unset, .unset, .unset] [(.int cc), (.int cb), (.int ca), (.int na)])) rfl (by rw [hml]; rfl) (argsL := [(.int na), (.int ca), (.int cb), (.int cc)]) (rest := []) (lenOf own_pd6 rfl) rfl (by show 2 * 0 + _ ≤ _; exact Nat.le_of_eq rfl) (hb hby at_157) (fun _ _ => ⟨rfl, e573, (by decide : 0 + 6 ≤ _), (by decide : 0 + 12 ≤ _)⟩)
              dsimp only [Pt.U, Pt.locs, Pt.cells, Pt.slots] at X574 l574 y574 z574 st574 hQ574 hSn574 hgn574 hC574
              subst l574 y574 z574
              have hS574 : s.Since T574.vm T574.heap.size := foldS hS0 (by rw [e573]; exact (Nat.zero_le _)) hSn574 hgn574
              have X574 : Stand p l e room_1 (s.setVm T574.vm) m #[(.int p1), (.int p2), (.int p3), (.int p4)] below meth c T574 _ _ _ := X574
              have hown : (s.setVm T574.vm).vm.findClass "com/example/numeric_planner/numericplanner/rddl/TokenIsPinLaw" = some m.cls := by rw [show (s.setVm T574.vm).vm = T574.vm from rfl, hSn574.1.alike.findClass]; exact hown
              have hZ : Z.Warmed39 (s.setVm T574.vm).vm := State.Warmed39.trans (t := s.setVm s.vm) hZ hSn574.1
              obtain ⟨r_574, tb_574, kk_574, rfl, Nq574, K574, fr574_r, u574_0, u574_1, u574_2, u574_3, u574_4, u574_5⟩ := hQ574
              obtain ⟨lc574, Xh574, N574⟩ := own_hide X574 (Fr.app N573 Nq574)
              clear X574
              refine Go.hop st574 ?_
              have CR575 := CHr.trans CR0 hC574
              have g576 : n0 ≤ r_574 := Nat.le_trans Z0 fr574_r
              have sz577 : h0.size ≤ r_574 := Nat.le_trans K0.1 fr574_r
              have Z578 : n0 ≤ T574.heap.size := Nat.le_trans Z0 K574.1
              have K579 : Keep h0 T574.heap [] := K0.trans K574 own_all0
              have O580 : Old Z n0 T574.heap := O0.keep K574 own_all0
              have hk581 : T574.heap.size ≤ T574.heap.size := Nat.le_refl _
              show Go p.tables e below P T574 (mkF m 160 #[.val (.int p1), .val (.int p2), .val (.int p3), .val (.int p4), .val (.int kn), .val (.ref r_1), .val (.int na), .val (.int v565_0), .val (.int nb), .val (.int v567_0), .val (.int ca), .val (.int cb), .val (.int cc), .val (.int cd), .val (.int ce), .val (.int cf), .unset, .unset, .unset, .unset, .unset] [(.ref r_574)])
              refine Go.via (fun t k => XS.astore Xh574.here hx rfl (hb hby at_160) rfl rfl (l' := #[.val (.int p1), .val (.int p2), .val (.int p3), .val (.int p4), .val (.int kn), .val (.ref r_1), .val (.int na), .val (.int v565_0), .val (.int nb), .val (.int v567_0), .val (.int ca), .val (.int cb), .val (.int cc), .val (.int cd), .val (.int ce), .val (.int cf), .val (.ref r_574), .unset, .unset, .unset, .unset]) rfl k) ?_
              refine Go.via (fun t k => XS.iload Xh574.here hx rfl (hb hby at_162) rfl k) ?_
              show Go p.tables e below P T574 (mkF m 164 #[.val (.int p1), .val (.int p2), .val (.int p3), .val (.int p4), .val (.int kn), .val (.ref r_1), .val (.int na), .val (.int v565_0), .val (.int nb), .val (.int v567_0), .val (.int ca), .val (.int cb), .val (.int cc), .val (.int cd), .val (.int ce), .val (.int cf), .val (.ref r_574), .unset, .unset, .unset, .unset] [(.int v567_0)])
              by_cases hc582 : v567_0 = (0 : Int32)
              · refine Go.via (fun t k => XS.ifYes Xh574.here hx rfl (pc0 := 164) (pc' := 171) rfl (hb hby at_164) rfl ((if0 _ _).trans (teq hc582).1) (by decide) (by decide) k) ?_
                show Go p.tables e below P T574 (mkF m 171 #[.val (.int p1), .val (.int p2), .val (.int p3), .val (.int p4), .val (.int kn), .val (.ref r_1), .val (.int na), .val (.int v565_0), .val (.int nb), .val (.int v567_0), .val (.int ca), .val (.int cb), .val (.int cc), .val (.int cd), .val (.int ce), .val (.int cf), .val (.ref r_574), .unset, .unset, .unset, .unset] [])
                refine Go.via (fun t k => XS.iload Xh574.here hx rfl (hb hby at_171) rfl k) ?_
                refine Go.via (fun t k => XS.iload Xh574.here hx rfl (hb hby at_173) rfl k) ?_
                refine Go.via (fun t k => XS.iload Xh574.here hx rfl (hb hby at_175) rfl k) ?_
                show Go p.tables e below P T574 (mkF m 177 #[.val (.int p1), .val (.int p2), .val (.int p3), .val (.int p4), .val (.int kn), .val (.ref r_1), .val (.int na), .val (.int v565_0), .val (.int nb), .val (.int v567_0), .val (.int ca), .val (.int cb), .val (.int cc), .val (.int cd), .val (.int ce), .val (.int cf), .val (.ref r_574), .unset, .unset, .unset, .unset] [(.int ce), (.int cd), (.int nb)])
                refine Go.via (fun t k => XS.iload Xh574.here hx rfl (hb hby at_177) rfl k) ?_
                show Go p.tables e below P T574 (mkF m 179 #[.val (.int p1), .val (.int p2), .val (.int p3), .val (.int p4), .val (.int kn), .val (.ref r_1), .val (.int na), .val (.int v565_0), .val (.int nb), .val (.int v567_0), .val (.int ca), .val (.int cb), .val (.int cc), .val (.int cd), .val (.int ce), .val (.int cf), .val (.ref r_574), .unset, .unset, .unset, .unset] [(.int cf), (.int ce), (.int cd), (.int nb)])
                obtain ⟨_, _, ⟨T583, L583, k583, n583⟩, -, X583, hSn583, hgn583, ⟨Lc583, hQ583, l583, y583, z583, hC583⟩, st583⟩ := callSS Xh574 hx (y := (⟨"com/example/numeric_planner/numericplanner/rddl/TokenIsPinLaw", "mk", "(ICCC)Ljava/lang/String;"⟩ : MethodName)) hown (mvT hZ (hw _ (List.mem_of_getElem? (i := 8) rfl))) (mvT hZ (hw _ (List.mem_of_getElem? (i := 9) rfl))) (mvT hZ (hw _ (List.mem_of_getElem? (i := 3) rfl))) (mvT hZ (hw _ (List.mem_of_getElem? (i := 10) rfl))) (by decide) (backOfSH (W := 0) (rm2 l Z a0 hw [] nb cd ce cf cs T574.heap n0 Z578 O580 P1 (by first | assumption | decide | omega : ¬ cs = (0 : Int32)) ycd yce ycf) hZ (hw _ (List.mem_of_getElem? (i := 10) rfl)) (hw _ (List.mem_of_getElem? (i := 3) rfl)) (by decide) (by decide) (own_EW hw) CR575.1) (g := (mkF m 179 #[.val (.int p1), .val (.int p2), .val (.int p3), .val (.int p4), .val (.int kn), .val (.ref r_1), .val (.int na), .val (.int v565_0), .val (.int nb), .val (.int v567_0), .val (.int ca), .val (.int cb), .val (.int cc), .val (.int cd), .val (.int ce), .val (.int cf), .val (.ref r_574), .unset, .unset, .unset, .unset] [(.int cf), (.int ce), (.int cd), (.int nb)])) rfl (by rw [hml]; rfl) (argsL := [(.int nb), (.int cd), (.int ce), (.int cf)]) (rest := []) (lenOf own_pd6 rfl) rfl (by show 2 * 0 + _ ≤ _; exact Nat.le_of_eq rfl) (hb hby at_179) (fun _ _ => ⟨rfl, rfl, (by decide : 6 + 6 ≤ _), (by decide : 12 + 12 ≤ _)⟩)
                dsimp only [Pt.U, Pt.locs, Pt.cells, Pt.slots] at X583 l583 y583 z583 st583 hQ583 hSn583 hgn583 hC583
                subst l583 y583 z583
                have hS583 : s.Since T583.vm T583.heap.size := foldS hS574 (by exact hk581) hSn583 hgn583
                have X583 : Stand p l e room_1 (s.setVm T583.vm) m #[(.int p1), (.int p2), (.int p3), (.int p4)] below meth c T583 _ _ _ := X583
                have hown : (s.setVm T583.vm).vm.findClass "com/example/numeric_planner/numericplanner/rddl/TokenIsPinLaw" = some m.cls := by rw [show (s.setVm T583.vm).vm = T583.vm from rfl, hSn583.1.alike.findClass]; exact hown
                have hZ : Z.Warmed39 (s.setVm T583.vm).vm := State.Warmed39.trans (t := s.setVm T574.vm) hZ hSn583.1
                obtain ⟨r_583, tb_583, kk_583, rfl, Nq583, K583, fr583_r, u583_0, u583_1, u583_2, u583_3, u583_4, u583_5⟩ := hQ583
                obtain ⟨lc583, Xh583, N583⟩ := own_hide X583 (Fr.app N574 Nq583)
                clear X583
                refine Go.hop st583 ?_
                have CR584 := CHr.trans CR575 hC583
                have ne585 : r_574 ≠ r_583 := Nat.ne_of_lt (Nat.lt_of_lt_of_le u574_0.lt fr583_r)
                have ne586 : tb_574 ≠ r_583 := Nat.ne_of_lt (Nat.lt_of_lt_of_le u574_3.lt fr583_r)
                have g587 : n0 ≤ r_583 := Nat.le_trans Z578 fr583_r
                have sz588 : h0.size ≤ r_583 := Nat.le_trans K579.1 fr583_r
                have Z589 : n0 ≤ T583.heap.size := Nat.le_trans Z578 K583.1
                have K590 : Keep h0 T583.heap [] := K579.trans K583 own_all0
                have O591 : Old Z n0 T583.heap := O580.keep K583 own_all0
                have hk592 : T583.heap.size ≤ T583.heap.size := Nat.le_refl _
                show Go p.tables e below P T583 (mkF m 182 #[.val (.int p1), .val (.int p2), .val (.int p3), .val (.int p4), .val (.int kn), .val (.ref r_1), .val (.int na), .val (.int v565_0), .val (.int nb), .val (.int v567_0), .val (.int ca), .val (.int cb), .val (.int cc), .val (.int cd), .val (.int ce), .val (.int cf), .val (.ref r_574), .unset, .unset, .unset, .unset] [(.ref r_583)])
                refine Go.via (fun t k => XS.astore Xh583.here hx rfl (hb hby at_182) rfl rfl (l' := #[.val (.int p1), .val (.int p2), .val (.int p3), .val (.int p4), .val (.int kn), .val (.ref r_1), .val (.int na), .val (.int v565_0), .val (.int nb), .val (.int v567_0), .val (.int ca), .val (.int cb), .val (.int cc), .val (.int cd), .val (.int ce), .val (.int cf), .val (.ref r_574), .val (.ref r_583), .unset, .unset, .unset]) rfl k) ?_
                show Go p.tables e below P T583 (mkF m 184 #[.val (.int p1), .val (.int p2), .val (.int p3), .val (.int p4), .val (.int kn), .val (.ref r_1), .val (.int na), .val (.int v565_0), .val (.int nb), .val (.int v567_0), .val (.int ca), .val (.int cb), .val (.int cc), .val (.int cd), .val (.int ce), .val (.int cf), .val (.ref r_574), .val (.ref r_583), .unset, .unset, .unset] [])
                have F594 : Exa Z T583.heap r_574 "java/lang/String" := (u574_0.keep K583)
                have F595 : Fld Z T583.heap r_574 "java/lang/String" "value" "[B" (.ref tb_574) := (u574_1.keep K583 own_nin0)
                have F596 : Fld Z T583.heap r_574 "java/lang/String" "coder" "B" (.int (0 : Int32)) := (u574_2.keep K583 own_nin0)
                have F597 : Arv Z T583.heap tb_574 kk_574 .byte (own_lg (own_mk na ca cb cc)) ((own_mk na ca cb cc).map Value.int) (.int (0 : Int32)) := (u574_3.keep K583 own_nin0)
                obtain ⟨T593, h593, X593, e593, E593, A593, D593, -, st593⟩ := newO Xh583 hx hZ hown (hw _ (List.mem_of_getElem? (i := 44) rfl)) (hw _ (List.mem_of_getElem? (i := 45) rfl)) (hw _ (List.mem_of_getElem? (i := 46) rfl)) rfl (g := (mkF m 184 #[.val (.int p1), .val (.int p2), .val (.int p3), .val (.int p4), .val (.int kn), .val (.ref r_1), .val (.int na), .val (.int v565_0), .val (.int nb), .val (.int v567_0), .val (.int ca), .val (.int cb), .val (.int cc), .val (.int cd), .val (.int ce), .val (.int cf), .val (.ref r_574), .val (.ref r_583), .unset, .unset, .unset] [])) rfl (hb hby at_184) (by decide) (by decide)
                obtain ⟨b593, g593⟩ : ∃ z, z = T583.heap.size := ⟨_, rfl⟩
                rw [← g593] at A593 D593 st593
                refine Go.via st593 ?_
                have ne598 : r_574 ≠ b593 := Nat.ne_of_lt (Nat.lt_of_lt_of_le F594.lt (Nat.le_of_eq g593.symm))
                have ne599 : tb_574 ≠ b593 := Nat.ne_of_lt (Nat.lt_of_lt_of_le F597.lt (Nat.le_of_eq g593.symm))
                have ne600 : r_583 ≠ b593 := Nat.ne_of_lt (Nat.lt_of_lt_of_le u583_0.lt (Nat.le_of_eq g593.symm))
                have ne601 : tb_583 ≠ b593 := Nat.ne_of_lt (Nat.lt_of_lt_of_le u583_3.lt (Nat.le_of_eq g593.symm))
                have g602 : n0 ≤ b593 := Nat.le_trans Z589 (Nat.le_of_eq g593.symm)
                have sz603 : h0.size ≤ b593 := Nat.le_trans K590.1 (Nat.le_of_eq g593.symm)
                have Z604 : n0 ≤ h593.size := Nat.le_trans Z589 E593.1
                have K605 : Keep h0 h593 [] := K590.ext E593
                have O606 : Old Z n0 h593 := O591.ext E593
                have CR607 := CHr.trans CR584 (CHr.ext E593 CR584.1)
                have hk608 := Nat.le_trans hk592 E593.1
                show Go p.tables e below P T593 (mkF m 187 #[.val (.int p1), .val (.int p2), .val (.int p3), .val (.int p4), .val (.int kn), .val (.ref r_1), .val (.int na), .val (.int v565_0), .val (.int nb), .val (.int v567_0), .val (.int ca), .val (.int cb), .val (.int cc), .val (.int cd), .val (.int ce), .val (.int cf), .val (.ref r_574), .val (.ref r_583), .unset, .unset, .unset] [(.ref b593)])
                refine Go.via (fun t k => XS.dup X593.here hx rfl (hb hby at_187) rfl rfl k) ?_
                refine Go.via (fun t k => XS.aload X593.here hx rfl (hb hby at_188) rfl rfl k) ?_
                refine Go.via (fun t k => XS.aload X593.here hx rfl (hb hby at_190) rfl rfl k) ?_
                show Go p.tables e below P T593 (mkF m 192 #[.val (.int p1), .val (.int p2), .val (.int p3), .val (.int p4), .val (.int kn), .val (.ref r_1), .val (.int na), .val (.int v565_0), .val (.int nb), .val (.int v567_0), .val (.int ca), .val (.int cb), .val (.int cc), .val (.int cd), .val (.int ce), .val (.int cf), .val (.ref r_574), .val (.ref r_583), .unset, .unset, .unset] [(.ref r_574), (.ref r_1), (.ref b593), (.ref b593)])
                have F610 : Exa Z h593 r_574 "java/lang/String" := (F594.ext E593)
                have F611 : Fld Z h593 r_574 "java/lang/String" "value" "[B" (.ref tb_574) := (F595.ext E593)
                have F612 : Fld Z h593 r_574 "java/lang/String" "coder" "B" (.int (0 : Int32)) := (F596.ext E593)
                have F613 : Arv Z h593 tb_574 kk_574 .byte (own_lg (own_mk na ca cb cc)) ((own_mk na ca cb cc).map Value.int) (.int (0 : Int32)) := (F597.ext E593)
                have F614 : Exa Z h593 r_583 "java/lang/String" := (u583_0.ext E593)
                have F615 : Fld Z h593 r_583 "java/lang/String" "value" "[B" (.ref tb_583) := (u583_1.ext E593)
                have F616 : Fld Z h593 r_583 "java/lang/String" "coder" "B" (.int (0 : Int32)) := (u583_2.ext E593)
                have F617 : Arv Z h593 tb_583 kk_583 .byte (own_lg (own_mk nb cd ce cf)) ((own_mk nb cd ce cf).map Value.int) (.int (0 : Int32)) := (u583_3.ext E593)
                obtain ⟨T609, h609, X609, e609, E609, A609, D609, -, st609⟩ := newO X593 hx hZ hown (hw _ (List.mem_of_getElem? (i := 47) rfl)) (hw _ (List.mem_of_getElem? (i := 48) rfl)) (hw _ (List.mem_of_getElem? (i := 49) rfl)) e593 (g := (mkF m 192 #[.val (.int p1), .val (.int p2), .val (.int p3), .val (.int p4), .val (.int kn), .val (.ref r_1), .val (.int na), .val (.int v565_0), .val (.int nb), .val (.int v567_0), .val (.int ca), .val (.int cb), .val (.int cc), .val (.int cd), .val (.int ce), .val (.int cf), .val (.ref r_574), .val (.ref r_583), .unset, .unset, .unset] [(.ref r_574), (.ref r_1), (.ref b593), (.ref b593)])) rfl (hb hby at_192) (by decide) (by decide)
                obtain ⟨b609, g609⟩ : ∃ z, z = h593.size := ⟨_, rfl⟩
                rw [← g609] at A609 D609 st609
                refine Go.via st609 ?_
                have ne618 : r_574 ≠ b609 := Nat.ne_of_lt (Nat.lt_of_lt_of_le F610.lt (Nat.le_of_eq g609.symm))
                have ne619 : tb_574 ≠ b609 := Nat.ne_of_lt (Nat.lt_of_lt_of_le F613.lt (Nat.le_of_eq g609.symm))
                have ne620 : r_583 ≠ b609 := Nat.ne_of_lt (Nat.lt_of_lt_of_le F614.lt (Nat.le_of_eq g609.symm))
                have ne621 : tb_583 ≠ b609 := Nat.ne_of_lt (Nat.lt_of_lt_of_le F617.lt (Nat.le_of_eq g609.symm))
                have ne622 : b593 ≠ b609 := Nat.ne_of_lt (Nat.lt_of_lt_of_le A593.lt (Nat.le_of_eq g609.symm))
                have g623 : n0 ≤ b609 := Nat.le_trans Z604 (Nat.le_of_eq g609.symm)
                have sz624 : h0.size ≤ b609 := Nat.le_trans K605.1 (Nat.le_of_eq g609.symm)
                have Z625 : n0 ≤ h609.size := Nat.le_trans Z604 E609.1
                have K626 : Keep h0 h609 [] := K605.ext E609
                have O627 : Old Z n0 h609 := O606.ext E609
                have CR628 := CHr.trans CR607 (CHr.ext E609 CR607.1)
                have hk629 := Nat.le_trans hk608 E609.1
                show Go p.tables e below P T609 (mkF m 195 #[.val (.int p1), .val (.int p2), .val (.int p3), .val (.int p4), .val (.int kn), .val (.ref r_1), .val (.int na), .val (.int v565_0), .val (.int nb), .val (.int v567_0), .val (.int ca), .val (.int cb), .val (.int cc), .val (.int cd), .val (.int ce), .val (.int cf), .val (.ref r_574), .val (.ref r_583), .unset, .unset, .unset] [(.ref b609), (.ref r_574), (.ref r_1), (.ref b593), (.ref b593)])
                refine Go.via (fun t k => XS.dup X609.here hx rfl (hb hby at_195) rfl rfl k) ?_
                show Go p.tables e below P T609 (mkF m 196 #[.val (.int p1), .val (.int p2), .val (.int p3), .val (.int p4), .val (.int kn), .val (.ref r_1), .val (.int na), .val (.int v565_0), .val (.int nb), .val (.int v567_0), .val (.int ca), .val (.int cb), .val (.int cc), .val (.int cd), .val (.int ce), .val (.int cf), .val (.ref r_574), .val (.ref r_583), .unset, .unset, .unset] [(.ref b609), (.ref b609), (.ref r_574), (.ref r_1), (.ref b593), (.ref b593)])
                have F630 : Exa Z h609 r_574 "java/lang/String" := (F610.ext E609)
                have F631 : Fld Z h609 r_574 "java/lang/String" "value" "[B" (.ref tb_574) := (F611.ext E609)
                have F632 : Fld Z h609 r_574 "java/lang/String" "coder" "B" (.int (0 : Int32)) := (F612.ext E609)
                have F633 : Arv Z h609 tb_574 kk_574 .byte (own_lg (own_mk na ca cb cc)) ((own_mk na ca cb cc).map Value.int) (.int (0 : Int32)) := (F613.ext E609)
                have F634 : Exa Z h609 r_583 "java/lang/String" := (F614.ext E609)
                have F635 : Fld Z h609 r_583 "java/lang/String" "value" "[B" (.ref tb_583) := (F615.ext E609)
                have F636 : Fld Z h609 r_583 "java/lang/String" "coder" "B" (.int (0 : Int32)) := (F616.ext E609)
                have F637 : Arv Z h609 tb_583 kk_583 .byte (own_lg (own_mk nb cd ce cf)) ((own_mk nb cd ce cf).map Value.int) (.int (0 : Int32)) := (F617.ext E609)
                have F638 : Exa Z h609 b593 "com/example/numeric_planner/numericplanner/rddl/Token" := (A593.ext E609)
                have F639 : Fld Z h609 b593 "com/example/numeric_planner/numericplanner/rddl/Token" "kind" "Lcom/example/numeric_planner/numericplanner/rddl/Token$Kind;" .null := ((D593 (Or.inr (hw _ (List.mem_of_getElem? (i := 69) rfl))) (ty := (.object "com/example/numeric_planner/numericplanner/rddl/Token$Kind")) (by decide) : Fld Z h593 b593 "com/example/numeric_planner/numericplanner/rddl/Token" "kind" "Lcom/example/numeric_planner/numericplanner/rddl/Token$Kind;" .null).ext E609)
                have F640 : Fld Z h609 b593 "com/example/numeric_planner/numericplanner/rddl/Token" "text" "Ljava/lang/String;" .null := ((D593 (Or.inr (hw _ (List.mem_of_getElem? (i := 71) rfl))) (ty := (.object "java/lang/String")) (by decide) : Fld Z h593 b593 "com/example/numeric_planner/numericplanner/rddl/Token" "text" "Ljava/lang/String;" .null).ext E609)
                have F641 : Fld Z h609 b593 "com/example/numeric_planner/numericplanner/rddl/Token" "location" "Lcom/example/numeric_planner/numericplanner/rddl/Location;" .null := ((D593 (Or.inr (hw _ (List.mem_of_getElem? (i := 73) rfl))) (ty := (.object "com/example/numeric_planner/numericplanner/rddl/Location")) (by decide) : Fld Z h593 b593 "com/example/numeric_planner/numericplanner/rddl/Token" "location" "Lcom/example/numeric_planner/numericplanner/rddl/Location;" .null).ext E609)
                obtain ⟨a642, T642, h642, kn642, b642, kb642, X642, e642, E642, hS642, hk642, hZ, hown, Ex642, Fc642, Fv642, Va642, lta642, ltb642, hC642, -, ne642, st642⟩ := ldcCH X609 hx hZ hown (hw _ (List.mem_of_getElem? (i := 50) rfl)) (own_sa hw) e609 hS583 hk629 (own_EW hw) (by decide : (("com/example/numeric_planner/numericplanner/rddl/TokenIsPinLaw", 22) : String × Nat) ∈ consts_1) CR628.1 (vs := [(.int (102 : Int32))]) (z := (1 : Int32)) ⟨by decide, rfl⟩ (by decide) rfl (g := (mkF m 196 #[.val (.int p1), .val (.int p2), .val (.int p3), .val (.int p4), .val (.int kn), .val (.ref r_1), .val (.int na), .val (.int v565_0), .val (.int nb), .val (.int v567_0), .val (.int ca), .val (.int cb), .val (.int cc), .val (.int cd), .val (.int ce), .val (.int cf), .val (.ref r_574), .val (.ref r_583), .unset, .unset, .unset] [(.ref b609), (.ref b609), (.ref r_574), (.ref r_1), (.ref b593), (.ref b593)])) rfl (hb hby at_196) (n := 4) (by decide) (by decide) (by decide) (by decide)
                refine Go.via st642 ?_
                have CR643 := CHr.trans CR628 hC642
                have Z644 : n0 ≤ h642.size := Nat.le_trans Z625 E642.1
                have K645 : Keep h0 h642 [] := K626.ext E642
                have O646 : Old Z n0 h642 := O627.ext E642
                have F647 : Exa Z h642 b593 "com/example/numeric_planner/numericplanner/rddl/Token" := (F638.ext E642)
                have nq648 := (ne642 _ (Safe.exa hZ.alike F647 (by decide) (by decide))).1
                have nq649 := (ne642 _ (Safe.exa hZ.alike F647 (by decide) (by decide))).2
                have F650 : Exa Z h642 b609 "com/example/numeric_planner/numericplanner/rddl/Location" := (A609.ext E642)
                have nq651 := (ne642 _ (Safe.exa hZ.alike F650 (by decide) (by decide))).1
                have nq652 := (ne642 _ (Safe.exa hZ.alike F650 (by decide) (by decide))).2
                show Go p.tables e below P T642 (mkF m 198 #[.val (.int p1), .val (.int p2), .val (.int p3), .val (.int p4), .val (.int kn), .val (.ref r_1), .val (.int na), .val (.int v565_0), .val (.int nb), .val (.int v567_0), .val (.int ca), .val (.int cb), .val (.int cc), .val (.int cd), .val (.int ce), .val (.int cf), .val (.ref r_574), .val (.ref r_583), .unset, .unset, .unset] [(.ref a642), (.ref b609), (.ref b609), (.ref r_574), (.ref r_1), (.ref b593), (.ref b593)])
                refine Go.via (fun t k => XS.iloadN X642.here hx rfl (hb hby at_198) rfl k) ?_
                show Go p.tables e below P T642 (mkF m 199 #[.val (.int p1), .val (.int p2), .val (.int p3), .val (.int p4), .val (.int kn), .val (.ref r_1), .val (.int na), .val (.int v565_0), .val (.int nb), .val (.int v567_0), .val (.int ca), .val (.int cb), .val (.int cc), .val (.int cd), .val (.int ce), .val (.int cf), .val (.ref r_574), .val (.ref r_583), .unset, .unset, .unset] [(.int p1), (.ref a642), (.ref b609), (.ref b609), (.ref r_574), (.ref r_1), (.ref b593), (.ref b593)])
                have F653 : Fld Z h642 b609 "com/example/numeric_planner/numericplanner/rddl/Location" "file" "Ljava/lang/String;" .null := ((D609 (Or.inr (hw _ (List.mem_of_getElem? (i := 61) rfl))) (ty := (.object "java/lang/String")) (by decide) : Fld Z h609 b609 "com/example/numeric_planner/numericplanner/rddl/Location" "file" "Ljava/lang/String;" .null).ext E642)
                have F654 : Fld Z h642 b609 "com/example/numeric_planner/numericplanner/rddl/Location" "line" "I" (.int (0 : Int32)) := ((D609 (Or.inr (hw _ (List.mem_of_getElem? (i := 63) rfl))) (ty := .int) (by decide) : Fld Z h609 b609 "com/example/numeric_planner/numericplanner/rddl/Location" "line" "I" (.int (0 : Int32))).ext E642)
                have F655 : Exa Z h642 r_574 "java/lang/String" := (F630.ext E642)
                have F656 : Fld Z h642 r_574 "java/lang/String" "value" "[B" (.ref tb_574) := (F631.ext E642)
                have F657 : Fld Z h642 r_574 "java/lang/String" "coder" "B" (.int (0 : Int32)) := (F632.ext E642)
                have F658 : Arv Z h642 tb_574 kk_574 .byte (own_lg (own_mk na ca cb cc)) ((own_mk na ca cb cc).map Value.int) (.int (0 : Int32)) := (F633.ext E642)
                have F659 : Exa Z h642 r_583 "java/lang/String" := (F634.ext E642)
                have F660 : Fld Z h642 r_583 "java/lang/String" "value" "[B" (.ref tb_583) := (F635.ext E642)
                have F661 : Fld Z h642 r_583 "java/lang/String" "coder" "B" (.int (0 : Int32)) := (F636.ext E642)
                have F662 : Arv Z h642 tb_583 kk_583 .byte (own_lg (own_mk nb cd ce cf)) ((own_mk nb cd ce cf).map Value.int) (.int (0 : Int32)) := (F637.ext E642)
                have F663 : Fld Z h642 b593 "com/example/numeric_planner/numericplanner/rddl/Token" "kind" "Lcom/example/numeric_planner/numericplanner/rddl/Token$Kind;" .null := (F639.ext E642)
                have F664 : Fld Z h642 b593 "com/example/numeric_planner/numericplanner/rddl/Token" "text" "Ljava/lang/String;" .null := (F640.ext E642)
                have F665 : Fld Z h642 b593 "com/example/numeric_planner/numericplanner/rddl/Token" "location" "Lcom/example/numeric_planner/numericplanner/rddl/Location;" .null := (F641.ext E642)
                obtain ⟨_, _, ⟨T666, L666, k666, n666⟩, -, X666, ⟨Lc666, hQ666, l666, y666, z666⟩, st666⟩ := X642.specialBack hx (y := (⟨"com/example/numeric_planner/numericplanner/rddl/Location", "<init>", "(Ljava/lang/String;I)V"⟩ : MethodName)) rfl hown (mvT hZ (hw _ (List.mem_of_getElem? (i := 51) rfl))) (mvT hZ (hw _ (List.mem_of_getElem? (i := 52) rfl))) (mvT hZ (hw _ (List.mem_of_getElem? (i := 53) rfl))) (by decide) (backOf (W := 5) (rm9 l Z a0 hw [] b609 a642 p1 h642 n0 Z644 F650 F653 F654 g623) hZ (hw _ (List.mem_of_getElem? (i := 53) rfl)) (hw _ (List.mem_of_getElem? (i := 49) rfl)) (by decide) (by decide)) (g := (mkF m 199 #[.val (.int p1), .val (.int p2), .val (.int p3), .val (.int p4), .val (.int kn), .val (.ref r_1), .val (.int na), .val (.int v565_0), .val (.int nb), .val (.int v567_0), .val (.int ca), .val (.int cb), .val (.int cc), .val (.int cd), .val (.int ce), .val (.int cf), .val (.ref r_574), .val (.ref r_583), .unset, .unset, .unset] [(.int p1), (.ref a642), (.ref b609), (.ref b609), (.ref r_574), (.ref r_1), (.ref b593), (.ref b593)])) rfl (by rw [hml]; rfl) (Steps.refl _) (a := b609) (argsL := [(.ref a642), (.int p1)]) (rest := [(.ref b609), (.ref r_574), (.ref r_1), (.ref b593), (.ref b593)]) (lenOf own_pd7 rfl) rfl (by show 2 * 0 + _ ≤ _; exact Nat.le_of_eq rfl) (hb hby at_199) (fun _ _ => ⟨rfl, e642, (by decide : 16 + 0 ≤ _), (by decide : 37 + 0 ≤ _)⟩)
                dsimp only [Pt.U, Pt.locs, Pt.cells, Pt.slots] at X666 l666 y666 z666 st666 hQ666
                subst l666 y666 z666
                obtain ⟨rfl, Nq666, K666, u666_0⟩ := hQ666
                obtain ⟨lc666, Xh666, N666⟩ := own_hide X666 (Fr.app N583 Nq666)
                clear X666
                refine Go.hop st666 ?_
                have Z667 : n0 ≤ T666.heap.size := Nat.le_trans Z644 K666.1
                have K668 : Keep h0 T666.heap [] := K645.trans K666 (own_allC (Or.inr sz624) own_all0)
                have CR669 := CHr.trans CR643 (CHr.keep K666 (sfS (Safe.exa hZ.alike F650 (by decide) (by decide)) sf0) CR643.1)
                have hk670 := Nat.le_trans hk642 K666.1
                have O671 : Old Z n0 T666.heap := O646.keep K666 (own_allC g623 own_all0)
                show Go p.tables e below P T666 (mkF m 202 #[.val (.int p1), .val (.int p2), .val (.int p3), .val (.int p4), .val (.int kn), .val (.ref r_1), .val (.int na), .val (.int v565_0), .val (.int nb), .val (.int v567_0), .val (.int ca), .val (.int cb), .val (.int cc), .val (.int cd), .val (.int ce), .val (.int cf), .val (.ref r_574), .val (.ref r_583), .unset, .unset, .unset] [(.ref b609), (.ref r_574), (.ref r_1), (.ref b593), (.ref b593)])
                have F672 : Exa Z T666.heap b593 "com/example/numeric_planner/numericplanner/rddl/Token" := (F647.keep K666)
                have F673 : Fld Z T666.heap b593 "com/example/numeric_planner/numericplanner/rddl/Token" "kind" "Lcom/example/numeric_planner/numericplanner/rddl/Token$Kind;" .null := (F663.keep K666 (own_ninC ne622 own_nin0))
                have F674 : Fld Z T666.heap b593 "com/example/numeric_planner/numericplanner/rddl/Token" "text" "Ljava/lang/String;" .null := (F664.keep K666 (own_ninC ne622 own_nin0))
                have F675 : Fld Z T666.heap b593 "com/example/numeric_planner/numericplanner/rddl/Token" "location" "Lcom/example/numeric_planner/numericplanner/rddl/Location;" .null := (F665.keep K666 (own_ninC ne622 own_nin0))
                have F676 : Exa Z T666.heap r_574 "java/lang/String" := (F655.keep K666)
                have F677 : Fld Z T666.heap r_574 "java/lang/String" "value" "[B" (.ref tb_574) := (F656.keep K666 (own_ninC ne618 own_nin0))
                have F678 : Fld Z T666.heap r_574 "java/lang/String" "coder" "B" (.int (0 : Int32)) := (F657.keep K666 (own_ninC ne618 own_nin0))
                have F679 : Arv Z T666.heap tb_574 kk_574 .byte (own_lg (own_mk na ca cb cc)) ((own_mk na ca cb cc).map Value.int) (.int (0 : Int32)) := (F658.keep K666 (own_ninC ne619 own_nin0))
                have F680 : Exa Z T666.heap r_583 "java/lang/String" := (F659.keep K666)
                have F681 : Fld Z T666.heap r_583 "java/lang/String" "value" "[B" (.ref tb_583) := (F660.keep K666 (own_ninC ne620 own_nin0))
                have F682 : Fld Z T666.heap r_583 "java/lang/String" "coder" "B" (.int (0 : Int32)) := (F661.keep K666 (own_ninC ne620 own_nin0))
                have F683 : Arv Z T666.heap tb_583 kk_583 .byte (own_lg (own_mk nb cd ce cf)) ((own_mk nb cd ce cf).map Value.int) (.int (0 : Int32)) := (F662.keep K666 (own_ninC ne621 own_nin0))
                have F684 : Exa Z T666.heap a642 "java/lang/String" := (Ex642.keep K666)
                have F685 : Fld Z T666.heap a642 "java/lang/String" "coder" "B" (.int (0 : Int32)) := (Fc642.keep K666 (own_ninC (Ne.symm nq651) own_nin0))
                have F686 : Fld Z T666.heap a642 "java/lang/String" "value" "[B" (.ref b642) := (Fv642.keep K666 (own_ninC (Ne.symm nq651) own_nin0))
                have F687 : Arv Z T666.heap b642 kb642 .byte (1 : Int32) [(.int (102 : Int32))] (.int (0 : Int32)) := (Va642.keep K666 (own_ninC (Ne.symm nq652) own_nin0))
                obtain ⟨_, _, ⟨T688, L688, k688, n688⟩, -, X688, ⟨Lc688, hQ688, l688, y688, z688⟩, st688⟩ := Xh666.specialBack hx (y := (⟨"com/example/numeric_planner/numericplanner/rddl/Token", "<init>", "(Lcom/example/numeric_planner/numericplanner/rddl/Token$Kind;Ljava/lang/String;Lcom/example/numeric_planner/numericplanner/rddl/Location;)V"⟩ : MethodName)) rfl hown (mvT hZ (hw _ (List.mem_of_getElem? (i := 64) rfl))) (mvT hZ (hw _ (List.mem_of_getElem? (i := 65) rfl))) (mvT hZ (hw _ (List.mem_of_getElem? (i := 66) rfl))) (by decide) (backOf (W := 1) (rm11 l Z a0 hw [] b593 r_1 r_574 b609 T666.heap n0 Z667 F672 F673 F674 F675 g602) hZ (hw _ (List.mem_of_getElem? (i := 66) rfl)) (hw _ (List.mem_of_getElem? (i := 46) rfl)) (by decide) (by decide)) (g := (mkF m 202 #[.val (.int p1), .val (.int p2), .val (.int p3), .val (.int p4), .val (.int kn), .val (.ref r_1), .val (.int na), .val (.int v565_0), .val (.int nb), .val (.int v567_0), .val (.int ca), .val (.int cb), .val (.int cc), .val (.int cd), .val (.int ce), .val (.int cf), .val (.ref r_574), .val (.ref r_583), .unset, .unset, .unset] [(.ref b609), (.ref r_574), (.ref r_1), (.ref b593), (.ref b593)])) rfl (by rw [hml]; rfl) (Steps.refl _) (a := b593) (argsL := [(.ref r_1), (.ref r_574), (.ref b609)]) (rest := [(.ref b593)]) (lenOf own_pd8 rfl) rfl (by show 2 * 0 + _ ≤ _; exact Nat.le_of_eq rfl) (hb hby at_202) (fun _ _ => ⟨rfl, rfl, (by decide : 16 + 0 ≤ _), (by decide : 37 + 0 ≤ _)⟩)
                dsimp only [Pt.U, Pt.locs, Pt.cells, Pt.slots] at X688 l688 y688 z688 st688 hQ688
                subst l688 y688 z688
                obtain ⟨rfl, Nq688, K688, u688_0, u688_1, u688_2, u688_3⟩ := hQ688
                obtain ⟨lc688, Xh688, N688⟩ := own_hide X688 (Fr.app N666 Nq688)
                clear X688
                refine Go.hop st688 ?_
                have Z689 : n0 ≤ T688.heap.size := Nat.le_trans Z667 K688.1
                have K690 : Keep h0 T688.heap [] := K668.trans K688 (own_allC (Or.inr sz603) own_all0)
                have CR691 := CHr.trans CR669 (CHr.keep K688 (sfS (Safe.exa hZ.alike F672 (by decide) (by decide)) sf0) CR669.1)
                have hk692 := Nat.le_trans hk670 K688.1
                have O693 : Old Z n0 T688.heap := O671.keep K688 (own_allC g602 own_all0)
                show Go p.tables e below P T688 (mkF m 205 #[.val (.int p1), .val (.int p2), .val (.int p3), .val (.int p4), .val (.int kn), .val (.ref r_1), .val (.int na), .val (.int v565_0), .val (.int nb), .val (.int v567_0), .val (.int ca), .val (.int cb), .val (.int cc), .val (.int cd), .val (.int ce), .val (.int cf), .val (.ref r_574), .val (.ref r_583), .unset, .unset, .unset] [(.ref b593)])
                refine Go.via (fun t k => XS.astore Xh688.here hx rfl (hb hby at_205) rfl rfl (l' := #[.val (.int p1), .val (.int p2), .val (.int p3), .val (.int p4), .val (.int kn), .val (.ref r_1), .val (.int na), .val (.int v565_0), .val (.int nb), .val (.int v567_0), .val (.int ca), .val (.int cb), .val (.int cc), .val (.int cd), .val (.int ce), .val (.int cf), .val (.ref r_574), .val (.ref r_583), .val (.ref b593), .unset, .unset]) rfl k) ?_
                refine Go.via (fun t k => XS.iload Xh688.here hx rfl (hb hby at_207) rfl k) ?_
                refine Go.via (fun t k => XS.iload Xh688.here hx rfl (hb hby at_209) rfl k) ?_
                show Go p.tables e below P T688 (mkF m 211 #[.val (.int p1), .val (.int p2), .val (.int p3), .val (.int p4), .val (.int kn), .val (.ref r_1), .val (.int na), .val (.int v565_0), .val (.int nb), .val (.int v567_0), .val (.int ca), .val (.int cb), .val (.int cc), .val (.int cd), .val (.int ce), .val (.int cf), .val (.ref r_574), .val (.ref r_583), .val (.ref b593), .unset, .unset] [(.int nb), (.int na)])
                have LP695 : ∀ (T695 : State) (locs695 : List Loc) (ev : Int32), Stand p l e room_1 (s.setVm T642.vm) m #[(.int p1), (.int p2), (.int p3), (.int p4)] below meth c T695 locs695 16 37 → T695.heap = T688.heap → Fr n0 locs695 → ev = (if own_mk na ca cb cc = own_mk nb cd ce cf then (1 : Int32) else (0 : Int32)) → Go p.tables e below P T695 (mkF m 258 #[.val (.int p1), .val (.int p2), .val (.int p3), .val (.int p4), .val (.int kn), .val (.ref r_1), .val (.int na), .val (.int v565_0), .val (.int nb), .val (.int v567_0), .val (.int ca), .val (.int cb), .val (.int cc), .val (.int cd), .val (.int ce), .val (.int cf), .val (.ref r_574), .val (.ref r_583), .val (.ref b593), .unset, .unset] [(.int ev)]) := by
                  intro T695 locs695 ev X695 e695 N695 hev
                  show Go p.tables e below P T695 (mkF m 258 #[.val (.int p1), .val (.int p2), .val (.int p3), .val (.int p4), .val (.int kn), .val (.ref r_1), .val (.int na), .val (.int v565_0), .val (.int nb), .val (.int v567_0), .val (.int ca), .val (.int cb), .val (.int cc), .val (.int cd), .val (.int ce), .val (.int cf), .val (.ref r_574), .val (.ref r_583), .val (.ref b593), .unset, .unset] [(.int ev)])
                  refine Go.via (fun t k => XS.istore X695.here hx rfl (hb hby at_258) rfl (l' := #[.val (.int p1), .val (.int p2), .val (.int p3), .val (.int p4), .val (.int kn), .val (.ref r_1), .val (.int na), .val (.int v565_0), .val (.int nb), .val (.int v567_0), .val (.int ca), .val (.int cb), .val (.int cc), .val (.int cd), .val (.int ce), .val (.int cf), .val (.ref r_574), .val (.ref r_583), .val (.ref b593), .val (.int ev), .unset]) rfl k) ?_
                  refine Go.via (fun t k => XS.iload X695.here hx rfl (hb hby at_260) rfl k) ?_
                  show Go p.tables e below P T695 (mkF m 262 #[.val (.int p1), .val (.int p2), .val (.int p3), .val (.int p4), .val (.int kn), .val (.ref r_1), .val (.int na), .val (.int v565_0), .val (.int nb), .val (.int v567_0), .val (.int ca), .val (.int cb), .val (.int cc), .val (.int cd), .val (.int ce), .val (.int cf), .val (.ref r_574), .val (.ref r_583), .val (.ref b593), .val (.int ev), .unset] [(.int kn)])
                  refine Go.via (fun t k => XS.ifNo X695.here hx rfl (hb hby at_262) rfl ((if0 _ _).trans (feq c2).1) k) ?_
                  show Go p.tables e below P T695 (mkF m 265 #[.val (.int p1), .val (.int p2), .val (.int p3), .val (.int p4), .val (.int kn), .val (.ref r_1), .val (.int na), .val (.int v565_0), .val (.int nb), .val (.int v567_0), .val (.int ca), .val (.int cb), .val (.int cc), .val (.int cd), .val (.int ce), .val (.int cf), .val (.ref r_574), .val (.ref r_583), .val (.ref b593), .val (.int ev), .unset] [])
                  refine Go.via (fun t k => XS.iload X695.here hx rfl (hb hby at_265) rfl k) ?_
                  refine Go.via (fun t k => XS.iconst X695.here hx rfl (hb hby at_267) k) ?_
                  show Go p.tables e below P T695 (mkF m 268 #[.val (.int p1), .val (.int p2), .val (.int p3), .val (.int p4), .val (.int kn), .val (.ref r_1), .val (.int na), .val (.int v565_0), .val (.int nb), .val (.int v567_0), .val (.int ca), .val (.int cb), .val (.int cc), .val (.int cd), .val (.int ce), .val (.int cf), .val (.ref r_574), .val (.ref r_583), .val (.ref b593), .val (.int ev), .unset] [(.int (3 : Int32)), (.int kn)])
                  refine Go.via (fun t k => XS.icmpYes X695.here hx rfl (pc0 := 268) (pc' := 285) rfl (hb hby at_268) rfl (feq c3).2 (by decide) (by decide) k) ?_
                  show Go p.tables e below P T695 (mkF m 285 #[.val (.int p1), .val (.int p2), .val (.int p3), .val (.int p4), .val (.int kn), .val (.ref r_1), .val (.int na), .val (.int v565_0), .val (.int nb), .val (.int v567_0), .val (.int ca), .val (.int cb), .val (.int cc), .val (.int cd), .val (.int ce), .val (.int cf), .val (.ref r_574), .val (.ref r_583), .val (.ref b593), .val (.int ev), .unset] [])
                  refine Go.via (fun t k => XS.iconst X695.here hx rfl (hb hby at_285) k) ?_
                  refine Go.via (fun t k => XS.istore X695.here hx rfl (hb hby at_286) rfl (l' := #[.val (.int p1), .val (.int p2), .val (.int p3), .val (.int p4), .val (.int kn), .val (.ref r_1), .val (.int na), .val (.int v565_0), .val (.int nb), .val (.int v567_0), .val (.int ca), .val (.int cb), .val (.int cc), .val (.int cd), .val (.int ce), .val (.int cf), .val (.ref r_574), .val (.ref r_583), .val (.ref b593), .val (.int ev), .val (.int (0 : Int32))]) rfl k) ?_
                  refine Go.via (fun t k => XS.aload X695.here hx rfl (hb hby at_288) rfl rfl k) ?_
                  show Go p.tables e below P T695 (mkF m 290 #[.val (.int p1), .val (.int p2), .val (.int p3), .val (.int p4), .val (.int kn), .val (.ref r_1), .val (.int na), .val (.int v565_0), .val (.int nb), .val (.int v567_0), .val (.int ca), .val (.int cb), .val (.int cc), .val (.int cd), .val (.int ce), .val (.int cf), .val (.ref r_574), .val (.ref r_583), .val (.ref b593), .val (.int ev), .val (.int (0 : Int32))] [(.ref b593)])
                  refine Go.via (fun t k => XS.aload X695.here hx rfl (hb hby at_290) rfl rfl k) ?_
                  show Go p.tables e below P T695 (mkF m 292 #[.val (.int p1), .val (.int p2), .val (.int p3), .val (.int p4), .val (.int kn), .val (.ref r_1), .val (.int na), .val (.int v565_0), .val (.int nb), .val (.int v567_0), .val (.int ca), .val (.int cb), .val (.int cc), .val (.int cd), .val (.int ce), .val (.int cf), .val (.ref r_574), .val (.ref r_583), .val (.ref b593), .val (.int ev), .val (.int (0 : Int32))] [(.ref r_583), (.ref b593)])
                  have F696 : Exa Z T688.heap r_574 "java/lang/String" := (F676.keep K688)
                  have F697 : Fld Z T688.heap r_574 "java/lang/String" "value" "[B" (.ref tb_574) := (F677.keep K688 (own_ninC ne598 own_nin0))
                  have F698 : Fld Z T688.heap r_574 "java/lang/String" "coder" "B" (.int (0 : Int32)) := (F678.keep K688 (own_ninC ne598 own_nin0))
                  have F699 : Arv Z T688.heap tb_574 kk_574 .byte (own_lg (own_mk na ca cb cc)) ((own_mk na ca cb cc).map Value.int) (.int (0 : Int32)) := (F679.keep K688 (own_ninC ne599 own_nin0))
                  have F700 : Exa Z T688.heap r_583 "java/lang/String" := (F680.keep K688)
                  have F701 : Fld Z T688.heap r_583 "java/lang/String" "value" "[B" (.ref tb_583) := (F681.keep K688 (own_ninC ne600 own_nin0))
                  have F702 : Fld Z T688.heap r_583 "java/lang/String" "coder" "B" (.int (0 : Int32)) := (F682.keep K688 (own_ninC ne600 own_nin0))
                  have F703 : Arv Z T688.heap tb_583 kk_583 .byte (own_lg (own_mk nb cd ce cf)) ((own_mk nb cd ce cf).map Value.int) (.int (0 : Int32)) := (F683.keep K688 (own_ninC ne601 own_nin0))
                  have F704 : Exa Z T688.heap b609 "com/example/numeric_planner/numericplanner/rddl/Location" := (u666_0.keep K688)
                  have F705 : Exa Z T688.heap a642 "java/lang/String" := (F684.keep K688)
                  have F706 : Fld Z T688.heap a642 "java/lang/String" "coder" "B" (.int (0 : Int32)) := (F685.keep K688 (own_ninC (Ne.symm nq648) own_nin0))
                  have F707 : Fld Z T688.heap a642 "java/lang/String" "value" "[B" (.ref b642) := (F686.keep K688 (own_ninC (Ne.symm nq648) own_nin0))
                  have F708 : Arv Z T688.heap b642 kb642 .byte (1 : Int32) [(.int (102 : Int32))] (.int (0 : Int32)) := (F687.keep K688 (own_ninC (Ne.symm nq649) own_nin0))
                  obtain ⟨cq709, kq709, q709a, q709b, q709c⟩ := isOf hZ e695 u688_0
                  obtain ⟨_, _, ⟨T709, L709, k709, n709⟩, -, X709, ⟨Lc709, hQ709, l709, y709, z709⟩, st709⟩ := X695.virtualBack hx (y := (⟨"com/example/numeric_planner/numericplanner/rddl/Token", "is", "(Ljava/lang/String;)Z"⟩ : MethodName)) (z := (⟨"com/example/numeric_planner/numericplanner/rddl/Token", "is", "(Ljava/lang/String;)Z"⟩ : MethodName)) hown (mvT hZ (hw _ (List.mem_of_getElem? (i := 74) rfl))) (mvT hZ (hw _ (List.mem_of_getElem? (i := 75) rfl))) (notFace_of_selects (args := #[]) (mvT hZ (hw _ (List.mem_of_getElem? (i := 77) rfl)))) (mvT hZ (hw _ (List.mem_of_getElem? (i := 77) rfl))) (mvT hZ (hw _ (List.mem_of_getElem? (i := 76) rfl))) (by decide) (backOf (W := 0) (rm12dr l Z a0 hw [] b593 aNAME aSYMBOL r_1 r_583 T688.heap n0 Z689 O693 P3 P6 u688_1 c5 c4) hZ (hw _ (List.mem_of_getElem? (i := 78) rfl)) (hw _ (List.mem_of_getElem? (i := 46) rfl)) (by decide) (by decide)) q709a q709c (g := (mkF m 292 #[.val (.int p1), .val (.int p2), .val (.int p3), .val (.int p4), .val (.int kn), .val (.ref r_1), .val (.int na), .val (.int v565_0), .val (.int nb), .val (.int v567_0), .val (.int ca), .val (.int cb), .val (.int cc), .val (.int cd), .val (.int ce), .val (.int cf), .val (.ref r_574), .val (.ref r_583), .val (.ref b593), .val (.int ev), .val (.int (0 : Int32))] [(.ref r_583), (.ref b593)])) rfl (by rw [hml]; rfl) (Steps.refl _) (argsL := [(.ref r_583)]) (rest := []) (lenOf own_pd9 rfl) rfl (by show 2 * 0 + _ ≤ _; exact Nat.le_of_eq rfl) (hb hby at_292) (fun _ _ => ⟨rfl, e695, (by decide : 16 + 0 ≤ _), (by decide : 37 + 0 ≤ _)⟩)
                  dsimp only [Pt.U, Pt.locs, Pt.cells, Pt.slots] at X709 l709 y709 z709 st709 hQ709
                  subst l709 y709 z709
                  obtain ⟨rfl, Nq709, hh709⟩ := hQ709
                  obtain ⟨lc709, Xh709, N709⟩ := own_hide X709 (Fr.app N695 Nq709)
                  clear X709
                  refine Go.hop st709 ?_
                  show Go p.tables e below P T709 (mkF m 295 #[.val (.int p1), .val (.int p2), .val (.int p3), .val (.int p4), .val (.int kn), .val (.ref r_1), .val (.int na), .val (.int v565_0), .val (.int nb), .val (.int v567_0), .val (.int ca), .val (.int cb), .val (.int cc), .val (.int cd), .val (.int ce), .val (.int cf), .val (.ref r_574), .val (.ref r_583), .val (.ref b593), .val (.int ev), .val (.int (0 : Int32))] [(.int (0 : Int32))])
                  refine Go.via (fun t k => XS.iload Xh709.here hx rfl (hb hby at_295) rfl k) ?_
                  show Go p.tables e below P T709 (mkF m 297 #[.val (.int p1), .val (.int p2), .val (.int p3), .val (.int p4), .val (.int kn), .val (.ref r_1), .val (.int na), .val (.int v565_0), .val (.int nb), .val (.int v567_0), .val (.int ca), .val (.int cb), .val (.int cc), .val (.int cd), .val (.int ce), .val (.int cf), .val (.ref r_574), .val (.ref r_583), .val (.ref b593), .val (.int ev), .val (.int (0 : Int32))] [(.int (0 : Int32)), (.int (0 : Int32))])
                  refine Go.via (fun t k => XS.icmpNo Xh709.here hx rfl (hb hby at_297) rfl (teq (rfl : (0 : Int32) = (0 : Int32))).2 k) ?_
                  show Go p.tables e below P T709 (mkF m 300 #[.val (.int p1), .val (.int p2), .val (.int p3), .val (.int p4), .val (.int kn), .val (.ref r_1), .val (.int na), .val (.int v565_0), .val (.int nb), .val (.int v567_0), .val (.int ca), .val (.int cb), .val (.int cc), .val (.int cd), .val (.int ce), .val (.int cf), .val (.ref r_574), .val (.ref r_583), .val (.ref b593), .val (.int ev), .val (.int (0 : Int32))] [])
                  refine Go.via (fun t k => XS.iconst Xh709.here hx rfl (hb hby at_300) k) ?_
                  refine Go.via (fun t k => XS.goto Xh709.here hx rfl (pc0 := 301) (pc' := 305) rfl (hb hby at_301) (by decide) (by decide) k) ?_
                  show Go p.tables e below P T709 (mkF m 305 #[.val (.int p1), .val (.int p2), .val (.int p3), .val (.int p4), .val (.int kn), .val (.ref r_1), .val (.int na), .val (.int v565_0), .val (.int nb), .val (.int v567_0), .val (.int ca), .val (.int cb), .val (.int cc), .val (.int cd), .val (.int ce), .val (.int cf), .val (.ref r_574), .val (.ref r_583), .val (.ref b593), .val (.int ev), .val (.int (0 : Int32))] [(.int (1 : Int32))])
                  obtain ⟨fs, hr, hrun, hended, hend⟩ := Xh709.leaveW hS642 (by rw [hh709]; exact hk692) (v := some (.int (1 : Int32))) (fun h => by rw [Bd.returns] at h; cases h)
                  have hCf : CHr Z consts_1 s.vm s.heap (T709.setFrames fs).vm (T709.setFrames fs).heap := by
                    rw [hh]
                    show CHr Z consts_1 s.vm h0 T709.vm T709.heap
                    rw [hh709]
                    exact CHr.trans CR691 (CHv.at Xh709 hZ (own_EW hw) CR691.1)
                  refine ⟨_, _, retZ Xh709 hx (t := .boolean) Bd.returns (by simp) (hb hby at_305) rfl hr, hrun, hended, hP _ _ ⟨_, _, rfl, ?_, hCf, own_rew hend (by decide) (by decide)⟩⟩
                  show Q0 Z p1 p2 p3 p4 cs aNAME aPRIMED_NAME aNUMBER aSYMBOL aINVALID aEND h0 n0 _ T709.heap _
                  rw [hh709]
                  exact ⟨rfl, N709⟩
                by_cases hc694 : na = nb
                · refine Go.via (fun t k => XS.icmpNo Xh688.here hx rfl (hb hby at_211) rfl (teq hc694).2 k) ?_
                  show Go p.tables e below P T688 (mkF m 214 #[.val (.int p1), .val (.int p2), .val (.int p3), .val (.int p4), .val (.int kn), .val (.ref r_1), .val (.int na), .val (.int v565_0), .val (.int nb), .val (.int v567_0), .val (.int ca), .val (.int cb), .val (.int cc), .val (.int cd), .val (.int ce), .val (.int cf), .val (.ref r_574), .val (.ref r_583), .val (.ref b593), .unset, .unset] [])
                  refine Go.via (fun t k => XS.iload Xh688.here hx rfl (hb hby at_214) rfl k) ?_
                  refine Go.via (fun t k => XS.iconst Xh688.here hx rfl (hb hby at_216) k) ?_
                  show Go p.tables e below P T688 (mkF m 217 #[.val (.int p1), .val (.int p2), .val (.int p3), .val (.int p4), .val (.int kn), .val (.ref r_1), .val (.int na), .val (.int v565_0), .val (.int nb), .val (.int v567_0), .val (.int ca), .val (.int cb), .val (.int cc), .val (.int cd), .val (.int ce), .val (.int cf), .val (.ref r_574), .val (.ref r_583), .val (.ref b593), .unset, .unset] [(.int (1 : Int32)), (.int na)])
                  by_cases hc711 : na < (1 : Int32)
                  · refine Go.via (fun t k => XS.icmpYes Xh688.here hx rfl (pc0 := 217) (pc' := 227) rfl (hb hby at_217) rfl (tlt hc711).1 (by decide) (by decide) k) ?_
                    show Go p.tables e below P T688 (mkF m 227 #[.val (.int p1), .val (.int p2), .val (.int p3), .val (.int p4), .val (.int kn), .val (.ref r_1), .val (.int na), .val (.int v565_0), .val (.int nb), .val (.int v567_0), .val (.int ca), .val (.int cb), .val (.int cc), .val (.int cd), .val (.int ce), .val (.int cf), .val (.ref r_574), .val (.ref r_583), .val (.ref b593), .unset, .unset] [])
                    refine Go.via (fun t k => XS.iload Xh688.here hx rfl (hb hby at_227) rfl k) ?_
                    refine Go.via (fun t k => XS.iconst Xh688.here hx rfl (hb hby at_229) k) ?_
                    show Go p.tables e below P T688 (mkF m 230 #[.val (.int p1), .val (.int p2), .val (.int p3), .val (.int p4), .val (.int kn), .val (.ref r_1), .val (.int na), .val (.int v565_0), .val (.int nb), .val (.int v567_0), .val (.int ca), .val (.int cb), .val (.int cc), .val (.int cd), .val (.int ce), .val (.int cf), .val (.ref r_574), .val (.ref r_583), .val (.ref b593), .unset, .unset] [(.int (2 : Int32)), (.int na)])
                    by_cases hc712 : na < (2 : Int32)
                    · refine Go.via (fun t k => XS.icmpYes Xh688.here hx rfl (pc0 := 230) (pc' := 240) rfl (hb hby at_230) rfl (tlt hc712).1 (by decide) (by decide) k) ?_
                      show Go p.tables e below P T688 (mkF m 240 #[.val (.int p1), .val (.int p2), .val (.int p3), .val (.int p4), .val (.int kn), .val (.ref r_1), .val (.int na), .val (.int v565_0), .val (.int nb), .val (.int v567_0), .val (.int ca), .val (.int cb), .val (.int cc), .val (.int cd), .val (.int ce), .val (.int cf), .val (.ref r_574), .val (.ref r_583), .val (.ref b593), .unset, .unset] [])
                      refine Go.via (fun t k => XS.iload Xh688.here hx rfl (hb hby at_240) rfl k) ?_
                      refine Go.via (fun t k => XS.iconst Xh688.here hx rfl (hb hby at_242) k) ?_
                      show Go p.tables e below P T688 (mkF m 243 #[.val (.int p1), .val (.int p2), .val (.int p3), .val (.int p4), .val (.int kn), .val (.ref r_1), .val (.int na), .val (.int v565_0), .val (.int nb), .val (.int v567_0), .val (.int ca), .val (.int cb), .val (.int cc), .val (.int cd), .val (.int ce), .val (.int cf), .val (.ref r_574), .val (.ref r_583), .val (.ref b593), .unset, .unset] [(.int (3 : Int32)), (.int na)])
                      by_cases hc713 : na < (3 : Int32)
                      · refine Go.via (fun t k => XS.icmpYes Xh688.here hx rfl (pc0 := 243) (pc' := 253) rfl (hb hby at_243) rfl (tlt hc713).1 (by decide) (by decide) k) ?_
                        show Go p.tables e below P T688 (mkF m 253 #[.val (.int p1), .val (.int p2), .val (.int p3), .val (.int p4), .val (.int kn), .val (.ref r_1), .val (.int na), .val (.int v565_0), .val (.int nb), .val (.int v567_0), .val (.int ca), .val (.int cb), .val (.int cc), .val (.int cd), .val (.int ce), .val (.int cf), .val (.ref r_574), .val (.ref r_583), .val (.ref b593), .unset, .unset] [])
                        refine Go.via (fun t k => XS.iconst Xh688.here hx rfl (hb hby at_253) k) ?_
                        refine Go.via (fun t k => XS.goto Xh688.here hx rfl (pc0 := 254) (pc' := 258) rfl (hb hby at_254) (by decide) (by decide) k) ?_
                        exact LP695 T688 _ (1 : Int32) Xh688 rfl N688 (if_pos (own_mke yna hc694 (Or.inl hc711) (Or.inl hc712) (Or.inl hc713))).symm
                      · refine Go.via (fun t k => XS.icmpNo Xh688.here hx rfl (hb hby at_243) rfl (flt hc713).1 k) ?_
                        show Go p.tables e below P T688 (mkF m 246 #[.val (.int p1), .val (.int p2), .val (.int p3), .val (.int p4), .val (.int kn), .val (.ref r_1), .val (.int na), .val (.int v565_0), .val (.int nb), .val (.int v567_0), .val (.int ca), .val (.int cb), .val (.int cc), .val (.int cd), .val (.int ce), .val (.int cf), .val (.ref r_574), .val (.ref r_583), .val (.ref b593), .unset, .unset] [])
                        refine Go.via (fun t k => XS.iload Xh688.here hx rfl (hb hby at_246) rfl k) ?_
                        refine Go.via (fun t k => XS.iload Xh688.here hx rfl (hb hby at_248) rfl k) ?_
                        show Go p.tables e below P T688 (mkF m 250 #[.val (.int p1), .val (.int p2), .val (.int p3), .val (.int p4), .val (.int kn), .val (.ref r_1), .val (.int na), .val (.int v565_0), .val (.int nb), .val (.int v567_0), .val (.int ca), .val (.int cb), .val (.int cc), .val (.int cd), .val (.int ce), .val (.int cf), .val (.ref r_574), .val (.ref r_583), .val (.ref b593), .unset, .unset] [(.int cf), (.int cc)])
                        by_cases hc714 : cc = cf
                        · refine Go.via (fun t k => XS.icmpNo Xh688.here hx rfl (hb hby at_250) rfl (teq hc714).2 k) ?_
                          show Go p.tables e below P T688 (mkF m 253 #[.val (.int p1), .val (.int p2), .val (.int p3), .val (.int p4), .val (.int kn), .val (.ref r_1), .val (.int na), .val (.int v565_0), .val (.int nb), .val (.int v567_0), .val (.int ca), .val (.int cb), .val (.int cc), .val (.int cd), .val (.int ce), .val (.int cf), .val (.ref r_574), .val (.ref r_583), .val (.ref b593), .unset, .unset] [])
                          refine Go.via (fun t k => XS.iconst Xh688.here hx rfl (hb hby at_253) k) ?_
                          refine Go.via (fun t k => XS.goto Xh688.here hx rfl (pc0 := 254) (pc' := 258) rfl (hb hby at_254) (by decide) (by decide) k) ?_
                          exact LP695 T688 _ (1 : Int32) Xh688 rfl N688 (if_pos (own_mke yna hc694 (Or.inl hc711) (Or.inl hc712) (Or.inr hc714))).symm
                        · refine Go.via (fun t k => XS.icmpYes Xh688.here hx rfl (pc0 := 250) (pc' := 257) rfl (hb hby at_250) rfl (feq hc714).2 (by decide) (by decide) k) ?_
                          show Go p.tables e below P T688 (mkF m 257 #[.val (.int p1), .val (.int p2), .val (.int p3), .val (.int p4), .val (.int kn), .val (.ref r_1), .val (.int na), .val (.int v565_0), .val (.int nb), .val (.int v567_0), .val (.int ca), .val (.int cb), .val (.int cc), .val (.int cd), .val (.int ce), .val (.int cf), .val (.ref r_574), .val (.ref r_583), .val (.ref b593), .unset, .unset] [])
                          refine Go.via (fun t k => XS.iconst Xh688.here hx rfl (hb hby at_257) k) ?_
                          exact LP695 T688 _ (0 : Int32) Xh688 rfl N688 (if_neg (fun q => hc714 (own_Binj ycc ycf (own_mk2 yna hc694 hc713 q)))).symm
                    · refine Go.via (fun t k => XS.icmpNo Xh688.here hx rfl (hb hby at_230) rfl (flt hc712).1 k) ?_
                      show Go p.tables e below P T688 (mkF m 233 #[.val (.int p1), .val (.int p2), .val (.int p3), .val (.int p4), .val (.int kn), .val (.ref r_1), .val (.int na), .val (.int v565_0), .val (.int nb), .val (.int v567_0), .val (.int ca), .val (.int cb), .val (.int cc), .val (.int cd), .val (.int ce), .val (.int cf), .val (.ref r_574), .val (.ref r_583), .val (.ref b593), .unset, .unset] [])
                      refine Go.via (fun t k => XS.iload Xh688.here hx rfl (hb hby at_233) rfl k) ?_
                      refine Go.via (fun t k => XS.iload Xh688.here hx rfl (hb hby at_235) rfl k) ?_
                      show Go p.tables e below P T688 (mkF m 237 #[.val (.int p1), .val (.int p2), .val (.int p3), .val (.int p4), .val (.int kn), .val (.ref r_1), .val (.int na), .val (.int v565_0), .val (.int nb), .val (.int v567_0), .val (.int ca), .val (.int cb), .val (.int cc), .val (.int cd), .val (.int ce), .val (.int cf), .val (.ref r_574), .val (.ref r_583), .val (.ref b593), .unset, .unset] [(.int ce), (.int cb)])
                      by_cases hc715 : cb = ce
                      · refine Go.via (fun t k => XS.icmpNo Xh688.here hx rfl (hb hby at_237) rfl (teq hc715).2 k) ?_
                        show Go p.tables e below P T688 (mkF m 240 #[.val (.int p1), .val (.int p2), .val (.int p3), .val (.int p4), .val (.int kn), .val (.ref r_1), .val (.int na), .val (.int v565_0), .val (.int nb), .val (.int v567_0), .val (.int ca), .val (.int cb), .val (.int cc), .val (.int cd), .val (.int ce), .val (.int cf), .val (.ref r_574), .val (.ref r_583), .val (.ref b593), .unset, .unset] [])
                        refine Go.via (fun t k => XS.iload Xh688.here hx rfl (hb hby at_240) rfl k) ?_
                        refine Go.via (fun t k => XS.iconst Xh688.here hx rfl (hb hby at_242) k) ?_
                        show Go p.tables e below P T688 (mkF m 243 #[.val (.int p1), .val (.int p2), .val (.int p3), .val (.int p4), .val (.int kn), .val (.ref r_1), .val (.int na), .val (.int v565_0), .val (.int nb), .val (.int v567_0), .val (.int ca), .val (.int cb), .val (.int cc), .val (.int cd), .val (.int ce), .val (.int cf), .val (.ref r_574), .val (.ref r_583), .val (.ref b593), .unset, .unset] [(.int (3 : Int32)), (.int na)])
                        by_cases hc716 : na < (3 : Int32)
                        · refine Go.via (fun t k => XS.icmpYes Xh688.here hx rfl (pc0 := 243) (pc' := 253) rfl (hb hby at_243) rfl (tlt hc716).1 (by decide) (by decide) k) ?_
                          show Go p.tables e below P T688 (mkF m 253 #[.val (.int p1), .val (.int p2), .val (.int p3), .val (.int p4), .val (.int kn), .val (.ref r_1), .val (.int na), .val (.int v565_0), .val (.int nb), .val (.int v567_0), .val (.int ca), .val (.int cb), .val (.int cc), .val (.int cd), .val (.int ce), .val (.int cf), .val (.ref r_574), .val (.ref r_583), .val (.ref b593), .unset, .unset] [])
                          refine Go.via (fun t k => XS.iconst Xh688.here hx rfl (hb hby at_253) k) ?_
                          refine Go.via (fun t k => XS.goto Xh688.here hx rfl (pc0 := 254) (pc' := 258) rfl (hb hby at_254) (by decide) (by decide) k) ?_
                          exact LP695 T688 _ (1 : Int32) Xh688 rfl N688 (if_pos (own_mke yna hc694 (Or.inl hc711) (Or.inr hc715) (Or.inl hc716))).symm
                        · refine Go.via (fun t k => XS.icmpNo Xh688.here hx rfl (hb hby at_243) rfl (flt hc716).1 k) ?_
                          show Go p.tables e below P T688 (mkF m 246 #[.val (.int p1), .val (.int p2), .val (.int p3), .val (.int p4), .val (.int kn), .val (.ref r_1), .val (.int na), .val (.int v565_0), .val (.int nb), .val (.int v567_0), .val (.int ca), .val (.int cb), .val (.int cc), .val (.int cd), .val (.int ce), .val (.int cf), .val (.ref r_574), .val (.ref r_583), .val (.ref b593), .unset, .unset] [])
                          refine Go.via (fun t k => XS.iload Xh688.here hx rfl (hb hby at_246) rfl k) ?_
                          refine Go.via (fun t k => XS.iload Xh688.here hx rfl (hb hby at_248) rfl k) ?_
                          show Go p.tables e below P T688 (mkF m 250 #[.val (.int p1), .val (.int p2), .val (.int p3), .val (.int p4), .val (.int kn), .val (.ref r_1), .val (.int na), .val (.int v565_0), .val (.int nb), .val (.int v567_0), .val (.int ca), .val (.int cb), .val (.int cc), .val (.int cd), .val (.int ce), .val (.int cf), .val (.ref r_574), .val (.ref r_583), .val (.ref b593), .unset, .unset] [(.int cf), (.int cc)])
                          by_cases hc717 : cc = cf
                          · refine Go.via (fun t k => XS.icmpNo Xh688.here hx rfl (hb hby at_250) rfl (teq hc717).2 k) ?_
                            show Go p.tables e below P T688 (mkF m 253 #[.val (.int p1), .val (.int p2), .val (.int p3), .val (.int p4), .val (.int kn), .val (.ref r_1), .val (.int na), .val (.int v565_0), .val (.int nb), .val (.int v567_0), .val (.int ca), .val (.int cb), .val (.int cc), .val (.int cd), .val (.int ce), .val (.int cf), .val (.ref r_574), .val (.ref r_583), .val (.ref b593), .unset, .unset] [])
                            refine Go.via (fun t k => XS.iconst Xh688.here hx rfl (hb hby at_253) k) ?_
                            refine Go.via (fun t k => XS.goto Xh688.here hx rfl (pc0 := 254) (pc' := 258) rfl (hb hby at_254) (by decide) (by decide) k) ?_
                            exact LP695 T688 _ (1 : Int32) Xh688 rfl N688 (if_pos (own_mke yna hc694 (Or.inl hc711) (Or.inr hc715) (Or.inr hc717))).symm
                          · refine Go.via (fun t k => XS.icmpYes Xh688.here hx rfl (pc0 := 250) (pc' := 257) rfl (hb hby at_250) rfl (feq hc717).2 (by decide) (by decide) k) ?_
                            show Go p.tables e below P T688 (mkF m 257 #[.val (.int p1), .val (.int p2), .val (.int p3), .val (.int p4), .val (.int kn), .val (.ref r_1), .val (.int na), .val (.int v565_0), .val (.int nb), .val (.int v567_0), .val (.int ca), .val (.int cb), .val (.int cc), .val (.int cd), .val (.int ce), .val (.int cf), .val (.ref r_574), .val (.ref r_583), .val (.ref b593), .unset, .unset] [])
                            refine Go.via (fun t k => XS.iconst Xh688.here hx rfl (hb hby at_257) k) ?_
                            exact LP695 T688 _ (0 : Int32) Xh688 rfl N688 (if_neg (fun q => hc717 (own_Binj ycc ycf (own_mk2 yna hc694 hc716 q)))).symm
                      · refine Go.via (fun t k => XS.icmpYes Xh688.here hx rfl (pc0 := 237) (pc' := 257) rfl (hb hby at_237) rfl (feq hc715).2 (by decide) (by decide) k) ?_
                        show Go p.tables e below P T688 (mkF m 257 #[.val (.int p1), .val (.int p2), .val (.int p3), .val (.int p4), .val (.int kn), .val (.ref r_1), .val (.int na), .val (.int v565_0), .val (.int nb), .val (.int v567_0), .val (.int ca), .val (.int cb), .val (.int cc), .val (.int cd), .val (.int ce), .val (.int cf), .val (.ref r_574), .val (.ref r_583), .val (.ref b593), .unset, .unset] [])
                        refine Go.via (fun t k => XS.iconst Xh688.here hx rfl (hb hby at_257) k) ?_
                        exact LP695 T688 _ (0 : Int32) Xh688 rfl N688 (if_neg (fun q => hc715 (own_Binj ycb yce (own_mk1 yna hc694 hc712 q)))).symm
                  · refine Go.via (fun t k => XS.icmpNo Xh688.here hx rfl (hb hby at_217) rfl (flt hc711).1 k) ?_
                    show Go p.tables e below P T688 (mkF m 220 #[.val (.int p1), .val (.int p2), .val (.int p3), .val (.int p4), .val (.int kn), .val (.ref r_1), .val (.int na), .val (.int v565_0), .val (.int nb), .val (.int v567_0), .val (.int ca), .val (.int cb), .val (.int cc), .val (.int cd), .val (.int ce), .val (.int cf), .val (.ref r_574), .val (.ref r_583), .val (.ref b593), .unset, .unset] [])
                    refine Go.via (fun t k => XS.iload Xh688.here hx rfl (hb hby at_220) rfl k) ?_
                    refine Go.via (fun t k => XS.iload Xh688.here hx rfl (hb hby at_222) rfl k) ?_
                    show Go p.tables e below P T688 (mkF m 224 #[.val (.int p1), .val (.int p2), .val (.int p3), .val (.int p4), .val (.int kn), .val (.ref r_1), .val (.int na), .val (.int v565_0), .val (.int nb), .val (.int v567_0), .val (.int ca), .val (.int cb), .val (.int cc), .val (.int cd), .val (.int ce), .val (.int cf), .val (.ref r_574), .val (.ref r_583), .val (.ref b593), .unset, .unset] [(.int cd), (.int ca)])
                    by_cases hc718 : ca = cd
                    · refine Go.via (fun t k => XS.icmpNo Xh688.here hx rfl (hb hby at_224) rfl (teq hc718).2 k) ?_
                      show Go p.tables e below P T688 (mkF m 227 #[.val (.int p1), .val (.int p2), .val (.int p3), .val (.int p4), .val (.int kn), .val (.ref r_1), .val (.int na), .val (.int v565_0), .val (.int nb), .val (.int v567_0), .val (.int ca), .val (.int cb), .val (.int cc), .val (.int cd), .val (.int ce), .val (.int cf), .val (.ref r_574), .val (.ref r_583), .val (.ref b593), .unset, .unset] [])
                      refine Go.via (fun t k => XS.iload Xh688.here hx rfl (hb hby at_227) rfl k) ?_
                      refine Go.via (fun t k => XS.iconst Xh688.here hx rfl (hb hby at_229) k) ?_
                      show Go p.tables e below P T688 (mkF m 230 #[.val (.int p1), .val (.int p2), .val (.int p3), .val (.int p4), .val (.int kn), .val (.ref r_1), .val (.int na), .val (.int v565_0), .val (.int nb), .val (.int v567_0), .val (.int ca), .val (.int cb), .val (.int cc), .val (.int cd), .val (.int ce), .val (.int cf), .val (.ref r_574), .val (.ref r_583), .val (.ref b593), .unset, .unset] [(.int (2 : Int32)), (.int na)])
                      by_cases hc719 : na < (2 : Int32)
                      · refine Go.via (fun t k => XS.icmpYes Xh688.here hx rfl (pc0 := 230) (pc' := 240) rfl (hb hby at_230) rfl (tlt hc719).1 (by decide) (by decide) k) ?_
                        show Go p.tables e below P T688 (mkF m 240 #[.val (.int p1), .val (.int p2), .val (.int p3), .val (.int p4), .val (.int kn), .val (.ref r_1), .val (.int na), .val (.int v565_0), .val (.int nb), .val (.int v567_0), .val (.int ca), .val (.int cb), .val (.int cc), .val (.int cd), .val (.int ce), .val (.int cf), .val (.ref r_574), .val (.ref r_583), .val (.ref b593), .unset, .unset] [])
                        refine Go.via (fun t k => XS.iload Xh688.here hx rfl (hb hby at_240) rfl k) ?_
                        refine Go.via (fun t k => XS.iconst Xh688.here hx rfl (hb hby at_242) k) ?_
                        show Go p.tables e below P T688 (mkF m 243 #[.val (.int p1), .val (.int p2), .val (.int p3), .val (.int p4), .val (.int kn), .val (.ref r_1), .val (.int na), .val (.int v565_0), .val (.int nb), .val (.int v567_0), .val (.int ca), .val (.int cb), .val (.int cc), .val (.int cd), .val (.int ce), .val (.int cf), .val (.ref r_574), .val (.ref r_583), .val (.ref b593), .unset, .unset] [(.int (3 : Int32)), (.int na)])
                        by_cases hc720 : na < (3 : Int32)
                        · refine Go.via (fun t k => XS.icmpYes Xh688.here hx rfl (pc0 := 243) (pc' := 253) rfl (hb hby at_243) rfl (tlt hc720).1 (by decide) (by decide) k) ?_
                          show Go p.tables e below P T688 (mkF m 253 #[.val (.int p1), .val (.int p2), .val (.int p3), .val (.int p4), .val (.int kn), .val (.ref r_1), .val (.int na), .val (.int v565_0), .val (.int nb), .val (.int v567_0), .val (.int ca), .val (.int cb), .val (.int cc), .val (.int cd), .val (.int ce), .val (.int cf), .val (.ref r_574), .val (.ref r_583), .val (.ref b593), .unset, .unset] [])
                          refine Go.via (fun t k => XS.iconst Xh688.here hx rfl (hb hby at_253) k) ?_
                          refine Go.via (fun t k => XS.goto Xh688.here hx rfl (pc0 := 254) (pc' := 258) rfl (hb hby at_254) (by decide) (by decide) k) ?_
                          exact LP695 T688 _ (1 : Int32) Xh688 rfl N688 (if_pos (own_mke yna hc694 (Or.inr hc718) (Or.inl hc719) (Or.inl hc720))).symm
                        · refine Go.via (fun t k => XS.icmpNo Xh688.here hx rfl (hb hby at_243) rfl (flt hc720).1 k) ?_
                          show Go p.tables e below P T688 (mkF m 246 #[.val (.int p1), .val (.int p2), .val (.int p3), .val (.int p4), .val (.int kn), .val (.ref r_1), .val (.int na), .val (.int v565_0), .val (.int nb), .val (.int v567_0), .val (.int ca), .val (.int cb), .val (.int cc), .val (.int cd), .val (.int ce), .val (.int cf), .val (.ref r_574), .val (.ref r_583), .val (.ref b593), .unset, .unset] [])
                          refine Go.via (fun t k => XS.iload Xh688.here hx rfl (hb hby at_246) rfl k) ?_
                          refine Go.via (fun t k => XS.iload Xh688.here hx rfl (hb hby at_248) rfl k) ?_
                          show Go p.tables e below P T688 (mkF m 250 #[.val (.int p1), .val (.int p2), .val (.int p3), .val (.int p4), .val (.int kn), .val (.ref r_1), .val (.int na), .val (.int v565_0), .val (.int nb), .val (.int v567_0), .val (.int ca), .val (.int cb), .val (.int cc), .val (.int cd), .val (.int ce), .val (.int cf), .val (.ref r_574), .val (.ref r_583), .val (.ref b593), .unset, .unset] [(.int cf), (.int cc)])
                          by_cases hc721 : cc = cf
                          · refine Go.via (fun t k => XS.icmpNo Xh688.here hx rfl (hb hby at_250) rfl (teq hc721).2 k) ?_
                            show Go p.tables e below P T688 (mkF m 253 #[.val (.int p1), .val (.int p2), .val (.int p3), .val (.int p4), .val (.int kn), .val (.ref r_1), .val (.int na), .val (.int v565_0), .val (.int nb), .val (.int v567_0), .val (.int ca), .val (.int cb), .val (.int cc), .val (.int cd), .val (.int ce), .val (.int cf), .val (.ref r_574), .val (.ref r_583), .val (.ref b593), .unset, .unset] [])
                            refine Go.via (fun t k => XS.iconst Xh688.here hx rfl (hb hby at_253) k) ?_
                            refine Go.via (fun t k => XS.goto Xh688.here hx rfl (pc0 := 254) (pc' := 258) rfl (hb hby at_254) (by decide) (by decide) k) ?_
                            exact LP695 T688 _ (1 : Int32) Xh688 rfl N688 (if_pos (own_mke yna hc694 (Or.inr hc718) (Or.inl hc719) (Or.inr hc721))).symm
                          · refine Go.via (fun t k => XS.icmpYes Xh688.here hx rfl (pc0 := 250) (pc' := 257) rfl (hb hby at_250) rfl (feq hc721).2 (by decide) (by decide) k) ?_
                            show Go p.tables e below P T688 (mkF m 257 #[.val (.int p1), .val (.int p2), .val (.int p3), .val (.int p4), .val (.int kn), .val (.ref r_1), .val (.int na), .val (.int v565_0), .val (.int nb), .val (.int v567_0), .val (.int ca), .val (.int cb), .val (.int cc), .val (.int cd), .val (.int ce), .val (.int cf), .val (.ref r_574), .val (.ref r_583), .val (.ref b593), .unset, .unset] [])
                            refine Go.via (fun t k => XS.iconst Xh688.here hx rfl (hb hby at_257) k) ?_
                            exact LP695 T688 _ (0 : Int32) Xh688 rfl N688 (if_neg (fun q => hc721 (own_Binj ycc ycf (own_mk2 yna hc694 hc720 q)))).symm
                      · refine Go.via (fun t k => XS.icmpNo Xh688.here hx rfl (hb hby at_230) rfl (flt hc719).1 k) ?_
                        show Go p.tables e below P T688 (mkF m 233 #[.val (.int p1), .val (.int p2), .val (.int p3), .val (.int p4), .val (.int kn), .val (.ref r_1), .val (.int na), .val (.int v565_0), .val (.int nb), .val (.int v567_0), .val (.int ca), .val (.int cb), .val (.int cc), .val (.int cd), .val (.int ce), .val (.int cf), .val (.ref r_574), .val (.ref r_583), .val (.ref b593), .unset, .unset] [])
                        refine Go.via (fun t k => XS.iload Xh688.here hx rfl (hb hby at_233) rfl k) ?_
                        refine Go.via (fun t k => XS.iload Xh688.here hx rfl (hb hby at_235) rfl k) ?_
                        show Go p.tables e below P T688 (mkF m 237 #[.val (.int p1), .val (.int p2), .val (.int p3), .val (.int p4), .val (.int kn), .val (.ref r_1), .val (.int na), .val (.int v565_0), .val (.int nb), .val (.int v567_0), .val (.int ca), .val (.int cb), .val (.int cc), .val (.int cd), .val (.int ce), .val (.int cf), .val (.ref r_574), .val (.ref r_583), .val (.ref b593), .unset, .unset] [(.int ce), (.int cb)])
                        by_cases hc722 : cb = ce
                        · refine Go.via (fun t k => XS.icmpNo Xh688.here hx rfl (hb hby at_237) rfl (teq hc722).2 k) ?_
                          show Go p.tables e below P T688 (mkF m 240 #[.val (.int p1), .val (.int p2), .val (.int p3), .val (.int p4), .val (.int kn), .val (.ref r_1), .val (.int na), .val (.int v565_0), .val (.int nb), .val (.int v567_0), .val (.int ca), .val (.int cb), .val (.int cc), .val (.int cd), .val (.int ce), .val (.int cf), .val (.ref r_574), .val (.ref r_583), .val (.ref b593), .unset, .unset] [])
                          refine Go.via (fun t k => XS.iload Xh688.here hx rfl (hb hby at_240) rfl k) ?_
                          refine Go.via (fun t k => XS.iconst Xh688.here hx rfl (hb hby at_242) k) ?_
                          show Go p.tables e below P T688 (mkF m 243 #[.val (.int p1), .val (.int p2), .val (.int p3), .val (.int p4), .val (.int kn), .val (.ref r_1), .val (.int na), .val (.int v565_0), .val (.int nb), .val (.int v567_0), .val (.int ca), .val (.int cb), .val (.int cc), .val (.int cd), .val (.int ce), .val (.int cf), .val (.ref r_574), .val (.ref r_583), .val (.ref b593), .unset, .unset] [(.int (3 : Int32)), (.int na)])
                          by_cases hc723 : na < (3 : Int32)
                          · refine Go.via (fun t k => XS.icmpYes Xh688.here hx rfl (pc0 := 243) (pc' := 253) rfl (hb hby at_243) rfl (tlt hc723).1 (by decide) (by decide) k) ?_
                            show Go p.tables e below P T688 (mkF m 253 #[.val (.int p1), .val (.int p2), .val (.int p3), .val (.int p4), .val (.int kn), .val (.ref r_1), .val (.int na), .val (.int v565_0), .val (.int nb), .val (.int v567_0), .val (.int ca), .val (.int cb), .val (.int cc), .val (.int cd), .val (.int ce), .val (.int cf), .val (.ref r_574), .val (.ref r_583), .val (.ref b593), .unset, .unset] [])
                            refine Go.via (fun t k => XS.iconst Xh688.here hx rfl (hb hby at_253) k) ?_
                            refine Go.via (fun t k => XS.goto Xh688.here hx rfl (pc0 := 254) (pc' := 258) rfl (hb hby at_254) (by decide) (by decide) k) ?_
                            exact LP695 T688 _ (1 : Int32) Xh688 rfl N688 (if_pos (own_mke yna hc694 (Or.inr hc718) (Or.inr hc722) (Or.inl hc723))).symm
                          · refine Go.via (fun t k => XS.icmpNo Xh688.here hx rfl (hb hby at_243) rfl (flt hc723).1 k) ?_
                            show Go p.tables e below P T688 (mkF m 246 #[.val (.int p1), .val (.int p2), .val (.int p3), .val (.int p4), .val (.int kn), .val (.ref r_1), .val (.int na), .val (.int v565_0), .val (.int nb), .val (.int v567_0), .val (.int ca), .val (.int cb), .val (.int cc), .val (.int cd), .val (.int ce), .val (.int cf), .val (.ref r_574), .val (.ref r_583), .val (.ref b593), .unset, .unset] [])
                            refine Go.via (fun t k => XS.iload Xh688.here hx rfl (hb hby at_246) rfl k) ?_
                            refine Go.via (fun t k => XS.iload Xh688.here hx rfl (hb hby at_248) rfl k) ?_
                            show Go p.tables e below P T688 (mkF m 250 #[.val (.int p1), .val (.int p2), .val (.int p3), .val (.int p4), .val (.int kn), .val (.ref r_1), .val (.int na), .val (.int v565_0), .val (.int nb), .val (.int v567_0), .val (.int ca), .val (.int cb), .val (.int cc), .val (.int cd), .val (.int ce), .val (.int cf), .val (.ref r_574), .val (.ref r_583), .val (.ref b593), .unset, .unset] [(.int cf), (.int cc)])
                            by_cases hc724 : cc = cf
                            · refine Go.via (fun t k => XS.icmpNo Xh688.here hx rfl (hb hby at_250) rfl (teq hc724).2 k) ?_
                              show Go p.tables e below P T688 (mkF m 253 #[.val (.int p1), .val (.int p2), .val (.int p3), .val (.int p4), .val (.int kn), .val (.ref r_1), .val (.int na), .val (.int v565_0), .val (.int nb), .val (.int v567_0), .val (.int ca), .val (.int cb), .val (.int cc), .val (.int cd), .val (.int ce), .val (.int cf), .val (.ref r_574), .val (.ref r_583), .val (.ref b593), .unset, .unset] [])
                              refine Go.via (fun t k => XS.iconst Xh688.here hx rfl (hb hby at_253) k) ?_
                              refine Go.via (fun t k => XS.goto Xh688.here hx rfl (pc0 := 254) (pc' := 258) rfl (hb hby at_254) (by decide) (by decide) k) ?_
                              exact LP695 T688 _ (1 : Int32) Xh688 rfl N688 (if_pos (own_mke yna hc694 (Or.inr hc718) (Or.inr hc722) (Or.inr hc724))).symm
                            · refine Go.via (fun t k => XS.icmpYes Xh688.here hx rfl (pc0 := 250) (pc' := 257) rfl (hb hby at_250) rfl (feq hc724).2 (by decide) (by decide) k) ?_
                              show Go p.tables e below P T688 (mkF m 257 #[.val (.int p1), .val (.int p2), .val (.int p3), .val (.int p4), .val (.int kn), .val (.ref r_1), .val (.int na), .val (.int v565_0), .val (.int nb), .val (.int v567_0), .val (.int ca), .val (.int cb), .val (.int cc), .val (.int cd), .val (.int ce), .val (.int cf), .val (.ref r_574), .val (.ref r_583), .val (.ref b593), .unset, .unset] [])
                              refine Go.via (fun t k => XS.iconst Xh688.here hx rfl (hb hby at_257) k) ?_
                              exact LP695 T688 _ (0 : Int32) Xh688 rfl N688 (if_neg (fun q => hc724 (own_Binj ycc ycf (own_mk2 yna hc694 hc723 q)))).symm
                        · refine Go.via (fun t k => XS.icmpYes Xh688.here hx rfl (pc0 := 237) (pc' := 257) rfl (hb hby at_237) rfl (feq hc722).2 (by decide) (by decide) k) ?_
                          show Go p.tables e below P T688 (mkF m 257 #[.val (.int p1), .val (.int p2), .val (.int p3), .val (.int p4), .val (.int kn), .val (.ref r_1), .val (.int na), .val (.int v565_0), .val (.int nb), .val (.int v567_0), .val (.int ca), .val (.int cb), .val (.int cc), .val (.int cd), .val (.int ce), .val (.int cf), .val (.ref r_574), .val (.ref r_583), .val (.ref b593), .unset, .unset] [])
                          refine Go.via (fun t k => XS.iconst Xh688.here hx rfl (hb hby at_257) k) ?_
                          exact LP695 T688 _ (0 : Int32) Xh688 rfl N688 (if_neg (fun q => hc722 (own_Binj ycb yce (own_mk1 yna hc694 hc719 q)))).symm
                    · refine Go.via (fun t k => XS.icmpYes Xh688.here hx rfl (pc0 := 224) (pc' := 257) rfl (hb hby at_224) rfl (feq hc718).2 (by decide) (by decide) k) ?_
                      show Go p.tables e below P T688 (mkF m 257 #[.val (.int p1), .val (.int p2), .val (.int p3), .val (.int p4), .val (.int kn), .val (.ref r_1), .val (.int na), .val (.int v565_0), .val (.int nb), .val (.int v567_0), .val (.int ca), .val (.int cb), .val (.int cc), .val (.int cd), .val (.int ce), .val (.int cf), .val (.ref r_574), .val (.ref r_583), .val (.ref b593), .unset, .unset] [])
                      refine Go.via (fun t k => XS.iconst Xh688.here hx rfl (hb hby at_257) k) ?_
                      exact LP695 T688 _ (0 : Int32) Xh688 rfl N688 (if_neg (fun q => hc718 (own_Binj yca ycd (own_mk0 yna hc694 hc711 q)))).symm
                · refine Go.via (fun t k => XS.icmpYes Xh688.here hx rfl (pc0 := 211) (pc' := 257) rfl (hb hby at_211) rfl (feq hc694).2 (by decide) (by decide) k) ?_
                  show Go p.tables e below P T688 (mkF m 257 #[.val (.int p1), .val (.int p2), .val (.int p3), .val (.int p4), .val (.int kn), .val (.ref r_1), .val (.int na), .val (.int v565_0), .val (.int nb), .val (.int v567_0), .val (.int ca), .val (.int cb), .val (.int cc), .val (.int cd), .val (.int ce), .val (.int cf), .val (.ref r_574), .val (.ref r_583), .val (.ref b593), .unset, .unset] [])
                  refine Go.via (fun t k => XS.iconst Xh688.here hx rfl (hb hby at_257) k) ?_
                  exact LP695 T688 _ (0 : Int32) Xh688 rfl N688 (if_neg (fun q => hc694 (own_mkn yna ynb q))).symm
              · refine Go.via (fun t k => XS.ifNo Xh574.here hx rfl (hb hby at_164) rfl ((if0 _ _).trans (feq hc582).1) k) ?_
                show Go p.tables e below P T574 (mkF m 167 #[.val (.int p1), .val (.int p2), .val (.int p3), .val (.int p4), .val (.int kn), .val (.ref r_1), .val (.int na), .val (.int v565_0), .val (.int nb), .val (.int v567_0), .val (.int ca), .val (.int cb), .val (.int cc), .val (.int cd), .val (.int ce), .val (.int cf), .val (.ref r_574), .unset, .unset, .unset, .unset] [])
                refine Go.via (fun t k => XS.aconstNull Xh574.here hx rfl (hb hby at_167) k) ?_
                show Go p.tables e below P T574 (mkF m 168 #[.val (.int p1), .val (.int p2), .val (.int p3), .val (.int p4), .val (.int kn), .val (.ref r_1), .val (.int na), .val (.int v565_0), .val (.int nb), .val (.int v567_0), .val (.int ca), .val (.int cb), .val (.int cc), .val (.int cd), .val (.int ce), .val (.int cf), .val (.ref r_574), .unset, .unset, .unset, .unset] [.null])
                refine Go.via (fun t k => XS.goto Xh574.here hx rfl (pc0 := 168) (pc' := 182) rfl (hb hby at_168) (by decide) (by decide) k) ?_
                refine Go.via (fun t k => XS.astore Xh574.here hx rfl (hb hby at_182) rfl rfl (l' := #[.val (.int p1), .val (.int p2), .val (.int p3), .val (.int p4), .val (.int kn), .val (.ref r_1), .val (.int na), .val (.int v565_0), .val (.int nb), .val (.int v567_0), .val (.int ca), .val (.int cb), .val (.int cc), .val (.int cd), .val (.int ce), .val (.int cf), .val (.ref r_574), .val .null, .unset, .unset, .unset]) rfl k) ?_
                show Go p.tables e below P T574 (mkF m 184 #[.val (.int p1), .val (.int p2), .val (.int p3), .val (.int p4), .val (.int kn), .val (.ref r_1), .val (.int na), .val (.int v565_0), .val (.int nb), .val (.int v567_0), .val (.int ca), .val (.int cb), .val (.int cc), .val (.int cd), .val (.int ce), .val (.int cf), .val (.ref r_574), .val .null, .unset, .unset, .unset] [])
                obtain ⟨T725, h725, X725, e725, E725, A725, D725, -, st725⟩ := newO Xh574 hx hZ hown (hw _ (List.mem_of_getElem? (i := 44) rfl)) (hw _ (List.mem_of_getElem? (i := 45) rfl)) (hw _ (List.mem_of_getElem? (i := 46) rfl)) rfl (g := (mkF m 184 #[.val (.int p1), .val (.int p2), .val (.int p3), .val (.int p4), .val (.int kn), .val (.ref r_1), .val (.int na), .val (.int v565_0), .val (.int nb), .val (.int v567_0), .val (.int ca), .val (.int cb), .val (.int cc), .val (.int cd), .val (.int ce), .val (.int cf), .val (.ref r_574), .val .null, .unset, .unset, .unset] [])) rfl (hb hby at_184) (by decide) (by decide)
                obtain ⟨b725, g725⟩ : ∃ z, z = T574.heap.size := ⟨_, rfl⟩
                rw [← g725] at A725 D725 st725
                refine Go.via st725 ?_
                have ne726 : r_574 ≠ b725 := Nat.ne_of_lt (Nat.lt_of_lt_of_le u574_0.lt (Nat.le_of_eq g725.symm))
                have ne727 : tb_574 ≠ b725 := Nat.ne_of_lt (Nat.lt_of_lt_of_le u574_3.lt (Nat.le_of_eq g725.symm))
                have g728 : n0 ≤ b725 := Nat.le_trans Z578 (Nat.le_of_eq g725.symm)
                have sz729 : h0.size ≤ b725 := Nat.le_trans K579.1 (Nat.le_of_eq g725.symm)
                have Z730 : n0 ≤ h725.size := Nat.le_trans Z578 E725.1
                have K731 : Keep h0 h725 [] := K579.ext E725
                have O732 : Old Z n0 h725 := O580.ext E725
                have CR733 := CHr.trans CR575 (CHr.ext E725 CR575.1)
                have hk734 := Nat.le_trans hk581 E725.1
                show Go p.tables e below P T725 (mkF m 187 #[.val (.int p1), .val (.int p2), .val (.int p3), .val (.int p4), .val (.int kn), .val (.ref r_1), .val (.int na), .val (.int v565_0), .val (.int nb), .val (.int v567_0), .val (.int ca), .val (.int cb), .val (.int cc), .val (.int cd), .val (.int ce), .val (.int cf), .val (.ref r_574), .val .null, .unset, .unset, .unset] [(.ref b725)])
                refine Go.via (fun t k => XS.dup X725.here hx rfl (hb hby at_187) rfl rfl k) ?_
                refine Go.via (fun t k => XS.aload X725.here hx rfl (hb hby at_188) rfl rfl k) ?_
                refine Go.via (fun t k => XS.aload X725.here hx rfl (hb hby at_190) rfl rfl k) ?_
                show Go p.tables e below P T725 (mkF m 192 #[.val (.int p1), .val (.int p2), .val (.int p3), .val (.int p4), .val (.int kn), .val (.ref r_1), .val (.int na), .val (.int v565_0), .val (.int nb), .val (.int v567_0), .val (.int ca), .val (.int cb), .val (.int cc), .val (.int cd), .val (.int ce), .val (.int cf), .val (.ref r_574), .val .null, .unset, .unset, .unset] [(.ref r_574), (.ref r_1), (.ref b725), (.ref b725)])
                have F736 : Exa Z h725 r_574 "java/lang/String" := (u574_0.ext E725)
                have F737 : Fld Z h725 r_574 "java/lang/String" "value" "[B" (.ref tb_574) := (u574_1.ext E725)
                have F738 : Fld Z h725 r_574 "java/lang/String" "coder" "B" (.int (0 : Int32)) := (u574_2.ext E725)
                have F739 : Arv Z h725 tb_574 kk_574 .byte (own_lg (own_mk na ca cb cc)) ((own_mk na ca cb cc).map Value.int) (.int (0 : Int32)) := (u574_3.ext E725)
                obtain ⟨T735, h735, X735, e735, E735, A735, D735, -, st735⟩ := newO X725 hx hZ hown (hw _ (List.mem_of_getElem? (i := 47) rfl)) (hw _ (List.mem_of_getElem? (i := 48) rfl)) (hw _ (List.mem_of_getElem? (i := 49) rfl)) e725 (g := (mkF m 192 #[.val (.int p1), .val (.int p2), .val (.int p3), .val (.int p4), .val (.int kn), .val (.ref r_1), .val (.int na), .val (.int v565_0), .val (.int nb), .val (.int v567_0), .val (.int ca), .val (.int cb), .val (.int cc), .val (.int cd), .val (.int ce), .val (.int cf), .val (.ref r_574), .val .null, .unset, .unset, .unset] [(.ref r_574), (.ref r_1), (.ref b725), (.ref b725)])) rfl (hb hby at_192) (by decide) (by decide)
                obtain ⟨b735, g735⟩ : ∃ z, z = h725.size := ⟨_, rfl⟩
                rw [← g735] at A735 D735 st735
                refine Go.via st735 ?_
                have ne740 : r_574 ≠ b735 := Nat.ne_of_lt (Nat.lt_of_lt_of_le F736.lt (Nat.le_of_eq g735.symm))
                have ne741 : tb_574 ≠ b735 := Nat.ne_of_lt (Nat.lt_of_lt_of_le F739.lt (Nat.le_of_eq g735.symm))
                have ne742 : b725 ≠ b735 := Nat.ne_of_lt (Nat.lt_of_lt_of_le A725.lt (Nat.le_of_eq g735.symm))
                have g743 : n0 ≤ b735 := Nat.le_trans Z730 (Nat.le_of_eq g735.symm)
                have sz744 : h0.size ≤ b735 := Nat.le_trans K731.1 (Nat.le_of_eq g735.symm)
                have Z745 : n0 ≤ h735.size := Nat.le_trans Z730 E735.1
                have K746 : Keep h0 h735 [] := K731.ext E735
                have O747 : Old Z n0 h735 := O732.ext E735
                have CR748 := CHr.trans CR733 (CHr.ext E735 CR733.1)
                have hk749 := Nat.le_trans hk734 E735.1
                show Go p.tables e below P T735 (mkF m 195 #[.val (.int p1), .val (.int p2), .val (.int p3), .val (.int p4), .val (.int kn), .val (.ref r_1), .val (.int na), .val (.int v565_0), .val (.int nb), .val (.int v567_0), .val (.int ca), .val (.int cb), .val (.int cc), .val (.int cd), .val (.int ce), .val (.int cf), .val (.ref r_574), .val .null, .unset, .unset, .unset] [(.ref b735), (.ref r_574), (.ref r_1), (.ref b725), (.ref b725)])
                refine Go.via (fun t k => XS.dup X735.here hx rfl (hb hby at_195) rfl rfl k) ?_
                show Go p.tables e below P T735 (mkF m 196 #[.val (.int p1), .val (.int p2), .val (.int p3), .val (.int p4), .val (.int kn), .val (.ref r_1), .val (.int na), .val (.int v565_0), .val (.int nb), .val (.int v567_0), .val (.int ca), .val (.int cb), .val (.int cc), .val (.int cd), .val (.int ce), .val (.int cf), .val (.ref r_574), .val .null, .unset, .unset, .unset] [(.ref b735), (.ref b735), (.ref r_574), (.ref r_1), (.ref b725), (.ref b725)])
                have F750 : Exa Z h735 r_574 "java/lang/String" := (F736.ext E735)
                have F751 : Fld Z h735 r_574 "java/lang/String" "value" "[B" (.ref tb_574) := (F737.ext E735)
                have F752 : Fld Z h735 r_574 "java/lang/String" "coder" "B" (.int (0 : Int32)) := (F738.ext E735)
                have F753 : Arv Z h735 tb_574 kk_574 .byte (own_lg (own_mk na ca cb cc)) ((own_mk na ca cb cc).map Value.int) (.int (0 : Int32)) := (F739.ext E735)
                have F754 : Exa Z h735 b725 "com/example/numeric_planner/numericplanner/rddl/Token" := (A725.ext E735)
                have F755 : Fld Z h735 b725 "com/example/numeric_planner/numericplanner/rddl/Token" "kind" "Lcom/example/numeric_planner/numericplanner/rddl/Token$Kind;" .null := ((D725 (Or.inr (hw _ (List.mem_of_getElem? (i := 69) rfl))) (ty := (.object "com/example/numeric_planner/numericplanner/rddl/Token$Kind")) (by decide) : Fld Z h725 b725 "com/example/numeric_planner/numericplanner/rddl/Token" "kind" "Lcom/example/numeric_planner/numericplanner/rddl/Token$Kind;" .null).ext E735)
                have F756 : Fld Z h735 b725 "com/example/numeric_planner/numericplanner/rddl/Token" "text" "Ljava/lang/String;" .null := ((D725 (Or.inr (hw _ (List.mem_of_getElem? (i := 71) rfl))) (ty := (.object "java/lang/String")) (by decide) : Fld Z h725 b725 "com/example/numeric_planner/numericplanner/rddl/Token" "text" "Ljava/lang/String;" .null).ext E735)
                have F757 : Fld Z h735 b725 "com/example/numeric_planner/numericplanner/rddl/Token" "location" "Lcom/example/numeric_planner/numericplanner/rddl/Location;" .null := ((D725 (Or.inr (hw _ (List.mem_of_getElem? (i := 73) rfl))) (ty := (.object "com/example/numeric_planner/numericplanner/rddl/Location")) (by decide) : Fld Z h725 b725 "com/example/numeric_planner/numericplanner/rddl/Token" "location" "Lcom/example/numeric_planner/numericplanner/rddl/Location;" .null).ext E735)
                obtain ⟨a758, T758, h758, kn758, b758, kb758, X758, e758, E758, hS758, hk758, hZ, hown, Ex758, Fc758, Fv758, Va758, lta758, ltb758, hC758, -, ne758, st758⟩ := ldcCH X735 hx hZ hown (hw _ (List.mem_of_getElem? (i := 50) rfl)) (own_sa hw) e735 hS574 hk749 (own_EW hw) (by decide : (("com/example/numeric_planner/numericplanner/rddl/TokenIsPinLaw", 22) : String × Nat) ∈ consts_1) CR748.1 (vs := [(.int (102 : Int32))]) (z := (1 : Int32)) ⟨by decide, rfl⟩ (by decide) rfl (g := (mkF m 196 #[.val (.int p1), .val (.int p2), .val (.int p3), .val (.int p4), .val (.int kn), .val (.ref r_1), .val (.int na), .val (.int v565_0), .val (.int nb), .val (.int v567_0), .val (.int ca), .val (.int cb), .val (.int cc), .val (.int cd), .val (.int ce), .val (.int cf), .val (.ref r_574), .val .null, .unset, .unset, .unset] [(.ref b735), (.ref b735), (.ref r_574), (.ref r_1), (.ref b725), (.ref b725)])) rfl (hb hby at_196) (n := 4) (by decide) (by decide) (by decide) (by decide)
                refine Go.via st758 ?_
                have CR759 := CHr.trans CR748 hC758
                have Z760 : n0 ≤ h758.size := Nat.le_trans Z745 E758.1
                have K761 : Keep h0 h758 [] := K746.ext E758
                have O762 : Old Z n0 h758 := O747.ext E758
                have F763 : Exa Z h758 b725 "com/example/numeric_planner/numericplanner/rddl/Token" := (F754.ext E758)
                have nq764 := (ne758 _ (Safe.exa hZ.alike F763 (by decide) (by decide))).1
                have nq765 := (ne758 _ (Safe.exa hZ.alike F763 (by decide) (by decide))).2
                have F766 : Exa Z h758 b735 "com/example/numeric_planner/numericplanner/rddl/Location" := (A735.ext E758)
                have nq767 := (ne758 _ (Safe.exa hZ.alike F766 (by decide) (by decide))).1
                have nq768 := (ne758 _ (Safe.exa hZ.alike F766 (by decide) (by decide))).2
                show Go p.tables e below P T758 (mkF m 198 #[.val (.int p1), .val (.int p2), .val (.int p3), .val (.int p4), .val (.int kn), .val (.ref r_1), .val (.int na), .val (.int v565_0), .val (.int nb), .val (.int v567_0), .val (.int ca), .val (.int cb), .val (.int cc), .val (.int cd), .val (.int ce), .val (.int cf), .val (.ref r_574), .val .null, .unset, .unset, .unset] [(.ref a758), (.ref b735), (.ref b735), (.ref r_574), (.ref r_1), (.ref b725), (.ref b725)])
                refine Go.via (fun t k => XS.iloadN X758.here hx rfl (hb hby at_198) rfl k) ?_
                show Go p.tables e below P T758 (mkF m 199 #[.val (.int p1), .val (.int p2), .val (.int p3), .val (.int p4), .val (.int kn), .val (.ref r_1), .val (.int na), .val (.int v565_0), .val (.int nb), .val (.int v567_0), .val (.int ca), .val (.int cb), .val (.int cc), .val (.int cd), .val (.int ce), .val (.int cf), .val (.ref r_574), .val .null, .unset, .unset, .unset] [(.int p1), (.ref a758), (.ref b735), (.ref b735), (.ref r_574), (.ref r_1), (.ref b725), (.ref b725)])
                have F769 : Fld Z h758 b735 "com/example/numeric_planner/numericplanner/rddl/Location" "file" "Ljava/lang/String;" .null := ((D735 (Or.inr (hw _ (List.mem_of_getElem? (i := 61) rfl))) (ty := (.object "java/lang/String")) (by decide) : Fld Z h735 b735 "com/example/numeric_planner/numericplanner/rddl/Location" "file" "Ljava/lang/String;" .null).ext E758)
                have F770 : Fld Z h758 b735 "com/example/numeric_planner/numericplanner/rddl/Location" "line" "I" (.int (0 : Int32)) := ((D735 (Or.inr (hw _ (List.mem_of_getElem? (i := 63) rfl))) (ty := .int) (by decide) : Fld Z h735 b735 "com/example/numeric_planner/numericplanner/rddl/Location" "line" "I" (.int (0 : Int32))).ext E758)
                have F771 : Exa Z h758 r_574 "java/lang/String" := (F750.ext E758)
                have F772 : Fld Z h758 r_574 "java/lang/String" "value" "[B" (.ref tb_574) := (F751.ext E758)
                have F773 : Fld Z h758 r_574 "java/lang/String" "coder" "B" (.int (0 : Int32)) := (F752.ext E758)
                have F774 : Arv Z h758 tb_574 kk_574 .byte (own_lg (own_mk na ca cb cc)) ((own_mk na ca cb cc).map Value.int) (.int (0 : Int32)) := (F753.ext E758)
                have F775 : Fld Z h758 b725 "com/example/numeric_planner/numericplanner/rddl/Token" "kind" "Lcom/example/numeric_planner/numericplanner/rddl/Token$Kind;" .null := (F755.ext E758)
                have F776 : Fld Z h758 b725 "com/example/numeric_planner/numericplanner/rddl/Token" "text" "Ljava/lang/String;" .null := (F756.ext E758)
                have F777 : Fld Z h758 b725 "com/example/numeric_planner/numericplanner/rddl/Token" "location" "Lcom/example/numeric_planner/numericplanner/rddl/Location;" .null := (F757.ext E758)
                obtain ⟨_, _, ⟨T778, L778, k778, n778⟩, -, X778, ⟨Lc778, hQ778, l778, y778, z778⟩, st778⟩ := X758.specialBack hx (y := (⟨"com/example/numeric_planner/numericplanner/rddl/Location", "<init>", "(Ljava/lang/String;I)V"⟩ : MethodName)) rfl hown (mvT hZ (hw _ (List.mem_of_getElem? (i := 51) rfl))) (mvT hZ (hw _ (List.mem_of_getElem? (i := 52) rfl))) (mvT hZ (hw _ (List.mem_of_getElem? (i := 53) rfl))) (by decide) (backOf (W := 5) (rm9 l Z a0 hw [] b735 a758 p1 h758 n0 Z760 F766 F769 F770 g743) hZ (hw _ (List.mem_of_getElem? (i := 53) rfl)) (hw _ (List.mem_of_getElem? (i := 49) rfl)) (by decide) (by decide)) (g := (mkF m 199 #[.val (.int p1), .val (.int p2), .val (.int p3), .val (.int p4), .val (.int kn), .val (.ref r_1), .val (.int na), .val (.int v565_0), .val (.int nb), .val (.int v567_0), .val (.int ca), .val (.int cb), .val (.int cc), .val (.int cd), .val (.int ce), .val (.int cf), .val (.ref r_574), .val .null, .unset, .unset, .unset] [(.int p1), (.ref a758), (.ref b735), (.ref b735), (.ref r_574), (.ref r_1), (.ref b725), (.ref b725)])) rfl (by rw [hml]; rfl) (Steps.refl _) (a := b735) (argsL := [(.ref a758), (.int p1)]) (rest := [(.ref b735), (.ref r_574), (.ref r_1), (.ref b725), (.ref b725)]) (lenOf own_pd7 rfl) rfl (by show 2 * 0 + _ ≤ _; exact Nat.le_of_eq rfl) (hb hby at_199) (fun _ _ => ⟨rfl, e758, (by decide : 10 + 0 ≤ _), (by decide : 25 + 0 ≤ _)⟩)
                dsimp only [Pt.U, Pt.locs, Pt.cells, Pt.slots] at X778 l778 y778 z778 st778 hQ778
                subst l778 y778 z778
                obtain ⟨rfl, Nq778, K778, u778_0⟩ := hQ778
                obtain ⟨lc778, Xh778, N778⟩ := own_hide X778 (Fr.app N574 Nq778)
                clear X778
                refine Go.hop st778 ?_
                have Z779 : n0 ≤ T778.heap.size := Nat.le_trans Z760 K778.1
                have K780 : Keep h0 T778.heap [] := K761.trans K778 (own_allC (Or.inr sz744) own_all0)
                have CR781 := CHr.trans CR759 (CHr.keep K778 (sfS (Safe.exa hZ.alike F766 (by decide) (by decide)) sf0) CR759.1)
                have hk782 := Nat.le_trans hk758 K778.1
                have O783 : Old Z n0 T778.heap := O762.keep K778 (own_allC g743 own_all0)
                show Go p.tables e below P T778 (mkF m 202 #[.val (.int p1), .val (.int p2), .val (.int p3), .val (.int p4), .val (.int kn), .val (.ref r_1), .val (.int na), .val (.int v565_0), .val (.int nb), .val (.int v567_0), .val (.int ca), .val (.int cb), .val (.int cc), .val (.int cd), .val (.int ce), .val (.int cf), .val (.ref r_574), .val .null, .unset, .unset, .unset] [(.ref b735), (.ref r_574), (.ref r_1), (.ref b725), (.ref b725)])
                have F784 : Exa Z T778.heap b725 "com/example/numeric_planner/numericplanner/rddl/Token" := (F763.keep K778)
                have F785 : Fld Z T778.heap b725 "com/example/numeric_planner/numericplanner/rddl/Token" "kind" "Lcom/example/numeric_planner/numericplanner/rddl/Token$Kind;" .null := (F775.keep K778 (own_ninC ne742 own_nin0))
                have F786 : Fld Z T778.heap b725 "com/example/numeric_planner/numericplanner/rddl/Token" "text" "Ljava/lang/String;" .null := (F776.keep K778 (own_ninC ne742 own_nin0))
                have F787 : Fld Z T778.heap b725 "com/example/numeric_planner/numericplanner/rddl/Token" "location" "Lcom/example/numeric_planner/numericplanner/rddl/Location;" .null := (F777.keep K778 (own_ninC ne742 own_nin0))
                have F788 : Exa Z T778.heap r_574 "java/lang/String" := (F771.keep K778)
                have F789 : Fld Z T778.heap r_574 "java/lang/String" "value" "[B" (.ref tb_574) := (F772.keep K778 (own_ninC ne740 own_nin0))
                have F790 : Fld Z T778.heap r_574 "java/lang/String" "coder" "B" (.int (0 : Int32)) := (F773.keep K778 (own_ninC ne740 own_nin0))
                have F791 : Arv Z T778.heap tb_574 kk_574 .byte (own_lg (own_mk na ca cb cc)) ((own_mk na ca cb cc).map Value.int) (.int (0 : Int32)) := (F774.keep K778 (own_ninC ne741 own_nin0))
                have F792 : Exa Z T778.heap a758 "java/lang/String" := (Ex758.keep K778)
                have F793 : Fld Z T778.heap a758 "java/lang/String" "coder" "B" (.int (0 : Int32)) := (Fc758.keep K778 (own_ninC (Ne.symm nq767) own_nin0))
                have F794 : Fld Z T778.heap a758 "java/lang/String" "value" "[B" (.ref b758) := (Fv758.keep K778 (own_ninC (Ne.symm nq767) own_nin0))
                have F795 : Arv Z T778.heap b758 kb758 .byte (1 : Int32) [(.int (102 : Int32))] (.int (0 : Int32)) := (Va758.keep K778 (own_ninC (Ne.symm nq768) own_nin0))
                obtain ⟨_, _, ⟨T796, L796, k796, n796⟩, -, X796, ⟨Lc796, hQ796, l796, y796, z796⟩, st796⟩ := Xh778.specialBack hx (y := (⟨"com/example/numeric_planner/numericplanner/rddl/Token", "<init>", "(Lcom/example/numeric_planner/numericplanner/rddl/Token$Kind;Ljava/lang/String;Lcom/example/numeric_planner/numericplanner/rddl/Location;)V"⟩ : MethodName)) rfl hown (mvT hZ (hw _ (List.mem_of_getElem? (i := 64) rfl))) (mvT hZ (hw _ (List.mem_of_getElem? (i := 65) rfl))) (mvT hZ (hw _ (List.mem_of_getElem? (i := 66) rfl))) (by decide) (backOf (W := 1) (rm11 l Z a0 hw [] b725 r_1 r_574 b735 T778.heap n0 Z779 F784 F785 F786 F787 g728) hZ (hw _ (List.mem_of_getElem? (i := 66) rfl)) (hw _ (List.mem_of_getElem? (i := 46) rfl)) (by decide) (by decide)) (g := (mkF m 202 #[.val (.int p1), .val (.int p2), .val (.int p3), .val (.int p4), .val (.int kn), .val (.ref r_1), .val (.int na), .val (.int v565_0), .val (.int nb), .val (.int v567_0), .val (.int ca), .val (.int cb), .val (.int cc), .val (.int cd), .val (.int ce), .val (.int cf), .val (.ref r_574), .val .null, .unset, .unset, .unset] [(.ref b735), (.ref r_574), (.ref r_1), (.ref b725), (.ref b725)])) rfl (by rw [hml]; rfl) (Steps.refl _) (a := b725) (argsL := [(.ref r_1), (.ref r_574), (.ref b735)]) (rest := [(.ref b725)]) (lenOf own_pd8 rfl) rfl (by show 2 * 0 + _ ≤ _; exact Nat.le_of_eq rfl) (hb hby at_202) (fun _ _ => ⟨rfl, rfl, (by decide : 10 + 0 ≤ _), (by decide : 25 + 0 ≤ _)⟩)
                dsimp only [Pt.U, Pt.locs, Pt.cells, Pt.slots] at X796 l796 y796 z796 st796 hQ796
                subst l796 y796 z796
                obtain ⟨rfl, Nq796, K796, u796_0, u796_1, u796_2, u796_3⟩ := hQ796
                obtain ⟨lc796, Xh796, N796⟩ := own_hide X796 (Fr.app N778 Nq796)
                clear X796
                refine Go.hop st796 ?_
                have Z797 : n0 ≤ T796.heap.size := Nat.le_trans Z779 K796.1
                have K798 : Keep h0 T796.heap [] := K780.trans K796 (own_allC (Or.inr sz729) own_all0)
                have CR799 := CHr.trans CR781 (CHr.keep K796 (sfS (Safe.exa hZ.alike F784 (by decide) (by decide)) sf0) CR781.1)
                have hk800 := Nat.le_trans hk782 K796.1
                have O801 : Old Z n0 T796.heap := O783.keep K796 (own_allC g728 own_all0)
                show Go p.tables e below P T796 (mkF m 205 #[.val (.int p1), .val (.int p2), .val (.int p3), .val (.int p4), .val (.int kn), .val (.ref r_1), .val (.int na), .val (.int v565_0), .val (.int nb), .val (.int v567_0), .val (.int ca), .val (.int cb), .val (.int cc), .val (.int cd), .val (.int ce), .val (.int cf), .val (.ref r_574), .val .null, .unset, .unset, .unset] [(.ref b725)])
                refine Go.via (fun t k => XS.astore Xh796.here hx rfl (hb hby at_205) rfl rfl (l' := #[.val (.int p1), .val (.int p2), .val (.int p3), .val (.int p4), .val (.int kn), .val (.ref r_1), .val (.int na), .val (.int v565_0), .val (.int nb), .val (.int v567_0), .val (.int ca), .val (.int cb), .val (.int cc), .val (.int cd), .val (.int ce), .val (.int cf), .val (.ref r_574), .val .null, .val (.ref b725), .unset, .unset]) rfl k) ?_
                refine Go.via (fun t k => XS.iload Xh796.here hx rfl (hb hby at_207) rfl k) ?_
                refine Go.via (fun t k => XS.iload Xh796.here hx rfl (hb hby at_209) rfl k) ?_
                show Go p.tables e below P T796 (mkF m 211 #[.val (.int p1), .val (.int p2), .val (.int p3), .val (.int p4), .val (.int kn), .val (.ref r_1), .val (.int na), .val (.int v565_0), .val (.int nb), .val (.int v567_0), .val (.int ca), .val (.int cb), .val (.int cc), .val (.int cd), .val (.int ce), .val (.int cf), .val (.ref r_574), .val .null, .val (.ref b725), .unset, .unset] [(.int nb), (.int na)])
                have LP803 : ∀ (T803 : State) (locs803 : List Loc) (ev : Int32), Stand p l e room_1 (s.setVm T758.vm) m #[(.int p1), (.int p2), (.int p3), (.int p4)] below meth c T803 locs803 10 25 → T803.heap = T796.heap → Fr n0 locs803 → ev = (if own_mk na ca cb cc = own_mk nb cd ce cf then (1 : Int32) else (0 : Int32)) → Go p.tables e below P T803 (mkF m 258 #[.val (.int p1), .val (.int p2), .val (.int p3), .val (.int p4), .val (.int kn), .val (.ref r_1), .val (.int na), .val (.int v565_0), .val (.int nb), .val (.int v567_0), .val (.int ca), .val (.int cb), .val (.int cc), .val (.int cd), .val (.int ce), .val (.int cf), .val (.ref r_574), .val .null, .val (.ref b725), .unset, .unset] [(.int ev)]) := by
                  intro T803 locs803 ev X803 e803 N803 hev
                  show Go p.tables e below P T803 (mkF m 258 #[.val (.int p1), .val (.int p2), .val (.int p3), .val (.int p4), .val (.int kn), .val (.ref r_1), .val (.int na), .val (.int v565_0), .val (.int nb), .val (.int v567_0), .val (.int ca), .val (.int cb), .val (.int cc), .val (.int cd), .val (.int ce), .val (.int cf), .val (.ref r_574), .val .null, .val (.ref b725), .unset, .unset] [(.int ev)])
                  refine Go.via (fun t k => XS.istore X803.here hx rfl (hb hby at_258) rfl (l' := #[.val (.int p1), .val (.int p2), .val (.int p3), .val (.int p4), .val (.int kn), .val (.ref r_1), .val (.int na), .val (.int v565_0), .val (.int nb), .val (.int v567_0), .val (.int ca), .val (.int cb), .val (.int cc), .val (.int cd), .val (.int ce), .val (.int cf), .val (.ref r_574), .val .null, .val (.ref b725), .val (.int ev), .unset]) rfl k) ?_
                  refine Go.via (fun t k => XS.iload X803.here hx rfl (hb hby at_260) rfl k) ?_
                  show Go p.tables e below P T803 (mkF m 262 #[.val (.int p1), .val (.int p2), .val (.int p3), .val (.int p4), .val (.int kn), .val (.ref r_1), .val (.int na), .val (.int v565_0), .val (.int nb), .val (.int v567_0), .val (.int ca), .val (.int cb), .val (.int cc), .val (.int cd), .val (.int ce), .val (.int cf), .val (.ref r_574), .val .null, .val (.ref b725), .val (.int ev), .unset] [(.int kn)])
                  refine Go.via (fun t k => XS.ifNo X803.here hx rfl (hb hby at_262) rfl ((if0 _ _).trans (feq c2).1) k) ?_
                  show Go p.tables e below P T803 (mkF m 265 #[.val (.int p1), .val (.int p2), .val (.int p3), .val (.int p4), .val (.int kn), .val (.ref r_1), .val (.int na), .val (.int v565_0), .val (.int nb), .val (.int v567_0), .val (.int ca), .val (.int cb), .val (.int cc), .val (.int cd), .val (.int ce), .val (.int cf), .val (.ref r_574), .val .null, .val (.ref b725), .val (.int ev), .unset] [])
                  refine Go.via (fun t k => XS.iload X803.here hx rfl (hb hby at_265) rfl k) ?_
                  refine Go.via (fun t k => XS.iconst X803.here hx rfl (hb hby at_267) k) ?_
                  show Go p.tables e below P T803 (mkF m 268 #[.val (.int p1), .val (.int p2), .val (.int p3), .val (.int p4), .val (.int kn), .val (.ref r_1), .val (.int na), .val (.int v565_0), .val (.int nb), .val (.int v567_0), .val (.int ca), .val (.int cb), .val (.int cc), .val (.int cd), .val (.int ce), .val (.int cf), .val (.ref r_574), .val .null, .val (.ref b725), .val (.int ev), .unset] [(.int (3 : Int32)), (.int kn)])
                  refine Go.via (fun t k => XS.icmpYes X803.here hx rfl (pc0 := 268) (pc' := 285) rfl (hb hby at_268) rfl (feq c3).2 (by decide) (by decide) k) ?_
                  show Go p.tables e below P T803 (mkF m 285 #[.val (.int p1), .val (.int p2), .val (.int p3), .val (.int p4), .val (.int kn), .val (.ref r_1), .val (.int na), .val (.int v565_0), .val (.int nb), .val (.int v567_0), .val (.int ca), .val (.int cb), .val (.int cc), .val (.int cd), .val (.int ce), .val (.int cf), .val (.ref r_574), .val .null, .val (.ref b725), .val (.int ev), .unset] [])
                  refine Go.via (fun t k => XS.iconst X803.here hx rfl (hb hby at_285) k) ?_
                  refine Go.via (fun t k => XS.istore X803.here hx rfl (hb hby at_286) rfl (l' := #[.val (.int p1), .val (.int p2), .val (.int p3), .val (.int p4), .val (.int kn), .val (.ref r_1), .val (.int na), .val (.int v565_0), .val (.int nb), .val (.int v567_0), .val (.int ca), .val (.int cb), .val (.int cc), .val (.int cd), .val (.int ce), .val (.int cf), .val (.ref r_574), .val .null, .val (.ref b725), .val (.int ev), .val (.int (0 : Int32))]) rfl k) ?_
                  refine Go.via (fun t k => XS.aload X803.here hx rfl (hb hby at_288) rfl rfl k) ?_
                  show Go p.tables e below P T803 (mkF m 290 #[.val (.int p1), .val (.int p2), .val (.int p3), .val (.int p4), .val (.int kn), .val (.ref r_1), .val (.int na), .val (.int v565_0), .val (.int nb), .val (.int v567_0), .val (.int ca), .val (.int cb), .val (.int cc), .val (.int cd), .val (.int ce), .val (.int cf), .val (.ref r_574), .val .null, .val (.ref b725), .val (.int ev), .val (.int (0 : Int32))] [(.ref b725)])
                  refine Go.via (fun t k => XS.aload X803.here hx rfl (hb hby at_290) rfl rfl k) ?_
                  show Go p.tables e below P T803 (mkF m 292 #[.val (.int p1), .val (.int p2), .val (.int p3), .val (.int p4), .val (.int kn), .val (.ref r_1), .val (.int na), .val (.int v565_0), .val (.int nb), .val (.int v567_0), .val (.int ca), .val (.int cb), .val (.int cc), .val (.int cd), .val (.int ce), .val (.int cf), .val (.ref r_574), .val .null, .val (.ref b725), .val (.int ev), .val (.int (0 : Int32))] [.null, (.ref b725)])
                  have F804 : Exa Z T796.heap r_574 "java/lang/String" := (F788.keep K796)
                  have F805 : Fld Z T796.heap r_574 "java/lang/String" "value" "[B" (.ref tb_574) := (F789.keep K796 (own_ninC ne726 own_nin0))
                  have F806 : Fld Z T796.heap r_574 "java/lang/String" "coder" "B" (.int (0 : Int32)) := (F790.keep K796 (own_ninC ne726 own_nin0))
                  have F807 : Arv Z T796.heap tb_574 kk_574 .byte (own_lg (own_mk na ca cb cc)) ((own_mk na ca cb cc).map Value.int) (.int (0 : Int32)) := (F791.keep K796 (own_ninC ne727 own_nin0))
                  have F808 : Exa Z T796.heap b735 "com/example/numeric_planner/numericplanner/rddl/Location" := (u778_0.keep K796)
                  have F809 : Exa Z T796.heap a758 "java/lang/String" := (F792.keep K796)
                  have F810 : Fld Z T796.heap a758 "java/lang/String" "coder" "B" (.int (0 : Int32)) := (F793.keep K796 (own_ninC (Ne.symm nq764) own_nin0))
                  have F811 : Fld Z T796.heap a758 "java/lang/String" "value" "[B" (.ref b758) := (F794.keep K796 (own_ninC (Ne.symm nq764) own_nin0))
                  have F812 : Arv Z T796.heap b758 kb758 .byte (1 : Int32) [(.int (102 : Int32))] (.int (0 : Int32)) := (F795.keep K796 (own_ninC (Ne.symm nq765) own_nin0))
                  obtain ⟨cq813, kq813, q813a, q813b, q813c⟩ := isOf hZ e803 u796_0
                  obtain ⟨_, _, ⟨T813, L813, k813, n813⟩, -, X813, ⟨Lc813, hQ813, l813, y813, z813⟩, st813⟩ := X803.virtualBack hx (y := (⟨"com/example/numeric_planner/numericplanner/rddl/Token", "is", "(Ljava/lang/String;)Z"⟩ : MethodName)) (z := (⟨"com/example/numeric_planner/numericplanner/rddl/Token", "is", "(Ljava/lang/String;)Z"⟩ : MethodName)) hown (mvT hZ (hw _ (List.mem_of_getElem? (i := 74) rfl))) (mvT hZ (hw _ (List.mem_of_getElem? (i := 75) rfl))) (notFace_of_selects (args := #[]) (mvT hZ (hw _ (List.mem_of_getElem? (i := 77) rfl)))) (mvT hZ (hw _ (List.mem_of_getElem? (i := 77) rfl))) (mvT hZ (hw _ (List.mem_of_getElem? (i := 76) rfl))) (by decide) (backOf (W := 0) (rm12dn l Z a0 hw [] b725 aNAME aSYMBOL r_1 T796.heap n0 Z797 O801 P3 P6 u796_1 c5 c4) hZ (hw _ (List.mem_of_getElem? (i := 78) rfl)) (hw _ (List.mem_of_getElem? (i := 46) rfl)) (by decide) (by decide)) q813a q813c (g := (mkF m 292 #[.val (.int p1), .val (.int p2), .val (.int p3), .val (.int p4), .val (.int kn), .val (.ref r_1), .val (.int na), .val (.int v565_0), .val (.int nb), .val (.int v567_0), .val (.int ca), .val (.int cb), .val (.int cc), .val (.int cd), .val (.int ce), .val (.int cf), .val (.ref r_574), .val .null, .val (.ref b725), .val (.int ev), .val (.int (0 : Int32))] [.null, (.ref b725)])) rfl (by rw [hml]; rfl) (Steps.refl _) (argsL := [.null]) (rest := []) (lenOf own_pd9 rfl) rfl (by show 2 * 0 + _ ≤ _; exact Nat.le_of_eq rfl) (hb hby at_292) (fun _ _ => ⟨rfl, e803, (by decide : 10 + 0 ≤ _), (by decide : 25 + 0 ≤ _)⟩)
                  dsimp only [Pt.U, Pt.locs, Pt.cells, Pt.slots] at X813 l813 y813 z813 st813 hQ813
                  subst l813 y813 z813
                  obtain ⟨rfl, Nq813, hh813⟩ := hQ813
                  obtain ⟨lc813, Xh813, N813⟩ := own_hide X813 (Fr.app N803 Nq813)
                  clear X813
                  refine Go.hop st813 ?_
                  show Go p.tables e below P T813 (mkF m 295 #[.val (.int p1), .val (.int p2), .val (.int p3), .val (.int p4), .val (.int kn), .val (.ref r_1), .val (.int na), .val (.int v565_0), .val (.int nb), .val (.int v567_0), .val (.int ca), .val (.int cb), .val (.int cc), .val (.int cd), .val (.int ce), .val (.int cf), .val (.ref r_574), .val .null, .val (.ref b725), .val (.int ev), .val (.int (0 : Int32))] [(.int (0 : Int32))])
                  refine Go.via (fun t k => XS.iload Xh813.here hx rfl (hb hby at_295) rfl k) ?_
                  show Go p.tables e below P T813 (mkF m 297 #[.val (.int p1), .val (.int p2), .val (.int p3), .val (.int p4), .val (.int kn), .val (.ref r_1), .val (.int na), .val (.int v565_0), .val (.int nb), .val (.int v567_0), .val (.int ca), .val (.int cb), .val (.int cc), .val (.int cd), .val (.int ce), .val (.int cf), .val (.ref r_574), .val .null, .val (.ref b725), .val (.int ev), .val (.int (0 : Int32))] [(.int (0 : Int32)), (.int (0 : Int32))])
                  refine Go.via (fun t k => XS.icmpNo Xh813.here hx rfl (hb hby at_297) rfl (teq (rfl : (0 : Int32) = (0 : Int32))).2 k) ?_
                  show Go p.tables e below P T813 (mkF m 300 #[.val (.int p1), .val (.int p2), .val (.int p3), .val (.int p4), .val (.int kn), .val (.ref r_1), .val (.int na), .val (.int v565_0), .val (.int nb), .val (.int v567_0), .val (.int ca), .val (.int cb), .val (.int cc), .val (.int cd), .val (.int ce), .val (.int cf), .val (.ref r_574), .val .null, .val (.ref b725), .val (.int ev), .val (.int (0 : Int32))] [])
                  refine Go.via (fun t k => XS.iconst Xh813.here hx rfl (hb hby at_300) k) ?_
                  refine Go.via (fun t k => XS.goto Xh813.here hx rfl (pc0 := 301) (pc' := 305) rfl (hb hby at_301) (by decide) (by decide) k) ?_
                  show Go p.tables e below P T813 (mkF m 305 #[.val (.int p1), .val (.int p2), .val (.int p3), .val (.int p4), .val (.int kn), .val (.ref r_1), .val (.int na), .val (.int v565_0), .val (.int nb), .val (.int v567_0), .val (.int ca), .val (.int cb), .val (.int cc), .val (.int cd), .val (.int ce), .val (.int cf), .val (.ref r_574), .val .null, .val (.ref b725), .val (.int ev), .val (.int (0 : Int32))] [(.int (1 : Int32))])
                  obtain ⟨fs, hr, hrun, hended, hend⟩ := Xh813.leaveW hS758 (by rw [hh813]; exact hk800) (v := some (.int (1 : Int32))) (fun h => by rw [Bd.returns] at h; cases h)
                  have hCf : CHr Z consts_1 s.vm s.heap (T813.setFrames fs).vm (T813.setFrames fs).heap := by
                    rw [hh]
                    show CHr Z consts_1 s.vm h0 T813.vm T813.heap
                    rw [hh813]
                    exact CHr.trans CR799 (CHv.at Xh813 hZ (own_EW hw) CR799.1)
                  refine ⟨_, _, retZ Xh813 hx (t := .boolean) Bd.returns (by simp) (hb hby at_305) rfl hr, hrun, hended, hP _ _ ⟨_, _, rfl, ?_, hCf, own_rew hend (by decide) (by decide)⟩⟩
                  show Q0 Z p1 p2 p3 p4 cs aNAME aPRIMED_NAME aNUMBER aSYMBOL aINVALID aEND h0 n0 _ T813.heap _
                  rw [hh813]
                  exact ⟨rfl, N813⟩
                by_cases hc802 : na = nb
                · refine Go.via (fun t k => XS.icmpNo Xh796.here hx rfl (hb hby at_211) rfl (teq hc802).2 k) ?_
                  show Go p.tables e below P T796 (mkF m 214 #[.val (.int p1), .val (.int p2), .val (.int p3), .val (.int p4), .val (.int kn), .val (.ref r_1), .val (.int na), .val (.int v565_0), .val (.int nb), .val (.int v567_0), .val (.int ca), .val (.int cb), .val (.int cc), .val (.int cd), .val (.int ce), .val (.int cf), .val (.ref r_574), .val .null, .val (.ref b725), .unset, .unset] [])
                  refine Go.via (fun t k => XS.iload Xh796.here hx rfl (hb hby at_214) rfl k) ?_
                  refine Go.via (fun t k => XS.iconst Xh796.here hx rfl (hb hby at_216) k) ?_
                  show Go p.tables e below P T796 (mkF m 217 #[.val (.int p1), .val (.int p2), .val (.int p3), .val (.int p4), .val (.int kn), .val (.ref r_1), .val (.int na), .val (.int v565_0), .val (.int nb), .val (.int v567_0), .val (.int ca), .val (.int cb), .val (.int cc), .val (.int cd), .val (.int ce), .val (.int cf), .val (.ref r_574), .val .null, .val (.ref b725), .unset, .unset] [(.int (1 : Int32)), (.int na)])
                  by_cases hc815 : na < (1 : Int32)
                  · refine Go.via (fun t k => XS.icmpYes Xh796.here hx rfl (pc0 := 217) (pc' := 227) rfl (hb hby at_217) rfl (tlt hc815).1 (by decide) (by decide) k) ?_
                    show Go p.tables e below P T796 (mkF m 227 #[.val (.int p1), .val (.int p2), .val (.int p3), .val (.int p4), .val (.int kn), .val (.ref r_1), .val (.int na), .val (.int v565_0), .val (.int nb), .val (.int v567_0), .val (.int ca), .val (.int cb), .val (.int cc), .val (.int cd), .val (.int ce), .val (.int cf), .val (.ref r_574), .val .null, .val (.ref b725), .unset, .unset] [])
                    refine Go.via (fun t k => XS.iload Xh796.here hx rfl (hb hby at_227) rfl k) ?_
                    refine Go.via (fun t k => XS.iconst Xh796.here hx rfl (hb hby at_229) k) ?_
                    show Go p.tables e below P T796 (mkF m 230 #[.val (.int p1), .val (.int p2), .val (.int p3), .val (.int p4), .val (.int kn), .val (.ref r_1), .val (.int na), .val (.int v565_0), .val (.int nb), .val (.int v567_0), .val (.int ca), .val (.int cb), .val (.int cc), .val (.int cd), .val (.int ce), .val (.int cf), .val (.ref r_574), .val .null, .val (.ref b725), .unset, .unset] [(.int (2 : Int32)), (.int na)])
                    by_cases hc816 : na < (2 : Int32)
                    · refine Go.via (fun t k => XS.icmpYes Xh796.here hx rfl (pc0 := 230) (pc' := 240) rfl (hb hby at_230) rfl (tlt hc816).1 (by decide) (by decide) k) ?_
                      show Go p.tables e below P T796 (mkF m 240 #[.val (.int p1), .val (.int p2), .val (.int p3), .val (.int p4), .val (.int kn), .val (.ref r_1), .val (.int na), .val (.int v565_0), .val (.int nb), .val (.int v567_0), .val (.int ca), .val (.int cb), .val (.int cc), .val (.int cd), .val (.int ce), .val (.int cf), .val (.ref r_574), .val .null, .val (.ref b725), .unset, .unset] [])
                      refine Go.via (fun t k => XS.iload Xh796.here hx rfl (hb hby at_240) rfl k) ?_
                      refine Go.via (fun t k => XS.iconst Xh796.here hx rfl (hb hby at_242) k) ?_
                      show Go p.tables e below P T796 (mkF m 243 #[.val (.int p1), .val (.int p2), .val (.int p3), .val (.int p4), .val (.int kn), .val (.ref r_1), .val (.int na), .val (.int v565_0), .val (.int nb), .val (.int v567_0), .val (.int ca), .val (.int cb), .val (.int cc), .val (.int cd), .val (.int ce), .val (.int cf), .val (.ref r_574), .val .null, .val (.ref b725), .unset, .unset] [(.int (3 : Int32)), (.int na)])
                      by_cases hc817 : na < (3 : Int32)
                      · refine Go.via (fun t k => XS.icmpYes Xh796.here hx rfl (pc0 := 243) (pc' := 253) rfl (hb hby at_243) rfl (tlt hc817).1 (by decide) (by decide) k) ?_
                        show Go p.tables e below P T796 (mkF m 253 #[.val (.int p1), .val (.int p2), .val (.int p3), .val (.int p4), .val (.int kn), .val (.ref r_1), .val (.int na), .val (.int v565_0), .val (.int nb), .val (.int v567_0), .val (.int ca), .val (.int cb), .val (.int cc), .val (.int cd), .val (.int ce), .val (.int cf), .val (.ref r_574), .val .null, .val (.ref b725), .unset, .unset] [])
                        refine Go.via (fun t k => XS.iconst Xh796.here hx rfl (hb hby at_253) k) ?_
                        refine Go.via (fun t k => XS.goto Xh796.here hx rfl (pc0 := 254) (pc' := 258) rfl (hb hby at_254) (by decide) (by decide) k) ?_
                        exact LP803 T796 _ (1 : Int32) Xh796 rfl N796 (if_pos (own_mke yna hc802 (Or.inl hc815) (Or.inl hc816) (Or.inl hc817))).symm
                      · refine Go.via (fun t k => XS.icmpNo Xh796.here hx rfl (hb hby at_243) rfl (flt hc817).1 k) ?_
                        show Go p.tables e below P T796 (mkF m 246 #[.val (.int p1), .val (.int p2), .val (.int p3), .val (.int p4), .val (.int kn), .val (.ref r_1), .val (.int na), .val (.int v565_0), .val (.int nb), .val (.int v567_0), .val (.int ca), .val (.int cb), .val (.int cc), .val (.int cd), .val (.int ce), .val (.int cf), .val (.ref r_574), .val .null, .val (.ref b725), .unset, .unset] [])
                        refine Go.via (fun t k => XS.iload Xh796.here hx rfl (hb hby at_246) rfl k) ?_
                        refine Go.via (fun t k => XS.iload Xh796.here hx rfl (hb hby at_248) rfl k) ?_
                        show Go p.tables e below P T796 (mkF m 250 #[.val (.int p1), .val (.int p2), .val (.int p3), .val (.int p4), .val (.int kn), .val (.ref r_1), .val (.int na), .val (.int v565_0), .val (.int nb), .val (.int v567_0), .val (.int ca), .val (.int cb), .val (.int cc), .val (.int cd), .val (.int ce), .val (.int cf), .val (.ref r_574), .val .null, .val (.ref b725), .unset, .unset] [(.int cf), (.int cc)])
                        by_cases hc818 : cc = cf
                        · refine Go.via (fun t k => XS.icmpNo Xh796.here hx rfl (hb hby at_250) rfl (teq hc818).2 k) ?_
                          show Go p.tables e below P T796 (mkF m 253 #[.val (.int p1), .val (.int p2), .val (.int p3), .val (.int p4), .val (.int kn), .val (.ref r_1), .val (.int na), .val (.int v565_0), .val (.int nb), .val (.int v567_0), .val (.int ca), .val (.int cb), .val (.int cc), .val (.int cd), .val (.int ce), .val (.int cf), .val (.ref r_574), .val .null, .val (.ref b725), .unset, .unset] [])
                          refine Go.via (fun t k => XS.iconst Xh796.here hx rfl (hb hby at_253) k) ?_
                          refine Go.via (fun t k => XS.goto Xh796.here hx rfl (pc0 := 254) (pc' := 258) rfl (hb hby at_254) (by decide) (by decide) k) ?_
                          exact LP803 T796 _ (1 : Int32) Xh796 rfl N796 (if_pos (own_mke yna hc802 (Or.inl hc815) (Or.inl hc816) (Or.inr hc818))).symm
                        · refine Go.via (fun t k => XS.icmpYes Xh796.here hx rfl (pc0 := 250) (pc' := 257) rfl (hb hby at_250) rfl (feq hc818).2 (by decide) (by decide) k) ?_
                          show Go p.tables e below P T796 (mkF m 257 #[.val (.int p1), .val (.int p2), .val (.int p3), .val (.int p4), .val (.int kn), .val (.ref r_1), .val (.int na), .val (.int v565_0), .val (.int nb), .val (.int v567_0), .val (.int ca), .val (.int cb), .val (.int cc), .val (.int cd), .val (.int ce), .val (.int cf), .val (.ref r_574), .val .null, .val (.ref b725), .unset, .unset] [])
                          refine Go.via (fun t k => XS.iconst Xh796.here hx rfl (hb hby at_257) k) ?_
                          exact LP803 T796 _ (0 : Int32) Xh796 rfl N796 (if_neg (fun q => hc818 (own_Binj ycc ycf (own_mk2 yna hc802 hc817 q)))).symm
                    · refine Go.via (fun t k => XS.icmpNo Xh796.here hx rfl (hb hby at_230) rfl (flt hc816).1 k) ?_
                      show Go p.tables e below P T796 (mkF m 233 #[.val (.int p1), .val (.int p2), .val (.int p3), .val (.int p4), .val (.int kn), .val (.ref r_1), .val (.int na), .val (.int v565_0), .val (.int nb), .val (.int v567_0), .val (.int ca), .val (.int cb), .val (.int cc), .val (.int cd), .val (.int ce), .val (.int cf), .val (.ref r_574), .val .null, .val (.ref b725), .unset, .unset] [])
                      refine Go.via (fun t k => XS.iload Xh796.here hx rfl (hb hby at_233) rfl k) ?_
                      refine Go.via (fun t k => XS.iload Xh796.here hx rfl (hb hby at_235) rfl k) ?_
                      show Go p.tables e below P T796 (mkF m 237 #[.val (.int p1), .val (.int p2), .val (.int p3), .val (.int p4), .val (.int kn), .val (.ref r_1), .val (.int na), .val (.int v565_0), .val (.int nb), .val (.int v567_0), .val (.int ca), .val (.int cb), .val (.int cc), .val (.int cd), .val (.int ce), .val (.int cf), .val (.ref r_574), .val .null, .val (.ref b725), .unset, .unset] [(.int ce), (.int cb)])
                      by_cases hc819 : cb = ce
                      · refine Go.via (fun t k => XS.icmpNo Xh796.here hx rfl (hb hby at_237) rfl (teq hc819).2 k) ?_
                        show Go p.tables e below P T796 (mkF m 240 #[.val (.int p1), .val (.int p2), .val (.int p3), .val (.int p4), .val (.int kn), .val (.ref r_1), .val (.int na), .val (.int v565_0), .val (.int nb), .val (.int v567_0), .val (.int ca), .val (.int cb), .val (.int cc), .val (.int cd), .val (.int ce), .val (.int cf), .val (.ref r_574), .val .null, .val (.ref b725), .unset, .unset] [])
                        refine Go.via (fun t k => XS.iload Xh796.here hx rfl (hb hby at_240) rfl k) ?_
                        refine Go.via (fun t k => XS.iconst Xh796.here hx rfl (hb hby at_242) k) ?_
                        show Go p.tables e below P T796 (mkF m 243 #[.val (.int p1), .val (.int p2), .val (.int p3), .val (.int p4), .val (.int kn), .val (.ref r_1), .val (.int na), .val (.int v565_0), .val (.int nb), .val (.int v567_0), .val (.int ca), .val (.int cb), .val (.int cc), .val (.int cd), .val (.int ce), .val (.int cf), .val (.ref r_574), .val .null, .val (.ref b725), .unset, .unset] [(.int (3 : Int32)), (.int na)])
                        by_cases hc820 : na < (3 : Int32)
                        · refine Go.via (fun t k => XS.icmpYes Xh796.here hx rfl (pc0 := 243) (pc' := 253) rfl (hb hby at_243) rfl (tlt hc820).1 (by decide) (by decide) k) ?_
                          show Go p.tables e below P T796 (mkF m 253 #[.val (.int p1), .val (.int p2), .val (.int p3), .val (.int p4), .val (.int kn), .val (.ref r_1), .val (.int na), .val (.int v565_0), .val (.int nb), .val (.int v567_0), .val (.int ca), .val (.int cb), .val (.int cc), .val (.int cd), .val (.int ce), .val (.int cf), .val (.ref r_574), .val .null, .val (.ref b725), .unset, .unset] [])
                          refine Go.via (fun t k => XS.iconst Xh796.here hx rfl (hb hby at_253) k) ?_
                          refine Go.via (fun t k => XS.goto Xh796.here hx rfl (pc0 := 254) (pc' := 258) rfl (hb hby at_254) (by decide) (by decide) k) ?_
                          exact LP803 T796 _ (1 : Int32) Xh796 rfl N796 (if_pos (own_mke yna hc802 (Or.inl hc815) (Or.inr hc819) (Or.inl hc820))).symm
                        · refine Go.via (fun t k => XS.icmpNo Xh796.here hx rfl (hb hby at_243) rfl (flt hc820).1 k) ?_
                          show Go p.tables e below P T796 (mkF m 246 #[.val (.int p1), .val (.int p2), .val (.int p3), .val (.int p4), .val (.int kn), .val (.ref r_1), .val (.int na), .val (.int v565_0), .val (.int nb), .val (.int v567_0), .val (.int ca), .val (.int cb), .val (.int cc), .val (.int cd), .val (.int ce), .val (.int cf), .val (.ref r_574), .val .null, .val (.ref b725), .unset, .unset] [])
                          refine Go.via (fun t k => XS.iload Xh796.here hx rfl (hb hby at_246) rfl k) ?_
                          refine Go.via (fun t k => XS.iload Xh796.here hx rfl (hb hby at_248) rfl k) ?_
                          show Go p.tables e below P T796 (mkF m 250 #[.val (.int p1), .val (.int p2), .val (.int p3), .val (.int p4), .val (.int kn), .val (.ref r_1), .val (.int na), .val (.int v565_0), .val (.int nb), .val (.int v567_0), .val (.int ca), .val (.int cb), .val (.int cc), .val (.int cd), .val (.int ce), .val (.int cf), .val (.ref r_574), .val .null, .val (.ref b725), .unset, .unset] [(.int cf), (.int cc)])
                          by_cases hc821 : cc = cf
                          · refine Go.via (fun t k => XS.icmpNo Xh796.here hx rfl (hb hby at_250) rfl (teq hc821).2 k) ?_
                            show Go p.tables e below P T796 (mkF m 253 #[.val (.int p1), .val (.int p2), .val (.int p3), .val (.int p4), .val (.int kn), .val (.ref r_1), .val (.int na), .val (.int v565_0), .val (.int nb), .val (.int v567_0), .val (.int ca), .val (.int cb), .val (.int cc), .val (.int cd), .val (.int ce), .val (.int cf), .val (.ref r_574), .val .null, .val (.ref b725), .unset, .unset] [])
                            refine Go.via (fun t k => XS.iconst Xh796.here hx rfl (hb hby at_253) k) ?_
                            refine Go.via (fun t k => XS.goto Xh796.here hx rfl (pc0 := 254) (pc' := 258) rfl (hb hby at_254) (by decide) (by decide) k) ?_
                            exact LP803 T796 _ (1 : Int32) Xh796 rfl N796 (if_pos (own_mke yna hc802 (Or.inl hc815) (Or.inr hc819) (Or.inr hc821))).symm
                          · refine Go.via (fun t k => XS.icmpYes Xh796.here hx rfl (pc0 := 250) (pc' := 257) rfl (hb hby at_250) rfl (feq hc821).2 (by decide) (by decide) k) ?_
                            show Go p.tables e below P T796 (mkF m 257 #[.val (.int p1), .val (.int p2), .val (.int p3), .val (.int p4), .val (.int kn), .val (.ref r_1), .val (.int na), .val (.int v565_0), .val (.int nb), .val (.int v567_0), .val (.int ca), .val (.int cb), .val (.int cc), .val (.int cd), .val (.int ce), .val (.int cf), .val (.ref r_574), .val .null, .val (.ref b725), .unset, .unset] [])
                            refine Go.via (fun t k => XS.iconst Xh796.here hx rfl (hb hby at_257) k) ?_
                            exact LP803 T796 _ (0 : Int32) Xh796 rfl N796 (if_neg (fun q => hc821 (own_Binj ycc ycf (own_mk2 yna hc802 hc820 q)))).symm
                      · refine Go.via (fun t k => XS.icmpYes Xh796.here hx rfl (pc0 := 237) (pc' := 257) rfl (hb hby at_237) rfl (feq hc819).2 (by decide) (by decide) k) ?_
                        show Go p.tables e below P T796 (mkF m 257 #[.val (.int p1), .val (.int p2), .val (.int p3), .val (.int p4), .val (.int kn), .val (.ref r_1), .val (.int na), .val (.int v565_0), .val (.int nb), .val (.int v567_0), .val (.int ca), .val (.int cb), .val (.int cc), .val (.int cd), .val (.int ce), .val (.int cf), .val (.ref r_574), .val .null, .val (.ref b725), .unset, .unset] [])
                        refine Go.via (fun t k => XS.iconst Xh796.here hx rfl (hb hby at_257) k) ?_
                        exact LP803 T796 _ (0 : Int32) Xh796 rfl N796 (if_neg (fun q => hc819 (own_Binj ycb yce (own_mk1 yna hc802 hc816 q)))).symm
                  · refine Go.via (fun t k => XS.icmpNo Xh796.here hx rfl (hb hby at_217) rfl (flt hc815).1 k) ?_
                    show Go p.tables e below P T796 (mkF m 220 #[.val (.int p1), .val (.int p2), .val (.int p3), .val (.int p4), .val (.int kn), .val (.ref r_1), .val (.int na), .val (.int v565_0), .val (.int nb), .val (.int v567_0), .val (.int ca), .val (.int cb), .val (.int cc), .val (.int cd), .val (.int ce), .val (.int cf), .val (.ref r_574), .val .null, .val (.ref b725), .unset, .unset] [])
                    refine Go.via (fun t k => XS.iload Xh796.here hx rfl (hb hby at_220) rfl k) ?_
                    refine Go.via (fun t k => XS.iload Xh796.here hx rfl (hb hby at_222) rfl k) ?_
                    show Go p.tables e below P T796 (mkF m 224 #[.val (.int p1), .val (.int p2), .val (.int p3), .val (.int p4), .val (.int kn), .val (.ref r_1), .val (.int na), .val (.int v565_0), .val (.int nb), .val (.int v567_0), .val (.int ca), .val (.int cb), .val (.int cc), .val (.int cd), .val (.int ce), .val (.int cf), .val (.ref r_574), .val .null, .val (.ref b725), .unset, .unset] [(.int cd), (.int ca)])
                    by_cases hc822 : ca = cd
                    · refine Go.via (fun t k => XS.icmpNo Xh796.here hx rfl (hb hby at_224) rfl (teq hc822).2 k) ?_
                      show Go p.tables e below P T796 (mkF m 227 #[.val (.int p1), .val (.int p2), .val (.int p3), .val (.int p4), .val (.int kn), .val (.ref r_1), .val (.int na), .val (.int v565_0), .val (.int nb), .val (.int v567_0), .val (.int ca), .val (.int cb), .val (.int cc), .val (.int cd), .val (.int ce), .val (.int cf), .val (.ref r_574), .val .null, .val (.ref b725), .unset, .unset] [])
                      refine Go.via (fun t k => XS.iload Xh796.here hx rfl (hb hby at_227) rfl k) ?_
                      refine Go.via (fun t k => XS.iconst Xh796.here hx rfl (hb hby at_229) k) ?_
                      show Go p.tables e below P T796 (mkF m 230 #[.val (.int p1), .val (.int p2), .val (.int p3), .val (.int p4), .val (.int kn), .val (.ref r_1), .val (.int na), .val (.int v565_0), .val (.int nb), .val (.int v567_0), .val (.int ca), .val (.int cb), .val (.int cc), .val (.int cd), .val (.int ce), .val (.int cf), .val (.ref r_574), .val .null, .val (.ref b725), .unset, .unset] [(.int (2 : Int32)), (.int na)])
                      by_cases hc823 : na < (2 : Int32)
                      · refine Go.via (fun t k => XS.icmpYes Xh796.here hx rfl (pc0 := 230) (pc' := 240) rfl (hb hby at_230) rfl (tlt hc823).1 (by decide) (by decide) k) ?_
                        show Go p.tables e below P T796 (mkF m 240 #[.val (.int p1), .val (.int p2), .val (.int p3), .val (.int p4), .val (.int kn), .val (.ref r_1), .val (.int na), .val (.int v565_0), .val (.int nb), .val (.int v567_0), .val (.int ca), .val (.int cb), .val (.int cc), .val (.int cd), .val (.int ce), .val (.int cf), .val (.ref r_574), .val .null, .val (.ref b725), .unset, .unset] [])
                        refine Go.via (fun t k => XS.iload Xh796.here hx rfl (hb hby at_240) rfl k) ?_
                        refine Go.via (fun t k => XS.iconst Xh796.here hx rfl (hb hby at_242) k) ?_
                        show Go p.tables e below P T796 (mkF m 243 #[.val (.int p1), .val (.int p2), .val (.int p3), .val (.int p4), .val (.int kn), .val (.ref r_1), .val (.int na), .val (.int v565_0), .val (.int nb), .val (.int v567_0), .val (.int ca), .val (.int cb), .val (.int cc), .val (.int cd), .val (.int ce), .val (.int cf), .val (.ref r_574), .val .null, .val (.ref b725), .unset, .unset] [(.int (3 : Int32)), (.int na)])
                        by_cases hc824 : na < (3 : Int32)
                        · refine Go.via (fun t k => XS.icmpYes Xh796.here hx rfl (pc0 := 243) (pc' := 253) rfl (hb hby at_243) rfl (tlt hc824).1 (by decide) (by decide) k) ?_
                          show Go p.tables e below P T796 (mkF m 253 #[.val (.int p1), .val (.int p2), .val (.int p3), .val (.int p4), .val (.int kn), .val (.ref r_1), .val (.int na), .val (.int v565_0), .val (.int nb), .val (.int v567_0), .val (.int ca), .val (.int cb), .val (.int cc), .val (.int cd), .val (.int ce), .val (.int cf), .val (.ref r_574), .val .null, .val (.ref b725), .unset, .unset] [])
                          refine Go.via (fun t k => XS.iconst Xh796.here hx rfl (hb hby at_253) k) ?_
                          refine Go.via (fun t k => XS.goto Xh796.here hx rfl (pc0 := 254) (pc' := 258) rfl (hb hby at_254) (by decide) (by decide) k) ?_
                          exact LP803 T796 _ (1 : Int32) Xh796 rfl N796 (if_pos (own_mke yna hc802 (Or.inr hc822) (Or.inl hc823) (Or.inl hc824))).symm
                        · refine Go.via (fun t k => XS.icmpNo Xh796.here hx rfl (hb hby at_243) rfl (flt hc824).1 k) ?_
                          show Go p.tables e below P T796 (mkF m 246 #[.val (.int p1), .val (.int p2), .val (.int p3), .val (.int p4), .val (.int kn), .val (.ref r_1), .val (.int na), .val (.int v565_0), .val (.int nb), .val (.int v567_0), .val (.int ca), .val (.int cb), .val (.int cc), .val (.int cd), .val (.int ce), .val (.int cf), .val (.ref r_574), .val .null, .val (.ref b725), .unset, .unset] [])
                          refine Go.via (fun t k => XS.iload Xh796.here hx rfl (hb hby at_246) rfl k) ?_
                          refine Go.via (fun t k => XS.iload Xh796.here hx rfl (hb hby at_248) rfl k) ?_
                          show Go p.tables e below P T796 (mkF m 250 #[.val (.int p1), .val (.int p2), .val (.int p3), .val (.int p4), .val (.int kn), .val (.ref r_1), .val (.int na), .val (.int v565_0), .val (.int nb), .val (.int v567_0), .val (.int ca), .val (.int cb), .val (.int cc), .val (.int cd), .val (.int ce), .val (.int cf), .val (.ref r_574), .val .null, .val (.ref b725), .unset, .unset] [(.int cf), (.int cc)])
                          by_cases hc825 : cc = cf
                          · refine Go.via (fun t k => XS.icmpNo Xh796.here hx rfl (hb hby at_250) rfl (teq hc825).2 k) ?_
                            show Go p.tables e below P T796 (mkF m 253 #[.val (.int p1), .val (.int p2), .val (.int p3), .val (.int p4), .val (.int kn), .val (.ref r_1), .val (.int na), .val (.int v565_0), .val (.int nb), .val (.int v567_0), .val (.int ca), .val (.int cb), .val (.int cc), .val (.int cd), .val (.int ce), .val (.int cf), .val (.ref r_574), .val .null, .val (.ref b725), .unset, .unset] [])
                            refine Go.via (fun t k => XS.iconst Xh796.here hx rfl (hb hby at_253) k) ?_
                            refine Go.via (fun t k => XS.goto Xh796.here hx rfl (pc0 := 254) (pc' := 258) rfl (hb hby at_254) (by decide) (by decide) k) ?_
                            exact LP803 T796 _ (1 : Int32) Xh796 rfl N796 (if_pos (own_mke yna hc802 (Or.inr hc822) (Or.inl hc823) (Or.inr hc825))).symm
                          · refine Go.via (fun t k => XS.icmpYes Xh796.here hx rfl (pc0 := 250) (pc' := 257) rfl (hb hby at_250) rfl (feq hc825).2 (by decide) (by decide) k) ?_
                            show Go p.tables e below P T796 (mkF m 257 #[.val (.int p1), .val (.int p2), .val (.int p3), .val (.int p4), .val (.int kn), .val (.ref r_1), .val (.int na), .val (.int v565_0), .val (.int nb), .val (.int v567_0), .val (.int ca), .val (.int cb), .val (.int cc), .val (.int cd), .val (.int ce), .val (.int cf), .val (.ref r_574), .val .null, .val (.ref b725), .unset, .unset] [])
                            refine Go.via (fun t k => XS.iconst Xh796.here hx rfl (hb hby at_257) k) ?_
                            exact LP803 T796 _ (0 : Int32) Xh796 rfl N796 (if_neg (fun q => hc825 (own_Binj ycc ycf (own_mk2 yna hc802 hc824 q)))).symm
                      · refine Go.via (fun t k => XS.icmpNo Xh796.here hx rfl (hb hby at_230) rfl (flt hc823).1 k) ?_
                        show Go p.tables e below P T796 (mkF m 233 #[.val (.int p1), .val (.int p2), .val (.int p3), .val (.int p4), .val (.int kn), .val (.ref r_1), .val (.int na), .val (.int v565_0), .val (.int nb), .val (.int v567_0), .val (.int ca), .val (.int cb), .val (.int cc), .val (.int cd), .val (.int ce), .val (.int cf), .val (.ref r_574), .val .null, .val (.ref b725), .unset, .unset] [])
                        refine Go.via (fun t k => XS.iload Xh796.here hx rfl (hb hby at_233) rfl k) ?_
                        refine Go.via (fun t k => XS.iload Xh796.here hx rfl (hb hby at_235) rfl k) ?_
                        show Go p.tables e below P T796 (mkF m 237 #[.val (.int p1), .val (.int p2), .val (.int p3), .val (.int p4), .val (.int kn), .val (.ref r_1), .val (.int na), .val (.int v565_0), .val (.int nb), .val (.int v567_0), .val (.int ca), .val (.int cb), .val (.int cc), .val (.int cd), .val (.int ce), .val (.int cf), .val (.ref r_574), .val .null, .val (.ref b725), .unset, .unset] [(.int ce), (.int cb)])
                        by_cases hc826 : cb = ce
                        · refine Go.via (fun t k => XS.icmpNo Xh796.here hx rfl (hb hby at_237) rfl (teq hc826).2 k) ?_
                          show Go p.tables e below P T796 (mkF m 240 #[.val (.int p1), .val (.int p2), .val (.int p3), .val (.int p4), .val (.int kn), .val (.ref r_1), .val (.int na), .val (.int v565_0), .val (.int nb), .val (.int v567_0), .val (.int ca), .val (.int cb), .val (.int cc), .val (.int cd), .val (.int ce), .val (.int cf), .val (.ref r_574), .val .null, .val (.ref b725), .unset, .unset] [])
                          refine Go.via (fun t k => XS.iload Xh796.here hx rfl (hb hby at_240) rfl k) ?_
                          refine Go.via (fun t k => XS.iconst Xh796.here hx rfl (hb hby at_242) k) ?_
                          show Go p.tables e below P T796 (mkF m 243 #[.val (.int p1), .val (.int p2), .val (.int p3), .val (.int p4), .val (.int kn), .val (.ref r_1), .val (.int na), .val (.int v565_0), .val (.int nb), .val (.int v567_0), .val (.int ca), .val (.int cb), .val (.int cc), .val (.int cd), .val (.int ce), .val (.int cf), .val (.ref r_574), .val .null, .val (.ref b725), .unset, .unset] [(.int (3 : Int32)), (.int na)])
                          by_cases hc827 : na < (3 : Int32)
                          · refine Go.via (fun t k => XS.icmpYes Xh796.here hx rfl (pc0 := 243) (pc' := 253) rfl (hb hby at_243) rfl (tlt hc827).1 (by decide) (by decide) k) ?_
                            show Go p.tables e below P T796 (mkF m 253 #[.val (.int p1), .val (.int p2), .val (.int p3), .val (.int p4), .val (.int kn), .val (.ref r_1), .val (.int na), .val (.int v565_0), .val (.int nb), .val (.int v567_0), .val (.int ca), .val (.int cb), .val (.int cc), .val (.int cd), .val (.int ce), .val (.int cf), .val (.ref r_574), .val .null, .val (.ref b725), .unset, .unset] [])
                            refine Go.via (fun t k => XS.iconst Xh796.here hx rfl (hb hby at_253) k) ?_
                            refine Go.via (fun t k => XS.goto Xh796.here hx rfl (pc0 := 254) (pc' := 258) rfl (hb hby at_254) (by decide) (by decide) k) ?_
                            exact LP803 T796 _ (1 : Int32) Xh796 rfl N796 (if_pos (own_mke yna hc802 (Or.inr hc822) (Or.inr hc826) (Or.inl hc827))).symm
                          · refine Go.via (fun t k => XS.icmpNo Xh796.here hx rfl (hb hby at_243) rfl (flt hc827).1 k) ?_
                            show Go p.tables e below P T796 (mkF m 246 #[.val (.int p1), .val (.int p2), .val (.int p3), .val (.int p4), .val (.int kn), .val (.ref r_1), .val (.int na), .val (.int v565_0), .val (.int nb), .val (.int v567_0), .val (.int ca), .val (.int cb), .val (.int cc), .val (.int cd), .val (.int ce), .val (.int cf), .val (.ref r_574), .val .null, .val (.ref b725), .unset, .unset] [])
                            refine Go.via (fun t k => XS.iload Xh796.here hx rfl (hb hby at_246) rfl k) ?_
                            refine Go.via (fun t k => XS.iload Xh796.here hx rfl (hb hby at_248) rfl k) ?_
                            show Go p.tables e below P T796 (mkF m 250 #[.val (.int p1), .val (.int p2), .val (.int p3), .val (.int p4), .val (.int kn), .val (.ref r_1), .val (.int na), .val (.int v565_0), .val (.int nb), .val (.int v567_0), .val (.int ca), .val (.int cb), .val (.int cc), .val (.int cd), .val (.int ce), .val (.int cf), .val (.ref r_574), .val .null, .val (.ref b725), .unset, .unset] [(.int cf), (.int cc)])
                            by_cases hc828 : cc = cf
                            · refine Go.via (fun t k => XS.icmpNo Xh796.here hx rfl (hb hby at_250) rfl (teq hc828).2 k) ?_
                              show Go p.tables e below P T796 (mkF m 253 #[.val (.int p1), .val (.int p2), .val (.int p3), .val (.int p4), .val (.int kn), .val (.ref r_1), .val (.int na), .val (.int v565_0), .val (.int nb), .val (.int v567_0), .val (.int ca), .val (.int cb), .val (.int cc), .val (.int cd), .val (.int ce), .val (.int cf), .val (.ref r_574), .val .null, .val (.ref b725), .unset, .unset] [])
                              refine Go.via (fun t k => XS.iconst Xh796.here hx rfl (hb hby at_253) k) ?_
                              refine Go.via (fun t k => XS.goto Xh796.here hx rfl (pc0 := 254) (pc' := 258) rfl (hb hby at_254) (by decide) (by decide) k) ?_
                              exact LP803 T796 _ (1 : Int32) Xh796 rfl N796 (if_pos (own_mke yna hc802 (Or.inr hc822) (Or.inr hc826) (Or.inr hc828))).symm
                            · refine Go.via (fun t k => XS.icmpYes Xh796.here hx rfl (pc0 := 250) (pc' := 257) rfl (hb hby at_250) rfl (feq hc828).2 (by decide) (by decide) k) ?_
                              show Go p.tables e below P T796 (mkF m 257 #[.val (.int p1), .val (.int p2), .val (.int p3), .val (.int p4), .val (.int kn), .val (.ref r_1), .val (.int na), .val (.int v565_0), .val (.int nb), .val (.int v567_0), .val (.int ca), .val (.int cb), .val (.int cc), .val (.int cd), .val (.int ce), .val (.int cf), .val (.ref r_574), .val .null, .val (.ref b725), .unset, .unset] [])
                              refine Go.via (fun t k => XS.iconst Xh796.here hx rfl (hb hby at_257) k) ?_
                              exact LP803 T796 _ (0 : Int32) Xh796 rfl N796 (if_neg (fun q => hc828 (own_Binj ycc ycf (own_mk2 yna hc802 hc827 q)))).symm
                        · refine Go.via (fun t k => XS.icmpYes Xh796.here hx rfl (pc0 := 237) (pc' := 257) rfl (hb hby at_237) rfl (feq hc826).2 (by decide) (by decide) k) ?_
                          show Go p.tables e below P T796 (mkF m 257 #[.val (.int p1), .val (.int p2), .val (.int p3), .val (.int p4), .val (.int kn), .val (.ref r_1), .val (.int na), .val (.int v565_0), .val (.int nb), .val (.int v567_0), .val (.int ca), .val (.int cb), .val (.int cc), .val (.int cd), .val (.int ce), .val (.int cf), .val (.ref r_574), .val .null, .val (.ref b725), .unset, .unset] [])
                          refine Go.via (fun t k => XS.iconst Xh796.here hx rfl (hb hby at_257) k) ?_
                          exact LP803 T796 _ (0 : Int32) Xh796 rfl N796 (if_neg (fun q => hc826 (own_Binj ycb yce (own_mk1 yna hc802 hc823 q)))).symm
                    · refine Go.via (fun t k => XS.icmpYes Xh796.here hx rfl (pc0 := 224) (pc' := 257) rfl (hb hby at_224) rfl (feq hc822).2 (by decide) (by decide) k) ?_
                      show Go p.tables e below P T796 (mkF m 257 #[.val (.int p1), .val (.int p2), .val (.int p3), .val (.int p4), .val (.int kn), .val (.ref r_1), .val (.int na), .val (.int v565_0), .val (.int nb), .val (.int v567_0), .val (.int ca), .val (.int cb), .val (.int cc), .val (.int cd), .val (.int ce), .val (.int cf), .val (.ref r_574), .val .null, .val (.ref b725), .unset, .unset] [])
                      refine Go.via (fun t k => XS.iconst Xh796.here hx rfl (hb hby at_257) k) ?_
                      exact LP803 T796 _ (0 : Int32) Xh796 rfl N796 (if_neg (fun q => hc822 (own_Binj yca ycd (own_mk0 yna hc802 hc815 q)))).symm
                · refine Go.via (fun t k => XS.icmpYes Xh796.here hx rfl (pc0 := 211) (pc' := 257) rfl (hb hby at_211) rfl (feq hc802).2 (by decide) (by decide) k) ?_
                  show Go p.tables e below P T796 (mkF m 257 #[.val (.int p1), .val (.int p2), .val (.int p3), .val (.int p4), .val (.int kn), .val (.ref r_1), .val (.int na), .val (.int v565_0), .val (.int nb), .val (.int v567_0), .val (.int ca), .val (.int cb), .val (.int cc), .val (.int cd), .val (.int ce), .val (.int cf), .val (.ref r_574), .val .null, .val (.ref b725), .unset, .unset] [])
                  refine Go.via (fun t k => XS.iconst Xh796.here hx rfl (hb hby at_257) k) ?_
                  exact LP803 T796 _ (0 : Int32) Xh796 rfl N796 (if_neg (fun q => hc802 (own_mkn yna ynb q))).symm
            by_cases hc572 : v565_0 = (0 : Int32)
            · refine Go.via (fun t k => XS.ifYes X571.here hx rfl (pc0 := 130) (pc' := 138) rfl (hb hby at_130) rfl ((if0 _ _).trans (teq hc572).1) (by decide) (by decide) k) ?_
              show Go p.tables e below P T571 (mkF m 138 #[.val (.int p1), .val (.int p2), .val (.int p3), .val (.int p4), .val (.int kn), .val (.ref r_1), .val (.int (p4 &&& (3 : Int32))), .val (.int v565_0), .val (.int (((p4.toUInt32 >>> ((3 : Int32) &&& 31).toUInt32).toInt32) &&& (3 : Int32))), .val (.int v567_0), .val (.int ((p2 &&& (255 : Int32)).toUInt32.toUInt16.toUInt32.toInt32)), .val (.int ((((p2.toUInt32 >>> ((8 : Int32) &&& 31).toUInt32).toInt32) &&& (255 : Int32)).toUInt32.toUInt16.toUInt32.toInt32)), .val (.int ((((p2.toUInt32 >>> ((16 : Int32) &&& 31).toUInt32).toInt32) &&& (255 : Int32)).toUInt32.toUInt16.toUInt32.toInt32)), .val (.int v569_0), .val (.int v571_0), .unset, .unset, .unset, .unset, .unset, .unset] [])
              refine Go.via (fun t k => XS.iloadN X571.here hx rfl (hb hby at_138) rfl k) ?_
              refine Go.via (fun t k => XS.bipush X571.here hx rfl (hb hby at_139) k) ?_
              refine Go.via (fun t k => XS.iushr X571.here hx rfl (hb hby at_141) rfl k) ?_
              show Go p.tables e below P T571 (mkF m 142 #[.val (.int p1), .val (.int p2), .val (.int p3), .val (.int p4), .val (.int kn), .val (.ref r_1), .val (.int (p4 &&& (3 : Int32))), .val (.int v565_0), .val (.int (((p4.toUInt32 >>> ((3 : Int32) &&& 31).toUInt32).toInt32) &&& (3 : Int32))), .val (.int v567_0), .val (.int ((p2 &&& (255 : Int32)).toUInt32.toUInt16.toUInt32.toInt32)), .val (.int ((((p2.toUInt32 >>> ((8 : Int32) &&& 31).toUInt32).toInt32) &&& (255 : Int32)).toUInt32.toUInt16.toUInt32.toInt32)), .val (.int ((((p2.toUInt32 >>> ((16 : Int32) &&& 31).toUInt32).toInt32) &&& (255 : Int32)).toUInt32.toUInt16.toUInt32.toInt32)), .val (.int v569_0), .val (.int v571_0), .unset, .unset, .unset, .unset, .unset, .unset] [(.int ((p3.toUInt32 >>> ((16 : Int32) &&& 31).toUInt32).toInt32))])
              refine Go.via (fun t k => XS.sipush X571.here hx rfl (hb hby at_142) k) ?_
              refine Go.via (fun t k => XS.iand X571.here hx rfl (hb hby at_145) rfl k) ?_
              refine Go.via (fun t k => XS.i2c X571.here hx rfl (hb hby at_146) rfl k) ?_
              exact J573 T571 _ ((((p3.toUInt32 >>> ((16 : Int32) &&& 31).toUInt32).toInt32) &&& (255 : Int32)).toUInt32.toUInt16.toUInt32.toInt32) (ownUp X571 (by decide) (by decide)) e571 N571 (if_pos hc572).symm
            · refine Go.via (fun t k => XS.ifNo X571.here hx rfl (hb hby at_130) rfl ((if0 _ _).trans (feq hc572).1) k) ?_
              show Go p.tables e below P T571 (mkF m 133 #[.val (.int p1), .val (.int p2), .val (.int p3), .val (.int p4), .val (.int kn), .val (.ref r_1), .val (.int (p4 &&& (3 : Int32))), .val (.int v565_0), .val (.int (((p4.toUInt32 >>> ((3 : Int32) &&& 31).toUInt32).toInt32) &&& (3 : Int32))), .val (.int v567_0), .val (.int ((p2 &&& (255 : Int32)).toUInt32.toUInt16.toUInt32.toInt32)), .val (.int ((((p2.toUInt32 >>> ((8 : Int32) &&& 31).toUInt32).toInt32) &&& (255 : Int32)).toUInt32.toUInt16.toUInt32.toInt32)), .val (.int ((((p2.toUInt32 >>> ((16 : Int32) &&& 31).toUInt32).toInt32) &&& (255 : Int32)).toUInt32.toUInt16.toUInt32.toInt32)), .val (.int v569_0), .val (.int v571_0), .unset, .unset, .unset, .unset, .unset, .unset] [])
              refine Go.via (fun t k => XS.iload X571.here hx rfl (hb hby at_133) rfl k) ?_
              refine Go.via (fun t k => XS.goto X571.here hx rfl (pc0 := 135) (pc' := 147) rfl (hb hby at_135) (by decide) (by decide) k) ?_
              exact J573 T571 _ ((((p2.toUInt32 >>> ((16 : Int32) &&& 31).toUInt32).toInt32) &&& (255 : Int32)).toUInt32.toUInt16.toUInt32.toInt32) (ownUp X571 (by decide) (by decide)) e571 N571 (if_neg hc572).symm
          by_cases hc570 : v565_0 = (0 : Int32)
          · refine Go.via (fun t k => XS.ifYes X569.here hx rfl (pc0 := 109) (pc' := 117) rfl (hb hby at_109) rfl ((if0 _ _).trans (teq hc570).1) (by decide) (by decide) k) ?_
            show Go p.tables e below P T569 (mkF m 117 #[.val (.int p1), .val (.int p2), .val (.int p3), .val (.int p4), .val (.int kn), .val (.ref r_1), .val (.int (p4 &&& (3 : Int32))), .val (.int v565_0), .val (.int (((p4.toUInt32 >>> ((3 : Int32) &&& 31).toUInt32).toInt32) &&& (3 : Int32))), .val (.int v567_0), .val (.int ((p2 &&& (255 : Int32)).toUInt32.toUInt16.toUInt32.toInt32)), .val (.int ((((p2.toUInt32 >>> ((8 : Int32) &&& 31).toUInt32).toInt32) &&& (255 : Int32)).toUInt32.toUInt16.toUInt32.toInt32)), .val (.int ((((p2.toUInt32 >>> ((16 : Int32) &&& 31).toUInt32).toInt32) &&& (255 : Int32)).toUInt32.toUInt16.toUInt32.toInt32)), .val (.int v569_0), .unset, .unset, .unset, .unset, .unset, .unset, .unset] [])
            refine Go.via (fun t k => XS.iloadN X569.here hx rfl (hb hby at_117) rfl k) ?_
            refine Go.via (fun t k => XS.bipush X569.here hx rfl (hb hby at_118) k) ?_
            refine Go.via (fun t k => XS.iushr X569.here hx rfl (hb hby at_120) rfl k) ?_
            show Go p.tables e below P T569 (mkF m 121 #[.val (.int p1), .val (.int p2), .val (.int p3), .val (.int p4), .val (.int kn), .val (.ref r_1), .val (.int (p4 &&& (3 : Int32))), .val (.int v565_0), .val (.int (((p4.toUInt32 >>> ((3 : Int32) &&& 31).toUInt32).toInt32) &&& (3 : Int32))), .val (.int v567_0), .val (.int ((p2 &&& (255 : Int32)).toUInt32.toUInt16.toUInt32.toInt32)), .val (.int ((((p2.toUInt32 >>> ((8 : Int32) &&& 31).toUInt32).toInt32) &&& (255 : Int32)).toUInt32.toUInt16.toUInt32.toInt32)), .val (.int ((((p2.toUInt32 >>> ((16 : Int32) &&& 31).toUInt32).toInt32) &&& (255 : Int32)).toUInt32.toUInt16.toUInt32.toInt32)), .val (.int v569_0), .unset, .unset, .unset, .unset, .unset, .unset, .unset] [(.int ((p3.toUInt32 >>> ((8 : Int32) &&& 31).toUInt32).toInt32))])
            refine Go.via (fun t k => XS.sipush X569.here hx rfl (hb hby at_121) k) ?_
            refine Go.via (fun t k => XS.iand X569.here hx rfl (hb hby at_124) rfl k) ?_
            refine Go.via (fun t k => XS.i2c X569.here hx rfl (hb hby at_125) rfl k) ?_
            exact J571 T569 _ ((((p3.toUInt32 >>> ((8 : Int32) &&& 31).toUInt32).toInt32) &&& (255 : Int32)).toUInt32.toUInt16.toUInt32.toInt32) X569 e569 N569 (if_pos hc570).symm
          · refine Go.via (fun t k => XS.ifNo X569.here hx rfl (hb hby at_109) rfl ((if0 _ _).trans (feq hc570).1) k) ?_
            show Go p.tables e below P T569 (mkF m 112 #[.val (.int p1), .val (.int p2), .val (.int p3), .val (.int p4), .val (.int kn), .val (.ref r_1), .val (.int (p4 &&& (3 : Int32))), .val (.int v565_0), .val (.int (((p4.toUInt32 >>> ((3 : Int32) &&& 31).toUInt32).toInt32) &&& (3 : Int32))), .val (.int v567_0), .val (.int ((p2 &&& (255 : Int32)).toUInt32.toUInt16.toUInt32.toInt32)), .val (.int ((((p2.toUInt32 >>> ((8 : Int32) &&& 31).toUInt32).toInt32) &&& (255 : Int32)).toUInt32.toUInt16.toUInt32.toInt32)), .val (.int ((((p2.toUInt32 >>> ((16 : Int32) &&& 31).toUInt32).toInt32) &&& (255 : Int32)).toUInt32.toUInt16.toUInt32.toInt32)), .val (.int v569_0), .unset, .unset, .unset, .unset, .unset, .unset, .unset] [])
            refine Go.via (fun t k => XS.iload X569.here hx rfl (hb hby at_112) rfl k) ?_
            refine Go.via (fun t k => XS.goto X569.here hx rfl (pc0 := 114) (pc' := 126) rfl (hb hby at_114) (by decide) (by decide) k) ?_
            exact J571 T569 _ ((((p2.toUInt32 >>> ((8 : Int32) &&& 31).toUInt32).toInt32) &&& (255 : Int32)).toUInt32.toUInt16.toUInt32.toInt32) X569 e569 N569 (if_neg hc570).symm
        by_cases hc568 : v565_0 = (0 : Int32)
        · refine Go.via (fun t k => XS.ifYes X567.here hx rfl (pc0 := 91) (pc' := 99) rfl (hb hby at_91) rfl ((if0 _ _).trans (teq hc568).1) (by decide) (by decide) k) ?_
          show Go p.tables e below P T567 (mkF m 99 #[.val (.int p1), .val (.int p2), .val (.int p3), .val (.int p4), .val (.int kn), .val (.ref r_1), .val (.int (p4 &&& (3 : Int32))), .val (.int v565_0), .val (.int (((p4.toUInt32 >>> ((3 : Int32) &&& 31).toUInt32).toInt32) &&& (3 : Int32))), .val (.int v567_0), .val (.int ((p2 &&& (255 : Int32)).toUInt32.toUInt16.toUInt32.toInt32)), .val (.int ((((p2.toUInt32 >>> ((8 : Int32) &&& 31).toUInt32).toInt32) &&& (255 : Int32)).toUInt32.toUInt16.toUInt32.toInt32)), .val (.int ((((p2.toUInt32 >>> ((16 : Int32) &&& 31).toUInt32).toInt32) &&& (255 : Int32)).toUInt32.toUInt16.toUInt32.toInt32)), .unset, .unset, .unset, .unset, .unset, .unset, .unset, .unset] [])
          refine Go.via (fun t k => XS.iloadN X567.here hx rfl (hb hby at_99) rfl k) ?_
          refine Go.via (fun t k => XS.sipush X567.here hx rfl (hb hby at_100) k) ?_
          refine Go.via (fun t k => XS.iand X567.here hx rfl (hb hby at_103) rfl k) ?_
          show Go p.tables e below P T567 (mkF m 104 #[.val (.int p1), .val (.int p2), .val (.int p3), .val (.int p4), .val (.int kn), .val (.ref r_1), .val (.int (p4 &&& (3 : Int32))), .val (.int v565_0), .val (.int (((p4.toUInt32 >>> ((3 : Int32) &&& 31).toUInt32).toInt32) &&& (3 : Int32))), .val (.int v567_0), .val (.int ((p2 &&& (255 : Int32)).toUInt32.toUInt16.toUInt32.toInt32)), .val (.int ((((p2.toUInt32 >>> ((8 : Int32) &&& 31).toUInt32).toInt32) &&& (255 : Int32)).toUInt32.toUInt16.toUInt32.toInt32)), .val (.int ((((p2.toUInt32 >>> ((16 : Int32) &&& 31).toUInt32).toInt32) &&& (255 : Int32)).toUInt32.toUInt16.toUInt32.toInt32)), .unset, .unset, .unset, .unset, .unset, .unset, .unset, .unset] [(.int (p3 &&& (255 : Int32)))])
          refine Go.via (fun t k => XS.i2c X567.here hx rfl (hb hby at_104) rfl k) ?_
          exact J569 T567 _ ((p3 &&& (255 : Int32)).toUInt32.toUInt16.toUInt32.toInt32) X567 e567 N567 (if_pos hc568).symm
        · refine Go.via (fun t k => XS.ifNo X567.here hx rfl (hb hby at_91) rfl ((if0 _ _).trans (feq hc568).1) k) ?_
          show Go p.tables e below P T567 (mkF m 94 #[.val (.int p1), .val (.int p2), .val (.int p3), .val (.int p4), .val (.int kn), .val (.ref r_1), .val (.int (p4 &&& (3 : Int32))), .val (.int v565_0), .val (.int (((p4.toUInt32 >>> ((3 : Int32) &&& 31).toUInt32).toInt32) &&& (3 : Int32))), .val (.int v567_0), .val (.int ((p2 &&& (255 : Int32)).toUInt32.toUInt16.toUInt32.toInt32)), .val (.int ((((p2.toUInt32 >>> ((8 : Int32) &&& 31).toUInt32).toInt32) &&& (255 : Int32)).toUInt32.toUInt16.toUInt32.toInt32)), .val (.int ((((p2.toUInt32 >>> ((16 : Int32) &&& 31).toUInt32).toInt32) &&& (255 : Int32)).toUInt32.toUInt16.toUInt32.toInt32)), .unset, .unset, .unset, .unset, .unset, .unset, .unset, .unset] [])
          refine Go.via (fun t k => XS.iload X567.here hx rfl (hb hby at_94) rfl k) ?_
          refine Go.via (fun t k => XS.goto X567.here hx rfl (pc0 := 96) (pc' := 105) rfl (hb hby at_96) (by decide) (by decide) k) ?_
          exact J569 T567 _ ((p2 &&& (255 : Int32)).toUInt32.toUInt16.toUInt32.toInt32) X567 e567 N567 (if_neg hc568).symm
      by_cases hc566 : (((p4.toUInt32 >>> ((5 : Int32) &&& 31).toUInt32).toInt32) &&& (3 : Int32)) = (3 : Int32)
      · refine Go.via (fun t k => XS.icmpNo X565.here hx rfl (hb hby at_49) rfl (teq hc566).2 k) ?_
        show Go p.tables e below P T565 (mkF m 52 #[.val (.int p1), .val (.int p2), .val (.int p3), .val (.int p4), .val (.int kn), .val (.ref r_1), .val (.int (p4 &&& (3 : Int32))), .val (.int v565_0), .val (.int (((p4.toUInt32 >>> ((3 : Int32) &&& 31).toUInt32).toInt32) &&& (3 : Int32))), .unset, .unset, .unset, .unset, .unset, .unset, .unset, .unset, .unset, .unset, .unset, .unset] [])
        refine Go.via (fun t k => XS.iconst X565.here hx rfl (hb hby at_52) k) ?_
        refine Go.via (fun t k => XS.goto X565.here hx rfl (pc0 := 53) (pc' := 57) rfl (hb hby at_53) (by decide) (by decide) k) ?_
        exact J567 T565 _ (1 : Int32) X565 e565 N565 (if_pos hc566).symm
      · refine Go.via (fun t k => XS.icmpYes X565.here hx rfl (pc0 := 49) (pc' := 56) rfl (hb hby at_49) rfl (feq hc566).2 (by decide) (by decide) k) ?_
        show Go p.tables e below P T565 (mkF m 56 #[.val (.int p1), .val (.int p2), .val (.int p3), .val (.int p4), .val (.int kn), .val (.ref r_1), .val (.int (p4 &&& (3 : Int32))), .val (.int v565_0), .val (.int (((p4.toUInt32 >>> ((3 : Int32) &&& 31).toUInt32).toInt32) &&& (3 : Int32))), .unset, .unset, .unset, .unset, .unset, .unset, .unset, .unset, .unset, .unset, .unset, .unset] [])
        refine Go.via (fun t k => XS.iconst X565.here hx rfl (hb hby at_56) k) ?_
        exact J567 T565 _ (0 : Int32) X565 e565 N565 (if_neg hc566).symm
    by_cases hc564 : (((p4.toUInt32 >>> ((2 : Int32) &&& 31).toUInt32).toInt32) &&& (1 : Int32)) = (0 : Int32)
    · refine Go.via (fun t k => XS.ifYes Xh1.here hx rfl (pc0 := 26) (pc' := 33) rfl (hb hby at_26) rfl ((if0 _ _).trans (teq hc564).1) (by decide) (by decide) k) ?_
      show Go p.tables e below P T1 (mkF m 33 #[.val (.int p1), .val (.int p2), .val (.int p3), .val (.int p4), .val (.int kn), .val (.ref r_1), .val (.int (p4 &&& (3 : Int32))), .unset, .unset, .unset, .unset, .unset, .unset, .unset, .unset, .unset, .unset, .unset, .unset, .unset, .unset] [])
      refine Go.via (fun t k => XS.iconst Xh1.here hx rfl (hb hby at_33) k) ?_
      exact J565 T1 _ (0 : Int32) Xh1 hh1 N1 (if_pos hc564).symm
    · refine Go.via (fun t k => XS.ifNo Xh1.here hx rfl (hb hby at_26) rfl ((if0 _ _).trans (feq hc564).1) k) ?_
      show Go p.tables e below P T1 (mkF m 29 #[.val (.int p1), .val (.int p2), .val (.int p3), .val (.int p4), .val (.int kn), .val (.ref r_1), .val (.int (p4 &&& (3 : Int32))), .unset, .unset, .unset, .unset, .unset, .unset, .unset, .unset, .unset, .unset, .unset, .unset, .unset, .unset] [])
      refine Go.via (fun t k => XS.iconst Xh1.here hx rfl (hb hby at_29) k) ?_
      refine Go.via (fun t k => XS.goto Xh1.here hx rfl (pc0 := 30) (pc' := 34) rfl (hb hby at_30) (by decide) (by decide) k) ?_
      exact J565 T1 _ (1 : Int32) Xh1 hh1 N1 (if_neg hc564).symm
set_option maxRecDepth 65536 in
set_option maxHeartbeats 40000000 in
theorem comes_1 {Post : Tables → Env → Array Value → State → Outcome → State → Prop} (hpost : ∀ tb e args s v u, (limb_1_1.after args s (.returned v) u = true ∧ limb_1_2.after args s (.returned v) u = true ∧ True) → ReturnedEndW s (.returned v) u (Jvm.fieldLocs frame_1_writes args s ++ Jvm.arrayLocs frame_1_arrays args s ++ Jvm.staticLocs frame_1_statics s) 32 2176 → Post tb e args s (.returned v) u) :
    ArmFor flags0 classFile x code maxLocals ret World_1 tables_1 room_1 Calls_1 rest_1 Pre_1 Post := by
  intro l hfl _ _ p e ha hc hk s m args below hf hA hF happ hP
  obtain ⟨hcalls, hrest, hpre⟩ := hP
  obtain ⟨-, -, -, hnamed, -, -, -, hat⟩ := (Spec.applies_iff hf).mp happ
  obtain ⟨hg, hn⟩ := and_e (Cond.before_iff.mp (show (Jvm.Cond.and given_1 narrow_1).before args s = true from hpre))
  obtain ⟨hv0, hr0⟩ := and_e hg
  obtain ⟨hv1, hr1⟩ := and_e hr0
  obtain ⟨hv2, hr2⟩ := and_e hr1
  obtain ⟨hv3, hr3⟩ := and_e hr2
  obtain ⟨w0, w1, w2, w3, rfl⟩ : ∃ w0 w1 w2 w3 : Value, args = #[w0, w1, w2, w3] := by
    have hs : args.size = 4 := by simpa [Cond.value, given_1] using hv0
    obtain ⟨L⟩ := args
    match L, hs with
    | [w0, w1, w2, w3], _ => exact ⟨w0, w1, w2, w3, rfl⟩
  have hw := fun d (hd : d ∈ tables_1) => atoms_spec (ws := Jvm.Cond.code x code maxLocals ret :: tables_1) hat d (List.mem_cons_of_mem _ hd)
  have hfit : Fit s := fun {y c} hc i hi => by
    obtain ⟨ha, rfl⟩ := Array.getElem?_eq_some_iff.mp hc
    have q := List.all_eq_true.mp ((Array.all_eq_true_iff_forall_mem.mp hF) _ (Array.getElem_mem ha)) i (List.mem_range.mpr hi)
    simpa [Array.getElem?_eq_getElem hi] using q
  obtain ⟨hsets, hown0⟩ := atoms_of _ (rest_1_c_eq ▸ (show rest_1_c.before _ s = true from hrest))
  have hr00 := Cond.before_iff.mp hown0
  obtain ⟨i0, ei0⟩ := is_v hv1
  obtain rfl : w0 = (.int i0) := Option.some.inj ei0
  obtain ⟨i1, ei1⟩ := is_v hv2
  obtain rfl : w1 = (.int i1) := Option.some.inj ei1
  obtain ⟨i2, ei2⟩ := is_v hv3
  obtain rfl : w2 = (.int i2) := Option.some.inj ei2
  obtain ⟨i3, ei3⟩ := is_v hr3
  obtain rfl : w3 = (.int i3) := Option.some.inj ei3
  have ncs := not_v (Cond.before_iff.mp (hsets _ (List.mem_of_getElem? (i := 2) rfl)))
  obtain ⟨cs, ecs⟩ := is_v (Cond.before_iff.mp (hsets _ (List.mem_of_getElem? (i := 1) rfl)))
  have Scs : Sta s s.heap "java/lang/String" "COMPACT_STRINGS" "Z" (.int cs) := Sta.start ecs (Or.inl (hsets _ (List.mem_of_getElem? (i := 0) rfl)))
  have hcs : ¬ (cs = (0 : Int32)) := gotF (Cond.eq_ints ecs (Term.int_eval (0))) ncs
  obtain ⟨hn1, hn2⟩ := and_e hn
  obtain ⟨hn3, hn4⟩ := and_e hn2
  obtain ⟨hn5, hn6⟩ := and_e hn4
  obtain ⟨hn7, hn8⟩ := and_e hn6
  obtain ⟨hn9, hn10⟩ := and_e hn8
  obtain ⟨hn11, hn12⟩ := and_e hn10
  obtain ⟨hn13, hn14⟩ := and_e hn12
  obtain ⟨hn15, hn16⟩ := and_e hn14
  obtain ⟨hn17, hn18⟩ := and_e hn16
  obtain ⟨hn19, hn20⟩ := and_e hn18
  obtain ⟨hn21, hn22⟩ := and_e hn20
  obtain ⟨aNAME, e_aNAME⟩ := exa_v hn1
  have Sta_aNAME : Sta s s.heap "com/example/numeric_planner/numericplanner/rddl/Token$Kind" "NAME" "Lcom/example/numeric_planner/numericplanner/rddl/Token$Kind;" (.ref aNAME) := Sta.start e_aNAME (Or.inr ⟨(hw _ (List.mem_of_getElem? (i := 6) rfl)), (hw _ (List.mem_of_getElem? (i := 7) rfl))⟩)
  have Ex_aNAME : Exa s s.heap aNAME "com/example/numeric_planner/numericplanner/rddl/Token$Kind" := Exa.start e_aNAME hn1
  obtain ⟨aSYMBOL, e_aSYMBOL⟩ := exa_v hn3
  have Sta_aSYMBOL : Sta s s.heap "com/example/numeric_planner/numericplanner/rddl/Token$Kind" "SYMBOL" "Lcom/example/numeric_planner/numericplanner/rddl/Token$Kind;" (.ref aSYMBOL) := Sta.start e_aSYMBOL (Or.inr ⟨(hw _ (List.mem_of_getElem? (i := 6) rfl)), (hw _ (List.mem_of_getElem? (i := 80) rfl))⟩)
  have Ex_aSYMBOL : Exa s s.heap aSYMBOL "com/example/numeric_planner/numericplanner/rddl/Token$Kind" := Exa.start e_aSYMBOL hn3
  have fi23 : Fld s s.heap aNAME "java/lang/Enum" "ordinal" "I" (.int (0 : Int32)) := Fld.start ((fld_at e_aNAME).symm.trans (own_ieq hn5))
  have fi24 : Fld s s.heap aSYMBOL "java/lang/Enum" "ordinal" "I" (.int (3 : Int32)) := Fld.start ((fld_at e_aSYMBOL).symm.trans (own_ieq hn7))
  obtain ⟨aPRIMED_NAME, e_aPRIMED_NAME⟩ := exa_v hn9
  have Sta_aPRIMED_NAME : Sta s s.heap "com/example/numeric_planner/numericplanner/rddl/Token$Kind" "PRIMED_NAME" "Lcom/example/numeric_planner/numericplanner/rddl/Token$Kind;" (.ref aPRIMED_NAME) := Sta.start e_aPRIMED_NAME (Or.inr ⟨(hw _ (List.mem_of_getElem? (i := 6) rfl)), (hw _ (List.mem_of_getElem? (i := 93) rfl))⟩)
  have Ex_aPRIMED_NAME : Exa s s.heap aPRIMED_NAME "com/example/numeric_planner/numericplanner/rddl/Token$Kind" := Exa.start e_aPRIMED_NAME hn9
  have fi25 : Fld s s.heap aPRIMED_NAME "java/lang/Enum" "ordinal" "I" (.int (1 : Int32)) := Fld.start ((fld_at e_aPRIMED_NAME).symm.trans (own_ieq hn11))
  obtain ⟨aINVALID, e_aINVALID⟩ := exa_v hn13
  have Sta_aINVALID : Sta s s.heap "com/example/numeric_planner/numericplanner/rddl/Token$Kind" "INVALID" "Lcom/example/numeric_planner/numericplanner/rddl/Token$Kind;" (.ref aINVALID) := Sta.start e_aINVALID (Or.inr ⟨(hw _ (List.mem_of_getElem? (i := 6) rfl)), (hw _ (List.mem_of_getElem? (i := 95) rfl))⟩)
  have Ex_aINVALID : Exa s s.heap aINVALID "com/example/numeric_planner/numericplanner/rddl/Token$Kind" := Exa.start e_aINVALID hn13
  have fi26 : Fld s s.heap aINVALID "java/lang/Enum" "ordinal" "I" (.int (4 : Int32)) := Fld.start ((fld_at e_aINVALID).symm.trans (own_ieq hn15))
  obtain ⟨aEND, e_aEND⟩ := exa_v hn17
  have Sta_aEND : Sta s s.heap "com/example/numeric_planner/numericplanner/rddl/Token$Kind" "END" "Lcom/example/numeric_planner/numericplanner/rddl/Token$Kind;" (.ref aEND) := Sta.start e_aEND (Or.inr ⟨(hw _ (List.mem_of_getElem? (i := 6) rfl)), (hw _ (List.mem_of_getElem? (i := 98) rfl))⟩)
  have Ex_aEND : Exa s s.heap aEND "com/example/numeric_planner/numericplanner/rddl/Token$Kind" := Exa.start e_aEND hn17
  have fi27 : Fld s s.heap aEND "java/lang/Enum" "ordinal" "I" (.int (5 : Int32)) := Fld.start ((fld_at e_aEND).symm.trans (own_ieq hn19))
  obtain ⟨aNUMBER, e_aNUMBER⟩ := exa_v hn21
  have Sta_aNUMBER : Sta s s.heap "com/example/numeric_planner/numericplanner/rddl/Token$Kind" "NUMBER" "Lcom/example/numeric_planner/numericplanner/rddl/Token$Kind;" (.ref aNUMBER) := Sta.start e_aNUMBER (Or.inr ⟨(hw _ (List.mem_of_getElem? (i := 6) rfl)), (hw _ (List.mem_of_getElem? (i := 100) rfl))⟩)
  have Ex_aNUMBER : Exa s s.heap aNUMBER "com/example/numeric_planner/numericplanner/rddl/Token$Kind" := Exa.start e_aNUMBER hn21
  have fi28 : Fld s s.heap aNUMBER "java/lang/Enum" "ordinal" "I" (.int (2 : Int32)) := Fld.start ((fld_at e_aNUMBER).symm.trans (own_ieq hn22))
  have hCH : CHv s consts_1 s.vm s.heap := CHv.start (own_EW hw) (fun p hp => hcalls.1 p hp) (hsets _ (List.mem_of_getElem? (i := 2) rfl)) (hw _ (List.mem_of_getElem? (i := 30) rfl)) (hw _ (List.mem_of_getElem? (i := 12) rfl))
  obtain ⟨n, o, h1, h2, h3, _, L, rfl, ⟨rfl, N⟩, -, hq⟩ := rm0 l s _ hw tables_1 i0 i1 i2 i3 cs aNAME aPRIMED_NAME aNUMBER aSYMBOL aINVALID aEND s.heap s.heap.size (Nat.le_refl _) (Old.start s) Scs hcs Sta_aNAME Sta_aPRIMED_NAME Sta_aNUMBER Sta_aSYMBOL Sta_aINVALID Sta_aEND (own_fne fi25 fi23 (by decide)) (own_fne fi28 fi23 (by decide)) (own_fne fi26 fi23 (by decide)) (own_fne fi27 fi23 (by decide)) (own_fne fi25 fi24 (by decide)) (own_fne fi28 fi24 (by decide)) (own_fne fi26 fi24 (by decide)) (own_fne fi27 fi24 (by decide)) (own_fne fi23 fi24 (by decide)) p e ha hc hk s m _ below hf ((Spec.applies_iff_loose hf).mp happ).1 ⟨rfl, State.Warmed39.refl s, rfl, hCH⟩ trivial
  refine ⟨n, _, h1, h2, h3, hpost _ _ _ _ _ _ ⟨Cond.after_iff.mpr rfl, Cond.after_iff.mpr (eq_i res_at (Term.int_eval (1)) rfl), trivial⟩ ⟨hq.1, hq.2.1, hq.2.2.1, (hq.2.2.2.sift fun y hy => Or.inr (N y hy)).mono (by decide) (by decide)⟩⟩
theorem main_1_1 : Claimed_1_1 := comes_1 fun _ _ _ _ _ _ h hF => ⟨h.1, hF⟩
theorem main_1_2 : Claimed_1_2 := comes_1 fun _ _ _ _ _ _ h hF => ⟨h.2.1, hF⟩
end Jvm.Pilot.@@N@@
namespace Jvm.Pilot.@@N@@
open Jvm Jvm.ClassFile Sem Op Lib Jvm.Free Jvm.Stand Jvm.Pilot.@@N@@.Jvm.D
/-! MADE BY PROGRAM (witnessworld.py) out of the Statement's table words and the real class files: 24 classes; the members and pool entries that the words name. The judged class is class 1, her method 1. -/
namespace start1
open Jvm.ClassFile
def u (s : String) : CpInfo := .utf8 (stringToUtf16 s)
/-- a pool by its gaps: so many unusable entries, then the entry; so many at the end -/
def gap : Nat → List CpInfo → List CpInfo
  | 0, r => r
  | n + 1, r => .unusable :: gap n r
def poolList (es : List (Nat × CpInfo)) (last : Nat) : List CpInfo := es.foldr (fun e r => gap e.1 (e.2 :: r)) (gap last [])
def pool (es : List (Nat × CpInfo)) (last : Nat) : Array CpInfo := ⟨poolList es last⟩
def fileOf (pool : Array CpInfo) (this : Nat) (attrs : Array Attribute := #[]) (ms : Array MethodInfo := #[]) (fl : Nat := 33) (sup : Nat := 0) (ifs : Array Nat := #[]) (fds : Array FieldInfo := #[]) : ClassFile where
  minorVersion := 0
  majorVersion := 65
  constantPool := pool
  accessFlags := fl
  thisClass := this
  superClass := sup
  interfaces := ifs
  fields := fds
  methods := ms
  attributes := attrs
def plain (name : String) (sup : Option ClassId) : Class where
  name := name
  kind := .ordinary
  loader := none
  accessFlags := 33
  super := sup
  interfaces := #[]
  cf := none
  fields := #[]
  methods := #[]
  instanceTypes := #[]
  staticTypes := #[]
  resolved := #[]
  callSites := []
  init := .initialized
  statics := none
  mirror := none

def pool0 : Array CpInfo := pool [(5, u "<init>"), (0, u "()V"), (1, .class_ 10), (1, u "java/lang/Object")] 113

def k0c0 : Code := { maxStack := 0, maxLocals := 1, code := object_method_1_code, exceptionTable := #[], attributes := #[] }
def k0m0 : Method := { name := "<init>", desc := "()V", sig := { parameters := [], returnType := none }, accessFlags := 1, code := some k0c0 }
/-- java/lang/Object -/
def k0 : Class := { plain "java/lang/Object" none with
  accessFlags := 33
  interfaces := #[]
  cf := some (fileOf pool0 8 #[] #[{ accessFlags := 1, nameIndex := 5, descriptorIndex := 6, attributes := #[] }] 33 0 #[] #[])
  fields := #[]
  methods := #[k0m0]
  instanceTypes := #[]
  staticTypes := #[]
  resolved := Array.replicate 124 none
  statics := none }

def pool1 : Array CpInfo := pool [(2, .class_ 4), (1, u "java/lang/Object"), (0, u "<init>"), (0, u "()V"), (0, .integer 2147483647), (0, .methodref 9 10), (0, .class_ 11), (0, .nameAndType 12 13), (0, u "com/example/numeric_planner/numericplanner/rddl/TokenIsPinLaw"), (0, u "kindOf"), (0, u "(I)Lcom/example/numeric_planner/numericplanner/rddl/Token$Kind;"), (0, .methodref 9 15), (0, .nameAndType 16 17), (0, u "mk"), (0, u "(ICCC)Ljava/lang/String;"), (0, .class_ 19), (0, u "com/example/numeric_planner/numericplanner/rddl/Token"), (0, .class_ 21), (0, u "com/example/numeric_planner/numericplanner/rddl/Location"), (0, .string 23), (0, u "f"), (0, .methodref 20 25), (0, .nameAndType 5 26), (0, u "(Ljava/lang/String;I)V"), (0, .methodref 18 28), (0, .nameAndType 5 29), (0, u "(Lcom/example/numeric_planner/numericplanner/rddl/Token$Kind;Ljava/lang/String;Lcom/example/numeric_planner/numericplanner/rddl/Location;)V"), (0, .methodref 18 31), (0, .nameAndType 32 33), (0, u "is"), (0, u "(Ljava/lang/String;)Z"), (0, .fieldref 35 36), (0, .class_ 37), (0, .nameAndType 38 39), (0, u "com/example/numeric_planner/numericplanner/rddl/Token$Kind"), (0, u "NAME"), (0, u "Lcom/example/numeric_planner/numericplanner/rddl/Token$Kind;"), (0, .fieldref 35 41), (0, .nameAndType 42 39), (0, u "PRIMED_NAME"), (0, .fieldref 35 44), (0, .nameAndType 45 39), (0, u "NUMBER"), (0, .fieldref 35 47), (0, .nameAndType 48 39), (0, u "SYMBOL"), (0, .fieldref 35 50), (0, .nameAndType 51 39), (0, u "INVALID"), (0, .fieldref 35 53), (0, .nameAndType 54 39), (0, u "END"), (0, .class_ 56), (0, u "java/lang/String"), (0, .methodref 55 58), (0, .nameAndType 5 59), (0, u "([C)V"), (2, u "law"), (0, u "(IIII)Z")] 5

def k1m0 : Method := { name := "<init>", desc := "()V", sig := { parameters := [], returnType := none }, accessFlags := 1, code := none }
def k1c1 : Code := { maxStack := 8, maxLocals := 21, code := code, exceptionTable := #[], attributes := #[] }
def k1m1 : Method := { name := "law", desc := "(IIII)Z", sig := { parameters := [.int, .int, .int, .int], returnType := some .boolean }, accessFlags := 9, code := some k1c1 }
def k1c2 : Code := { maxStack := 2, maxLocals := 1, code := method_3_code, exceptionTable := #[], attributes := #[] }
def k1m2 : Method := { name := "kindOf", desc := "(I)Lcom/example/numeric_planner/numericplanner/rddl/Token$Kind;", sig := { parameters := [.int], returnType := some (.object "com/example/numeric_planner/numericplanner/rddl/Token$Kind") }, accessFlags := 10, code := some k1c2 }
def k1c3 : Code := { maxStack := 6, maxLocals := 4, code := method_4_code, exceptionTable := #[], attributes := #[] }
def k1m3 : Method := { name := "mk", desc := "(ICCC)Ljava/lang/String;", sig := { parameters := [.int, .char, .char, .char], returnType := some (.object "java/lang/String") }, accessFlags := 10, code := some k1c3 }
/-- com/example/numeric_planner/numericplanner/rddl/TokenIsPinLaw -/
def k1 : Class := { plain "com/example/numeric_planner/numericplanner/rddl/TokenIsPinLaw" (some 0) with
  accessFlags := 49
  interfaces := #[]
  cf := some (fileOf pool1 9 #[] #[{ accessFlags := 1, nameIndex := 5, descriptorIndex := 6, attributes := #[] }, { accessFlags := 9, nameIndex := 62, descriptorIndex := 63, attributes := #[] }, { accessFlags := 10, nameIndex := 12, descriptorIndex := 13, attributes := #[] }, { accessFlags := 10, nameIndex := 16, descriptorIndex := 17, attributes := #[] }] 49 2 #[] #[])
  fields := #[]
  methods := #[k1m0, k1m1, k1m2, k1m3]
  instanceTypes := #[]
  staticTypes := #[]
  resolved := Array.replicate 69 none
  statics := none }

def pool2 : Array CpInfo := pool [(1, .class_ 2), (0, u "java/lang/constant/Constable"), (0, .class_ 4), (0, u "java/lang/Object")] 6

/-- java/lang/constant/Constable -/
def k2 : Class := { plain "java/lang/constant/Constable" (some 0) with
  accessFlags := 1537
  interfaces := #[]
  cf := some (fileOf pool2 1 #[] #[] 1537 3 #[] #[])
  fields := #[]
  methods := #[]
  instanceTypes := #[]
  staticTypes := #[]
  resolved := Array.replicate 11 none
  statics := none }

def pool3 : Array CpInfo := pool [(1, .class_ 2), (0, u "java/lang/Comparable"), (0, .class_ 4), (0, u "java/lang/Object")] 7

/-- java/lang/Comparable -/
def k3 : Class := { plain "java/lang/Comparable" (some 0) with
  accessFlags := 1537
  interfaces := #[]
  cf := some (fileOf pool3 1 #[] #[] 1537 3 #[] #[])
  fields := #[]
  methods := #[]
  instanceTypes := #[]
  staticTypes := #[]
  resolved := Array.replicate 12 none
  statics := none }

def pool4 : Array CpInfo := pool [(1, .class_ 2), (0, u "java/io/Serializable"), (0, .class_ 4), (0, u "java/lang/Object")] 2

/-- java/io/Serializable -/
def k4 : Class := { plain "java/io/Serializable" (some 0) with
  accessFlags := 1537
  interfaces := #[]
  cf := some (fileOf pool4 1 #[] #[] 1537 3 #[] #[])
  fields := #[]
  methods := #[]
  instanceTypes := #[]
  staticTypes := #[]
  resolved := Array.replicate 7 none
  statics := none }

def pool5 : Array CpInfo := pool [(2, .class_ 4), (1, u "java/lang/Enum"), (0, u "name"), (0, u "Ljava/lang/String;"), (2, u "ordinal"), (0, u "I"), (1, .class_ 14), (1, u "java/lang/Object"), (4, u "hash"), (86, .class_ 108), (1, u "java/lang/Enum$EnumDesc"), (2, .class_ 112), (0, u "java/lang/constant/Constable"), (0, .class_ 114), (0, u "java/lang/Comparable"), (0, .class_ 116), (0, u "java/io/Serializable")] 87

/-- java/lang/Enum -/
def k5 : Class := { plain "java/lang/Enum" (some 0) with
  accessFlags := 1057
  interfaces := #[2, 3, 4]
  cf := some (fileOf pool5 2 #[.nestMembers #[106]] #[] 1057 12 #[111, 113, 115] #[{ accessFlags := 18, nameIndex := 5, descriptorIndex := 6, attributes := #[] }, { accessFlags := 18, nameIndex := 9, descriptorIndex := 10, attributes := #[] }, { accessFlags := 2, nameIndex := 19, descriptorIndex := 10, attributes := #[] }])
  fields := #[{ name := "name", type := (.object "java/lang/String"), accessFlags := 18, slot := 0, constantValue := 0 }, { name := "ordinal", type := .int, accessFlags := 18, slot := 1, constantValue := 0 }, { name := "hash", type := .int, accessFlags := 2, slot := 2, constantValue := 0 }]
  methods := #[]
  instanceTypes := #[(.object "java/lang/String"), .int, .int]
  staticTypes := #[]
  resolved := Array.replicate 204 none
  statics := none }

def pool6 : Array CpInfo := pool [(1, .class_ 2), (0, u "com/example/numeric_planner/numericplanner/rddl/Token$Kind"), (2, u "NAME"), (0, u "Lcom/example/numeric_planner/numericplanner/rddl/Token$Kind;"), (2, u "PRIMED_NAME"), (2, u "NUMBER"), (2, u "SYMBOL"), (2, u "INVALID"), (2, u "END"), (2, u "$VALUES"), (0, u "[Lcom/example/numeric_planner/numericplanner/rddl/Token$Kind;"), (6, .class_ 34), (1, u "java/lang/Enum"), (29, .class_ 65), (0, u "com/example/numeric_planner/numericplanner/rddl/Token")] 2

/-- com/example/numeric_planner/numericplanner/rddl/Token$Kind -/
def k6 : Class := { plain "com/example/numeric_planner/numericplanner/rddl/Token$Kind" (some 5) with
  accessFlags := 16432
  interfaces := #[]
  cf := some (fileOf pool6 1 #[.nestHost 64] #[] 16432 32 #[] #[{ accessFlags := 16409, nameIndex := 5, descriptorIndex := 6, attributes := #[] }, { accessFlags := 16409, nameIndex := 9, descriptorIndex := 6, attributes := #[] }, { accessFlags := 16409, nameIndex := 12, descriptorIndex := 6, attributes := #[] }, { accessFlags := 16409, nameIndex := 15, descriptorIndex := 6, attributes := #[] }, { accessFlags := 16409, nameIndex := 18, descriptorIndex := 6, attributes := #[] }, { accessFlags := 16409, nameIndex := 21, descriptorIndex := 6, attributes := #[] }, { accessFlags := 4122, nameIndex := 24, descriptorIndex := 25, attributes := #[] }])
  fields := #[{ name := "NAME", type := (.object "com/example/numeric_planner/numericplanner/rddl/Token$Kind"), accessFlags := 16409, slot := 0, constantValue := 0 }, { name := "PRIMED_NAME", type := (.object "com/example/numeric_planner/numericplanner/rddl/Token$Kind"), accessFlags := 16409, slot := 1, constantValue := 0 }, { name := "NUMBER", type := (.object "com/example/numeric_planner/numericplanner/rddl/Token$Kind"), accessFlags := 16409, slot := 2, constantValue := 0 }, { name := "SYMBOL", type := (.object "com/example/numeric_planner/numericplanner/rddl/Token$Kind"), accessFlags := 16409, slot := 3, constantValue := 0 }, { name := "INVALID", type := (.object "com/example/numeric_planner/numericplanner/rddl/Token$Kind"), accessFlags := 16409, slot := 4, constantValue := 0 }, { name := "END", type := (.object "com/example/numeric_planner/numericplanner/rddl/Token$Kind"), accessFlags := 16409, slot := 5, constantValue := 0 }, { name := "$VALUES", type := (.array (.object "com/example/numeric_planner/numericplanner/rddl/Token$Kind")), accessFlags := 4122, slot := 6, constantValue := 0 }]
  methods := #[]
  instanceTypes := #[(.object "java/lang/String"), .int, .int]
  staticTypes := #[(.object "com/example/numeric_planner/numericplanner/rddl/Token$Kind"), (.object "com/example/numeric_planner/numericplanner/rddl/Token$Kind"), (.object "com/example/numeric_planner/numericplanner/rddl/Token$Kind"), (.object "com/example/numeric_planner/numericplanner/rddl/Token$Kind"), (.object "com/example/numeric_planner/numericplanner/rddl/Token$Kind"), (.object "com/example/numeric_planner/numericplanner/rddl/Token$Kind"), (.array (.object "com/example/numeric_planner/numericplanner/rddl/Token$Kind"))]
  resolved := Array.replicate 68 none
  statics := some 0 }

def pool7 : Array CpInfo := pool [(2, .class_ 4), (1, u "java/lang/CharSequence"), (42, .class_ 48), (0, u "java/lang/CharSequence$1CodePointIterator"), (10, .class_ 60), (0, u "java/lang/CharSequence$1CharIterator"), (5, .class_ 67), (0, u "java/lang/Object")] 63

/-- java/lang/CharSequence -/
def k7 : Class := { plain "java/lang/CharSequence" (some 0) with
  accessFlags := 1537
  interfaces := #[]
  cf := some (fileOf pool7 2 #[.nestMembers #[47, 59]] #[] 1537 66 #[] #[])
  fields := #[]
  methods := #[]
  instanceTypes := #[]
  staticTypes := #[]
  resolved := Array.replicate 131 none
  statics := none }

def pool8 : Array CpInfo := pool [(1, .class_ 2), (0, u "java/lang/constant/ConstantDesc"), (0, .class_ 4), (0, u "java/lang/Object")] 32

/-- java/lang/constant/ConstantDesc -/
def k8 : Class := { plain "java/lang/constant/ConstantDesc" (some 0) with
  accessFlags := 1537
  interfaces := #[]
  cf := some (fileOf pool8 1 #[] #[] 1537 3 #[] #[])
  fields := #[]
  methods := #[]
  instanceTypes := #[]
  staticTypes := #[]
  resolved := Array.replicate 37 none
  statics := none }

def pool9 : Array CpInfo := pool [(1, .methodref 2 3), (0, .class_ 4), (0, .nameAndType 5 6), (0, u "java/lang/Object"), (0, u "<init>"), (0, u "()V"), (0, .string 8), (0, u ""), (0, .fieldref 10 11), (0, .class_ 12), (0, .nameAndType 13 14), (0, u "java/lang/String"), (0, u "value"), (0, u "[B"), (0, .fieldref 10 16), (0, .nameAndType 17 18), (0, u "coder"), (0, u "B"), (2, u "hash"), (0, u "I"), (2, u "hashIsZero"), (0, u "Z"), (0, .methodref 10 28), (0, .nameAndType 5 29), (0, u "([CIILjava/lang/Void;)V"), (8, .fieldref 10 39), (0, .nameAndType 40 26), (0, u "COMPACT_STRINGS"), (1, .class_ 44), (1, u "java/lang/StringUTF16"), (0, u "compress"), (1, .methodref 42 48), (0, .nameAndType 49 50), (0, u "coderFromArrayLen"), (0, u "([BI)B"), (56, .class_ 109), (1, u "java/lang/StringLatin1"), (67, .methodref 42 178), (0, .nameAndType 45 179), (0, u "([CII)[B"), (361, .methodref 107 542), (0, .nameAndType 543 544), (0, u "equals"), (0, u "([B[B)Z"), (28, u "(Ljava/lang/Object;)Z"), (1, .class_ 576), (0, u "java/lang/CharSequence"), (22, u "CASE_INSENSITIVE_ORDER"), (0, u "Ljava/util/Comparator;"), (409, u "([C)V"), (90, u "serialPersistentFields"), (0, u "[Ljava/io/ObjectStreamField;"), (0, .class_ 1104), (0, u "java/lang/String$CaseInsensitiveComparator"), (1, .class_ 1107), (0, u "java/io/Serializable"), (0, .class_ 1109), (0, u "java/lang/Comparable"), (0, .class_ 1111), (0, u "java/lang/constant/Constable"), (0, .class_ 1113), (0, u "java/lang/constant/ConstantDesc"), (2, u "serialVersionUID"), (0, u "J"), (3, u "REPL"), (0, u "C"), (2, u "LATIN1"), (1, u "UTF16")] 323

def k9m0 : Method := { name := "<init>", desc := "()V", sig := { parameters := [], returnType := none }, accessFlags := 1, code := none }
def k9c1 : Code := { maxStack := 5, maxLocals := 2, code := jdk_42_method_3_code, exceptionTable := #[], attributes := #[] }
def k9m1 : Method := { name := "<init>", desc := "([C)V", sig := { parameters := [(.array .char)], returnType := none }, accessFlags := 1, code := some k9c1 }
def k9c2 : Code := { maxStack := 2, maxLocals := 3, code := jdk_42_method_66_code, exceptionTable := #[], attributes := #[] }
def k9m2 : Method := { name := "equals", desc := "(Ljava/lang/Object;)Z", sig := { parameters := [(.object "java/lang/Object")], returnType := some .boolean }, accessFlags := 1, code := some k9c2 }
def k9c3 : Code := { maxStack := 4, maxLocals := 6, code := jdk_42_method_149_code, exceptionTable := #[], attributes := #[] }
def k9m3 : Method := { name := "<init>", desc := "([CIILjava/lang/Void;)V", sig := { parameters := [(.array .char), .int, .int, (.object "java/lang/Void")], returnType := none }, accessFlags := 2, code := some k9c3 }
/-- java/lang/String -/
def k9 : Class := { plain "java/lang/String" (some 0) with
  accessFlags := 49
  interfaces := #[4, 3, 7, 2, 8]
  cf := some (fileOf pool9 10 #[.nestMembers #[1103]] #[{ accessFlags := 1, nameIndex := 5, descriptorIndex := 6, attributes := #[] }, { accessFlags := 1, nameIndex := 5, descriptorIndex := 1010, attributes := #[] }, { accessFlags := 1, nameIndex := 543, descriptorIndex := 573, attributes := #[] }, { accessFlags := 2, nameIndex := 5, descriptorIndex := 29, attributes := #[] }] 49 2 #[1106, 1108, 575, 1110, 1112] #[{ accessFlags := 18, nameIndex := 13, descriptorIndex := 14, attributes := #[] }, { accessFlags := 18, nameIndex := 17, descriptorIndex := 18, attributes := #[] }, { accessFlags := 2, nameIndex := 21, descriptorIndex := 22, attributes := #[] }, { accessFlags := 2, nameIndex := 25, descriptorIndex := 26, attributes := #[] }, { accessFlags := 26, nameIndex := 1116, descriptorIndex := 1117, attributes := #[] }, { accessFlags := 24, nameIndex := 40, descriptorIndex := 26, attributes := #[] }, { accessFlags := 26, nameIndex := 1101, descriptorIndex := 1102, attributes := #[] }, { accessFlags := 26, nameIndex := 1121, descriptorIndex := 1122, attributes := #[] }, { accessFlags := 25, nameIndex := 599, descriptorIndex := 600, attributes := #[] }, { accessFlags := 24, nameIndex := 1125, descriptorIndex := 18, attributes := #[] }, { accessFlags := 24, nameIndex := 1127, descriptorIndex := 18, attributes := #[] }])
  fields := #[{ name := "value", type := (.array .byte), accessFlags := 18, slot := 0, constantValue := 0 }, { name := "coder", type := .byte, accessFlags := 18, slot := 1, constantValue := 0 }, { name := "hash", type := .int, accessFlags := 2, slot := 2, constantValue := 0 }, { name := "hashIsZero", type := .boolean, accessFlags := 2, slot := 3, constantValue := 0 }, { name := "serialVersionUID", type := .long, accessFlags := 26, slot := 0, constantValue := 0 }, { name := "COMPACT_STRINGS", type := .boolean, accessFlags := 24, slot := 1, constantValue := 0 }, { name := "serialPersistentFields", type := (.array (.object "java/io/ObjectStreamField")), accessFlags := 26, slot := 2, constantValue := 0 }, { name := "REPL", type := .char, accessFlags := 26, slot := 3, constantValue := 0 }, { name := "CASE_INSENSITIVE_ORDER", type := (.object "java/util/Comparator"), accessFlags := 25, slot := 4, constantValue := 0 }, { name := "LATIN1", type := .byte, accessFlags := 24, slot := 5, constantValue := 0 }, { name := "UTF16", type := .byte, accessFlags := 24, slot := 6, constantValue := 0 }]
  methods := #[k9m0, k9m1, k9m2, k9m3]
  instanceTypes := #[(.array .byte), .byte, .int, .boolean]
  staticTypes := #[.long, .boolean, (.array (.object "java/io/ObjectStreamField")), .char, (.object "java/util/Comparator"), .byte, .byte]
  resolved := Array.replicate 1451 none
  statics := some 1 }

def pool10 : Array CpInfo := pool [(6, .class_ 8), (1, u "java/lang/Object"), (0, u "<init>"), (0, u "()V"), (1, .class_ 14), (1, u "java/lang/StringUTF16"), (31, u "$assertionsDisabled"), (0, u "Z"), (13, u "HI_BYTE_SHIFT"), (0, u "I"), (2, u "LO_BYTE_SHIFT"), (49, .methodref 12 116), (0, .nameAndType 117 118), (0, u "compress"), (0, u "([CI[BII)I"), (3, u "([CII)[B"), (138, u "coderFromArrayLen"), (0, u "([BI)B"), (106, .class_ 371), (1, u "java/lang/StringUTF16$LinesSpliterator"), (58, u "MAX_LENGTH"), (196, .class_ 628), (0, u "java/lang/StringUTF16$CodePointsSpliterator"), (0, .class_ 630), (0, u "java/lang/StringUTF16$CharsSpliterator")] 4

def k10m0 : Method := { name := "<init>", desc := "()V", sig := { parameters := [], returnType := none }, accessFlags := 0, code := none }
def k10c1 : Code := { maxStack := 2, maxLocals := 2, code := jdk_52_method_15_code, exceptionTable := #[], attributes := #[] }
def k10m1 : Method := { name := "coderFromArrayLen", desc := "([BI)B", sig := { parameters := [(.array .byte), .int], returnType := some .byte }, accessFlags := 8, code := some k10c1 }
def k10c2 : Code := { maxStack := 5, maxLocals := 6, code := jdk_52_method_16_code, exceptionTable := #[], attributes := #[] }
def k10m2 : Method := { name := "compress", desc := "([CII)[B", sig := { parameters := [(.array .char), .int, .int], returnType := some (.array .byte) }, accessFlags := 9, code := some k10c2 }
def k10c3 : Code := { maxStack := 3, maxLocals := 7, code := jdk_52_method_21_code, exceptionTable := #[], attributes := #[] }
def k10m3 : Method := { name := "compress", desc := "([CI[BII)I", sig := { parameters := [(.array .char), .int, (.array .byte), .int, .int], returnType := some .int }, accessFlags := 9, code := some k10c3 }
/-- java/lang/StringUTF16 -/
def k10 : Class := { plain "java/lang/StringUTF16" (some 0) with
  accessFlags := 48
  interfaces := #[]
  cf := some (fileOf pool10 12 #[.nestMembers #[627, 629, 369]] #[{ accessFlags := 0, nameIndex := 9, descriptorIndex := 10, attributes := #[] }, { accessFlags := 8, nameIndex := 261, descriptorIndex := 262, attributes := #[] }, { accessFlags := 9, nameIndex := 117, descriptorIndex := 122, attributes := #[] }, { accessFlags := 9, nameIndex := 117, descriptorIndex := 118, attributes := #[] }] 48 6 #[] #[{ accessFlags := 26, nameIndex := 61, descriptorIndex := 62, attributes := #[] }, { accessFlags := 26, nameIndex := 65, descriptorIndex := 62, attributes := #[] }, { accessFlags := 24, nameIndex := 430, descriptorIndex := 62, attributes := #[] }, { accessFlags := 4120, nameIndex := 46, descriptorIndex := 47, attributes := #[] }])
  fields := #[{ name := "HI_BYTE_SHIFT", type := .int, accessFlags := 26, slot := 0, constantValue := 0 }, { name := "LO_BYTE_SHIFT", type := .int, accessFlags := 26, slot := 1, constantValue := 0 }, { name := "MAX_LENGTH", type := .int, accessFlags := 24, slot := 2, constantValue := 0 }, { name := "$assertionsDisabled", type := .boolean, accessFlags := 4120, slot := 3, constantValue := 0 }]
  methods := #[k10m0, k10m1, k10m2, k10m3]
  instanceTypes := #[]
  staticTypes := #[.int, .int, .int, .boolean]
  resolved := Array.replicate 635 none
  statics := none }

def pool11 : Array CpInfo := pool [(1, .methodref 2 3), (0, .class_ 4), (0, .nameAndType 5 6), (0, u "java/lang/Object"), (0, u "<init>"), (0, u "()V"), (0, .class_ 8), (0, u "java/lang/Record")] 13

def k11c0 : Code := { maxStack := 1, maxLocals := 1, code := jdk_30_method_1_code, exceptionTable := #[], attributes := #[] }
def k11m0 : Method := { name := "<init>", desc := "()V", sig := { parameters := [], returnType := none }, accessFlags := 4, code := some k11c0 }
/-- java/lang/Record -/
def k11 : Class := { plain "java/lang/Record" (some 0) with
  accessFlags := 1057
  interfaces := #[]
  cf := some (fileOf pool11 7 #[] #[{ accessFlags := 4, nameIndex := 5, descriptorIndex := 6, attributes := #[] }] 1057 2 #[] #[])
  fields := #[]
  methods := #[k11m0]
  instanceTypes := #[]
  staticTypes := #[]
  resolved := Array.replicate 22 none
  statics := none }

def pool12 : Array CpInfo := pool [(1, .methodref 2 3), (0, .class_ 4), (0, .nameAndType 5 6), (0, u "java/lang/Record"), (0, u "<init>"), (0, u "()V"), (0, .fieldref 8 9), (0, .class_ 10), (0, .nameAndType 11 12), (0, u "com/example/numeric_planner/numericplanner/rddl/Token"), (0, u "kind"), (0, u "Lcom/example/numeric_planner/numericplanner/rddl/Token$Kind;"), (0, .fieldref 8 14), (0, .nameAndType 15 16), (0, u "text"), (0, u "Ljava/lang/String;"), (0, .fieldref 8 18), (0, .nameAndType 19 20), (0, u "location"), (0, u "Lcom/example/numeric_planner/numericplanner/rddl/Location;"), (0, .fieldref 22 23), (0, .class_ 24), (0, .nameAndType 25 12), (0, u "com/example/numeric_planner/numericplanner/rddl/Token$Kind"), (0, u "SYMBOL"), (0, .fieldref 22 27), (0, .nameAndType 28 12), (0, u "NAME"), (0, .methodref 30 31), (0, .class_ 32), (0, .nameAndType 33 34), (0, u "java/lang/String"), (0, u "equals"), (0, u "(Ljava/lang/Object;)Z"), (49, u "(Lcom/example/numeric_planner/numericplanner/rddl/Token$Kind;Ljava/lang/String;Lcom/example/numeric_planner/numericplanner/rddl/Location;)V"), (3, u "is"), (0, u "(Ljava/lang/String;)Z")] 40

def k12c0 : Code := { maxStack := 2, maxLocals := 4, code := prog_90_method_1_code, exceptionTable := #[], attributes := #[] }
def k12m0 : Method := { name := "<init>", desc := "(Lcom/example/numeric_planner/numericplanner/rddl/Token$Kind;Ljava/lang/String;Lcom/example/numeric_planner/numericplanner/rddl/Location;)V", sig := { parameters := [(.object "com/example/numeric_planner/numericplanner/rddl/Token$Kind"), (.object "java/lang/String"), (.object "com/example/numeric_planner/numericplanner/rddl/Location")], returnType := none }, accessFlags := 0, code := some k12c0 }
def k12c1 : Code := { maxStack := 2, maxLocals := 2, code := prog_90_method_2_code, exceptionTable := #[], attributes := #[] }
def k12m1 : Method := { name := "is", desc := "(Ljava/lang/String;)Z", sig := { parameters := [(.object "java/lang/String")], returnType := some .boolean }, accessFlags := 0, code := some k12c1 }
/-- com/example/numeric_planner/numericplanner/rddl/Token -/
def k12 : Class := { plain "com/example/numeric_planner/numericplanner/rddl/Token" (some 11) with
  accessFlags := 48
  interfaces := #[]
  cf := some (fileOf pool12 8 #[.nestMembers #[22]] #[{ accessFlags := 0, nameIndex := 5, descriptorIndex := 84, attributes := #[] }, { accessFlags := 0, nameIndex := 88, descriptorIndex := 89, attributes := #[] }] 48 2 #[] #[{ accessFlags := 18, nameIndex := 11, descriptorIndex := 12, attributes := #[] }, { accessFlags := 18, nameIndex := 15, descriptorIndex := 16, attributes := #[] }, { accessFlags := 18, nameIndex := 19, descriptorIndex := 20, attributes := #[] }])
  fields := #[{ name := "kind", type := (.object "com/example/numeric_planner/numericplanner/rddl/Token$Kind"), accessFlags := 18, slot := 0, constantValue := 0 }, { name := "text", type := (.object "java/lang/String"), accessFlags := 18, slot := 1, constantValue := 0 }, { name := "location", type := (.object "com/example/numeric_planner/numericplanner/rddl/Location"), accessFlags := 18, slot := 2, constantValue := 0 }]
  methods := #[k12m0, k12m1]
  instanceTypes := #[(.object "com/example/numeric_planner/numericplanner/rddl/Token$Kind"), (.object "java/lang/String"), (.object "com/example/numeric_planner/numericplanner/rddl/Location")]
  staticTypes := #[]
  resolved := Array.replicate 130 none
  statics := none }

def pool13 : Array CpInfo := pool [(1, .methodref 2 3), (0, .class_ 4), (0, .nameAndType 5 6), (0, u "java/lang/Record"), (0, u "<init>"), (0, u "()V"), (0, .fieldref 8 9), (0, .class_ 10), (0, .nameAndType 11 12), (0, u "com/example/numeric_planner/numericplanner/rddl/Location"), (0, u "file"), (0, u "Ljava/lang/String;"), (0, .fieldref 8 14), (0, .nameAndType 15 16), (0, u "line"), (0, u "I"), (12, u "(Ljava/lang/String;I)V")] 36

def k13c0 : Code := { maxStack := 2, maxLocals := 3, code := prog_83_method_1_code, exceptionTable := #[], attributes := #[] }
def k13m0 : Method := { name := "<init>", desc := "(Ljava/lang/String;I)V", sig := { parameters := [(.object "java/lang/String"), .int], returnType := none }, accessFlags := 1, code := some k13c0 }
/-- com/example/numeric_planner/numericplanner/rddl/Location -/
def k13 : Class := { plain "com/example/numeric_planner/numericplanner/rddl/Location" (some 11) with
  accessFlags := 49
  interfaces := #[]
  cf := some (fileOf pool13 8 #[] #[{ accessFlags := 1, nameIndex := 5, descriptorIndex := 29, attributes := #[] }] 49 2 #[] #[{ accessFlags := 18, nameIndex := 11, descriptorIndex := 12, attributes := #[] }, { accessFlags := 18, nameIndex := 15, descriptorIndex := 16, attributes := #[] }])
  fields := #[{ name := "file", type := (.object "java/lang/String"), accessFlags := 18, slot := 0, constantValue := 0 }, { name := "line", type := .int, accessFlags := 18, slot := 1, constantValue := 0 }]
  methods := #[k13m0]
  instanceTypes := #[(.object "java/lang/String"), .int]
  staticTypes := #[]
  resolved := Array.replicate 66 none
  statics := none }

def pool14 : Array CpInfo := pool [(4, .class_ 6), (1, u "java/lang/Object"), (0, u "<init>"), (0, u "()V"), (5, .class_ 16), (1, u "java/lang/StringLatin1"), (104, u "$assertionsDisabled"), (0, u "Z"), (98, .class_ 223), (1, u "java/lang/StringLatin1$LinesSpliterator"), (57, u "equals"), (0, u "([B[B)Z"), (107, .class_ 391), (0, u "java/lang/StringLatin1$CharsSpliterator")] 3

def k14m0 : Method := { name := "<init>", desc := "()V", sig := { parameters := [], returnType := none }, accessFlags := 0, code := none }
def k14c1 : Code := { maxStack := 3, maxLocals := 3, code := jdk_43_method_13_code, exceptionTable := #[], attributes := #[] }
def k14m1 : Method := { name := "equals", desc := "([B[B)Z", sig := { parameters := [(.array .byte), (.array .byte)], returnType := some .boolean }, accessFlags := 9, code := some k14c1 }
/-- java/lang/StringLatin1 -/
def k14 : Class := { plain "java/lang/StringLatin1" (some 0) with
  accessFlags := 48
  interfaces := #[]
  cf := some (fileOf pool14 14 #[.nestMembers #[390, 221]] #[{ accessFlags := 0, nameIndex := 7, descriptorIndex := 8, attributes := #[] }, { accessFlags := 9, nameIndex := 281, descriptorIndex := 282, attributes := #[] }] 48 4 #[] #[{ accessFlags := 4120, nameIndex := 121, descriptorIndex := 122, attributes := #[] }])
  fields := #[{ name := "$assertionsDisabled", type := .boolean, accessFlags := 4120, slot := 0, constantValue := 0 }]
  methods := #[k14m0, k14m1]
  instanceTypes := #[]
  staticTypes := #[.boolean]
  resolved := Array.replicate 395 none
  statics := none }

def pool15 : Array CpInfo := pool [(2, .class_ 4), (1, u "java/lang/Object"), (0, u "<init>"), (0, u "()V"), (17, .class_ 26), (1, u "jdk/internal/util/Preconditions"), (28, .class_ 56), (0, u "jdk/internal/util/Preconditions$4"), (57, .class_ 115), (0, u "jdk/internal/util/Preconditions$1"), (7, u "SIOOBE_FORMATTER"), (0, u "Ljava/util/function/BiFunction;"), (0, .class_ 126), (0, u "jdk/internal/util/Preconditions$2"), (3, u "AIOOBE_FORMATTER"), (0, .class_ 132), (0, u "jdk/internal/util/Preconditions$3"), (3, u "IOOBE_FORMATTER")] 57

def k15m0 : Method := { name := "<init>", desc := "()V", sig := { parameters := [], returnType := none }, accessFlags := 1, code := none }
/-- jdk/internal/util/Preconditions -/
def k15 : Class := { plain "jdk/internal/util/Preconditions" (some 0) with
  accessFlags := 33
  interfaces := #[]
  cf := some (fileOf pool15 24 #[.nestMembers #[55, 131, 125, 114]] #[{ accessFlags := 1, nameIndex := 5, descriptorIndex := 6, attributes := #[] }] 33 2 #[] #[{ accessFlags := 25, nameIndex := 123, descriptorIndex := 124, attributes := #[] }, { accessFlags := 25, nameIndex := 130, descriptorIndex := 124, attributes := #[] }, { accessFlags := 25, nameIndex := 136, descriptorIndex := 124, attributes := #[] }])
  fields := #[{ name := "SIOOBE_FORMATTER", type := (.object "java/util/function/BiFunction"), accessFlags := 25, slot := 0, constantValue := 0 }, { name := "AIOOBE_FORMATTER", type := (.object "java/util/function/BiFunction"), accessFlags := 25, slot := 1, constantValue := 0 }, { name := "IOOBE_FORMATTER", type := (.object "java/util/function/BiFunction"), accessFlags := 25, slot := 2, constantValue := 0 }]
  methods := #[k15m0]
  instanceTypes := #[]
  staticTypes := #[(.object "java/util/function/BiFunction"), (.object "java/util/function/BiFunction"), (.object "java/util/function/BiFunction")]
  resolved := Array.replicate 194 none
  statics := some 2 }

def pool16 : Array CpInfo := pool [(9, u "<init>"), (6, .class_ 18), (1, u "java/lang/Object"), (0, u "()V"), (1, .class_ 23), (1, u "jdk/internal/util/ArraysSupport"), (0, u "LOG2_ARRAY_LONG_INDEX_SCALE"), (0, u "I"), (2, u "U"), (0, u "Ljdk/internal/misc/Unsafe;"), (8, u "BIG_ENDIAN"), (0, u "Z"), (8, u "LOG2_BYTE_BIT_SIZE"), (4, u "LOG2_ARRAY_INT_INDEX_SCALE"), (54, u "JLA"), (0, u "Ljdk/internal/access/JavaLangAccess;"), (11, u "LOG2_ARRAY_BOOLEAN_INDEX_SCALE"), (9, u "LOG2_ARRAY_BYTE_INDEX_SCALE"), (5, u "LOG2_ARRAY_CHAR_INDEX_SCALE"), (5, u "LOG2_ARRAY_SHORT_INDEX_SCALE"), (18, u "LOG2_ARRAY_FLOAT_INDEX_SCALE"), (24, u "LOG2_ARRAY_DOUBLE_INDEX_SCALE"), (89, u "T_BOOLEAN"), (2, u "T_CHAR"), (1, u "T_FLOAT"), (1, u "T_DOUBLE"), (1, u "T_BYTE"), (1, u "T_SHORT"), (1, u "T_INT"), (1, u "T_LONG"), (1, u "SOFT_MAX_ARRAY_LENGTH")] 83

def k16m0 : Method := { name := "<init>", desc := "()V", sig := { parameters := [], returnType := none }, accessFlags := 2, code := none }
/-- jdk/internal/util/ArraysSupport -/
def k16 : Class := { plain "jdk/internal/util/ArraysSupport" (some 0) with
  accessFlags := 33
  interfaces := #[]
  cf := some (fileOf pool16 21 #[] #[{ accessFlags := 2, nameIndex := 9, descriptorIndex := 19, attributes := #[] }] 33 16 #[] #[{ accessFlags := 24, nameIndex := 28, descriptorIndex := 29, attributes := #[] }, { accessFlags := 26, nameIndex := 38, descriptorIndex := 39, attributes := #[] }, { accessFlags := 25, nameIndex := 121, descriptorIndex := 25, attributes := #[] }, { accessFlags := 25, nameIndex := 131, descriptorIndex := 25, attributes := #[] }, { accessFlags := 25, nameIndex := 137, descriptorIndex := 25, attributes := #[] }, { accessFlags := 25, nameIndex := 143, descriptorIndex := 25, attributes := #[] }, { accessFlags := 25, nameIndex := 53, descriptorIndex := 25, attributes := #[] }, { accessFlags := 25, nameIndex := 24, descriptorIndex := 25, attributes := #[] }, { accessFlags := 25, nameIndex := 162, descriptorIndex := 25, attributes := #[] }, { accessFlags := 25, nameIndex := 187, descriptorIndex := 25, attributes := #[] }, { accessFlags := 26, nameIndex := 48, descriptorIndex := 25, attributes := #[] }, { accessFlags := 25, nameIndex := 277, descriptorIndex := 25, attributes := #[] }, { accessFlags := 25, nameIndex := 280, descriptorIndex := 25, attributes := #[] }, { accessFlags := 25, nameIndex := 282, descriptorIndex := 25, attributes := #[] }, { accessFlags := 25, nameIndex := 284, descriptorIndex := 25, attributes := #[] }, { accessFlags := 25, nameIndex := 286, descriptorIndex := 25, attributes := #[] }, { accessFlags := 25, nameIndex := 288, descriptorIndex := 25, attributes := #[] }, { accessFlags := 25, nameIndex := 290, descriptorIndex := 25, attributes := #[] }, { accessFlags := 25, nameIndex := 292, descriptorIndex := 25, attributes := #[] }, { accessFlags := 26, nameIndex := 108, descriptorIndex := 109, attributes := #[] }, { accessFlags := 25, nameIndex := 294, descriptorIndex := 25, attributes := #[] }])
  fields := #[{ name := "U", type := (.object "jdk/internal/misc/Unsafe"), accessFlags := 24, slot := 0, constantValue := 0 }, { name := "BIG_ENDIAN", type := .boolean, accessFlags := 26, slot := 1, constantValue := 0 }, { name := "LOG2_ARRAY_BOOLEAN_INDEX_SCALE", type := .int, accessFlags := 25, slot := 2, constantValue := 0 }, { name := "LOG2_ARRAY_BYTE_INDEX_SCALE", type := .int, accessFlags := 25, slot := 3, constantValue := 0 }, { name := "LOG2_ARRAY_CHAR_INDEX_SCALE", type := .int, accessFlags := 25, slot := 4, constantValue := 0 }, { name := "LOG2_ARRAY_SHORT_INDEX_SCALE", type := .int, accessFlags := 25, slot := 5, constantValue := 0 }, { name := "LOG2_ARRAY_INT_INDEX_SCALE", type := .int, accessFlags := 25, slot := 6, constantValue := 0 }, { name := "LOG2_ARRAY_LONG_INDEX_SCALE", type := .int, accessFlags := 25, slot := 7, constantValue := 0 }, { name := "LOG2_ARRAY_FLOAT_INDEX_SCALE", type := .int, accessFlags := 25, slot := 8, constantValue := 0 }, { name := "LOG2_ARRAY_DOUBLE_INDEX_SCALE", type := .int, accessFlags := 25, slot := 9, constantValue := 0 }, { name := "LOG2_BYTE_BIT_SIZE", type := .int, accessFlags := 26, slot := 10, constantValue := 0 }, { name := "T_BOOLEAN", type := .int, accessFlags := 25, slot := 11, constantValue := 0 }, { name := "T_CHAR", type := .int, accessFlags := 25, slot := 12, constantValue := 0 }, { name := "T_FLOAT", type := .int, accessFlags := 25, slot := 13, constantValue := 0 }, { name := "T_DOUBLE", type := .int, accessFlags := 25, slot := 14, constantValue := 0 }, { name := "T_BYTE", type := .int, accessFlags := 25, slot := 15, constantValue := 0 }, { name := "T_SHORT", type := .int, accessFlags := 25, slot := 16, constantValue := 0 }, { name := "T_INT", type := .int, accessFlags := 25, slot := 17, constantValue := 0 }, { name := "T_LONG", type := .int, accessFlags := 25, slot := 18, constantValue := 0 }, { name := "JLA", type := (.object "jdk/internal/access/JavaLangAccess"), accessFlags := 26, slot := 19, constantValue := 0 }, { name := "SOFT_MAX_ARRAY_LENGTH", type := .int, accessFlags := 25, slot := 20, constantValue := 0 }]
  methods := #[k16m0]
  instanceTypes := #[]
  staticTypes := #[(.object "jdk/internal/misc/Unsafe"), .boolean, .int, .int, .int, .int, .int, .int, .int, .int, .int, .int, .int, .int, .int, .int, .int, .int, .int, (.object "jdk/internal/access/JavaLangAccess"), .int]
  resolved := Array.replicate 378 none
  statics := none }

def pool17 : Array CpInfo := pool [(1, u "java/lang/Cloneable"), (0, .class_ 1), (0, u "java/lang/Object"), (0, .class_ 3)] 3

/-- java/lang/Cloneable -/
def k17 : Class := { plain "java/lang/Cloneable" (some 0) with
  accessFlags := 1537
  interfaces := #[]
  cf := some (fileOf pool17 2 #[] #[] 1537 4 #[] #[])
  fields := #[]
  methods := #[]
  instanceTypes := #[]
  staticTypes := #[]
  resolved := Array.replicate 8 none
  statics := none }

/-- the primitive byte -/
def k18 : Class := { plain "byte" none with kind := .primitive 'B', accessFlags := 0x411 }
/-- [B -/
def k19 : Class := { plain "[B" (some 0) with kind := .array 18 .byte, interfaces := #[17, 4], accessFlags := 1041 }

/-- the primitive char -/
def k20 : Class := { plain "char" none with kind := .primitive 'C', accessFlags := 0x411 }
/-- [C -/
def k21 : Class := { plain "[C" (some 0) with kind := .array 20 .char, interfaces := #[17, 4], accessFlags := 1041 }

/-- the primitive int -/
def k22 : Class := { plain "int" none with kind := .primitive 'I', accessFlags := 0x411 }
/-- [I -/
def k23 : Class := { plain "[I" (some 0) with kind := .array 22 .int, interfaces := #[17, 4], accessFlags := 1041 }

def heap : Heap := #[{ cls := 6, slots := #[.ref 3, .ref 4, .ref 5, .ref 6, .ref 7, .ref 8, .null], vm := .statics 6 },
  { cls := 9, slots := #[.long 0, .int 1, .null, .int 0, .null, .int 0, .int 0], vm := .statics 9 },
  { cls := 15, slots := #[.null, .null, .null], vm := .statics 15 },
  { cls := 6, slots := #[.null, .int 0, .int 0], vm := .none },
  { cls := 6, slots := #[.null, .int 1, .int 0], vm := .none },
  { cls := 6, slots := #[.null, .int 2, .int 0], vm := .none },
  { cls := 6, slots := #[.null, .int 3, .int 0], vm := .none },
  { cls := 6, slots := #[.null, .int 4, .int 0], vm := .none },
  { cls := 6, slots := #[.null, .int 5, .int 0], vm := .none }]
def classes : Array Class := #[k0, k1, k2, k3, k4, k5, k6, k7, k8, k9, k10, k11, k12, k13, k14, k15, k16, k17, k18, k19, k20, k21, k22, k23]
def interned : List (Array UInt16 × Addr) := []
def slotsUsed : Nat := 35
def theMethod : MethodId := ⟨1, 1⟩
def args0 : Array Value := #[.int 5, .int 5, .int 5, .int 5]
def aboutOver (below : List Frame) : State where
  vm := { classes := classes, interned := interned.toArray }
  heap := heap
  slotsUsed := slotsUsed
  threads := #[{ frames := .invoking theMethod args0 :: below }]
def below0 : List Frame := [.native { method := ⟨0, 0⟩, args := #[] }]
def about1 : State := aboutOver below0
def p0 : Program := .bare "" "" ""
def e0 : Env := launch0.env 0 0 0
theorem w_frames : about1.frames = Frame.invoking theMethod args0 :: below0 := rfl
set_option maxRecDepth 65536 in
theorem w_args : argsFit about1.vm theMethod args0 = true := by decide +kernel
set_option maxRecDepth 65536 in
theorem w_heap : heapFits about1 = true := by decide +kernel
set_option maxRecDepth 65536 in
theorem w_runnable : about1.curStatus? = some .runnable := by decide +kernel
set_option maxRecDepth 65536 in
theorem w_alone : about1.alone = true := by decide +kernel
set_option maxRecDepth 65536 in
theorem w_named : about1.methodNamed? x = some theMethod := by decide +kernel
set_option maxRecDepth 65536 in
theorem w_hears : about1.hears theMethod below0 = true := by decide +kernel
set_option maxRecDepth 65536 in
theorem w_ripe : about1.ripe theMethod args0 below0 = true := by decide +kernel
theorem w_running : about1.status = .running := rfl
set_option maxRecDepth 65536 in
theorem w_room : about1.hasRoom e0.platform room_1 = true :=
  launch0.hasRoom_least _ room_1 (by decide +kernel) (by decide +kernel) (by decide +kernel) (by decide +kernel) (by decide +kernel) (by decide +kernel)
theorem allAtoms_all (ts : List Jvm.Cond) (a : Array Jvm.Value) (st : Jvm.State) : (allAtoms ts).before a st = ts.all (fun c => c.before a st) := by
  induction ts with
  | nil => rfl
  | cons c t ih =>
    show (Jvm.Cond.and c (allAtoms t)).before a st = _
    rw [Jvm.Cond.before_and, ih, List.all_cons]
def words1 : List Jvm.Cond := Jvm.Cond.code x code maxLocals ret :: tables_1
/-- a 'code' word, met by the world's own term for the bytes: nothing is compared byte by byte -/
theorem code_word {y : MethodName} {bytes : ByteArray} {mx : Nat} {rt : Option FieldType} {a : Array Value} {s : State} {m : MethodId} {meth : Method} {c : Code} (h1 : s.methodNamed? y = some m) (h2 : s.vm.method? m = some meth) (h3 : meth.code = some c) (h4 : c.code = bytes)
    (h5 : (c.maxLocals == mx && c.exceptionTable.isEmpty && decide (c.maxStack ≤ mostOperands) && decide (meth.sig.returnType = rt) && !meth.locks && decide (parseMethodDescriptor y.desc = some meth.sig)) = true) : (Jvm.Cond.code y bytes mx rt).before a s = true := by
  simp only [Bool.and_eq_true, beq_iff_eq, Bool.not_eq_true', decide_eq_true_eq] at h5
  obtain ⟨⟨⟨⟨⟨g1, g2⟩, g3⟩, g4⟩, g5⟩, g6⟩ := h5
  simp [Cond.before, Cond.holds, Cond.value, h1, h2, h3, h4, g1, g2, g3, g4, g5, g6]
def isCode : Jvm.Cond → Bool
  | .code _ _ _ _ => true
  | _ => false
theorem all_split {L : List Jvm.Cond} {P : Jvm.Cond → Bool} (h1 : L.all (fun c => isCode c || P c) = true) (h2 : ∀ c ∈ L.filter isCode, P c = true) : L.all P = true := by
  refine List.all_eq_true.mpr fun c hc => ?_
  have h := List.all_eq_true.mp h1 c hc
  rcases Bool.eq_false_or_eq_true (isCode c) with hi | hi
  · exact h2 c (List.mem_filter.mpr ⟨hc, hi⟩)
  · simpa [hi] using h
set_option maxRecDepth 65536 in
theorem w_c0 : (Jvm.Cond.code x code maxLocals ret).before args0 about1 = true := code_word (m := ⟨1, 1⟩) (meth := k1m1) (c := k1c1) (by decide +kernel) rfl rfl rfl (by decide +kernel)
set_option maxRecDepth 65536 in
theorem w_c1 : (Jvm.Cond.code ({ cls := "com/example/numeric_planner/numericplanner/rddl/TokenIsPinLaw", name := "kindOf", desc := "(I)Lcom/example/numeric_planner/numericplanner/rddl/Token$Kind;" } : Jvm.MethodName) method_3_code (1 : Nat) (Option.some (Jvm.ClassFile.FieldType.object "com/example/numeric_planner/numericplanner/rddl/Token$Kind"))).before args0 about1 = true := code_word (m := ⟨1, 2⟩) (meth := k1m2) (c := k1c2) (by decide +kernel) rfl rfl rfl (by decide +kernel)
set_option maxRecDepth 65536 in
theorem w_c2 : (Jvm.Cond.code ({ cls := "com/example/numeric_planner/numericplanner/rddl/TokenIsPinLaw", name := "mk", desc := "(ICCC)Ljava/lang/String;" } : Jvm.MethodName) method_4_code (4 : Nat) (Option.some (Jvm.ClassFile.FieldType.object "java/lang/String"))).before args0 about1 = true := code_word (m := ⟨1, 3⟩) (meth := k1m3) (c := k1c3) (by decide +kernel) rfl rfl rfl (by decide +kernel)
set_option maxRecDepth 65536 in
theorem w_c3 : (Jvm.Cond.code ({ cls := "java/lang/String", name := "<init>", desc := "([C)V" } : Jvm.MethodName) jdk_42_method_3_code (2 : Nat) (Option.none : Option Jvm.ClassFile.FieldType)).before args0 about1 = true := code_word (m := ⟨9, 1⟩) (meth := k9m1) (c := k9c1) (by decide +kernel) rfl rfl rfl (by decide +kernel)
set_option maxRecDepth 65536 in
theorem w_c4 : (Jvm.Cond.code ({ cls := "java/lang/String", name := "<init>", desc := "([CIILjava/lang/Void;)V" } : Jvm.MethodName) jdk_42_method_149_code (6 : Nat) (Option.none : Option Jvm.ClassFile.FieldType)).before args0 about1 = true := code_word (m := ⟨9, 3⟩) (meth := k9m3) (c := k9c3) (by decide +kernel) rfl rfl rfl (by decide +kernel)
set_option maxRecDepth 65536 in
theorem w_c5 : (Jvm.Cond.code ({ cls := "java/lang/Object", name := "<init>", desc := "()V" } : Jvm.MethodName) object_method_1_code (1 : Nat) (Option.none : Option Jvm.ClassFile.FieldType)).before args0 about1 = true := code_word (m := ⟨0, 0⟩) (meth := k0m0) (c := k0c0) (by decide +kernel) rfl rfl rfl (by decide +kernel)
set_option maxRecDepth 65536 in
theorem w_c6 : (Jvm.Cond.code ({ cls := "java/lang/StringUTF16", name := "compress", desc := "([CII)[B" } : Jvm.MethodName) jdk_52_method_16_code (6 : Nat) (Option.some (Jvm.ClassFile.FieldType.array Jvm.ClassFile.FieldType.byte))).before args0 about1 = true := code_word (m := ⟨10, 2⟩) (meth := k10m2) (c := k10c2) (by decide +kernel) rfl rfl rfl (by decide +kernel)
set_option maxRecDepth 65536 in
theorem w_c7 : (Jvm.Cond.code ({ cls := "java/lang/StringUTF16", name := "compress", desc := "([CI[BII)I" } : Jvm.MethodName) jdk_52_method_21_code (7 : Nat) (Option.some Jvm.ClassFile.FieldType.int)).before args0 about1 = true := code_word (m := ⟨10, 3⟩) (meth := k10m3) (c := k10c3) (by decide +kernel) rfl rfl rfl (by decide +kernel)
set_option maxRecDepth 65536 in
theorem w_c8 : (Jvm.Cond.code ({ cls := "java/lang/StringUTF16", name := "coderFromArrayLen", desc := "([BI)B" } : Jvm.MethodName) jdk_52_method_15_code (2 : Nat) (Option.some Jvm.ClassFile.FieldType.byte)).before args0 about1 = true := code_word (m := ⟨10, 1⟩) (meth := k10m1) (c := k10c1) (by decide +kernel) rfl rfl rfl (by decide +kernel)
set_option maxRecDepth 65536 in
theorem w_c9 : (Jvm.Cond.code ({ cls := "com/example/numeric_planner/numericplanner/rddl/Location", name := "<init>", desc := "(Ljava/lang/String;I)V" } : Jvm.MethodName) prog_83_method_1_code (3 : Nat) (Option.none : Option Jvm.ClassFile.FieldType)).before args0 about1 = true := code_word (m := ⟨13, 0⟩) (meth := k13m0) (c := k13c0) (by decide +kernel) rfl rfl rfl (by decide +kernel)
set_option maxRecDepth 65536 in
theorem w_c10 : (Jvm.Cond.code ({ cls := "java/lang/Record", name := "<init>", desc := "()V" } : Jvm.MethodName) jdk_30_method_1_code (1 : Nat) (Option.none : Option Jvm.ClassFile.FieldType)).before args0 about1 = true := code_word (m := ⟨11, 0⟩) (meth := k11m0) (c := k11c0) (by decide +kernel) rfl rfl rfl (by decide +kernel)
set_option maxRecDepth 65536 in
theorem w_c11 : (Jvm.Cond.code ({ cls := "com/example/numeric_planner/numericplanner/rddl/Token", name := "<init>", desc := "(Lcom/example/numeric_planner/numericplanner/rddl/Token$Kind;Ljava/lang/String;Lcom/example/numeric_planner/numericplanner/rddl/Location;)V" } : Jvm.MethodName) prog_90_method_1_code (4 : Nat) (Option.none : Option Jvm.ClassFile.FieldType)).before args0 about1 = true := code_word (m := ⟨12, 0⟩) (meth := k12m0) (c := k12c0) (by decide +kernel) rfl rfl rfl (by decide +kernel)
set_option maxRecDepth 65536 in
theorem w_c12 : (Jvm.Cond.code ({ cls := "com/example/numeric_planner/numericplanner/rddl/Token", name := "is", desc := "(Ljava/lang/String;)Z" } : Jvm.MethodName) prog_90_method_2_code (2 : Nat) (Option.some Jvm.ClassFile.FieldType.boolean)).before args0 about1 = true := code_word (m := ⟨12, 1⟩) (meth := k12m1) (c := k12c1) (by decide +kernel) rfl rfl rfl (by decide +kernel)
set_option maxRecDepth 65536 in
theorem w_c13 : (Jvm.Cond.code ({ cls := "java/lang/String", name := "equals", desc := "(Ljava/lang/Object;)Z" } : Jvm.MethodName) jdk_42_method_66_code (3 : Nat) (Option.some Jvm.ClassFile.FieldType.boolean)).before args0 about1 = true := code_word (m := ⟨9, 2⟩) (meth := k9m2) (c := k9c2) (by decide +kernel) rfl rfl rfl (by decide +kernel)
set_option maxRecDepth 65536 in
theorem w_c14 : (Jvm.Cond.code ({ cls := "java/lang/StringLatin1", name := "equals", desc := "([B[B)Z" } : Jvm.MethodName) jdk_43_method_13_code (3 : Nat) (Option.some Jvm.ClassFile.FieldType.boolean)).before args0 about1 = true := code_word (m := ⟨14, 1⟩) (meth := k14m1) (c := k14c1) (by decide +kernel) rfl rfl rfl (by decide +kernel)
def codes1 : List Jvm.Cond := [Jvm.Cond.code x code maxLocals ret, Jvm.Cond.code ({ cls := "com/example/numeric_planner/numericplanner/rddl/TokenIsPinLaw", name := "kindOf", desc := "(I)Lcom/example/numeric_planner/numericplanner/rddl/Token$Kind;" } : Jvm.MethodName) method_3_code (1 : Nat) (Option.some (Jvm.ClassFile.FieldType.object "com/example/numeric_planner/numericplanner/rddl/Token$Kind")), Jvm.Cond.code ({ cls := "com/example/numeric_planner/numericplanner/rddl/TokenIsPinLaw", name := "mk", desc := "(ICCC)Ljava/lang/String;" } : Jvm.MethodName) method_4_code (4 : Nat) (Option.some (Jvm.ClassFile.FieldType.object "java/lang/String")), Jvm.Cond.code ({ cls := "java/lang/String", name := "<init>", desc := "([C)V" } : Jvm.MethodName) jdk_42_method_3_code (2 : Nat) (Option.none : Option Jvm.ClassFile.FieldType), Jvm.Cond.code ({ cls := "java/lang/String", name := "<init>", desc := "([CIILjava/lang/Void;)V" } : Jvm.MethodName) jdk_42_method_149_code (6 : Nat) (Option.none : Option Jvm.ClassFile.FieldType), Jvm.Cond.code ({ cls := "java/lang/Object", name := "<init>", desc := "()V" } : Jvm.MethodName) object_method_1_code (1 : Nat) (Option.none : Option Jvm.ClassFile.FieldType), Jvm.Cond.code ({ cls := "java/lang/StringUTF16", name := "compress", desc := "([CII)[B" } : Jvm.MethodName) jdk_52_method_16_code (6 : Nat) (Option.some (Jvm.ClassFile.FieldType.array Jvm.ClassFile.FieldType.byte)), Jvm.Cond.code ({ cls := "java/lang/StringUTF16", name := "compress", desc := "([CI[BII)I" } : Jvm.MethodName) jdk_52_method_21_code (7 : Nat) (Option.some Jvm.ClassFile.FieldType.int), Jvm.Cond.code ({ cls := "java/lang/StringUTF16", name := "coderFromArrayLen", desc := "([BI)B" } : Jvm.MethodName) jdk_52_method_15_code (2 : Nat) (Option.some Jvm.ClassFile.FieldType.byte), Jvm.Cond.code ({ cls := "com/example/numeric_planner/numericplanner/rddl/Location", name := "<init>", desc := "(Ljava/lang/String;I)V" } : Jvm.MethodName) prog_83_method_1_code (3 : Nat) (Option.none : Option Jvm.ClassFile.FieldType), Jvm.Cond.code ({ cls := "java/lang/Record", name := "<init>", desc := "()V" } : Jvm.MethodName) jdk_30_method_1_code (1 : Nat) (Option.none : Option Jvm.ClassFile.FieldType), Jvm.Cond.code ({ cls := "com/example/numeric_planner/numericplanner/rddl/Token", name := "<init>", desc := "(Lcom/example/numeric_planner/numericplanner/rddl/Token$Kind;Ljava/lang/String;Lcom/example/numeric_planner/numericplanner/rddl/Location;)V" } : Jvm.MethodName) prog_90_method_1_code (4 : Nat) (Option.none : Option Jvm.ClassFile.FieldType), Jvm.Cond.code ({ cls := "com/example/numeric_planner/numericplanner/rddl/Token", name := "is", desc := "(Ljava/lang/String;)Z" } : Jvm.MethodName) prog_90_method_2_code (2 : Nat) (Option.some Jvm.ClassFile.FieldType.boolean), Jvm.Cond.code ({ cls := "java/lang/String", name := "equals", desc := "(Ljava/lang/Object;)Z" } : Jvm.MethodName) jdk_42_method_66_code (3 : Nat) (Option.some Jvm.ClassFile.FieldType.boolean), Jvm.Cond.code ({ cls := "java/lang/StringLatin1", name := "equals", desc := "([B[B)Z" } : Jvm.MethodName) jdk_43_method_13_code (3 : Nat) (Option.some Jvm.ClassFile.FieldType.boolean)]
set_option maxRecDepth 65536 in
theorem codes_eq : words1.filter isCode = codes1 := rfl
theorem w_codes : ∀ c ∈ words1.filter isCode, c.before args0 about1 = true := by
  rw [codes_eq]
  intro c hc
  simp only [codes1, List.mem_cons, List.not_mem_nil, or_false] at hc
  rcases hc with rfl | rfl | rfl | rfl | rfl | rfl | rfl | rfl | rfl | rfl | rfl | rfl | rfl | rfl | rfl
  · exact w_c0
  · exact w_c1
  · exact w_c2
  · exact w_c3
  · exact w_c4
  · exact w_c5
  · exact w_c6
  · exact w_c7
  · exact w_c8
  · exact w_c9
  · exact w_c10
  · exact w_c11
  · exact w_c12
  · exact w_c13
  · exact w_c14
set_option maxRecDepth 65536 in
theorem w_t1 : (words1.take 24).all (fun c => isCode c || c.before args0 about1) = true := by decide +kernel
set_option maxRecDepth 65536 in
theorem w_t2 : ((words1.drop 24).take 24).all (fun c => isCode c || c.before args0 about1) = true := by decide +kernel
set_option maxRecDepth 65536 in
theorem w_t3 : (((words1.drop 24).drop 24).take 24).all (fun c => isCode c || c.before args0 about1) = true := by decide +kernel
set_option maxRecDepth 65536 in
theorem w_t4 : ((((words1.drop 24).drop 24).drop 24).take 24).all (fun c => isCode c || c.before args0 about1) = true := by decide +kernel
set_option maxRecDepth 65536 in
theorem w_t5 : ((((words1.drop 24).drop 24).drop 24).drop 24).all (fun c => isCode c || c.before args0 about1) = true := by decide +kernel
theorem w_tables : (allAtoms (Jvm.Cond.code x code maxLocals ret :: tables_1)).before args0 about1 = true := by
  rw [allAtoms_all]
  show words1.all (fun c => c.before args0 about1) = true
  refine all_split ?_ w_codes
  rw [← List.take_append_drop 24 words1, List.all_append, w_t1, ← List.take_append_drop 24 (words1.drop 24), List.all_append, w_t2, ← List.take_append_drop 24 ((words1.drop 24).drop 24), List.all_append, w_t3, ← List.take_append_drop 24 (((words1.drop 24).drop 24).drop 24), List.all_append, w_t4, w_t5]
  rfl
set_option maxRecDepth 65536 in
theorem w_rest : rest_1_c.before args0 about1 = true := by decide +kernel
set_option maxRecDepth 65536 in
theorem w_case : (Jvm.Cond.and given_1 narrow_1).before args0 about1 = true := by decide +kernel
set_option maxRecDepth 65536 in
theorem w_consts : constsHeld consts_1 about1 := Jvm.Lit.constsHeldB_iff.mp (by decide +kernel)
theorem w_applies : (headSpec (Jvm.Cond.code x code maxLocals ret :: tables_1) room_1).applies x e0.platform about1 = true :=
  (Spec.applies_iff w_frames).mpr ⟨w_running, w_runnable, w_alone, w_named, w_hears, w_ripe, w_room, w_tables⟩
theorem atStart : AtStart classFile x code maxLocals ret World_1 tables_1 room_1 Calls_1 rest_1 Pre_1 launch0 p0 e0 about1 theMethod args0 below0 :=
  ⟨lists_1, trivial, launch0.admits_env _ _ _, launch0.least_env, fairChoices_fair.cas, fairChoices_fair.clock, w_frames, w_args, w_heap, w_applies, ⟨w_consts, trivial⟩, w_rest, w_case⟩
end start1
theorem witness_1 : WitnessClaimed_1 := ⟨start1.p0, start1.e0, start1.about1, start1.theMethod, start1.args0, start1.below0, start1.atStart⟩
end Jvm.Pilot.@@N@@
