import JvmDerived
import JvmDerived.Pilot.@@N@@Statement
import JvmDerived.Pilot.@@N@@Code
set_option linter.unusedVariables false
set_option linter.unusedSimpArgs false
/- laws to paste: Road.backV (cut by pick.py; bodies as the Statement names them) -/
namespace Jvm.Pilot.@@N@@
namespace StrChars
open Jvm Sem ClassFile Op Lib Jvm.Stand Jvm.Free.XT Jvm.Free.ALB Jvm.Free.JM Jvm.Free
open Jvm.Lib.Cold (StaticIs)
/-- a char array whose places are chars -/
def Ch (a : Addr) (A : Cell) (U : State) : Prop := Arr .char a A U ∧ Typed .char A
theorem Ch.mv {a : Addr} {A : Cell} {U U' : State} (h : Ch a A U) (hal : U.vm.Alike U'.vm) (hh : U'.heap = U.heap) : Ch a A U' := ⟨h.1.mv hal hh, h.2⟩
theorem Ch.keep {a : Addr} {A : Cell} {U U' : State} (h : Ch a A U) (hal : U.vm.Alike U'.vm) (hk : U'.heap[a]? = some A) : Ch a A U' := ⟨h.1.keep hal hk, h.2⟩
/-- what place i of a char[]'s cell holds -/
def cv (A : Cell) (i : Nat) : Int32 := match A.slots[i]? with | some (.int x) => x | _ => 0
theorem Ch.get {a : Addr} {A : Cell} {U : State} (h : Ch a A U) {i : Nat} (hi : i < A.slots.size) : A.slots[i]? = some (.int (cv A i)) := by
  have e := Array.getElem?_eq_getElem hi
  have f := h.2 i _ e
  unfold cv; rw [e]
  generalize A.slots[i] = v at f
  cases v <;> simp [fits] at f ⊢
/-- the byte that i2b leaves of a char -/
def lo8 (x : Int32) : Int32 := x.toInt8.toInt32
theorem fits_lo8 (y : Int32) : fits .byte (.int (lo8 y)) = true := by
  have h1 := y.toInt8.le_toInt
  have h2 := y.toInt8.toInt_lt
  simp only [lo8, fits, Bool.and_eq_true, decide_eq_true_eq, Int32.le_iff_toInt_le, Int8.toInt_toInt32, show (-128 : Int32).toInt = -128 from by decide, show (127 : Int32).toInt = 127 from by decide]
  omega
/-- A' is A but that each place j of lo .. hi - 1 holds f j -/
def Laid (A A' : Cell) (lo hi : Nat) (f : Nat → Value) : Prop := A'.cls = A.cls ∧ A'.vm = A.vm ∧ A'.slots.size = A.slots.size ∧ ∀ i, A'.slots[i]? = if lo ≤ i ∧ i < hi then some (f i) else A.slots[i]?
theorem Laid.zero (A : Cell) (lo : Nat) (f : Nat → Value) : Laid A A lo (lo + 0) f := ⟨rfl, rfl, rfl, fun i => by rw [if_neg (by omega)]⟩
theorem Laid.step {A Ak : Cell} {lo k : Nat} {f : Nat → Value} {v : Value} (h : Laid A Ak lo k f) (hlo : lo ≤ k) (hk : k < Ak.slots.size) (hv : v = f k) : Laid A (Ak.setSlot k v) lo (k + 1) f := by
  refine ⟨h.1, h.2.1, by simpa [Cell.setSlot] using h.2.2.1, fun i => ?_⟩
  by_cases e : k = i
  · subst e; rw [Cell.slots_setSlot_self v hk, if_pos (by omega), hv]
  · rw [Cell.slots_setSlot_ne v e, h.2.2.2 i]
    by_cases q : lo ≤ i ∧ i < k
    · rw [if_pos q, if_pos (by omega)]
    · rw [if_neg q, if_neg (by omega)]
def U16 : String := "java/lang/StringUTF16"
namespace Cmp5
def yN : MethodName := ⟨"java/lang/StringUTF16", "compress", "([CI[BII)I"⟩
abbrev yB : ByteArray := jdk_52_method_21_code
theorem d0 : decode yB 0 = .ok (.iconst 0, 1) := by decide +kernel
theorem d1 : decode yB 1 = .ok (.istore 5, 2) := by decide +kernel
theorem d3 : decode yB 3 = .ok (.iload 5, 2) := by decide +kernel
theorem d5 : decode yB 5 = .ok (.iload 4, 2) := by decide +kernel
theorem d7 : decode yB 7 = .ok (.if_icmp (.ge) 37, 3) := by decide +kernel
theorem d10 : decode yB 10 = .ok (.aload_n 0, 1) := by decide +kernel
theorem d11 : decode yB 11 = .ok (.iload_n 1, 1) := by decide +kernel
theorem d12 : decode yB 12 = .ok (.caload, 1) := by decide +kernel
theorem d13 : decode yB 13 = .ok (.istore 6, 2) := by decide +kernel
theorem d15 : decode yB 15 = .ok (.iload 6, 2) := by decide +kernel
theorem d17 : decode yB 17 = .ok (.sipush 255, 3) := by decide +kernel
theorem d20 : decode yB 20 = .ok (.if_icmp (.le) 6, 3) := by decide +kernel
theorem d26 : decode yB 26 = .ok (.aload_n 2, 1) := by decide +kernel
theorem d27 : decode yB 27 = .ok (.iload_n 3, 1) := by decide +kernel
theorem d28 : decode yB 28 = .ok (.iload 6, 2) := by decide +kernel
theorem d30 : decode yB 30 = .ok (.i2b, 1) := by decide +kernel
theorem d31 : decode yB 31 = .ok (.bastore, 1) := by decide +kernel
theorem d32 : decode yB 32 = .ok (.iinc 1 1, 3) := by decide +kernel
theorem d35 : decode yB 35 = .ok (.iinc 3 1, 3) := by decide +kernel
theorem d38 : decode yB 38 = .ok (.iinc 5 1, 3) := by decide +kernel
theorem d41 : decode yB 41 = .ok (.goto (-38), 3) := by decide +kernel
theorem d44 : decode yB 44 = .ok (.iload 4, 2) := by decide +kernel
theorem d46 : decode yB 46 = .ok (.ireturn, 1) := by decide +kernel
def site : List Cond := []
def tab : Cond := tabOf yN yB 7 (some .int) site
def P (b : Addr) (A : Cell) (d : Addr) (B : Cell) (o q len : Nat) (args : Array Value) (s : State) : Prop := args = #[.ref b, .int (Int32.ofNat o), .ref d, .int (Int32.ofNat q), .int (Int32.ofNat len)] ∧ Ch b A s ∧ Arr .byte d B s ∧ b ≠ d ∧ o + len ≤ A.slots.size ∧ q + len ≤ B.slots.size ∧ ∀ i, i < len → ¬ 255 < cv A (o + i)
def E (b : Addr) (A : Cell) (d : Addr) (B : Cell) (o q len : Nat) (r : Option Value) (s u : State) : Prop := r = some (.int (Int32.ofNat len)) ∧ ∃ B', Put d B' s u ∧ Laid B B' q (q + len) (fun j => Value.int (lo8 (cv A (o + (j - q)))))
/-- no char of the range above 255: len; the places written hold each char's low byte -/
theorem law (l : Launch) (b : Addr) (A : Cell) (d : Addr) (B : Cell) (o q len : Nat) : Law l yN 5 5 0 0 yB 7 (some .int) site (P b A d B o q len) (E b A d B o q len) (copyLocs d q len) 0 0 := by
  refine Law.of_walk (plainFor_of_name (by decide +kernel)) (by decide +kernel) (by decide +kernel) (by decide) (fun _ _ h => by rw [h.1]; rfl) (fun _ U U' hal hh h => ⟨h.1, h.2.1.mv hal hh, h.2.2.1.mv hal hh, h.2.2.2⟩) (fun r U U' V V' h1 hal h2 h => ⟨h.1, h.2.elim fun B' q => ⟨B', q.1.mv h1 h2, q.2⟩⟩) ?_
  intro p e s m args below meth c s₁ X0 hexec hbytes hml hret hlk hnm hown hh0 W hP
  obtain ⟨rfl, hA, hB, hne, l1, l2, hp⟩ := hP
  have c1 : Steps p.tables e below (s₁.setTop (entryFrame m #[.ref b, .int (Int32.ofNat o), .ref d, .int (Int32.ofNat q), .int (Int32.ofNat len)] 7)) (s₁.setTop (mkF m 0 #[.val (.ref b), .val (.int (Int32.ofNat o)), .val (.ref d), .val (.int (Int32.ofNat q)), .val (.int (Int32.ofNat len)), .unset, .unset] [])) := entry rfl
  have hA0 := hA.1.mv X0.warmed.alike hh0
  have hB0 := hB.mv X0.warmed.alike hh0
  have a31 := hA.1.2.2.2
  have c2 : Steps p.tables e below (s₁.setTop (entryFrame m #[.ref b, .int (Int32.ofNat o), .ref d, .int (Int32.ofNat q), .int (Int32.ofNat len)] 7)) (s₁.setTop (mkF m 3 #[.val (.ref b), .val (.int (Int32.ofNat o)), .val (.ref d), .val (.int (Int32.ofNat q)), .val (.int (Int32.ofNat len)), .val (.int 0), .unset] [])) := c1.trans (by
    refine iconstV X0.here hexec rfl 0 (hb hbytes d0) (by decide) ?_
    refine XS.istore X0.here hexec rfl (hb hbytes d1) rfl rfl ?_
    exact Steps.refl _)
  have loop : ∀ (r i : Nat), i + r = len → ∀ (z : Slot), (z = .unset ∨ ∃ w, z = .val w ∧ w.category = 1) → ∀ (Tl : State) (Bk : Cell), Stand p l e { frames := 0, locals := 0, cells := 0, slots := 0 } s m #[.ref b, .int (Int32.ofNat o), .ref d, .int (Int32.ofNat q), .int (Int32.ofNat len)] below meth c Tl ([] ++ copyLocs d q i) 0 0 → Put d Bk s₁ Tl → Laid B Bk q (q + i) (fun j => Value.int (lo8 (cv A (o + (j - q))))) →
      Steps p.tables e below (s₁.setTop (entryFrame m #[.ref b, .int (Int32.ofNat o), .ref d, .int (Int32.ofNat q), .int (Int32.ofNat len)] 7)) (Tl.setTop (mkF m 3 #[.val (.ref b), .val (.int (Int32.ofNat (o + i))), .val (.ref d), .val (.int (Int32.ofNat (q + i))), .val (.int (Int32.ofNat len)), .val (.int (Int32.ofNat i)), z] [])) → ∃ (T' : State) (B' : Cell) (z' : Slot), Stand p l e { frames := 0, locals := 0, cells := 0, slots := 0 } s m #[.ref b, .int (Int32.ofNat o), .ref d, .int (Int32.ofNat q), .int (Int32.ofNat len)] below meth c T' ([] ++ copyLocs d q len) 0 0 ∧ Put d B' s₁ T' ∧ Laid B B' q (q + len) (fun j => Value.int (lo8 (cv A (o + (j - q))))) ∧
      Steps p.tables e below (s₁.setTop (entryFrame m #[.ref b, .int (Int32.ofNat o), .ref d, .int (Int32.ofNat q), .int (Int32.ofNat len)] 7)) (T'.setTop (mkF m 3 #[.val (.ref b), .val (.int (Int32.ofNat (o + len))), .val (.ref d), .val (.int (Int32.ofNat (q + len))), .val (.int (Int32.ofNat len)), .val (.int (Int32.ofNat len)), z'] [])) := by
    intro r
    induction r with
    | zero =>
      intro i hi z hz Tl Bk Xl pl fl cl
      have hil : i = len := by omega
      rw [hil] at Xl fl cl
      exact ⟨Tl, Bk, z, Xl, pl, fl, cl⟩
    | succ r ih =>
      intro i hi z hz Tl Bk Xl pl fl cl
      have all := X0.warmed.alike.symm.trans Xl.warmed.alike
      have hAl := hA0.keep all (pl.other hne hA0.1)
      have hBk := hB0.like all pl.1 fl.1 fl.2.1 fl.2.2.1
      have hlt : q + i < Bk.slots.size := by rw [fl.2.2.1]; omega
      have c3 : Steps p.tables e below (s₁.setTop (entryFrame m #[.ref b, .int (Int32.ofNat o), .ref d, .int (Int32.ofNat q), .int (Int32.ofNat len)] 7)) (Tl.setTop (mkF m 12 #[.val (.ref b), .val (.int (Int32.ofNat (o + i))), .val (.ref d), .val (.int (Int32.ofNat (q + i))), .val (.int (Int32.ofNat len)), .val (.int (Int32.ofNat i)), z] [.int (Int32.ofNat (o + i)), .ref b])) := cl.trans (by
        refine XS.iload Xl.here hexec rfl (hb hbytes d3) rfl ?_
        refine XS.iload Xl.here hexec rfl (hb hbytes d5) rfl ?_
        refine XS.icmpNo Xl.here hexec rfl (hb hbytes d7) rfl (ii_ge_f (lt32 (by omega) (by omega))) ?_
        refine XS.aloadN Xl.here hexec rfl (hb hbytes d10) rfl rfl ?_
        refine XS.iloadN Xl.here hexec rfl (hb hbytes d11) rfl ?_
        exact Steps.refl _)
      have c4 : Steps p.tables e below (s₁.setTop (entryFrame m #[.ref b, .int (Int32.ofNat o), .ref d, .int (Int32.ofNat q), .int (Int32.ofNat len)] 7)) (Tl.setTop (mkF m 13 #[.val (.ref b), .val (.int (Int32.ofNat (o + i))), .val (.ref d), .val (.int (Int32.ofNat (q + i))), .val (.int (Int32.ofNat len)), .val (.int (Int32.ofNat i)), z] [.int (cv A (o + i))])) := c3.trans (by
        refine Xl.aget hexec hAl rfl (hA.get (i := o + i) (by omega)) rfl rfl (hb hbytes d12) ?_
        exact Steps.refl _)
      have c5 : Steps p.tables e below (s₁.setTop (entryFrame m #[.ref b, .int (Int32.ofNat o), .ref d, .int (Int32.ofNat q), .int (Int32.ofNat len)] 7)) (Tl.setTop (mkF m 15 #[.val (.ref b), .val (.int (Int32.ofNat (o + i))), .val (.ref d), .val (.int (Int32.ofNat (q + i))), .val (.int (Int32.ofNat len)), .val (.int (Int32.ofNat i)), .val (.int (cv A (o + i)))] [])) := c4.trans (by
        refine XS.istoreS Xl.here hexec rfl (hb hbytes d13) rfl rfl hz ?_
        exact Steps.refl _)
      have c6 : Steps p.tables e below (s₁.setTop (entryFrame m #[.ref b, .int (Int32.ofNat o), .ref d, .int (Int32.ofNat q), .int (Int32.ofNat len)] 7)) (Tl.setTop (mkF m 31 #[.val (.ref b), .val (.int (Int32.ofNat (o + i))), .val (.ref d), .val (.int (Int32.ofNat (q + i))), .val (.int (Int32.ofNat len)), .val (.int (Int32.ofNat i)), .val (.int (cv A (o + i)))] [.int (lo8 (cv A (o + i))), .int (Int32.ofNat (q + i)), .ref d])) := c5.trans (by
        refine XS.iload Xl.here hexec rfl (hb hbytes d15) rfl ?_
        refine sipushV Xl.here hexec rfl 255 (hb hbytes d17) (by decide) ?_
        refine XS.icmpYes Xl.here hexec rfl (pc0 := 20) rfl (hb hbytes d20) rfl (ii_le_t (hp i (by omega))) (by decide) rfl ?_
        refine XS.aloadN Xl.here hexec rfl (hb hbytes d26) rfl rfl ?_
        refine XS.iloadN Xl.here hexec rfl (hb hbytes d27) rfl ?_
        refine XS.iload Xl.here hexec rfl (hb hbytes d28) rfl ?_
        refine i2b Xl.here hexec rfl (hb hbytes d30) rfl ?_
        exact Steps.refl _)
      obtain ⟨T7, X7, p7, st7⟩ := Xl.aput hexec hBk rfl hlt rfl (fits_lo8 (cv A (o + i))) (g := (mkF m 31 #[.val (.ref b), .val (.int (Int32.ofNat (o + i))), .val (.ref d), .val (.int (Int32.ofNat (q + i))), .val (.int (Int32.ofNat len)), .val (.int (Int32.ofNat i)), .val (.int (cv A (o + i)))] [.int (lo8 (cv A (o + i))), .int (Int32.ofNat (q + i)), .ref d])) rfl (rest := []) rfl (hb hbytes d31)
      have c8 : Steps p.tables e below (s₁.setTop (entryFrame m #[.ref b, .int (Int32.ofNat o), .ref d, .int (Int32.ofNat q), .int (Int32.ofNat len)] 7)) (T7.setTop (mkF m 32 #[.val (.ref b), .val (.int (Int32.ofNat (o + i))), .val (.ref d), .val (.int (Int32.ofNat (q + i))), .val (.int (Int32.ofNat len)), .val (.int (Int32.ofNat i)), .val (.int (cv A (o + i)))] [])) := c6.trans (st7 _ (Steps.refl _))
      have c9 : Steps p.tables e below (s₁.setTop (entryFrame m #[.ref b, .int (Int32.ofNat o), .ref d, .int (Int32.ofNat q), .int (Int32.ofNat len)] 7)) (T7.setTop (mkF m 3 #[.val (.ref b), .val (.int (Int32.ofNat (o + i) + 1)), .val (.ref d), .val (.int (Int32.ofNat (q + i) + 1)), .val (.int (Int32.ofNat len)), .val (.int (Int32.ofNat i + 1)), .val (.int (cv A (o + i)))] [])) := c8.trans (by
        refine iincV X7.here hexec rfl 1 (hb hbytes d32) (by decide) rfl rfl ?_
        refine iincV X7.here hexec rfl 1 (hb hbytes d35) (by decide) rfl rfl ?_
        refine iincV X7.here hexec rfl 1 (hb hbytes d38) (by decide) rfl rfl ?_
        refine XS.goto X7.here hexec rfl (pc0 := 41) rfl (hb hbytes d41) (by decide) rfl ?_
        exact Steps.refl _)
      have c10 : Steps p.tables e below (s₁.setTop (entryFrame m #[.ref b, .int (Int32.ofNat o), .ref d, .int (Int32.ofNat q), .int (Int32.ofNat len)] 7)) (T7.setTop (mkF m 3 #[.val (.ref b), .val (.int (Int32.ofNat (o + (i + 1)))), .val (.ref d), .val (.int (Int32.ofNat (q + (i + 1)))), .val (.int (Int32.ofNat len)), .val (.int (Int32.ofNat (i + 1))), .val (.int (cv A (o + i)))] [])) := by
        have := c9
        rw [succ32, succ32, succ32] at this
        exact this
      exact ih (i + 1) (by omega) _ (Or.inr ⟨_, rfl, rfl⟩) T7 _ (by rw [copyLocs_step, ← List.append_assoc]; exact X7) (pl.trans p7) (fl.step (by omega) hlt (by simp)) c10
  obtain ⟨T9, B9, z9, X9, p9, f9, g9⟩ := loop len 0 (by omega) .unset (Or.inl rfl) s₁ B (by simpa [copyLocs] using X0) ⟨hB0.1, fun _ _ => rfl, rfl⟩ (Laid.zero _ _ _) c2
  have c11 : Steps p.tables e below (s₁.setTop (entryFrame m #[.ref b, .int (Int32.ofNat o), .ref d, .int (Int32.ofNat q), .int (Int32.ofNat len)] 7)) (T9.setTop (mkF m 46 #[.val (.ref b), .val (.int (Int32.ofNat (o + len))), .val (.ref d), .val (.int (Int32.ofNat (q + len))), .val (.int (Int32.ofNat len)), .val (.int (Int32.ofNat len)), z9] [.int (Int32.ofNat len)])) := g9.trans (by
    refine XS.iload X9.here hexec rfl (hb hbytes d3) rfl ?_
    refine XS.iload X9.here hexec rfl (hb hbytes d5) rfl ?_
    refine XS.icmpYes X9.here hexec rfl (pc0 := 7) rfl (hb hbytes d7) rfl (ii_ge_t (nlt32 (by omega) (Nat.le_refl _))) (by decide) rfl ?_
    refine XS.iload X9.here hexec rfl (hb hbytes d44) rfl ?_
    exact Steps.refl _)
  exact ⟨T9, some (.int (Int32.ofNat len)), _, _, _, X9, by simp, rfl, rfl, (fun h => by cases h), ⟨rfl, B9, p9.from hh0, f9⟩, fun fs hl => c11.trans (X9.ireturnOut hexec hret rfl (Or.inl rfl) (hb hbytes d46) hl)⟩
end Cmp5
namespace Cmp3
def yN : MethodName := ⟨"java/lang/StringUTF16", "compress", "([CII)[B"⟩
abbrev yB : ByteArray := jdk_52_method_16_code
theorem d0 : decode yB 0 = .ok (.iload_n 2, 1) := by decide +kernel
theorem d1 : decode yB 1 = .ok (.newarray .byte, 2) := by decide +kernel
theorem d3 : decode yB 3 = .ok (.astore_n 3, 1) := by decide +kernel
theorem d4 : decode yB 4 = .ok (.aload_n 0, 1) := by decide +kernel
theorem d5 : decode yB 5 = .ok (.iload_n 1, 1) := by decide +kernel
theorem d6 : decode yB 6 = .ok (.aload_n 3, 1) := by decide +kernel
theorem d7 : decode yB 7 = .ok (.iconst 0, 1) := by decide +kernel
theorem d8 : decode yB 8 = .ok (.iload_n 2, 1) := by decide +kernel
theorem d9 : decode yB 9 = .ok (.invokestatic 115, 3) := by decide +kernel
theorem d12 : decode yB 12 = .ok (.istore 4, 2) := by decide +kernel
theorem d14 : decode yB 14 = .ok (.iload 4, 2) := by decide +kernel
theorem d16 : decode yB 16 = .ok (.iload_n 2, 1) := by decide +kernel
theorem d17 : decode yB 17 = .ok (.if_icmp (.eq) 40, 3) := by decide +kernel
theorem d57 : decode yB 57 = .ok (.aload_n 3, 1) := by decide +kernel
theorem d58 : decode yB 58 = .ok (.areturn, 1) := by decide +kernel
def site : List Cond := [.arrayClass .byte, Cmp5.tab] ++ staticW U16 115 Cmp5.yN
def tab : Cond := tabOf yN yB 6 (some (.array .byte)) site
def P (b : Addr) (A : Cell) (o len : Nat) (args : Array Value) (s : State) : Prop := args = #[.ref b, .int (Int32.ofNat o), .int (Int32.ofNat len)] ∧ Ch b A s ∧ o + len ≤ A.slots.size ∧ len ≤ 536870912 ∧ ∀ i, i < len → ¬ 255 < cv A (o + i)
def E (b : Addr) (A : Cell) (o len : Nat) (r : Option Value) (s u : State) : Prop := NewArr .byte "[B" len (fun j => .int (lo8 (cv A (o + j)))) r s u ∧ u.heap.size = s.heap.size + 1
/-- no char of the range above 255: a new byte[] of their low bytes -/
theorem law (l : Launch) (b : Addr) (A : Cell) (o len : Nat) : Law l yN 3 3 1 18 yB 6 (some (.array .byte)) site (P b A o len) (E b A o len) [] 1 len := by
  refine Law.of_walk (plainFor_of_name (by decide +kernel)) (by decide +kernel) (by decide +kernel) (by decide) (fun _ _ h => by rw [h.1]; rfl) (fun _ U U' hal hh h => ⟨h.1, h.2.1.mv hal hh, h.2.2⟩) (fun r U U' V V' h1 hal h2 h => ⟨NewArr.mv r U U' V V' h1 hal h2 h.1, by rw [h1, h2]; exact h.2⟩) ?_
  intro p e s m args below meth c s₁ X0 hexec hbytes hml hret hlk hnm hown hh0 W hP
  obtain ⟨rfl, hA, l1, l2, hp⟩ := hP
  have a31 := hA.1.2.2.2
  have c1 : Steps p.tables e below (s₁.setTop (entryFrame m #[.ref b, .int (Int32.ofNat o), .int (Int32.ofNat len)] 6)) (s₁.setTop (mkF m 0 #[.val (.ref b), .val (.int (Int32.ofNat o)), .val (.int (Int32.ofNat len)), .unset, .unset, .unset] [])) := entry rfl
  have c2 : Steps p.tables e below (s₁.setTop (entryFrame m #[.ref b, .int (Int32.ofNat o), .int (Int32.ofNat len)] 6)) (s₁.setTop (mkF m 1 #[.val (.ref b), .val (.int (Int32.ofNat o)), .val (.int (Int32.ofNat len)), .unset, .unset, .unset] [.int (Int32.ofNat len)])) := c1.trans (by
    refine XS.iloadN X0.here hexec rfl (hb hbytes d0) rfl ?_
    exact Steps.refl _)
  obtain ⟨T3, B3, X3, ba3, bs3, bv3, bh3, bf3, st3⟩ := X0.anew hexec (atype := .byte) (wk W (.arrayClass .byte)) rfl (by show len * 1 ≤ _; omega) (by omega) (g := (mkF m 1 #[.val (.ref b), .val (.int (Int32.ofNat o)), .val (.int (Int32.ofNat len)), .unset, .unset, .unset] [.int (Int32.ofNat len)])) rfl (hb hbytes d1) (rest := []) rfl (Nat.le_refl _) (by show 0 + len ≤ len; omega)
  rw [hh0] at ba3 st3
  have kp3 : XT.Kept s T3 := (XT.Kept.of_eq hh0).push bh3
  have hA3 := hA.keep X3.warmed.alike (kp3 _ _ hA.1.1)
  have hne : b ≠ s.heap.size := hA.1.ne
  have c4 : Steps p.tables e below (s₁.setTop (entryFrame m #[.ref b, .int (Int32.ofNat o), .int (Int32.ofNat len)] 6)) (T3.setTop (mkF m 3 #[.val (.ref b), .val (.int (Int32.ofNat o)), .val (.int (Int32.ofNat len)), .unset, .unset, .unset] [.ref s.heap.size])) := c2.trans (st3 _ (Steps.refl _))
  have c5 : Steps p.tables e below (s₁.setTop (entryFrame m #[.ref b, .int (Int32.ofNat o), .int (Int32.ofNat len)] 6)) (T3.setTop (mkF m 9 #[.val (.ref b), .val (.int (Int32.ofNat o)), .val (.int (Int32.ofNat len)), .val (.ref s.heap.size), .unset, .unset] [.int (Int32.ofNat len), .int 0, .ref s.heap.size, .int (Int32.ofNat o), .ref b])) := c4.trans (by
    refine XS.astoreN X3.here hexec rfl (hb hbytes d3) rfl rfl rfl ?_
    refine XS.aloadN X3.here hexec rfl (hb hbytes d4) rfl rfl ?_
    refine XS.iloadN X3.here hexec rfl (hb hbytes d5) rfl ?_
    refine XS.aloadN X3.here hexec rfl (hb hbytes d6) rfl rfl ?_
    refine iconstV X3.here hexec rfl 0 (hb hbytes d7) (by decide) ?_
    refine XS.iloadN X3.here hexec rfl (hb hbytes d8) rfl ?_
    exact Steps.refl _)
  obtain ⟨v6, T6, X6, E6, g6⟩ := X3.callS hexec (Cmp5.law l b A s.heap.size B3 o 0 len) hown (wks W (staticW U16 115 Cmp5.yN)) (wk W Cmp5.tab) (W := 0) (Nat.le_of_ble_eq_true rfl) (Nat.le_of_ble_eq_true rfl) (Nat.le_refl _) (by show 0 + len + 0 ≤ len; omega) (g := (mkF m 9 #[.val (.ref b), .val (.int (Int32.ofNat o)), .val (.int (Int32.ofNat len)), .val (.ref s.heap.size), .unset, .unset] [.int (Int32.ofNat len), .int (Int32.ofNat 0), .ref s.heap.size, .int (Int32.ofNat o), .ref b])) rfl (by rw [hml]; rfl) c5 (argsL := [.ref b, .int (Int32.ofNat o), .ref s.heap.size, .int (Int32.ofNat 0), .int (Int32.ofNat len)]) (rest := []) rfl rfl (by show 2 * 0 + 0 ≤ _; decide) (hb hbytes d9) (⟨rfl, hA3, ba3, hne, l1, by rw [bs3]; simp, hp⟩)
  obtain ⟨rfl, B6, p6, f6⟩ := E6
  have c7 : Steps p.tables e below (s₁.setTop (entryFrame m #[.ref b, .int (Int32.ofNat o), .int (Int32.ofNat len)] 6)) (T6.setTop (mkF m 12 #[.val (.ref b), .val (.int (Int32.ofNat o)), .val (.int (Int32.ofNat len)), .val (.ref s.heap.size), .unset, .unset] [.int (Int32.ofNat len)])) := g6
  have c8 : Steps p.tables e below (s₁.setTop (entryFrame m #[.ref b, .int (Int32.ofNat o), .int (Int32.ofNat len)] 6)) (T6.setTop (mkF m 58 #[.val (.ref b), .val (.int (Int32.ofNat o)), .val (.int (Int32.ofNat len)), .val (.ref s.heap.size), .val (.int (Int32.ofNat len)), .unset] [.ref s.heap.size])) := c7.trans (by
    refine XS.istore X6.here hexec rfl (hb hbytes d12) rfl rfl ?_
    refine XS.iload X6.here hexec rfl (hb hbytes d14) rfl ?_
    refine XS.iloadN X6.here hexec rfl (hb hbytes d16) rfl ?_
    refine XS.icmpYes X6.here hexec rfl (pc0 := 17) rfl (hb hbytes d17) rfl (ii_eq_t rfl) (by decide) rfl ?_
    refine XS.aloadN X6.here hexec rfl (hb hbytes d57) rfl rfl ?_
    exact Steps.refl _)
  have X8 := X6.wide (L' := []) (cells' := 1) (slots' := len) (fun x hx hlt => by
    simp only [List.nil_append, copyLocs, List.mem_map, List.mem_range] at hx
    obtain ⟨i, -, rfl⟩ := hx
    exact absurd hlt (Nat.lt_irrefl _)) (Nat.le_refl _) (by omega)
  exact ⟨T6, some (.ref s.heap.size), _, _, _, X8, rfl, rfl, rfl, (fun h => by cases h), ⟨⟨rfl, B6, ba3.like (X3.warmed.alike.symm.trans X6.warmed.alike) p6.1 f6.1 f6.2.1 f6.2.2.1, f6.2.1.trans bv3, by rw [X6.warmed.alike.findClass, f6.1]; exact bf3, by rw [f6.2.2.1, bs3]; simp, fun j hj => by rw [f6.2.2.2 j, if_pos (by omega)]; rfl, kp3.put p6 (Nat.le_refl _)⟩, by rw [p6.2.2, bh3, hh0]; simp⟩, fun fs hl => c8.trans (X8.areturnOut hexec rfl hret rfl (hb hbytes d58) hl)⟩
end Cmp3
namespace CodL
def yN : MethodName := ⟨"java/lang/StringUTF16", "coderFromArrayLen", "([BI)B"⟩
abbrev yB : ByteArray := jdk_52_method_15_code
theorem d0 : decode yB 0 = .ok (.iload_n 1, 1) := by decide +kernel
theorem d1 : decode yB 1 = .ok (.aload_n 0, 1) := by decide +kernel
theorem d2 : decode yB 2 = .ok (.arraylength, 1) := by decide +kernel
theorem d3 : decode yB 3 = .ok (.isub, 1) := by decide +kernel
theorem d4 : decode yB 4 = .ok (.bipush 31, 2) := by decide +kernel
theorem d6 : decode yB 6 = .ok (.iushr, 1) := by decide +kernel
theorem d7 : decode yB 7 = .ok (.i2b, 1) := by decide +kernel
theorem d8 : decode yB 8 = .ok (.ireturn, 1) := by decide +kernel
def site : List Cond := []
def tab : Cond := tabOf yN yB 2 (some .byte) site
def P (d : Addr) (B : Cell) (args : Array Value) (s : State) : Prop := args = #[.ref d, .int (Int32.ofNat B.slots.size)] ∧ Arr .byte d B s
def E (r : Option Value) (s u : State) : Prop := XT.PureE (some (.int 0)) r s u
/-- an array as long as the number of chars: LATIN1 -/
theorem law (l : Launch) (d : Addr) (B : Cell) : Law l yN 2 2 0 0 yB 2 (some .byte) site (P d B) E [] 0 0 := by
  refine Law.of_walk (plainFor_of_name (by decide +kernel)) (by decide +kernel) (by decide +kernel) (by decide) (fun _ _ h => by rw [h.1]; rfl) (fun _ U U' hal hh h => ⟨h.1, h.2.mv hal hh⟩) (fun r U U' V V' h1 hal h2 h => XT.PureE.mv r U U' V V' h1 hal h2 h) ?_
  intro p e s m args below meth c s₁ X0 hexec hbytes hml hret hlk hnm hown hh0 W hP
  obtain ⟨rfl, hB⟩ := hP
  have hB0 := hB.mv X0.warmed.alike hh0
  have c1 : Steps p.tables e below (s₁.setTop (entryFrame m #[.ref d, .int (Int32.ofNat B.slots.size)] 2)) (s₁.setTop (mkF m 0 #[.val (.ref d), .val (.int (Int32.ofNat B.slots.size))] [])) := entry rfl
  have c2 : Steps p.tables e below (s₁.setTop (entryFrame m #[.ref d, .int (Int32.ofNat B.slots.size)] 2)) (s₁.setTop (mkF m 2 #[.val (.ref d), .val (.int (Int32.ofNat B.slots.size))] [.ref d, .int (Int32.ofNat B.slots.size)])) := c1.trans (by
    refine XS.iloadN X0.here hexec rfl (hb hbytes d0) rfl ?_
    refine XS.aloadN X0.here hexec rfl (hb hbytes d1) rfl rfl ?_
    exact Steps.refl _)
  have c3 : Steps p.tables e below (s₁.setTop (entryFrame m #[.ref d, .int (Int32.ofNat B.slots.size)] 2)) (s₁.setTop (mkF m 8 #[.val (.ref d), .val (.int (Int32.ofNat B.slots.size))] [.int (lo8 (ushr (Int32.ofNat B.slots.size - Int32.ofNat B.slots.size) 31))])) := c2.trans (by
    refine X0.alen hexec hB0 rfl rfl (hb hbytes d2) ?_
    refine XS.isub X0.here hexec rfl (hb hbytes d3) rfl ?_
    refine bipushV X0.here hexec rfl 31 (hb hbytes d4) (by decide) ?_
    refine iushr X0.here hexec rfl (hb hbytes d6) rfl ?_
    refine i2b X0.here hexec rfl (hb hbytes d7) rfl ?_
    exact Steps.refl _)
  have e0 : lo8 (ushr (Int32.ofNat B.slots.size - Int32.ofNat B.slots.size) 31) = 0 := by rw [Int32.sub_self]; decide
  rw [e0] at c3
  exact ⟨s₁, some (.int 0), _, _, _, X0, rfl, rfl, rfl, (fun h => by cases h), ⟨rfl, hh0⟩, fun fs hl => c3.trans (X0.ireturnOut hexec hret rfl (Or.inr (Or.inr (Or.inl rfl))) (hb hbytes d8) hl)⟩
end CodL
/-- the String at a is Latin-1 over a new byte[] (the heap's one new cell): the low bytes of the len chars of A from o on; every cell but a is kept -/
def Got (a : Addr) (D : Cell) (fV fC : Field) (A : Cell) (o len : Nat) (r : Option Value) (s u : State) : Prop := r = none ∧ ∃ D' V : Cell, Blank "java/lang/String" a D' u ∧ Same D D' [fV.slot, fC.slot] ∧ D'.slots[fV.slot]? = some (.ref s.heap.size) ∧ D'.slots[fC.slot]? = some (.int 0) ∧ Arr .byte s.heap.size V u ∧ V.vm = .none ∧ u.vm.findClass "[B" = some V.cls ∧ V.slots.size = len ∧ (∀ j, j < len → V.slots[j]? = some (.int (lo8 (cv A (o + j))))) ∧ (∀ (y : Addr) (c : Cell), y ≠ a → s.heap[y]? = some c → u.heap[y]? = some c) ∧ u.heap.size = s.heap.size + 1
theorem Got.mv {a : Addr} {D A : Cell} {fV fC : Field} {o len : Nat} : ∀ r (U U' V V' : State), U'.heap = U.heap → V.vm.Alike V'.vm → V'.heap = V.heap → Got a D fV fC A o len r U V → Got a D fV fC A o len r U' V' :=
  fun r U U' V V' h1 hal h2 ⟨e0, D', X, a1, a2, a3, a4, a5, a6, a7, a8, a9, a10, a11⟩ => ⟨e0, D', X, a1.mv hal h2, a2, by rw [h1]; exact a3, a4, by rw [h1]; exact a5.mv hal h2, a6, by rw [hal.findClass]; exact a7, a8, a9, by rw [h1, h2]; exact a10, by rw [h1, h2]; exact a11⟩
namespace New4
def yN : MethodName := ⟨"java/lang/String", "<init>", "([CIILjava/lang/Void;)V"⟩
abbrev yB : ByteArray := jdk_42_method_149_code
theorem d0 : decode yB 0 = .ok (.aload_n 0, 1) := by decide +kernel
theorem d1 : decode yB 1 = .ok (.invokespecial 1, 3) := by decide +kernel
theorem d4 : decode yB 4 = .ok (.iload_n 3, 1) := by decide +kernel
theorem d5 : decode yB 5 = .ok (.ifCond (.ne) 22, 3) := by decide +kernel
theorem d27 : decode yB 27 = .ok (.getstatic 38, 3) := by decide +kernel
theorem d30 : decode yB 30 = .ok (.ifCond (.eq) 28, 3) := by decide +kernel
theorem d33 : decode yB 33 = .ok (.aload_n 1, 1) := by decide +kernel
theorem d34 : decode yB 34 = .ok (.iload_n 2, 1) := by decide +kernel
theorem d35 : decode yB 35 = .ok (.iload_n 3, 1) := by decide +kernel
theorem d36 : decode yB 36 = .ok (.invokestatic 177, 3) := by decide +kernel
theorem d39 : decode yB 39 = .ok (.astore 5, 2) := by decide +kernel
theorem d41 : decode yB 41 = .ok (.aload_n 0, 1) := by decide +kernel
theorem d42 : decode yB 42 = .ok (.aload 5, 2) := by decide +kernel
theorem d44 : decode yB 44 = .ok (.iload_n 3, 1) := by decide +kernel
theorem d45 : decode yB 45 = .ok (.invokestatic 47, 3) := by decide +kernel
theorem d48 : decode yB 48 = .ok (.putfield 15, 3) := by decide +kernel
theorem d51 : decode yB 51 = .ok (.aload_n 0, 1) := by decide +kernel
theorem d52 : decode yB 52 = .ok (.aload 5, 2) := by decide +kernel
theorem d54 : decode yB 54 = .ok (.putfield 9, 3) := by decide +kernel
theorem d57 : decode yB 57 = .ok (.return_, 1) := by decide +kernel
def site : List Cond := [.fieldLink "java/lang/String" 38 "java/lang/String" "COMPACT_STRINGS" "Z", Cmp3.tab, CodL.tab, .laysFinal "java/lang/String" "java/lang/String" "value" "[B", .fieldLink "java/lang/String" 9 "java/lang/String" "value" "[B", .laysFinal "java/lang/String" "java/lang/String" "coder" "B", .fieldLink "java/lang/String" 15 "java/lang/String" "coder" "B"] ++ objW "java/lang/String" 1 ++ staticW "java/lang/String" 177 Cmp3.yN ++ staticW "java/lang/String" 47 CodL.yN
def tab : Cond := tabOf yN yB 6 none site
def P (a : Addr) (D : Cell) (fV fC : Field) (b : Addr) (A : Cell) (z : Int32) (o len : Nat) (args : Array Value) (s : State) : Prop := args = #[.ref a, .ref b, .int (Int32.ofNat o), .int (Int32.ofNat len), .null] ∧ Blank "java/lang/String" a D s ∧ Found "java/lang/String" "value" "[B" fV s ∧ Found "java/lang/String" "coder" "B" fC s ∧ Ch b A s ∧ StaticIs s "java/lang/String" "COMPACT_STRINGS" "Z" (.int z) ∧ ¬ z = 0 ∧ 0 < len ∧ o + len ≤ A.slots.size ∧ len ≤ 536870912 ∧ ∀ i, i < len → ¬ 255 < cv A (o + i)
def E (a : Addr) (D : Cell) (fV fC : Field) (A : Cell) (o len : Nat) (r : Option Value) (s u : State) : Prop := Got a D fV fC A o len r s u
/-- len > 0, no char of the range above 255: a Latin-1 String of their low bytes -/
theorem law (l : Launch) (a : Addr) (D : Cell) (fV fC : Field) (b : Addr) (A : Cell) (z : Int32) (o len : Nat) : Law l yN 5 4 2 35 yB 6 none site (P a D fV fC b A z o len) (E a D fV fC A o len) [⟨a, fC.slot⟩, ⟨a, fV.slot⟩] 1 len := by
  refine Law.of_walk (plainFor_of_name (by decide +kernel)) (by decide +kernel) (by decide +kernel) (by decide) (fun _ _ h => by rw [h.1]; rfl) (fun _ U U' hal hh h => ⟨h.1, h.2.1.mv hal hh, h.2.2.1.al hal, h.2.2.2.1.al hal, h.2.2.2.2.1.mv hal hh, h.2.2.2.2.2.1.there hal hh, h.2.2.2.2.2.2⟩) (fun r U U' V V' h1 hal h2 h => Got.mv r U U' V V' h1 hal h2 h) ?_
  intro p e s m args below meth c s₁ X0 hexec hbytes hml hret hlk hnm hown hh0 W hP
  obtain ⟨rfl, hB, f1, f2, hA, s1, hz, l0, l1, l2, hp⟩ := hP
  have a31 := hA.1.2.2.2
  have c1 : Steps p.tables e below (s₁.setTop (entryFrame m #[.ref a, .ref b, .int (Int32.ofNat o), .int (Int32.ofNat len), .null] 6)) (s₁.setTop (mkF m 0 #[.val (.ref a), .val (.ref b), .val (.int (Int32.ofNat o)), .val (.int (Int32.ofNat len)), .val .null, .unset] [])) := entry rfl
  have c2 : Steps p.tables e below (s₁.setTop (entryFrame m #[.ref a, .ref b, .int (Int32.ofNat o), .int (Int32.ofNat len), .null] 6)) (s₁.setTop (mkF m 1 #[.val (.ref a), .val (.ref b), .val (.int (Int32.ofNat o)), .val (.int (Int32.ofNat len)), .val .null, .unset] [.ref a])) := c1.trans (by
    refine XS.aloadN X0.here hexec rfl (hb hbytes d0) rfl rfl ?_
    exact Steps.refl _)
  obtain ⟨T3, X3, q3, st3⟩ := X0.oinit hexec hown (wks W (objW "java/lang/String" 1)) (g := (mkF m 1 #[.val (.ref a), .val (.ref b), .val (.int (Int32.ofNat o)), .val (.int (Int32.ofNat len)), .val .null, .unset] [.ref a])) rfl (by rw [hml]; rfl) (rest := []) rfl (hb hbytes d1) (W := 0) (by show 2 * 0 + 0 ≤ _; decide) (Nat.le_of_ble_eq_true rfl) (Nat.le_of_ble_eq_true rfl)
  have hh3 := q3.trans hh0
  have c4 : Steps p.tables e below (s₁.setTop (entryFrame m #[.ref a, .ref b, .int (Int32.ofNat o), .int (Int32.ofNat len), .null] 6)) (T3.setTop (mkF m 27 #[.val (.ref a), .val (.ref b), .val (.int (Int32.ofNat o)), .val (.int (Int32.ofNat len)), .val .null, .unset] [])) := (c2.trans (st3 _ (Steps.refl _))).trans (by
    refine XS.iloadN X3.here hexec rfl (hb hbytes d4) rfl ?_
    refine XS.ifYes X3.here hexec rfl (pc0 := 5) rfl (hb hbytes d5) rfl (i0_ne_t (nz32 (by omega) l0)) (by decide) rfl ?_
    exact Steps.refl _)
  obtain ⟨T5, X5, q5, st5⟩ := X3.sget hexec hown (wk W (.fieldLink "java/lang/String" 38 "java/lang/String" "COMPACT_STRINGS" "Z")) s1 (fun _ _ h => by rw [hh3]; exact h) (g := (mkF m 27 #[.val (.ref a), .val (.ref b), .val (.int (Int32.ofNat o)), .val (.int (Int32.ofNat len)), .val .null, .unset] [])) rfl (hb hbytes d27)
  have hh5 := q5.trans hh3
  have c6 : Steps p.tables e below (s₁.setTop (entryFrame m #[.ref a, .ref b, .int (Int32.ofNat o), .int (Int32.ofNat len), .null] 6)) (T5.setTop (mkF m 30 #[.val (.ref a), .val (.ref b), .val (.int (Int32.ofNat o)), .val (.int (Int32.ofNat len)), .val .null, .unset] [.int z])) := c4.trans (st5 _ (Steps.refl _))
  have c7 : Steps p.tables e below (s₁.setTop (entryFrame m #[.ref a, .ref b, .int (Int32.ofNat o), .int (Int32.ofNat len), .null] 6)) (T5.setTop (mkF m 36 #[.val (.ref a), .val (.ref b), .val (.int (Int32.ofNat o)), .val (.int (Int32.ofNat len)), .val .null, .unset] [.int (Int32.ofNat len), .int (Int32.ofNat o), .ref b])) := c6.trans (by
    refine XS.ifNo X5.here hexec rfl (hb hbytes d30) rfl (i0_eq_f hz) ?_
    refine XS.aloadN X5.here hexec rfl (hb hbytes d33) rfl rfl ?_
    refine XS.iloadN X5.here hexec rfl (hb hbytes d34) rfl ?_
    refine XS.iloadN X5.here hexec rfl (hb hbytes d35) rfl ?_
    exact Steps.refl _)
  obtain ⟨v8, T8, X8, E8, g8⟩ := X5.callS hexec (Cmp3.law l b A o len) hown (wks W (staticW "java/lang/String" 177 Cmp3.yN)) (wk W Cmp3.tab) (W := 0) (Nat.le_of_ble_eq_true rfl) (Nat.le_of_ble_eq_true rfl) (Nat.le_refl _) (by show 0 + len ≤ len; omega) (g := (mkF m 36 #[.val (.ref a), .val (.ref b), .val (.int (Int32.ofNat o)), .val (.int (Int32.ofNat len)), .val .null, .unset] [.int (Int32.ofNat len), .int (Int32.ofNat o), .ref b])) rfl (by rw [hml]; rfl) c7 (argsL := [.ref b, .int (Int32.ofNat o), .int (Int32.ofNat len)]) (rest := []) rfl rfl (by show 2 * 0 + 0 ≤ _; decide) (hb hbytes d36) (⟨rfl, hA.mv X5.warmed.alike hh5, l1, l2, hp⟩)
  obtain ⟨e8, z8⟩ := E8
  obtain ⟨rfl, N, n1, n2, n3, n4, n5, n6⟩ := NewArr.mv _ T5 s _ _ hh5.symm (Vm.Alike.refl _) rfl e8
  rw [hh5] at z8
  have hB1 := hB.keep X8.warmed.alike (n6 _ _ hB.1)
  have hne : s.heap.size ≠ a := (Nat.ne_of_lt (Array.getElem?_eq_some_iff.mp hB.1).1).symm
  have c9 : Steps p.tables e below (s₁.setTop (entryFrame m #[.ref a, .ref b, .int (Int32.ofNat o), .int (Int32.ofNat len), .null] 6)) (T8.setTop (mkF m 39 #[.val (.ref a), .val (.ref b), .val (.int (Int32.ofNat o)), .val (.int (Int32.ofNat len)), .val .null, .unset] [.ref s.heap.size])) := g8
  have c10 : Steps p.tables e below (s₁.setTop (entryFrame m #[.ref a, .ref b, .int (Int32.ofNat o), .int (Int32.ofNat len), .null] 6)) (T8.setTop (mkF m 45 #[.val (.ref a), .val (.ref b), .val (.int (Int32.ofNat o)), .val (.int (Int32.ofNat len)), .val .null, .val (.ref s.heap.size)] [.int (Int32.ofNat N.slots.size), .ref s.heap.size, .ref a])) := by
    have hc : Steps p.tables e below (s₁.setTop (entryFrame m #[.ref a, .ref b, .int (Int32.ofNat o), .int (Int32.ofNat len), .null] 6)) (T8.setTop (mkF m 45 #[.val (.ref a), .val (.ref b), .val (.int (Int32.ofNat o)), .val (.int (Int32.ofNat len)), .val .null, .val (.ref s.heap.size)] [.int (Int32.ofNat len), .ref s.heap.size, .ref a])) := c9.trans (by
      refine XS.astore X8.here hexec rfl (hb hbytes d39) rfl rfl rfl ?_
      refine XS.aloadN X8.here hexec rfl (hb hbytes d41) rfl rfl ?_
      refine XS.aload X8.here hexec rfl (hb hbytes d42) rfl rfl ?_
      refine XS.iloadN X8.here hexec rfl (hb hbytes d44) rfl ?_
      exact Steps.refl _)
    rw [n4]; exact hc
  obtain ⟨v11, T11, X11, E11, g11⟩ := X8.callS hexec (CodL.law l s.heap.size N) hown (wks W (staticW "java/lang/String" 47 CodL.yN)) (wk W CodL.tab) (W := 1) (Nat.le_of_ble_eq_true rfl) (Nat.le_of_ble_eq_true rfl) (Nat.le_refl _) (by show 0 + len + 0 ≤ len; omega) (g := (mkF m 45 #[.val (.ref a), .val (.ref b), .val (.int (Int32.ofNat o)), .val (.int (Int32.ofNat len)), .val .null, .val (.ref s.heap.size)] [.int (Int32.ofNat N.slots.size), .ref s.heap.size, .ref a])) rfl (by rw [hml]; rfl) c10 (argsL := [.ref s.heap.size, .int (Int32.ofNat N.slots.size)]) (rest := [.ref a]) rfl rfl (by show 2 * 0 + (1 + 0) ≤ _; decide) (hb hbytes d45) (⟨rfl, n1⟩)
  obtain ⟨rfl, q11⟩ := E11
  have hB11 := hB1.mv (X8.warmed.alike.symm.trans X11.warmed.alike) q11
  have c12 : Steps p.tables e below (s₁.setTop (entryFrame m #[.ref a, .ref b, .int (Int32.ofNat o), .int (Int32.ofNat len), .null] 6)) (T11.setTop (mkF m 48 #[.val (.ref a), .val (.ref b), .val (.int (Int32.ofNat o)), .val (.int (Int32.ofNat len)), .val .null, .val (.ref s.heap.size)] [.int 0, .ref a])) := g11
  obtain ⟨T13, X13, p13, bl13, sl13, st13⟩ := X11.finit hexec hown (wk W (.fieldLink "java/lang/String" 15 "java/lang/String" "coder" "B")) (Or.inr ⟨_, (wk W (.laysFinal "java/lang/String" "java/lang/String" "coder" "B"))⟩) (Or.inl ⟨rfl, hnm⟩) f2 (Or.inl rfl) hB11 (t := .byte) (by decide +kernel) rfl (g := (mkF m 48 #[.val (.ref a), .val (.ref b), .val (.int (Int32.ofNat o)), .val (.int (Int32.ofNat len)), .val .null, .val (.ref s.heap.size)] [.int 0, .ref a])) rfl (rest := []) rfl (hb hbytes d48)
  have c14 : Steps p.tables e below (s₁.setTop (entryFrame m #[.ref a, .ref b, .int (Int32.ofNat o), .int (Int32.ofNat len), .null] 6)) (T13.setTop (mkF m 54 #[.val (.ref a), .val (.ref b), .val (.int (Int32.ofNat o)), .val (.int (Int32.ofNat len)), .val .null, .val (.ref s.heap.size)] [.ref s.heap.size, .ref a])) := (c12.trans (st13 _ (Steps.refl _))).trans (by
    refine XS.aloadN X13.here hexec rfl (hb hbytes d51) rfl rfl ?_
    refine XS.aload X13.here hexec rfl (hb hbytes d52) rfl rfl ?_
    exact Steps.refl _)
  obtain ⟨T15, X15, p15, bl15, sl15, st15⟩ := X13.finit hexec hown (wk W (.fieldLink "java/lang/String" 9 "java/lang/String" "value" "[B")) (Or.inr ⟨_, (wk W (.laysFinal "java/lang/String" "java/lang/String" "value" "[B"))⟩) (Or.inl ⟨rfl, hnm⟩) f1 (Or.inl rfl) bl13 (t := (.array .byte)) (by decide +kernel) rfl (g := (mkF m 54 #[.val (.ref a), .val (.ref b), .val (.int (Int32.ofNat o)), .val (.int (Int32.ofNat len)), .val .null, .val (.ref s.heap.size)] [.ref s.heap.size, .ref a])) rfl (rest := []) rfl (hb hbytes d54)
  have c16 : Steps p.tables e below (s₁.setTop (entryFrame m #[.ref a, .ref b, .int (Int32.ofNat o), .int (Int32.ofNat len), .null] 6)) (T15.setTop (mkF m 57 #[.val (.ref a), .val (.ref b), .val (.int (Int32.ofNat o)), .val (.int (Int32.ofNat len)), .val .null, .val (.ref s.heap.size)] [])) := c14.trans (st15 _ (Steps.refl _))
  have ap := apart (Or.inr ⟨_, (wk W (.laysFinal "java/lang/String" "java/lang/String" "value" "[B"))⟩) (Or.inr ⟨_, (wk W (.laysFinal "java/lang/String" "java/lang/String" "coder" "B"))⟩) f1 f2 (t₁ := .array .byte) (t₂ := .byte) (by decide +kernel) (by decide +kernel) (by decide)
  have al := X8.warmed.alike.symm.trans X15.warmed.alike
  have n7 : T11.heap[s.heap.size]? = some N := by rw [q11]; exact n1.1
  exact ⟨T15, none, _, _, _, X15, by simp, rfl, by omega, (fun _ => rfl), ⟨rfl, _, N, bl15, ((Same.refl D _).set _ (by simp)).set _ (by simp), sl15, (Cell.slots_setSlot_ne _ ap).trans sl13, n1.keep al (p15.other hne (p13.other hne n7)), n2, by rw [al.findClass]; exact n3, n4, n5, fun y c h1 h2 => p15.other h1 (p13.other h1 (by rw [q11]; exact n6 y c h2)), by rw [p15.2.2, p13.2.2, q11]; exact z8⟩, fun fs hl => c16.trans (X15.returnOut hexec hret (hb hbytes d57) hl)⟩
end New4
namespace New1
def yN : MethodName := ⟨"java/lang/String", "<init>", "([C)V"⟩
abbrev yB : ByteArray := jdk_42_method_3_code
theorem d0 : decode yB 0 = .ok (.aload_n 0, 1) := by decide +kernel
theorem d1 : decode yB 1 = .ok (.aload_n 1, 1) := by decide +kernel
theorem d2 : decode yB 2 = .ok (.iconst 0, 1) := by decide +kernel
theorem d3 : decode yB 3 = .ok (.aload_n 1, 1) := by decide +kernel
theorem d4 : decode yB 4 = .ok (.arraylength, 1) := by decide +kernel
theorem d5 : decode yB 5 = .ok (.aconst_null, 1) := by decide +kernel
theorem d6 : decode yB 6 = .ok (.invokespecial 27, 3) := by decide +kernel
theorem d9 : decode yB 9 = .ok (.return_, 1) := by decide +kernel
def site : List Cond := [New4.tab] ++ initW "java/lang/String" 27 New4.yN
def tab : Cond := tabOf yN yB 2 none site
def P (a : Addr) (D : Cell) (fV fC : Field) (b : Addr) (A : Cell) (z : Int32) (args : Array Value) (s : State) : Prop := args = #[.ref a, .ref b] ∧ Blank "java/lang/String" a D s ∧ Found "java/lang/String" "value" "[B" fV s ∧ Found "java/lang/String" "coder" "B" fC s ∧ Ch b A s ∧ StaticIs s "java/lang/String" "COMPACT_STRINGS" "Z" (.int z) ∧ ¬ z = 0 ∧ 0 < A.slots.size ∧ A.slots.size ≤ 536870912 ∧ ∀ i, i < A.slots.size → ¬ 255 < cv A i
def E (a : Addr) (D : Cell) (fV fC : Field) (A : Cell) (r : Option Value) (s u : State) : Prop := Got a D fV fC A 0 A.slots.size r s u
/-- new String(chars), not empty, no char above 255: a Latin-1 String of their low bytes -/
theorem law (l : Launch) (a : Addr) (D : Cell) (fV fC : Field) (b : Addr) (A : Cell) (z : Int32) : Law l yN 2 1 3 52 yB 2 none site (P a D fV fC b A z) (E a D fV fC A) [⟨a, fC.slot⟩, ⟨a, fV.slot⟩] 1 A.slots.size := by
  refine Law.of_walk (plainFor_of_name (by decide +kernel)) (by decide +kernel) (by decide +kernel) (by decide) (fun _ _ h => by rw [h.1]; rfl) (fun _ U U' hal hh h => ⟨h.1, h.2.1.mv hal hh, h.2.2.1.al hal, h.2.2.2.1.al hal, h.2.2.2.2.1.mv hal hh, h.2.2.2.2.2.1.there hal hh, h.2.2.2.2.2.2⟩) (fun r U U' V V' h1 hal h2 h => Got.mv r U U' V V' h1 hal h2 h) ?_
  intro p e s m args below meth c s₁ X0 hexec hbytes hml hret hlk hnm hown hh0 W hP
  obtain ⟨rfl, hB, f1, f2, hA, s1, hz, l0, l2, hp⟩ := hP
  have c1 : Steps p.tables e below (s₁.setTop (entryFrame m #[.ref a, .ref b] 2)) (s₁.setTop (mkF m 0 #[.val (.ref a), .val (.ref b)] [])) := entry rfl
  have c2 : Steps p.tables e below (s₁.setTop (entryFrame m #[.ref a, .ref b] 2)) (s₁.setTop (mkF m 6 #[.val (.ref a), .val (.ref b)] [.null, .int (Int32.ofNat A.slots.size), .int 0, .ref b, .ref a])) := c1.trans (by
    refine XS.aloadN X0.here hexec rfl (hb hbytes d0) rfl rfl ?_
    refine XS.aloadN X0.here hexec rfl (hb hbytes d1) rfl rfl ?_
    refine iconstV X0.here hexec rfl 0 (hb hbytes d2) (by decide) ?_
    refine XS.aloadN X0.here hexec rfl (hb hbytes d3) rfl rfl ?_
    refine X0.alen hexec (hA.1.mv X0.warmed.alike hh0) rfl rfl (hb hbytes d4) ?_
    refine XS.aconstNull X0.here hexec rfl (hb hbytes d5) ?_
    exact Steps.refl _)
  obtain ⟨v3, T3, X3, E3, g3⟩ := X0.callN hexec (New4.law l a D fV fC b A z 0 A.slots.size) rfl hown (wks W (initW "java/lang/String" 27 New4.yN)) (W New4.tab (by simp only [site, List.mem_cons, List.mem_append, true_or, or_true])) (W := 0) (Nat.le_of_ble_eq_true rfl) (Nat.le_of_ble_eq_true rfl) (Nat.le_refl _) (by show 0 + A.slots.size ≤ A.slots.size; omega) (g := (mkF m 6 #[.val (.ref a), .val (.ref b)] [.null, .int (Int32.ofNat A.slots.size), .int (Int32.ofNat 0), .ref b, .ref a])) rfl (by rw [hml]; rfl) c2 (argsL := [.ref b, .int (Int32.ofNat 0), .int (Int32.ofNat A.slots.size), .null]) (rest := []) rfl rfl (by show 2 * 0 + 0 ≤ _; decide) (hb hbytes d6) (⟨rfl, hB.mv X0.warmed.alike hh0, f1.al X0.warmed.alike, f2.al X0.warmed.alike, hA.mv X0.warmed.alike hh0, s1.there X0.warmed.alike hh0, hz, l0, by omega, l2, fun i hi => by rw [Nat.zero_add]; exact hp i hi⟩)
  have e0 := Got.mv _ s₁ s _ _ hh0.symm (Vm.Alike.refl _) rfl E3
  obtain rfl := e0.1
  have c4 : Steps p.tables e below (s₁.setTop (entryFrame m #[.ref a, .ref b] 2)) (T3.setTop (mkF m 9 #[.val (.ref a), .val (.ref b)] [])) := g3
  exact ⟨T3, none, _, _, _, X3, by simp, rfl, by omega, (fun _ => rfl), e0, fun fs hl => c4.trans (X3.returnOut hexec hret (hb hbytes d9) hl)⟩
theorem pays {l : Launch} {R : Room} {p : Program} {e : Env} {below : List Frame} {s : State} {sargs : Array Value} {len W : Nat} (a : Addr) (D : Cell) (fV fC : Field) (b : Addr) (A : Cell) (z : Int32) (htab : tab.before sargs s = true) (hfr : 4 ≤ R.frames) (hlo : W + 65 ≤ R.locals) :
    Back l R p e below s sargs yN len W (fun A₁ a₁ => A₁.cells + 1 ≤ R.cells ∧ A₁.slots + A.slots.size ≤ R.slots ∧ P a D fV fC b A z a₁ A₁.U) (fun A₁ _ v₁ B₁ => E a D fV fC A v₁ A₁.U B₁.U ∧ B₁.locs = A₁.locs ++ [⟨a, fC.slot⟩, ⟨a, fV.slot⟩] ∧ B₁.cells = A₁.cells + 1 ∧ B₁.slots = A₁.slots + A.slots.size) :=
  (law l a D fV fC b A z).pays htab hfr (by omega)
end New1
end StrChars
namespace StrChars.Road
open Jvm Sem ClassFile Op Lib Jvm.Stand Jvm.Free Jvm.Free.XT
open Jvm.Lib.Cold (StaticIs)
abbrev ST : String := "java/lang/String"
/-- every table word that New1's law asks, flat -/
abbrev words : List Jvm.Cond := [.code New1.yN New1.yB 2 none, .initialized ST, .methodLink ST 27 New4.yN, .instanceMethod New4.yN,
  .code New4.yN New4.yB 6 none, .fieldLink ST 38 ST "COMPACT_STRINGS" "Z", .laysFinal ST ST "value" "[B", .fieldLink ST 9 ST "value" "[B", .laysFinal ST ST "coder" "B", .fieldLink ST 15 ST "coder" "B",
  .methodLink ST 1 Lib.objectInit, .instanceMethod Lib.objectInit, .code Lib.objectInit ⟨#[0xb1]⟩ 1 none, .methodLink ST 177 Cmp3.yN, .static Cmp3.yN, .methodLink ST 47 CodL.yN, .static CodL.yN,
  .code Cmp3.yN Cmp3.yB 6 (some (.array .byte)), .initialized U16, .arrayClass .byte, .methodLink U16 115 Cmp5.yN, .static Cmp5.yN, .code Cmp5.yN Cmp5.yB 7 (some .int), .code CodL.yN CodL.yB 2 (some .byte)]
theorem tab_of {a : Array Value} {s : State} (h : ∀ w ∈ words, w.before a s = true) : New1.tab.before a s = true := by
  have h5 : Cmp5.tab.before a s = true := unparts (wk h (.code Cmp5.yN Cmp5.yB 7 (some .int))) (wks h (.initialized Cmp5.yN.cls :: Cmp5.site))
  have hc : CodL.tab.before a s = true := unparts (wk h (.code CodL.yN CodL.yB 2 (some .byte))) (wks h (.initialized CodL.yN.cls :: CodL.site))
  have q5 : ∀ w ∈ Cmp5.tab :: words, w.before a s = true := fun w hw => (List.mem_cons.mp hw).elim (fun e => e ▸ h5) (h w)
  have h3 : Cmp3.tab.before a s = true := unparts (wk q5 (.code Cmp3.yN Cmp3.yB 6 (some (.array .byte)))) (wks q5 (.initialized Cmp3.yN.cls :: Cmp3.site))
  have q3 : ∀ w ∈ Cmp3.tab :: CodL.tab :: words, w.before a s = true := fun w hw => (List.mem_cons.mp hw).elim (fun e => e ▸ h3) fun hw => (List.mem_cons.mp hw).elim (fun e => e ▸ hc) (h w)
  have h4 : New4.tab.before a s = true := unparts (wk q3 (.code New4.yN New4.yB 6 none)) (wks q3 (.initialized New4.yN.cls :: New4.site))
  have q4 : ∀ w ∈ New4.tab :: words, w.before a s = true := fun w hw => (List.mem_cons.mp hw).elim (fun e => e ▸ h4) (h w)
  exact unparts (wk q4 (.code New1.yN New1.yB 2 none)) (wks q4 (.initialized New1.yN.cls :: New1.site))
/-- the words ride from the start Z to the walk's own state -/
theorem moved {Z s : State} {a0 args : Array Value} (hZ : Z.Warmed39 s.vm) (hw : ∀ d ∈ words, d.before a0 Z = true) : ∀ d ∈ words, d.before args s = true := fun d hd => by
  have q := hw d hd
  have t : ∀ d ∈ words, d = .arrayClass .byte ∨ (d.onTables && d.keepsFace) = true := by decide +kernel
  rcases t d hd with rfl | t
  · exact RoadKit.mvA hZ q
  · exact RoadKit.mv hZ q t
/-- WHAT COMES BACK, over the tables of the start Z: h the heap at the call, h' behind it -/
def Q (Z : State) (x : Addr) (A : Cell) (h : Heap) (v : Option Value) (h' : Heap) (L : List Loc) : Prop := v = none ∧ (∀ y ∈ L, y.base = x) ∧ RoadKit.Keep h h' [x] ∧ h'.size = h.size + 1 ∧ RoadKit.Exa Z h' x ST ∧ RoadKit.Fld Z h' x ST "value" "[B" (.ref h.size) ∧ RoadKit.Fld Z h' x ST "coder" "B" (.int 0) ∧
  (∃ V : Cell, RoadKit.Arr Z h' h.size V .byte ∧ V.vm = .none ∧ Z.vm.findClass "[B" = some V.cls ∧ V.slots.size = A.slots.size ∧ ∀ j, j < A.slots.size → V.slots[j]? = some (.int (lo8 (cv A j)))) ∧
  ∀ (O n d : String) (w : Value), RoadKit.Fld Z h x O n d w → RoadKit.slotOf Z O n d ≠ RoadKit.slotOf Z ST "value" "[B" → RoadKit.slotOf Z O n d ≠ RoadKit.slotOf Z ST "coder" "B" → RoadKit.Fld Z h' x O n d w
/-- **new String(chars) AT A CALL, IN THE ROAD'S FORM**: for specialBack behind newO: x the fresh String, b the char[] with the cell A -/
theorem back {p : Program} {l : Launch} {e : Env} {R : Room} {s : State} {args : Array Value} {below : List Frame} {len W : Nat} {Z : State} {a0 : Array Value} {h : Heap} (hZ : Z.Warmed39 s.vm) (hw : ∀ d ∈ words, d.before a0 Z = true) {kI : Nat} (wi : (Jvm.Cond.instantiable ST kI).before a0 Z = true)
    {x b : Addr} {A : Cell} {z : Int32} {v0 c0 : Value} (E : RoadKit.Exa Z h x ST) (V : RoadKit.Fld Z h x ST "value" "[B" v0) (C : RoadKit.Fld Z h x ST "coder" "B" c0) (K : RoadKit.Arr Z h b A .char) (hty : Typed .char A) (S : RoadKit.Sta Z h ST "COMPACT_STRINGS" "Z" (.int z)) (hz : ¬ z = 0)
    (l0 : 0 < A.slots.size) (l2 : A.slots.size ≤ 536870912) (hp : ∀ i, i < A.slots.size → ¬ 255 < cv A i) (hfr : 4 ≤ R.frames) (hlo : W + 65 ≤ R.locals) :
    Back l R p e below s args New1.yN len W (fun P a => a = #[.ref x, .ref b] ∧ P.U.heap = h ∧ P.cells + 1 ≤ R.cells ∧ P.slots + A.slots.size ≤ R.slots)
      (fun P _ v B => ∃ L, Q Z x A h v B.U.heap L ∧ B.locs = P.locs ++ L ∧ B.cells = P.cells + 1 ∧ B.slots = P.slots + A.slots.size) := by
  intro m meth c P g ig mk a X hg hsize hdg hW hn hp'
  obtain ⟨rfl, rfl, r1, r2⟩ := hp'
  have al : Z.vm.Alike P.U.vm := hZ.alike.trans X.warmed.alike
  obtain ⟨D, cfV, kV, iV, fV, hD, gV, stV, knV, obV, asV, slV⟩ := id V
  obtain ⟨D', cfC, kC, iC, fC, hD', gC, stC, -, -, asC, slC⟩ := id C
  cases hD.symm.trans hD'
  obtain ⟨D2, kD, e1, e2, e3, e4, e5⟩ := id E
  cases hD.symm.trans e1
  obtain ⟨c2, k2, i1, i2, i3, -⟩ := Cond.instantiable_spec wi
  cases e2.symm.trans i1
  cases e3.symm.trans i2
  obtain ⟨kU, u1, u2⟩ := al.2.2 _ _ e3
  have hB : Blank ST x D P.U := ⟨hD, ⟨knV, fun q hq => by rw [hq] at obV; cases obV⟩, by rw [al.findClass]; exact e2, kU, u1, by rw [u2]; exact i3, by rw [u2]; exact e5 i3⟩
  have F1 : Found ST "value" "[B" fV P.U := ⟨SBG.found_only al ⟨cfV, kV, iV, gV⟩, stV⟩
  have F2 : Found ST "coder" "B" fC P.U := ⟨SBG.found_only al ⟨cfC, kC, iC, gC⟩, stC⟩
  have hA : Ch b A P.U := ⟨⟨K.1, State.isArrayOf_alike al K.2.1, K.2.2, by omega⟩, hty⟩
  have hS : StaticIs P.U ST "COMPACT_STRINGS" "Z" (.int z) := by
    obtain ⟨cfS, iS, kS, fS, st, cS, t1, t2, t3, t4, t5, t6, t7⟩ := S
    exact StaticIs.there (s := { Z with heap := P.U.heap }) ⟨cfS, iS, kS, fS, st, cS, t1, t2, t3, t4, t5, (fun q => by rw [q] at t6; cases t6), t7⟩ al rfl
  obtain ⟨v, B, X', ⟨⟨hv, E', V', q1, q2, q3, q4, q5, q6, q7, q8, q9, q10, q11⟩, hl, hc, hs⟩, st⟩ := New1.pays x D fV fC b A z (tab_of (moved hZ hw)) hfr hlo m meth c P g ig mk _ X hg hsize hdg hW hn ⟨r1, r2, rfl, hB, F1, F2, hA, hS, hz, l0, l2, hp⟩
  have al' : Z.vm.Alike B.U.vm := hZ.alike.trans X'.warmed.alike
  have hsz : E'.slots.size = D.slots.size := by
    obtain ⟨-, -, -, kB, w1, w2, w3⟩ := q1
    obtain ⟨kB', y1, y2⟩ := al'.2.2 _ _ e3
    rw [q2.2.1] at w1
    cases w1.symm.trans y1
    rw [w3, e5 i3, y2]
  refine ⟨v, B, X', ⟨_, ⟨hv, ?_, ⟨by omega, fun y cy hy hn' => q10 y cy (by simpa using hn') hy, fun y cy hy => ?_⟩, q11, ⟨E', _, q1.1, by rw [q2.2.1]; exact e2, by rw [q2.2.1]; exact e3, by rw [q2.1]; exact obV, fun _ => by rw [hsz]; exact e5 i3⟩,
    ⟨E', cfV, kV, iV, fV, q1.1, gV, stV, by rw [q2.1]; exact knV, by rw [q2.1]; exact obV, by rw [q2.2.1]; exact asV, q3⟩, ⟨E', cfC, kC, iC, fC, q1.1, gC, stC, by rw [q2.1]; exact knV, by rw [q2.1]; exact obV, by rw [q2.2.1]; exact asC, q4⟩,
    ⟨V', ⟨q5.1, State.isArrayOf_alike al'.symm q5.2.1, q5.2.2.1⟩, q6, by rw [← al'.findClass]; exact q7, q8, fun j hj => by have := q9 j hj; rwa [Nat.zero_add] at this⟩, fun O n d w F n1 n2 => ?_⟩, hl, hc, hs⟩, st⟩
  · intro y hy
    simp only [List.mem_cons, List.not_mem_nil, or_false] at hy
    rcases hy with rfl | rfl <;> rfl
  · by_cases q : y = x
    · subst q
      cases hD.symm.trans hy
      exact ⟨E', q1.1, q2.2.1, q2.1, hsz⟩
    · exact ⟨cy, q10 y cy q hy, rfl, rfl, rfl⟩
  · obtain ⟨D3, cf, k, i, f, g1, g2, g3, g4, g5, g6, g7⟩ := F
    cases hD.symm.trans g1
    simp only [RoadKit.slotOf, g2, gV, gC, Option.map_some, Option.getD_some] at n1 n2
    exact ⟨E', cf, k, i, f, q1.1, g2, g3, by rw [q2.1]; exact g4, by rw [q2.1]; exact g5, by rw [q2.2.1]; exact g6, by rw [q2.2.2 f.slot (by simp [n1, n2])]; exact g7⟩
end StrChars.Road
namespace StrChars.Road
open Jvm Sem ClassFile Op Lib Jvm.Stand Jvm.Free Jvm.Free.XT
/-- WHAT COMES BACK, the byte[] as a list of values -/
def QA (Z : State) (x : Addr) (zn : Int32) (cs : List Int32) (h : Heap) (v : Option Value) (h' : Heap) (L : List Loc) : Prop := v = none ∧ (∀ y ∈ L, y.base = x) ∧ RoadKit.Keep h h' [x] ∧ h'.size = h.size + 1 ∧ RoadKit.Exa Z h' x ST ∧ RoadKit.Fld Z h' x ST "value" "[B" (.ref h.size) ∧ RoadKit.Fld Z h' x ST "coder" "B" (.int 0) ∧
  (∃ kb, Z.vm.findClass "[B" = some kb ∧ RoadKit.Arv Z h' h.size kb .byte zn (cs.map fun c => .int (lo8 c)) (.int 0)) ∧
  ∀ (O n d : String) (w : Value), RoadKit.Fld Z h x O n d w → RoadKit.slotOf Z O n d ≠ RoadKit.slotOf Z ST "value" "[B" → RoadKit.slotOf Z O n d ≠ RoadKit.slotOf Z ST "coder" "B" → RoadKit.Fld Z h' x O n d w
/-- **new String(chars) AT A CALL, THE ARRAYS AS LISTS**: the char[] at b holds cs, not empty, no char above 255 -/
theorem backArv {p : Program} {l : Launch} {e : Env} {R : Room} {s : State} {args : Array Value} {below : List Frame} {len W : Nat} {Z : State} {a0 : Array Value} {h : Heap} (hZ : Z.Warmed39 s.vm) (hw : ∀ d ∈ words, d.before a0 Z = true) {kI : Nat} (wi : (Jvm.Cond.instantiable ST kI).before a0 Z = true)
    {x b : Addr} {k : ClassId} {zn z : Int32} {cs : List Int32} {dv v0 c0 : Value} (E : RoadKit.Exa Z h x ST) (V : RoadKit.Fld Z h x ST "value" "[B" v0) (C : RoadKit.Fld Z h x ST "coder" "B" c0) (K : RoadKit.Arv Z h b k .char zn (cs.map Value.int) dv) (S : RoadKit.Sta Z h ST "COMPACT_STRINGS" "Z" (.int z)) (hz : ¬ z = 0)
    (hlen : zn.toNatClampNeg = cs.length) (h0 : 0 < cs.length) (hbig : cs.length ≤ 536870912) (hall : ∀ c ∈ cs, ¬ 255 < c) (hfr : 4 ≤ R.frames) (hlo : W + 65 ≤ R.locals) :
    Back l R p e below s args New1.yN len W (fun P a => a = #[.ref x, .ref b] ∧ P.U.heap = h ∧ P.cells + 1 ≤ R.cells ∧ P.slots + cs.length ≤ R.slots)
      (fun P _ v B => ∃ L, QA Z x zn cs h v B.U.heap L ∧ B.locs = P.locs ++ L ∧ B.cells = P.cells + 1 ∧ B.slots = P.slots + cs.length) := by
  obtain ⟨A, K1, K2, K3, K4, K5, K6⟩ := K
  have e : A.slots.size = cs.length := K3.trans hlen
  have hat : ∀ (i : Nat) (hi : i < cs.length), A.slots[i]? = some (.int cs[i]) := fun i hi => by rw [K5 i (by omega)]; simp [List.getD_eq_getElem?_getD, hi]
  have hcv : ∀ (i : Nat) (hi : i < cs.length), cv A i = cs[i] := fun i hi => by unfold cv; rw [hat i hi]
  have hty : Typed .char A := fun i v hv => by
    have hi : i < A.slots.size := (Array.getElem?_eq_some_iff.mp hv).1
    have q := K5 i hi
    rw [hv] at q
    rw [Option.some.inj q]
    exact K6 i hi
  refine Back.mono (back hZ hw wi E V C K1 hty S hz (by omega) (by omega) (fun i hi => by rw [hcv i (by omega)]; exact hall _ (List.getElem_mem _)) hfr hlo) (fun P a hp => ⟨hp.1, hp.2.1, hp.2.2.1, by rw [e]; exact hp.2.2.2⟩) (fun P a v B hp hq => ?_)
  obtain ⟨L, ⟨q1, q2, q3, q4, q5, q6, q7, ⟨V', v1, v2, v3, v4, v5⟩, q9⟩, hl, hc, hs⟩ := hq
  refine ⟨L, ⟨q1, q2, q3, q4, q5, q6, q7, ⟨V'.cls, v3, V', v1, rfl, by rw [v4, e, hlen], K4, fun i hi => ?_, fun i hi => ?_⟩, q9⟩, hl, hc, by rw [hs, e]⟩
  · have hi' : i < cs.length := by omega
    rw [v5 i (by omega), hcv i hi']; simp [List.getD_eq_getElem?_getD, hi']
  · have hi' : i < cs.length := by omega
    simp only [List.getD_eq_getElem?_getD, List.getElem?_map, List.getElem?_eq_getElem hi', Option.map_some, Option.getD_some]
    exact fits_lo8 _
end StrChars.Road
namespace StrChars.Road
open Jvm Sem ClassFile Op Lib Jvm.Stand Jvm.Free Jvm.Free.XT
/-- WHAT COMES BACK, in the writer's own shape -/
def QV (Z : State) (x : Addr) (N : Int32) (bs : List Int32) (h : Heap) (n0 : Nat) (v : Option Value) (h' : Heap) (L : List Loc) : Prop := v = none ∧ RoadKit.Fr n0 L ∧ RoadKit.Keep h h' [x] ∧ RoadKit.Exa Z h' x ST ∧ RoadKit.Fld Z h' x ST "coder" "B" (.int 0) ∧
  ∃ (t : Addr) (kb : ClassId), n0 ≤ t ∧ h.size ≤ t ∧ ¬ t = x ∧ RoadKit.Fld Z h' x ST "value" "[B" (.ref t) ∧ RoadKit.Arv Z h' t kb .byte N (bs.map Value.int) (.int 0)
/-- **new String(chars) AT A CALL, FOR THE WRITER**: a char[] of n known ints, each 0 to 255 -/
theorem backV {p : Program} {l : Launch} {e : Env} {R : Room} {s : State} {args : Array Value} {below : List Frame} {len W : Nat} {Z : State} {a0 : Array Value} {h : Heap} (hZ : Z.Warmed39 s.vm) (hw : ∀ d ∈ words, d.before a0 Z = true) {kI : Nat} (wi : (Jvm.Cond.instantiable ST kI).before a0 Z = true)
    {x b : Addr} {kC : ClassId} {cs bs : List Int32} {d v0 c0 : Value} {z N : Int32} {n n0 : Nat} (hx0 : n0 ≤ x) (hh0 : n0 ≤ h.size) (E : RoadKit.Exa Z h x ST) (V : RoadKit.Fld Z h x ST "value" "[B" v0) (C : RoadKit.Fld Z h x ST "coder" "B" c0) (K : RoadKit.Arv Z h b kC .char N (cs.map Value.int) d) (S : RoadKit.Sta Z h ST "COMPACT_STRINGS" "Z" (.int z)) (hz : ¬ z = 0)
    (hn : cs.length = n) (hN : N = Int32.ofNat n) (l0 : 0 < n) (l2 : n ≤ 4000) (hp : ∀ c ∈ cs, ¬ c < 0 ∧ ¬ (255 : Int32) < c) (hb : bs = cs.map (fun c => c.toInt8.toInt32)) (hfr : 4 ≤ R.frames) (hlo : W + 65 ≤ R.locals) :
    Back l R p e below s args (⟨"java/lang/String", "<init>", "([C)V"⟩ : MethodName) len W (fun P a => a = #[.ref x, .ref b] ∧ P.U.heap = h ∧ P.cells + 1 ≤ R.cells ∧ P.slots + n ≤ R.slots)
      (fun P _ v B => ∃ L, QV Z x N bs h n0 v B.U.heap L ∧ B.locs = P.locs ++ L ∧ B.cells = P.cells + 1 ∧ B.slots = P.slots + n) := by
  subst hn hN hb
  refine Back.mono (backArv hZ hw wi E V C K S hz (n32 (by omega)) l0 (by omega) (fun c hc => (hp c hc).2) hfr hlo) (fun P a hp => hp) (fun P a v B hp hq => ?_)
  obtain ⟨L, ⟨q1, q2, q3, q4, q5, q6, q7, ⟨kb, v1, v2⟩, q9⟩, hl, hc, hs⟩ := hq
  exact ⟨L, ⟨q1, fun y hy => by rw [q2 y hy]; exact hx0, q3, q5, q7, h.size, kb, hh0, Nat.le_refl _, Nat.ne_of_gt E.lt, q6, by rw [List.map_map]; exact v2⟩, hl, hc, hs⟩
end StrChars.Road
end Jvm.Pilot.@@N@@
namespace Jvm.RoadKit
open Sem ClassFile Op Lib Jvm.Stand Jvm.Free Jvm.LawKit
section Own
variable {p : Program} {l : Launch} {e : Env} {R : Room} {s : State} {m : MethodId} {args : Array Value} {below : List Frame} {meth : Method} {c : Code} {T : State} {locs : List Loc} {cells slots : Nat}
theorem retI (X : Stand p l e R s m args below meth c T locs cells slots) (hx : p.tables.exec = Jvm.exec) {pc : Nat} {Ls : Array Slot} {z : Int32} {rest : List Value} (hret : meth.sig.returnType = some .int) (hd : decode c.code pc = .ok (.ireturn, 1)) {fs : List Frame}
    (hl : ∀ (f : JFrame) (acts : List Action), f.method = m → f.locked = none → f.entered = [] → (doReturn e (T.setTop f) acts (some (.int z))).1 = T.setFrames fs) : Steps p.tables e below (T.setTop (mkF m pc Ls (.int z :: rest))) (T.setFrames fs) :=
  retOut X hx hret rfl (Or.inl ⟨rfl, Or.inl rfl, _, rfl⟩) hd hl
theorem retJ (X : Stand p l e R s m args below meth c T locs cells slots) (hx : p.tables.exec = Jvm.exec) {pc : Nat} {Ls : Array Slot} {z : Int64} {rest : List Value} (hret : meth.sig.returnType = some .long) (hd : decode c.code pc = .ok (.lreturn, 1)) {fs : List Frame}
    (hl : ∀ (f : JFrame) (acts : List Action), f.method = m → f.locked = none → f.entered = [] → (doReturn e (T.setTop f) acts (some (.long z))).1 = T.setFrames fs) : Steps p.tables e below (T.setTop (mkF m pc Ls (.long z :: rest))) (T.setFrames fs) :=
  retOut X hx hret rfl (Or.inr (Or.inl ⟨rfl, rfl, _, rfl⟩)) hd hl
theorem retA (X : Stand p l e R s m args below meth c T locs cells slots) (hx : p.tables.exec = Jvm.exec) {pc : Nat} {Ls : Array Slot} {t : FieldType} {z : Value} {rest : List Value} (hret : meth.sig.returnType = some t) (hn : narrow t z = z) (ht : t.isReference = true) (hz : z.isRef = true) (hd : decode c.code pc = .ok (.areturn, 1)) {fs : List Frame}
    (hl : ∀ (f : JFrame) (acts : List Action), f.method = m → f.locked = none → f.entered = [] → (doReturn e (T.setTop f) acts (some z)).1 = T.setFrames fs) : Steps p.tables e below (T.setTop (mkF m pc Ls (z :: rest))) (T.setFrames fs) :=
  retOut X hx hret hn (Or.inr (Or.inr (Or.inr (Or.inr ⟨rfl, ht, hz⟩)))) hd hl
theorem retZ (X : Stand p l e R s m args below meth c T locs cells slots) (hx : p.tables.exec = Jvm.exec) {pc : Nat} {Ls : Array Slot} {z r : Int32} {t : FieldType} {rest : List Value} (hret : meth.sig.returnType = some t) (ht : t = .boolean ∨ t = .byte ∨ t = .char ∨ t = .short)
    (hd : decode c.code pc = .ok (.ireturn, 1)) (hn : nar t z = r) {fs : List Frame} (hl : ∀ (f : JFrame) (acts : List Action), f.method = m → f.locked = none → f.entered = [] → (doReturn e (T.setTop f) acts (some (.int r))).1 = T.setFrames fs) :
    Steps p.tables e below (T.setTop (mkF m pc Ls (.int z :: rest))) (T.setFrames fs) := retN X hx hret ht hd (by rw [hn]; exact hl)
theorem ownUp (X : Stand p l e R s m args below meth c T locs cells slots) {cells' slots' : Nat} (h1 : cells ≤ cells') (h2 : slots ≤ slots') : Stand p l e R s m args below meth c T locs cells' slots' :=
  ⟨X.admits, X.cas, X.clock, X.frames, X.room, X.hears, X.method, X.code, X.here, X.tail, X.warmed, X.limits, X.bytes, X.same.mono h1 h2⟩
theorem own_hide (X : Stand p l e R s m args below meth c T locs cells slots) {n0 : Nat} (N : Fr n0 locs) : ∃ L, Stand p l e R s m args below meth c T L cells slots ∧ Fr n0 L := ⟨_, X, N⟩
end Own
def Go (tb : Tables) (e : Env) (below : List Frame) (P : Outcome → State → Prop) (T : State) (f : JFrame) : Prop :=
  ∃ s₂ o, Steps tb e below (T.setTop f) s₂ ∧ s₂.status = .running ∧ Ended s₂ below o ∧ P o s₂
theorem Go.via {tb : Tables} {e : Env} {below : List Frame} {P : Outcome → State → Prop} {T T' : State} {f f' : JFrame} (st : ∀ t, Steps tb e below (T'.setTop f') t → Steps tb e below (T.setTop f) t) (k : Go tb e below P T' f') : Go tb e below P T f := by
  obtain ⟨s₂, o, h, r⟩ := k; exact ⟨s₂, o, st _ h, r⟩
theorem Go.hop {tb : Tables} {e : Env} {below : List Frame} {P : Outcome → State → Prop} {T T' : State} {f f' : JFrame} (st : Steps tb e below (T.setTop f) (T'.setTop f')) (k : Go tb e below P T' f') : Go tb e below P T f := by
  obtain ⟨s₂, o, h, r⟩ := k; exact ⟨s₂, o, st.trans h, r⟩
theorem own_nin0 {a : Addr} : a ∉ ([] : List Addr) := fun q => nomatch q
theorem own_ninC {a b : Addr} {l : List Addr} (h : a ≠ b) (h' : a ∉ l) : a ∉ b :: l := fun q => (List.mem_cons.mp q).elim h h'
theorem own_nb {x : Int32} (h : x = 0 ∨ x = 1) : nar .boolean x = x := by rcases h with rfl | rfl <;> rfl
theorem own_nnb {x : Int32} (h : x = 0 ∨ x = 1) : narrow .boolean (.int x) = .int x := by rcases h with rfl | rfl <;> rfl
theorem own_fb {x : Int32} (h : x = 0 ∨ x = 1) : fits .boolean (.int x) = true := by rcases h with rfl | rfl <;> rfl
theorem own_all0 {P : Addr → Prop} : ∀ x ∈ ([] : List Addr), P x := fun _ q => nomatch q
theorem own_allC {P : Addr → Prop} {a : Addr} {l : List Addr} (h : P a) (h' : ∀ x ∈ l, P x) : ∀ x ∈ a :: l, P x := fun x q => (List.mem_cons.mp q).elim (fun e => e ▸ h) (h' x)
theorem own_dc0 : FP.dconst0 = FP.l2d (0 : Int64) := by decide +kernel
theorem own_dc1 : FP.dconst1 = FP.l2d (1 : Int64) := by decide +kernel
theorem own_m0 {k : Int32} : ∀ p ∈ ([] : List (Int × Int)), p.1 ≠ k.toInt := fun _ q => nomatch q
theorem own_mC {k x : Int32} {a o : Int} {l : List (Int × Int)} (h : ¬ k = x) (hx : x.toInt = a) (t : ∀ p ∈ l, p.1 ≠ k.toInt) : ∀ p ∈ (a, o) :: l, p.1 ≠ k.toInt := fun p q => (List.mem_cons.mp q).elim (fun e r => h (Int32.toInt_inj.mp (by rw [hx, ← r, e]))) (t p)
theorem own_cat {v : Value} (h : v.isRef = true) : v.category = 1 := by rcases ref_cases h with rfl | ⟨a, rfl⟩ <;> rfl
theorem own_nat {n : Nat} (h : n < 2147483648) : n.toInt32.toInt = n := len_toInt h
theorem own_ltN {i n : Nat} (hi : i < 2147483648) (hn : n < 2147483648) : i.toInt32 < n.toInt32 ↔ i < n := by
  rw [Int32.lt_iff_toInt_lt, own_nat hi, own_nat hn]; omega
theorem own_succ (i : Nat) : i.toInt32 + 1 = (i + 1).toInt32 := (Int32.ofNat_add i 1).symm
theorem own_nneg {i : Nat} (hi : i < 2147483648) : ¬ i.toInt32 < 0 := by
  rw [Int32.lt_iff_toInt_lt, own_nat hi]; simp
theorem own_clamp {i : Nat} (hi : i < 2147483648) : i.toInt32.toNatClampNeg = i := by
  show i.toInt32.toInt.toNat = i
  rw [own_nat hi]; rfl
end Jvm.RoadKit
namespace Jvm.Pilot.@@N@@
open Jvm Jvm.ClassFile Sem Op Lib Jvm.Free Jvm.Stand Jvm.LawKit Jvm.RoadKit Bundle Jvm.Pilot.@@N@@.Jvm.D
theorem own_elr {t u : Term} {args : Array Value} {s : State} {j : Int32} {a b : Addr} {c : Cell} {ty : FieldType} (ev : t.eval args s none [] s = some (.ref a)) (A : Arr s s.heap a c ty) (h : (Jvm.Cond.eq (.elem t (.int j)) u).value args s none s [] = some true) (eu : u.eval args s none [] s = some (.ref b)) : c.slots[j.toNatClampNeg]? = some (.ref b) := by
  have e1 := Cond.eq_refs (Cond.before_iff.mpr h) eu rfl
  exact (elem_in e1 ev (Term.int_eval j) A.1).2
theorem own_ieq {t : Term} {args : Array Value} {s : State} {k : Int32} (h : (Jvm.Cond.eq t (.int k)).value args s none s [] = some true) : t.eval args s none [] s = some (.int k) := by
  obtain ⟨x, y, e1, e2, k1, k2⟩ := cmp_v (Or.inl h)
  cases (Term.int_eval k).symm.trans e2
  obtain ⟨z, rfl⟩ := k2
  have q := gotT (Cond.eq_ints e1 (Term.int_eval k)) h
  rw [e1, q]
theorem own_len {t : Term} {args : Array Value} {s : State} {k : Int32} {a : Addr} {c : Cell} {ty : FieldType} (ev : t.eval args s none [] s = some (.ref a)) (A : Arr s s.heap a c ty) (h : (Jvm.Cond.eq (.length t) (.int k)).value args s none s [] = some true) : c.slots.size < 2 ^ 31 ∧ c.slots.size.toInt32 = k := by
  have e1 := own_ieq h
  obtain ⟨x, c', e2, e3, e4, e5⟩ := Jvm.Free.SB.Term.length_small e1
  cases ev.symm.trans e2
  cases (IntBox.arrayAt_of A.1 A.2.1 A.2.2).symm.trans e3
  exact ⟨e5, (Value.int.inj e4).symm⟩
theorem own_el {t : Term} {args : Array Value} {s : State} {j k : Int32} {a : Addr} {c : Cell} {ty : FieldType} (ev : t.eval args s none [] s = some (.ref a)) (A : Arr s s.heap a c ty) (h : (Jvm.Cond.eq (.elem t (.int j)) (.int k)).value args s none s [] = some true) : c.slots[j.toNatClampNeg]? = some (.int k) := by
  have e1 := own_ieq h
  exact (elem_in e1 ev (Term.int_eval j) A.1).2
theorem own_ch (x : Int32) : ¬ nar .char ((x &&& (255 : Int32)).toUInt32.toUInt16.toUInt32.toInt32) < 0 ∧ ¬ (255 : Int32) < nar .char ((x &&& (255 : Int32)).toUInt32.toUInt16.toUInt32.toInt32) := by
  show ¬ ((x &&& (255 : Int32)).toUInt32.toUInt16.toUInt32.toInt32).toUInt32.toUInt16.toUInt32.toInt32 < 0 ∧ ¬ (255 : Int32) < ((x &&& (255 : Int32)).toUInt32.toUInt16.toUInt32.toInt32).toUInt32.toUInt16.toUInt32.toInt32
  rw [i2c_mask, i2c_mask, Int32.lt_iff_toInt_lt, Int32.lt_iff_toInt_lt]
  have := c_and x 255 (by decide)
  have e1 : (255 : Int32).toInt = 255 := rfl
  have e2 : (0 : Int32).toInt = 0 := rfl
  omega
theorem own_al0 {P : Int32 → Prop} : ∀ c ∈ ([] : List Int32), P c := fun _ q => nomatch q
theorem own_alC {P : Int32 → Prop} {a : Int32} {l : List Int32} (h : P a) (h' : ∀ x ∈ l, P x) : ∀ x ∈ a :: l, P x := fun x q => (List.mem_cons.mp q).elim (fun e => e ▸ h) (h' x)
theorem own_ws {a0 : Array Value} {Z : State} (hw : ∀ d ∈ tables_1, d.before a0 Z = true) : ∀ d ∈ StrChars.Road.words, d.before a0 Z = true := fun d hd => hw d ((by decide +kernel : ∀ d ∈ StrChars.Road.words, d ∈ tables_1) d hd)
theorem own_shr0 (x : Int32) : x >>> ((0 : Int32) &&& 31) = x := by
  rw [← Int32.toInt_inj, c_ishr x 0 0 (by decide)]; simp
theorem own_b2c (x : Int32) : nar .char ((x &&& (255 : Int32)).toUInt32.toUInt16.toUInt32.toInt32) = x &&& 255 := by
  show ((x &&& (255 : Int32)).toUInt32.toUInt16.toUInt32.toInt32).toUInt32.toUInt16.toUInt32.toInt32 = _
  rw [i2c_mask, i2c_mask]
theorem own_nc (x : Int32) : nar .char (x &&& (255 : Int32)) = x &&& 255 := by
  show (x &&& (255 : Int32)).toUInt32.toUInt16.toUInt32.toInt32 = _
  rw [i2c_mask]
theorem own_sa {a0 : Array Value} {Z : State} (hw : ∀ d ∈ tables_1, d.before a0 Z = true) : ∀ a ∈ Bundle.stringAtoms, a.before a0 Z = true := fun d hd => by
  simp only [Bundle.stringAtoms, List.mem_cons, List.not_mem_nil, or_false] at hd
  rcases hd with rfl | rfl | rfl | rfl | rfl | rfl | rfl
  · exact hw _ (List.mem_of_getElem? (i := 1) rfl)
  · exact hw _ (List.mem_of_getElem? (i := 2) rfl)
  · exact hw _ (List.mem_of_getElem? (i := 3) rfl)
  · exact hw _ (List.mem_of_getElem? (i := 4) rfl)
  · exact hw _ (List.mem_of_getElem? (i := 5) rfl)
  · exact hw _ (List.mem_of_getElem? (i := 6) rfl)
  · exact hw _ (List.mem_of_getElem? (i := 7) rfl)
theorem own_EW {a0 : Array Value} {Z : State} (hw : ∀ d ∈ tables_1, d.before a0 Z = true) : EW Z a0 consts_1 := (EW.cons (hw _ (List.mem_of_getElem? (i := 118) rfl)) (by decide) (EW.cons (hw _ (List.mem_of_getElem? (i := 0) rfl)) (by decide) (EW.cons (hw _ (List.mem_of_getElem? (i := 119) rfl)) (by decide) EW.nil)))
theorem own_rew {s t : State} {o : Outcome} {L : List Loc} {k n k' n' : Nat} (h : ReturnedEndW s o t L k n) (h1 : k ≤ k') (h2 : n ≤ n') : ReturnedEndW s o t L k' n' := ⟨h.1, h.2.1, h.2.2.1, h.2.2.2.mono h1 h2⟩
theorem own_safeS {Z : State} {EL : List (String × Nat)} {vm : Vm} {h : Heap} {x : Addr} (hal : Z.vm.Alike vm) (E : Exa Z h x "java/lang/String") (F : Fld Z h x "java/lang/String" "value" "[B" .null) : Safe Z EL vm h x := fun B => by
  obtain ⟨cell, k, e1, e2, e3, -, -⟩ := E
  obtain ⟨cell', cf, kf, i, f, f1, f2, -, -, -, -, f7⟩ := F
  cases e1.symm.trans f1
  obtain ⟨p, -, u, a, -, q, -, G, rfl | rfl⟩ := B
  · cases (show h[q.sa]? = some q.sC from G.ha).symm.trans e1
    obtain ⟨cS, ⟨⟨s1, s2, s3, ⟨cv, kv, iv, s4, s4'⟩, -, -, -, s8, -⟩, -⟩, -⟩ := G
    obtain ⟨kv', z4⟩ := ff_back (U := Wst Z vm h) hal s4
    cases f2.symm.trans z4
    cases f7.symm.trans s8
  · cases (show h[q.sd]? = some q.SA from G.hd).symm.trans e1
    obtain ⟨cS, -, -, hf, -⟩ := G
    have hf : vm.findClass "[B" = some q.SA.cls := hf
    rw [hal.findClass] at hf
    obtain ⟨k1, q1, q2⟩ := Vm.findClass_spec hf
    obtain ⟨k2, q3, q4⟩ := Vm.findClass_spec e2
    cases q1.symm.trans q3
    exact absurd (q2.symm.trans q4) (by decide)
def own_lg (bl : List Int32) : Int32 := bl.length.toInt32
theorem own_gD (l : List Int32) (i : Nat) : (l.map Value.int).getD i (.int (0 : Int32)) = .int (l.getD i 0) := by
  induction l generalizing i with
  | nil => rfl
  | cons a l ih => cases i with
    | zero => rfl
    | succ i => exact ih i
theorem own_lgj {x z : List Int32} (hx : x.length ≤ 1000) (hz : z.length ≤ 1000) (h : own_lg x = own_lg z) : x.length = z.length := by
  have q := congrArg Int32.toInt h
  unfold own_lg at q
  rw [own_nat (by omega), own_nat (by omega)] at q
  omega
theorem own_eqg {x z : List Int32} (hl : x.length = z.length) (h : ∀ j, j < x.length → x.getD j 0 = z.getD j 0) : x = z :=
  List.ext_getElem hl fun j h1 h2 => by
    have q := h j h1
    rwa [List.getD_eq_getElem?_getD, List.getD_eq_getElem?_getD, List.getElem?_eq_getElem h1, List.getElem?_eq_getElem h2] at q
theorem own_pre {x z : List Int32} {i : Nat} (h : ∀ j, j < i → x.getD j 0 = z.getD j 0) (h1 : x.getD i 0 = z.getD i 0) : ∀ j, j < i + 1 → x.getD j 0 = z.getD j 0 := fun j q => by
  by_cases e : j = i
  · subst e; exact h1
  · exact h j (by omega)
theorem own_i0 {p : Prop} [Decidable p] (h : (if p then (1 : Int32) else (0 : Int32)) = 0) : ¬ p := fun q => by rw [if_pos q] at h; exact absurd h (by decide)
theorem own_i1 {p : Prop} [Decidable p] (h : ¬ (if p then (1 : Int32) else (0 : Int32)) = 0) : p := Decidable.byContradiction fun q => h (if_neg q)
theorem own_sfun {Z : State} {h : Heap} {a b t u : Addr} {C f d : String} {kk kc : ClassId} {ty ty' : FieldType} {bx bz : List Int32} {dv dv' : Value} (F : Fld Z h a C f d (.ref t)) (G : Fld Z h b C f d (.ref u))
    (A : Arv Z h t kk ty (own_lg bx) (bx.map Value.int) dv) (B : Arv Z h u kc ty' (own_lg bz) (bz.map Value.int) dv') (hx : bx.length ≤ 1000) (hz : bz.length ≤ 1000) : a = b → bx = bz := fun e => by
  subst e
  obtain ⟨cell, cf, kf, i, g, f1, f2, -, -, -, -, f7⟩ := F
  obtain ⟨cell', cf', kf', i', g', g1, g2, -, -, -, -, g7⟩ := G
  cases f1.symm.trans g1
  cases f2.symm.trans g2
  cases Value.ref.inj (Option.some.inj (f7.symm.trans g7))
  obtain ⟨c, A1, -, S, -, H, -⟩ := A
  obtain ⟨c', B1, -, S', -, H', -⟩ := B
  cases A1.1.symm.trans B1.1
  unfold own_lg at S S'
  rw [own_clamp (by omega)] at S S'
  refine own_eqg (S.symm.trans S') fun j hj => ?_
  have q := (H j (by omega)).symm.trans (H' j (by omega))
  have q := Option.some.inj q
  rw [List.getD_eq_getElem?_getD, List.getD_eq_getElem?_getD, List.getElem?_map, List.getElem?_map, List.getElem?_eq_getElem hj, List.getElem?_eq_getElem (show j < bz.length by omega)] at q
  rw [List.getD_eq_getElem?_getD, List.getD_eq_getElem?_getD, List.getElem?_eq_getElem hj, List.getElem?_eq_getElem (show j < bz.length by omega)]
  exact Value.int.inj q
def own_by (c : Int32) : Prop := 0 ≤ c.toInt ∧ c.toInt ≤ 255
theorem own_byc (x : Int32) : own_by ((x &&& (255 : Int32)).toUInt32.toUInt16.toUInt32.toInt32) := by
  rw [i2c_mask]; exact c_and x 255 (by decide)
theorem own_nby {c : Int32} (h : own_by c) : nar .char c = c := by
  show c.toUInt32.toUInt16.toUInt32.toInt32 = c
  have q := c_i2c c
  obtain ⟨h1, h2⟩ := h
  rw [← Int32.toInt_inj]; omega
theorem own_hp {c : Int32} (h : own_by c) : ¬ nar .char c < 0 ∧ ¬ (255 : Int32) < nar .char c := by
  rw [own_nby h, Int32.lt_iff_toInt_lt, Int32.lt_iff_toInt_lt]
  obtain ⟨h1, h2⟩ := h
  have e1 : (255 : Int32).toInt = 255 := rfl
  have e2 : (0 : Int32).toInt = 0 := rfl
  omega
theorem own_byA (x : Int32) : own_by (nar .char (x &&& (255 : Int32))) := by rw [own_nc]; exact c_and x 255 (by decide)
theorem own_byL (w : Int64) : own_by (nar .char (((w &&& (255 : Int64)).toInt32).toUInt32.toUInt16.toUInt32.toInt32)) := by
  rw [Int64.toInt32_and, show (255 : Int64).toInt32 = (255 : Int32) from rfl, i2c_mask]; exact own_byA _
theorem own_by0 : own_by (0 : Int32) := by unfold own_by; decide
theorem own_pn0 : plainName "java/lang/String" = true := by first | (simp [plainName, overriddenIn]; done) | decide +kernel
theorem d11_0 : decode jdk_42_method_149_code 0 = .ok (.aload_n 0, 1) := by decide +kernel
theorem d11_1 : decode jdk_42_method_149_code 1 = .ok (.invokespecial 1, 3) := by decide +kernel
theorem d11_4 : decode jdk_42_method_149_code 4 = .ok (.iload_n 3, 1) := by decide +kernel
theorem d11_5 : decode jdk_42_method_149_code 5 = .ok (.ifCond .ne 22, 3) := by decide +kernel
theorem d11_8 : decode jdk_42_method_149_code 8 = .ok (.aload_n 0, 1) := by decide +kernel
theorem d11_9 : decode jdk_42_method_149_code 9 = .ok (.ldc 7, 2) := by decide +kernel
theorem d11_11 : decode jdk_42_method_149_code 11 = .ok (.getfield 9, 3) := by decide +kernel
theorem d11_14 : decode jdk_42_method_149_code 14 = .ok (.putfield 9, 3) := by decide +kernel
theorem d11_17 : decode jdk_42_method_149_code 17 = .ok (.aload_n 0, 1) := by decide +kernel
theorem d11_18 : decode jdk_42_method_149_code 18 = .ok (.ldc 7, 2) := by decide +kernel
theorem d11_20 : decode jdk_42_method_149_code 20 = .ok (.getfield 15, 3) := by decide +kernel
theorem d11_23 : decode jdk_42_method_149_code 23 = .ok (.putfield 15, 3) := by decide +kernel
theorem d11_26 : decode jdk_42_method_149_code 26 = .ok (.return_, 1) := by decide +kernel
theorem ef_11 (m : MethodId) (x0 : Addr) (x1 : Addr) : entryFrame m #[(.ref x0), (.ref x1), (.int (0 : Int32)), (.int (0 : Int32)), .null] 6 = mkF m 0 #[.val (.ref x0), .val (.ref x1), .val (.int (0 : Int32)), .val (.int (0 : Int32)), .val .null, .unset] [] := by first | (simp [entryFrame, mkF, argsToLocals, Value.category]; done) | rfl
def Q11 (Z : State) (oa : Addr) (ob : Addr) (h0 : Heap) (n0 : Nat) (v : Option Value) (h : Heap) (L : List Loc) : Prop := ∃ (tb : Addr) (kk : ClassId), v = none ∧ Fr n0 L ∧ Keep h0 h [oa] ∧ Exa Z h oa "java/lang/String" ∧ Fld Z h oa "java/lang/String" "value" "[B" (.ref tb) ∧ Fld Z h oa "java/lang/String" "coder" "B" (.int (0 : Int32)) ∧ Arv Z h tb kk .byte (0 : Int32) [] (.int (0 : Int32)) ∧ (tb < h.size) ∧ (oa ≠ tb)
set_option maxRecDepth 65536 in
set_option maxHeartbeats 40000000 in
theorem rm11 (l : Launch) (Z : State) (a0 : Array Value) (hw : ∀ d ∈ tables_1, d.before a0 Z = true) (ws : List Jvm.Cond) (oa : Addr) (ob : Addr) (h0 : Heap) (n0 : Nat) (Z0 : n0 ≤ h0.size) (P0 : Exa Z h0 oa "java/lang/String") (P1 : Fld Z h0 oa "java/lang/String" "value" "[B" .null) (P2 : Fld Z h0 oa "java/lang/String" "coder" "B" (.int (0 : Int32))) (ga : n0 ≤ oa) :
    MetFree l (⟨"java/lang/String", "<init>", "([CIILjava/lang/Void;)V"⟩ : MethodName) (head1 (Jvm.Cond.code (⟨"java/lang/String", "<init>", "([CIILjava/lang/Void;)V"⟩ : MethodName) jdk_42_method_149_code 6 none :: ws) ({ frames := 1, cells := 4, slots := 8, locals := 12 } : Room)) (fun a U => a = #[(.ref oa), (.ref ob), (.int (0 : Int32)), (.int (0 : Int32)), .null] ∧ Z.Warmed39 U.vm ∧ U.heap = h0 ∧ CHv Z consts_1 U.vm h0) (fun _ _ _ _ _ => True) (fun _ U o U' => ∃ v L, o = .returned v ∧ Q11 Z oa ob h0 n0 v U'.heap L ∧ CHr Z consts_1 U.vm U.heap U'.vm U'.heap ∧ ReturnedEndW U o U' L ({ frames := 1, cells := 4, slots := 8, locals := 12 } : Room).cells ({ frames := 1, cells := 4, slots := 8, locals := 12 } : Room).slots) := by
  refine MetFree.of_bodySF (plainFor_of_name own_pn0) hisR ?_
  intro p e s m args below meth c s₁ Bd hml0 hP hK
  obtain ⟨rfl, hZ, hh, hCH0⟩ := hP
  have hx := Bd.exec
  have hby := Bd.bytes
  have hml : c.maxLocals = 6 := hml0
  have hown : s.vm.findClass "java/lang/String" = some m.cls := findClass_of_methodNamed Bd.named
  have hnm := (name_of_methodNamed Bd.named Bd.method).1
  have X0 : Stand p l e ({ frames := 1, cells := 4, slots := 8, locals := 12 } : Room) s m #[(.ref oa), (.ref ob), (.int (0 : Int32)), (.int (0 : Int32)), .null] below meth c s₁ [] 0 0 := Stand.of_body Bd
  have X0 : Stand p l e ({ frames := 1, cells := 4, slots := 8, locals := 12 } : Room) (s.setVm s.vm) m #[(.ref oa), (.ref ob), (.int (0 : Int32)), (.int (0 : Int32)), .null] below meth c s₁ [] 0 0 := X0
  have hZ : Z.Warmed39 (s.setVm s.vm).vm := hZ
  have hown : (s.setVm s.vm).vm.findClass "java/lang/String" = some m.cls := hown
  have hS0 : s.Since s.vm 0 := State.WarmedH.since (State.WarmedH.refl s) 0
  have CR0 : CHr Z consts_1 s.vm h0 s.vm h0 := CHr.refl hCH0
  have e0 : s₁.heap = h0 := by rw [← hh, Bd.state]; rfl
  have N0 := Fr.nil n0
  have K0 : Keep h0 h0 [oa] := Keep.refl _ _
  suffices GO : ∀ P : Outcome → State → Prop, (∀ o U', (∃ v L, o = .returned v ∧ Q11 Z oa ob h0 n0 v U'.heap L ∧ CHr Z consts_1 s.vm s.heap U'.vm U'.heap ∧ ReturnedEndW s o U' L ({ frames := 1, cells := 4, slots := 8, locals := 12 } : Room).cells ({ frames := 1, cells := 4, slots := 8, locals := 12 } : Room).slots) → P o U') → Go p.tables e below P s₁ (mkF m 0 #[.val (.ref oa), .val (.ref ob), .val (.int (0 : Int32)), .val (.int (0 : Int32)), .val .null, .unset] []) by
    obtain ⟨s2, o, st, r⟩ := GO _ (fun _ _ q => q)
    exact ⟨s2, o, castTop (ef_11 m oa ob) st, r⟩
  intro P hP
  show Go p.tables e below P s₁ (mkF m 0 #[.val (.ref oa), .val (.ref ob), .val (.int (0 : Int32)), .val (.int (0 : Int32)), .val .null, .unset] [])
  refine Go.via (fun t k => XS.aloadN X0.here hx rfl (hb hby d11_0) rfl rfl k) ?_
  show Go p.tables e below P s₁ (mkF m 1 #[.val (.ref oa), .val (.ref ob), .val (.int (0 : Int32)), .val (.int (0 : Int32)), .val .null, .unset] [(.ref oa)])
  obtain ⟨T1, X1, e1, st1⟩ := initO X0 hx hZ hown (hw _ (List.mem_of_getElem? (i := 60) rfl)) (hw _ (List.mem_of_getElem? (i := 61) rfl)) (hw _ (List.mem_of_getElem? (i := 62) rfl)) e0 (g := (mkF m 1 #[.val (.ref oa), .val (.ref ob), .val (.int (0 : Int32)), .val (.int (0 : Int32)), .val .null, .unset] [(.ref oa)])) rfl (by rw [hml]; rfl) rfl (hb hby d11_1) (by decide) (W := 0) (by show 2 * 0 + _ ≤ _; exact Nat.le_of_eq rfl) (by decide)
  refine Go.via st1 ?_
  show Go p.tables e below P T1 (mkF m 4 #[.val (.ref oa), .val (.ref ob), .val (.int (0 : Int32)), .val (.int (0 : Int32)), .val .null, .unset] [])
  refine Go.via (fun t k => XS.iloadN X1.here hx rfl (hb hby d11_4) rfl k) ?_
  show Go p.tables e below P T1 (mkF m 5 #[.val (.ref oa), .val (.ref ob), .val (.int (0 : Int32)), .val (.int (0 : Int32)), .val .null, .unset] [(.int (0 : Int32))])
  refine Go.via (fun t k => XS.ifNo X1.here hx rfl (hb hby d11_5) rfl ((if0 _ _).trans (teq (rfl : (0 : Int32) = (0 : Int32))).2) k) ?_
  show Go p.tables e below P T1 (mkF m 8 #[.val (.ref oa), .val (.ref ob), .val (.int (0 : Int32)), .val (.int (0 : Int32)), .val .null, .unset] [])
  refine Go.via (fun t k => XS.aloadN X1.here hx rfl (hb hby d11_8) rfl rfl k) ?_
  show Go p.tables e below P T1 (mkF m 9 #[.val (.ref oa), .val (.ref ob), .val (.int (0 : Int32)), .val (.int (0 : Int32)), .val .null, .unset] [(.ref oa)])
  obtain ⟨a2, T2, h2, kn2, b2, kb2, X2, e2, E2, hS2, hk2, hZ, hown, Ex2, Fc2, Fv2, Va2, lta2, ltb2, hC2, -, ne2, st2⟩ := ldcCH X1 hx hZ hown (hw _ (List.mem_of_getElem? (i := 119) rfl)) (own_sa hw) e1 hS0 (Nat.zero_le _) (own_EW hw) (by decide : (("java/lang/String", 7) : String × Nat) ∈ consts_1) CR0.1 (vs := []) (z := (0 : Int32)) ⟨by decide, rfl⟩ (by decide) rfl (g := (mkF m 9 #[.val (.ref oa), .val (.ref ob), .val (.int (0 : Int32)), .val (.int (0 : Int32)), .val .null, .unset] [(.ref oa)])) rfl (hb hby d11_9) (n := 0) (by decide) (by decide) (by decide) (by decide)
  refine Go.via st2 ?_
  have CR3 := CHr.trans CR0 hC2
  have Z4 : n0 ≤ h2.size := Nat.le_trans Z0 E2.1
  have K5 : Keep h0 h2 [oa] := K0.ext E2
  have Vb2 : Arv Z h2 b2 kb2 .byte (own_lg ([] : List Int32)) (([] : List Int32).map Value.int) (.int (0 : Int32)) := by
    rw [show own_lg ([] : List Int32) = (0 : Int32) from rfl]; exact Va2
  have F6 : Exa Z h2 oa "java/lang/String" := (P0.ext E2)
  have F7 : Fld Z h2 oa "java/lang/String" "value" "[B" .null := (P1.ext E2)
  have nq8 := (ne2 _ (own_safeS hZ.alike F6 F7)).1
  have nq9 := (ne2 _ (own_safeS hZ.alike F6 F7)).2
  show Go p.tables e below P T2 (mkF m 11 #[.val (.ref oa), .val (.ref ob), .val (.int (0 : Int32)), .val (.int (0 : Int32)), .val .null, .unset] [(.ref a2), (.ref oa)])
  obtain ⟨T10, X10, e10, st10⟩ := getF X2 hx hZ hown (host := "") (Or.inl (hw _ (List.mem_of_getElem? (i := 17) rfl))) Via.refl e2 Fv2 (g := (mkF m 11 #[.val (.ref oa), .val (.ref ob), .val (.int (0 : Int32)), .val (.int (0 : Int32)), .val .null, .unset] [(.ref a2), (.ref oa)])) rfl rfl (hb hby d11_11)
  refine Go.via st10 ?_
  show Go p.tables e below P T10 (mkF m 14 #[.val (.ref oa), .val (.ref ob), .val (.int (0 : Int32)), .val (.int (0 : Int32)), .val .null, .unset] [(.ref b2), (.ref oa)])
  have F11 : Fld Z h2 oa "java/lang/String" "coder" "B" (.int (0 : Int32)) := (P2.ext E2)
  obtain ⟨T12, h12, X12, e12, W12, st12⟩ := putF X10 hx hZ hown (host := "") (Or.inl (hw _ (List.mem_of_getElem? (i := 17) rfl))) Via.refl e10 F7 F6 (Or.inr ⟨(hw _ (List.mem_of_getElem? (i := 4) rfl)), rfl, hnm⟩) (hw _ (List.mem_of_getElem? (i := 2) rfl)) (ty := (.array .byte)) (by decide) rfl rfl (g := (mkF m 14 #[.val (.ref oa), .val (.ref ob), .val (.int (0 : Int32)), .val (.int (0 : Int32)), .val .null, .unset] [(.ref b2), (.ref oa)])) rfl rfl (hb hby d11_14)
  refine Go.via st12 ?_
  have Z13 : n0 ≤ h12.size := Nat.le_trans Z4 (Nat.le_of_eq W12.size.symm)
  have K14 : Keep h0 h12 [oa] := K5.wr W12 (Or.inl (List.mem_of_getElem? (i := 0) rfl))
  obtain ⟨lc12, Xh12, N15⟩ := own_hide X12 (Fr.snoc X12 N0 ga)
  clear X12
  have Sf12 := Safe.wr W12 (own_safeS hZ.alike F6 F7) CR3.1 (own_safeS hZ.alike F6 F7)
  have CR16 := CHr.trans CR3 (CHr.wr W12 (own_safeS hZ.alike F6 F7) CR3.1)
  have hk17 := Nat.le_trans hk2 (Nat.le_of_eq W12.size.symm)
  have Fw12 := F7.same W12
  show Go p.tables e below P T12 (mkF m 17 #[.val (.ref oa), .val (.ref ob), .val (.int (0 : Int32)), .val (.int (0 : Int32)), .val .null, .unset] [])
  refine Go.via (fun t k => XS.aloadN Xh12.here hx rfl (hb hby d11_17) rfl rfl k) ?_
  show Go p.tables e below P T12 (mkF m 18 #[.val (.ref oa), .val (.ref ob), .val (.int (0 : Int32)), .val (.int (0 : Int32)), .val .null, .unset] [(.ref oa)])
  have F18 : Exa Z h12 oa "java/lang/String" := (F6.wr W12)
  have F19 : Fld Z h12 oa "java/lang/String" "coder" "B" (.int (0 : Int32)) := (F11.other W12 (Or.inr (slot_ne (Or.inr (hw _ (List.mem_of_getElem? (i := 5) rfl))) (Or.inr (hw _ (List.mem_of_getElem? (i := 4) rfl))) (by decide) (t := .byte) (t' := (.array .byte)) (by decide) (by decide))))
  have F20 : Exa Z h12 a2 "java/lang/String" := (Ex2.wr W12)
  have F21 : Fld Z h12 a2 "java/lang/String" "coder" "B" (.int (0 : Int32)) := (Fc2.other W12 (Or.inl (Ne.symm nq8)))
  have F22 : Fld Z h12 a2 "java/lang/String" "value" "[B" (.ref b2) := (Fv2.other W12 (Or.inl (Ne.symm nq8)))
  have F23 : Arv Z h12 b2 kb2 .byte (own_lg ([] : List Int32)) (([] : List Int32).map Value.int) (.int (0 : Int32)) := (Vb2.other W12 (Ne.symm nq9))
  obtain ⟨a24, T24, h24, kn24, b24, kb24, X24, e24, E24, hS24, hk24, hZ, hown, Ex24, Fc24, Fv24, Va24, lta24, ltb24, hC24, -, ne24, st24⟩ := ldcCH Xh12 hx hZ hown (hw _ (List.mem_of_getElem? (i := 119) rfl)) (own_sa hw) e12 hS2 hk17 (own_EW hw) (by decide : (("java/lang/String", 7) : String × Nat) ∈ consts_1) CR16.1 (vs := []) (z := (0 : Int32)) ⟨by decide, rfl⟩ (by decide) rfl (g := (mkF m 18 #[.val (.ref oa), .val (.ref ob), .val (.int (0 : Int32)), .val (.int (0 : Int32)), .val .null, .unset] [(.ref oa)])) rfl (hb hby d11_18) (n := 0) (by decide) (by decide) (by decide) (by decide)
  refine Go.via st24 ?_
  have Sf25 := CHr.safe hC24 F18.lt Sf12
  have CR26 := CHr.trans CR16 hC24
  have Z27 : n0 ≤ h24.size := Nat.le_trans Z13 E24.1
  have K28 : Keep h0 h24 [oa] := K14.ext E24
  have Vb24 : Arv Z h24 b24 kb24 .byte (own_lg ([] : List Int32)) (([] : List Int32).map Value.int) (.int (0 : Int32)) := by
    rw [show own_lg ([] : List Int32) = (0 : Int32) from rfl]; exact Va24
  have nq29 := (ne24 _ Sf25).1
  have nq30 := (ne24 _ Sf25).2
  show Go p.tables e below P T24 (mkF m 20 #[.val (.ref oa), .val (.ref ob), .val (.int (0 : Int32)), .val (.int (0 : Int32)), .val .null, .unset] [(.ref a24), (.ref oa)])
  obtain ⟨T31, X31, e31, st31⟩ := getF X24 hx hZ hown (host := "") (Or.inl (hw _ (List.mem_of_getElem? (i := 24) rfl))) Via.refl e24 Fc24 (g := (mkF m 20 #[.val (.ref oa), .val (.ref ob), .val (.int (0 : Int32)), .val (.int (0 : Int32)), .val .null, .unset] [(.ref a24), (.ref oa)])) rfl rfl (hb hby d11_20)
  refine Go.via st31 ?_
  show Go p.tables e below P T31 (mkF m 23 #[.val (.ref oa), .val (.ref ob), .val (.int (0 : Int32)), .val (.int (0 : Int32)), .val .null, .unset] [(.int (0 : Int32)), (.ref oa)])
  have F32 : Exa Z h24 oa "java/lang/String" := (F18.ext E24)
  have F33 : Fld Z h24 oa "java/lang/String" "coder" "B" (.int (0 : Int32)) := (F19.ext E24)
  have F34 : Fld Z h24 oa "java/lang/String" "value" "[B" (.ref b2) := (Fw12.ext E24)
  have F35 : Exa Z h24 a2 "java/lang/String" := (F20.ext E24)
  have F36 : Fld Z h24 a2 "java/lang/String" "coder" "B" (.int (0 : Int32)) := (F21.ext E24)
  have F37 : Fld Z h24 a2 "java/lang/String" "value" "[B" (.ref b2) := (F22.ext E24)
  have F38 : Arv Z h24 b2 kb2 .byte (own_lg ([] : List Int32)) (([] : List Int32).map Value.int) (.int (0 : Int32)) := (F23.ext E24)
  obtain ⟨T39, h39, X39, e39, W39, st39⟩ := putF X31 hx hZ hown (host := "") (Or.inl (hw _ (List.mem_of_getElem? (i := 24) rfl))) Via.refl e31 F33 F32 (Or.inr ⟨(hw _ (List.mem_of_getElem? (i := 5) rfl)), rfl, hnm⟩) (hw _ (List.mem_of_getElem? (i := 2) rfl)) (ty := .byte) (by decide) rfl rfl (g := (mkF m 23 #[.val (.ref oa), .val (.ref ob), .val (.int (0 : Int32)), .val (.int (0 : Int32)), .val .null, .unset] [(.int (0 : Int32)), (.ref oa)])) rfl rfl (hb hby d11_23)
  refine Go.via st39 ?_
  have Z40 : n0 ≤ h39.size := Nat.le_trans Z27 (Nat.le_of_eq W39.size.symm)
  have K41 : Keep h0 h39 [oa] := K28.wr W39 (Or.inl (List.mem_of_getElem? (i := 0) rfl))
  obtain ⟨lc39, Xh39, N42⟩ := own_hide X39 (Fr.snoc X39 N15 ga)
  clear X39
  have Sf39 := Safe.wr W39 Sf25 CR26.1 Sf25
  have CR43 := CHr.trans CR26 (CHr.wr W39 Sf25 CR26.1)
  have hk44 := Nat.le_trans hk24 (Nat.le_of_eq W39.size.symm)
  have Fw39 := F33.same W39
  show Go p.tables e below P T39 (mkF m 26 #[.val (.ref oa), .val (.ref ob), .val (.int (0 : Int32)), .val (.int (0 : Int32)), .val .null, .unset] [])
  have F46 : Arv Z h39 b2 kb2 .byte (own_lg ([] : List Int32)) (([] : List Int32).map Value.int) (.int (0 : Int32)) := (F38.other W39 (Ne.symm nq9))
  obtain ⟨fs, hr, hrun, hended, hend⟩ := Xh39.leaveW hS24 (by rw [e39]; exact hk44) (v := none) (fun _ => rfl)
  have F47 : Exa Z h39 oa "java/lang/String" := (F32.wr W39)
  have F48 : Fld Z h39 oa "java/lang/String" "value" "[B" (.ref b2) := (F34.other W39 (Or.inr (slot_ne (Or.inr (hw _ (List.mem_of_getElem? (i := 4) rfl))) (Or.inr (hw _ (List.mem_of_getElem? (i := 5) rfl))) (by decide) (t := (.array .byte)) (t' := .byte) (by decide) (by decide))))
  have hCf : CHr Z consts_1 s.vm s.heap (T39.setFrames fs).vm (T39.setFrames fs).heap := by
    rw [hh]
    show CHr Z consts_1 s.vm h0 T39.vm T39.heap
    rw [e39]
    exact CHr.trans CR43 (CHv.at Xh39 hZ (own_EW hw) CR43.1)
  refine ⟨_, _, Xh39.returnOut hx Bd.returns (hb hby d11_26) hr, hrun, hended, hP _ _ ⟨_, _, rfl, ?_, hCf, own_rew hend (by decide) (by decide)⟩⟩
  show Q11 Z oa ob h0 n0 _ T39.heap _
  rw [e39]
  exact ⟨b2, kb2, rfl, N42, K41, F47, F48, Fw39, F46, (F46.lt), nq9⟩
theorem own_pd0 : parseMethodDescriptor "([CIILjava/lang/Void;)V" = some ⟨[(.array .char), .int, .int, (.object "java/lang/Void")], none⟩ := by decide +kernel
theorem d10_0 : decode jdk_42_method_3_code 0 = .ok (.aload_n 0, 1) := by decide +kernel
theorem d10_1 : decode jdk_42_method_3_code 1 = .ok (.aload_n 1, 1) := by decide +kernel
theorem d10_2 : decode jdk_42_method_3_code 2 = .ok (.iconst 0, 1) := by decide +kernel
theorem d10_3 : decode jdk_42_method_3_code 3 = .ok (.aload_n 1, 1) := by decide +kernel
theorem d10_4 : decode jdk_42_method_3_code 4 = .ok (.arraylength, 1) := by decide +kernel
theorem d10_5 : decode jdk_42_method_3_code 5 = .ok (.aconst_null, 1) := by decide +kernel
theorem d10_6 : decode jdk_42_method_3_code 6 = .ok (.invokespecial 27, 3) := by decide +kernel
theorem d10_9 : decode jdk_42_method_3_code 9 = .ok (.return_, 1) := by decide +kernel
theorem ef_10 (m : MethodId) (x0 : Addr) (x1 : Addr) : entryFrame m #[(.ref x0), (.ref x1)] 2 = mkF m 0 #[.val (.ref x0), .val (.ref x1)] [] := by first | (simp [entryFrame, mkF, argsToLocals, Value.category]; done) | rfl
def Q10 (Z : State) (oa : Addr) (ob : Addr) (kc : ClassId) (vs : List Value) (dv : Value) (h0 : Heap) (n0 : Nat) (v : Option Value) (h : Heap) (L : List Loc) : Prop := ∃ (tb : Addr) (kk : ClassId), v = none ∧ Fr n0 L ∧ Keep h0 h [oa] ∧ Exa Z h oa "java/lang/String" ∧ Fld Z h oa "java/lang/String" "value" "[B" (.ref tb) ∧ Fld Z h oa "java/lang/String" "coder" "B" (.int (0 : Int32)) ∧ Arv Z h tb kk .byte (0 : Int32) [] (.int (0 : Int32)) ∧ (tb < h.size) ∧ (oa ≠ tb)
set_option maxRecDepth 65536 in
set_option maxHeartbeats 40000000 in
theorem rm10 (l : Launch) (Z : State) (a0 : Array Value) (hw : ∀ d ∈ tables_1, d.before a0 Z = true) (ws : List Jvm.Cond) (oa : Addr) (ob : Addr) (kc : ClassId) (vs : List Value) (dv : Value) (h0 : Heap) (n0 : Nat) (Z0 : n0 ≤ h0.size) (P0 : Exa Z h0 oa "java/lang/String") (P1 : Fld Z h0 oa "java/lang/String" "value" "[B" .null) (P2 : Fld Z h0 oa "java/lang/String" "coder" "B" (.int (0 : Int32))) (ga : n0 ≤ oa) (P4 : Arv Z h0 ob kc .char (0 : Int32) vs dv) :
    MetFree l (⟨"java/lang/String", "<init>", "([C)V"⟩ : MethodName) (head1 (Jvm.Cond.code (⟨"java/lang/String", "<init>", "([C)V"⟩ : MethodName) jdk_42_method_3_code 2 none :: ws) ({ frames := 2, cells := 4, slots := 8, locals := 29 } : Room)) (fun a U => a = #[(.ref oa), (.ref ob)] ∧ Z.Warmed39 U.vm ∧ U.heap = h0 ∧ CHv Z consts_1 U.vm h0) (fun _ _ _ _ _ => True) (fun _ U o U' => ∃ v L, o = .returned v ∧ Q10 Z oa ob kc vs dv h0 n0 v U'.heap L ∧ CHr Z consts_1 U.vm U.heap U'.vm U'.heap ∧ ReturnedEndW U o U' L ({ frames := 2, cells := 4, slots := 8, locals := 29 } : Room).cells ({ frames := 2, cells := 4, slots := 8, locals := 29 } : Room).slots) := by
  refine MetFree.of_bodySF (plainFor_of_name own_pn0) hisR ?_
  intro p e s m args below meth c s₁ Bd hml0 hP hK
  obtain ⟨rfl, hZ, hh, hCH0⟩ := hP
  have hx := Bd.exec
  have hby := Bd.bytes
  have hml : c.maxLocals = 2 := hml0
  have hown : s.vm.findClass "java/lang/String" = some m.cls := findClass_of_methodNamed Bd.named
  have hnm := (name_of_methodNamed Bd.named Bd.method).1
  have X0 : Stand p l e ({ frames := 2, cells := 4, slots := 8, locals := 29 } : Room) s m #[(.ref oa), (.ref ob)] below meth c s₁ [] 0 0 := Stand.of_body Bd
  have X0 : Stand p l e ({ frames := 2, cells := 4, slots := 8, locals := 29 } : Room) (s.setVm s.vm) m #[(.ref oa), (.ref ob)] below meth c s₁ [] 0 0 := X0
  have hZ : Z.Warmed39 (s.setVm s.vm).vm := hZ
  have hown : (s.setVm s.vm).vm.findClass "java/lang/String" = some m.cls := hown
  have hS0 : s.Since s.vm 0 := State.WarmedH.since (State.WarmedH.refl s) 0
  have CR0 : CHr Z consts_1 s.vm h0 s.vm h0 := CHr.refl hCH0
  have e0 : s₁.heap = h0 := by rw [← hh, Bd.state]; rfl
  have N0 := Fr.nil n0
  have K0 : Keep h0 h0 [oa] := Keep.refl _ _
  suffices GO : ∀ P : Outcome → State → Prop, (∀ o U', (∃ v L, o = .returned v ∧ Q10 Z oa ob kc vs dv h0 n0 v U'.heap L ∧ CHr Z consts_1 s.vm s.heap U'.vm U'.heap ∧ ReturnedEndW s o U' L ({ frames := 2, cells := 4, slots := 8, locals := 29 } : Room).cells ({ frames := 2, cells := 4, slots := 8, locals := 29 } : Room).slots) → P o U') → Go p.tables e below P s₁ (mkF m 0 #[.val (.ref oa), .val (.ref ob)] []) by
    obtain ⟨s2, o, st, r⟩ := GO _ (fun _ _ q => q)
    exact ⟨s2, o, castTop (ef_10 m oa ob) st, r⟩
  intro P hP
  show Go p.tables e below P s₁ (mkF m 0 #[.val (.ref oa), .val (.ref ob)] [])
  refine Go.via (fun t k => XS.aloadN X0.here hx rfl (hb hby d10_0) rfl rfl k) ?_
  show Go p.tables e below P s₁ (mkF m 1 #[.val (.ref oa), .val (.ref ob)] [(.ref oa)])
  refine Go.via (fun t k => XS.aloadN X0.here hx rfl (hb hby d10_1) rfl rfl k) ?_
  show Go p.tables e below P s₁ (mkF m 2 #[.val (.ref oa), .val (.ref ob)] [(.ref ob), (.ref oa)])
  refine Go.via (fun t k => XS.iconst X0.here hx rfl (hb hby d10_2) k) ?_
  show Go p.tables e below P s₁ (mkF m 3 #[.val (.ref oa), .val (.ref ob)] [(.int (0 : Int32)), (.ref ob), (.ref oa)])
  refine Go.via (fun t k => XS.aloadN X0.here hx rfl (hb hby d10_3) rfl rfl k) ?_
  show Go p.tables e below P s₁ (mkF m 4 #[.val (.ref oa), .val (.ref ob)] [(.ref ob), (.int (0 : Int32)), (.ref ob), (.ref oa)])
  obtain ⟨c1, A1, -, S1, N1, -, -⟩ := id P4
  refine Go.via (fun t k => X0.arraylength hx (by rw [e0]; exact A1.1) (State.isArrayOf_alike hZ.alike A1.2.1) (g := (mkF m 4 #[.val (.ref oa), .val (.ref ob)] [(.ref ob), (.int (0 : Int32)), (.ref ob), (.ref oa)])) rfl rfl (hb hby d10_4) t (by rw [len_of S1 N1]; exact k)) ?_
  show Go p.tables e below P s₁ (mkF m 5 #[.val (.ref oa), .val (.ref ob)] [(.int (0 : Int32)), (.int (0 : Int32)), (.ref ob), (.ref oa)])
  refine Go.via (fun t k => XS.aconstNull X0.here hx rfl (hb hby d10_5) k) ?_
  show Go p.tables e below P s₁ (mkF m 6 #[.val (.ref oa), .val (.ref ob)] [.null, (.int (0 : Int32)), (.int (0 : Int32)), (.ref ob), (.ref oa)])
  obtain ⟨_, _, ⟨T2, L2, k2, n2⟩, -, X2, hSn2, hgn2, ⟨Lc2, hQ2, l2, y2, z2, hC2⟩, st2⟩ := X0.specialBackS hx (y := (⟨"java/lang/String", "<init>", "([CIILjava/lang/Void;)V"⟩ : MethodName)) rfl hown (mvT hZ (hw _ (List.mem_of_getElem? (i := 56) rfl))) (mvT hZ (hw _ (List.mem_of_getElem? (i := 57) rfl))) (mvT hZ (hw _ (List.mem_of_getElem? (i := 59) rfl))) (by decide) (backOfSH (W := 0) (rm11 l Z a0 hw [] oa ob h0 n0 Z0 P0 P1 P2 ga) hZ (hw _ (List.mem_of_getElem? (i := 59) rfl)) (hw _ (List.mem_of_getElem? (i := 1) rfl)) (by decide) (by decide) (own_EW hw) CR0.1) (g := (mkF m 6 #[.val (.ref oa), .val (.ref ob)] [.null, (.int (0 : Int32)), (.int (0 : Int32)), (.ref ob), (.ref oa)])) rfl (by rw [hml]; rfl) (Steps.refl _) (a := oa) (argsL := [(.ref ob), (.int (0 : Int32)), (.int (0 : Int32)), .null]) (rest := []) (lenOf own_pd0 rfl) rfl (by show 2 * 0 + _ ≤ _; exact Nat.le_of_eq rfl) (hb hby d10_6) (fun _ _ => ⟨rfl, e0, (by decide : 0 + 4 ≤ _), (by decide : 0 + 8 ≤ _)⟩)
  dsimp only [Pt.U, Pt.locs, Pt.cells, Pt.slots] at X2 l2 y2 z2 st2 hQ2 hSn2 hgn2 hC2
  subst l2 y2 z2
  have hS2 : s.Since T2.vm T2.heap.size := foldS hS0 (by rw [e0]; exact (Nat.zero_le _)) hSn2 hgn2
  have X2 : Stand p l e ({ frames := 2, cells := 4, slots := 8, locals := 29 } : Room) (s.setVm T2.vm) m #[(.ref oa), (.ref ob)] below meth c T2 _ _ _ := X2
  have hown : (s.setVm T2.vm).vm.findClass "java/lang/String" = some m.cls := by rw [show (s.setVm T2.vm).vm = T2.vm from rfl, hSn2.1.alike.findClass]; exact hown
  have hZ : Z.Warmed39 (s.setVm T2.vm).vm := State.Warmed39.trans (t := s.setVm s.vm) hZ hSn2.1
  obtain ⟨tb_2, kk_2, rfl, Nq2, K2, u2_0, u2_1, u2_2, u2_3, u2_4, u2_5⟩ := hQ2
  obtain ⟨lc2, Xh2, N2⟩ := own_hide X2 (Fr.app N0 Nq2)
  clear X2
  refine Go.hop st2 ?_
  have CR3 := CHr.trans CR0 hC2
  have Z4 : n0 ≤ T2.heap.size := Nat.le_trans Z0 K2.1
  have K5 : Keep h0 T2.heap [oa] := K0.trans K2 (own_allC (Or.inl (List.mem_of_getElem? (i := 0) rfl)) own_all0)
  have hk6 : T2.heap.size ≤ T2.heap.size := Nat.le_refl _
  show Go p.tables e below P T2 (mkF m 9 #[.val (.ref oa), .val (.ref ob)] [])
  obtain ⟨fs, hr, hrun, hended, hend⟩ := Xh2.leaveW hS2 (by exact hk6) (v := none) (fun _ => rfl)
  have hCf : CHr Z consts_1 s.vm s.heap (T2.setFrames fs).vm (T2.setFrames fs).heap := by
    rw [hh]
    show CHr Z consts_1 s.vm h0 T2.vm T2.heap
    exact CHr.trans CR3 (CHv.at Xh2 hZ (own_EW hw) CR3.1)
  refine ⟨_, _, Xh2.returnOut hx Bd.returns (hb hby d10_9) hr, hrun, hended, hP _ _ ⟨_, _, rfl, ?_, hCf, own_rew hend (by decide) (by decide)⟩⟩
  show Q10 Z oa ob kc vs dv h0 n0 _ T2.heap _
  exact ⟨tb_2, kk_2, rfl, N2, K5, u2_0, u2_1, u2_2, u2_3, (u2_3.lt), u2_5⟩
theorem d3_0 : decode jdk_42_method_152_code 0 = .ok (.getstatic 38, 3) := by decide +kernel
theorem d3_3 : decode jdk_42_method_152_code 3 = .ok (.ifCond .eq 10, 3) := by decide +kernel
theorem d3_6 : decode jdk_42_method_152_code 6 = .ok (.aload_n 0, 1) := by decide +kernel
theorem d3_7 : decode jdk_42_method_152_code 7 = .ok (.getfield 15, 3) := by decide +kernel
theorem d3_10 : decode jdk_42_method_152_code 10 = .ok (.goto 4, 3) := by decide +kernel
theorem d3_14 : decode jdk_42_method_152_code 14 = .ok (.ireturn, 1) := by decide +kernel
theorem ef_3 (m : MethodId) (x0 : Addr) : entryFrame m #[(.ref x0)] 1 = mkF m 0 #[.val (.ref x0)] [] := by first | (simp [entryFrame, mkF, argsToLocals, Value.category]; done) | rfl
def Q3 (Z : State) (so : Addr) (cs : Int32) (h0 : Heap) (n0 : Nat) (v : Option Value) (h : Heap) (L : List Loc) : Prop := v = some (.int (0 : Int32)) ∧ Fr n0 L ∧ h = h0
set_option maxRecDepth 65536 in
set_option maxHeartbeats 40000000 in
theorem rm3 (l : Launch) (Z : State) (a0 : Array Value) (hw : ∀ d ∈ tables_1, d.before a0 Z = true) (ws : List Jvm.Cond) (so : Addr) (cs : Int32) (h0 : Heap) (n0 : Nat) (Z0 : n0 ≤ h0.size) (O0 : Old Z n0 h0) (P1 : Sta Z Z.heap "java/lang/String" "COMPACT_STRINGS" "Z" (.int cs)) (hcs : ¬ cs = (0 : Int32)) (P3 : Fld Z h0 so "java/lang/String" "coder" "B" (.int (0 : Int32))) :
    MetFree l (⟨"java/lang/String", "coder", "()B"⟩ : MethodName) (head1 (Jvm.Cond.code (⟨"java/lang/String", "coder", "()B"⟩ : MethodName) jdk_42_method_152_code 1 (some .byte) :: ws) ({ frames := 0, cells := 0, slots := 0, locals := 0 } : Room)) (fun a U => a = #[(.ref so)] ∧ Z.Warmed39 U.vm ∧ U.heap = h0) (fun _ _ _ _ _ => True) (fun _ U o U' => ∃ v L, o = .returned v ∧ Q3 Z so cs h0 n0 v U'.heap L ∧ FrameEnd U o U' L ({ frames := 0, cells := 0, slots := 0, locals := 0 } : Room).cells ({ frames := 0, cells := 0, slots := 0, locals := 0 } : Room).slots) := by
  refine MetFree.of_bodySF (plainFor_of_name own_pn0) hisR ?_
  intro p e s m args below meth c s₁ Bd hml0 hP hK
  obtain ⟨rfl, hZ, hh⟩ := hP
  have hx := Bd.exec
  have hby := Bd.bytes
  have hml : c.maxLocals = 1 := hml0
  have hown : s.vm.findClass "java/lang/String" = some m.cls := findClass_of_methodNamed Bd.named
  have hnm := (name_of_methodNamed Bd.named Bd.method).1
  have X0 : Stand p l e ({ frames := 0, cells := 0, slots := 0, locals := 0 } : Room) s m #[(.ref so)] below meth c s₁ [] 0 0 := Stand.of_body Bd
  have e0 : s₁.heap = h0 := by rw [← hh, Bd.state]; rfl
  have N0 := Fr.nil n0
  have K0 : Keep h0 h0 [] := Keep.refl _ _
  suffices GO : ∀ P : Outcome → State → Prop, (∀ o U', (∃ v L, o = .returned v ∧ Q3 Z so cs h0 n0 v U'.heap L ∧ FrameEnd s o U' L ({ frames := 0, cells := 0, slots := 0, locals := 0 } : Room).cells ({ frames := 0, cells := 0, slots := 0, locals := 0 } : Room).slots) → P o U') → Go p.tables e below P s₁ (mkF m 0 #[.val (.ref so)] []) by
    obtain ⟨s2, o, st, r⟩ := GO _ (fun _ _ q => q)
    exact ⟨s2, o, castTop (ef_3 m so) st, r⟩
  clear hh
  intro P hP
  show Go p.tables e below P s₁ (mkF m 0 #[.val (.ref so)] [])
  obtain ⟨T1, X1, e1, st1⟩ := getS2 X0 hx hZ hown (host := "") (Or.inl (hw _ (List.mem_of_getElem? (i := 23) rfl))) Via.refl e0 (P1.ext O0.2) (g := (mkF m 0 #[.val (.ref so)] [])) rfl (hb hby d3_0)
  refine Go.via st1 ?_
  show Go p.tables e below P T1 (mkF m 3 #[.val (.ref so)] [(.int cs)])
  refine Go.via (fun t k => XS.ifNo X1.here hx rfl (hb hby d3_3) rfl ((if0 _ _).trans (feq hcs).1) k) ?_
  show Go p.tables e below P T1 (mkF m 6 #[.val (.ref so)] [])
  refine Go.via (fun t k => XS.aloadN X1.here hx rfl (hb hby d3_6) rfl rfl k) ?_
  show Go p.tables e below P T1 (mkF m 7 #[.val (.ref so)] [(.ref so)])
  obtain ⟨T2, X2, e2, st2⟩ := getF X1 hx hZ hown (host := "") (Or.inl (hw _ (List.mem_of_getElem? (i := 24) rfl))) Via.refl e1 P3 (g := (mkF m 7 #[.val (.ref so)] [(.ref so)])) rfl rfl (hb hby d3_7)
  refine Go.via st2 ?_
  show Go p.tables e below P T2 (mkF m 10 #[.val (.ref so)] [(.int (0 : Int32))])
  refine Go.via (fun t k => XS.goto X2.here hx rfl (pc0 := 10) (pc' := 14) rfl (hb hby d3_10) (by decide) (by decide) k) ?_
  show Go p.tables e below P T2 (mkF m 14 #[.val (.ref so)] [(.int (0 : Int32))])
  obtain ⟨fs, hr, hrun, hended, hW, hsame⟩ := X2.leave (v := some (.int (0 : Int32))) (fun h => by rw [Bd.returns] at h; cases h)
  refine ⟨_, _, retZ X2 hx (t := .byte) Bd.returns (by simp) (hb hby d3_14) rfl hr, hrun, hended, hP _ _ ⟨_, _, rfl, ?_, ⟨_, rfl⟩, hW, hsame.mono (by decide) (by decide)⟩⟩
  show Q3 Z so cs h0 n0 _ T2.heap _
  rw [e2]
  exact ⟨rfl, N0, rfl⟩
theorem own_pd1 : parseMethodDescriptor "()B" = some ⟨[], some .byte⟩ := by decide +kernel
theorem d2_0 : decode jdk_42_method_54_code 0 = .ok (.aload_n 0, 1) := by decide +kernel
theorem d2_1 : decode jdk_42_method_54_code 1 = .ok (.getfield 9, 3) := by decide +kernel
theorem d2_4 : decode jdk_42_method_54_code 4 = .ok (.arraylength, 1) := by decide +kernel
theorem d2_5 : decode jdk_42_method_54_code 5 = .ok (.aload_n 0, 1) := by decide +kernel
theorem d2_6 : decode jdk_42_method_54_code 6 = .ok (.invokevirtual 335, 3) := by decide +kernel
theorem d2_9 : decode jdk_42_method_54_code 9 = .ok (.ishr, 1) := by decide +kernel
theorem d2_10 : decode jdk_42_method_54_code 10 = .ok (.ireturn, 1) := by decide +kernel
theorem ef_2 (m : MethodId) (x0 : Addr) : entryFrame m #[(.ref x0)] 1 = mkF m 0 #[.val (.ref x0)] [] := by first | (simp [entryFrame, mkF, argsToLocals, Value.category]; done) | rfl
def Q2 (Z : State) (so : Addr) (cs : Int32) (tb : Addr) (kk : ClassId) (nn : Int32) (vs : List Value) (h0 : Heap) (n0 : Nat) (v : Option Value) (h : Heap) (L : List Loc) : Prop := v = some (.int nn) ∧ Fr n0 L ∧ h = h0
set_option maxRecDepth 65536 in
set_option maxHeartbeats 40000000 in
theorem rm2 (l : Launch) (Z : State) (a0 : Array Value) (hw : ∀ d ∈ tables_1, d.before a0 Z = true) (ws : List Jvm.Cond) (so : Addr) (cs : Int32) (tb : Addr) (kk : ClassId) (nn : Int32) (vs : List Value) (h0 : Heap) (n0 : Nat) (Z0 : n0 ≤ h0.size) (O0 : Old Z n0 h0) (P1 : Sta Z Z.heap "java/lang/String" "COMPACT_STRINGS" "Z" (.int cs)) (hcs : ¬ cs = (0 : Int32)) (P3 : Exa Z h0 so "java/lang/String") (P4 : Fld Z h0 so "java/lang/String" "value" "[B" (.ref tb)) (P5 : Fld Z h0 so "java/lang/String" "coder" "B" (.int (0 : Int32))) (P6 : Arv Z h0 tb kk .byte nn vs (.int (0 : Int32))) :
    MetFree l (⟨"java/lang/String", "length", "()I"⟩ : MethodName) (head1 (Jvm.Cond.code (⟨"java/lang/String", "length", "()I"⟩ : MethodName) jdk_42_method_54_code 1 (some .int) :: ws) ({ frames := 1, cells := 0, slots := 0, locals := 13 } : Room)) (fun a U => a = #[(.ref so)] ∧ Z.Warmed39 U.vm ∧ U.heap = h0) (fun _ _ _ _ _ => True) (fun _ U o U' => ∃ v L, o = .returned v ∧ Q2 Z so cs tb kk nn vs h0 n0 v U'.heap L ∧ FrameEnd U o U' L ({ frames := 1, cells := 0, slots := 0, locals := 13 } : Room).cells ({ frames := 1, cells := 0, slots := 0, locals := 13 } : Room).slots) := by
  refine MetFree.of_bodySF (plainFor_of_name own_pn0) hisR ?_
  intro p e s m args below meth c s₁ Bd hml0 hP hK
  obtain ⟨rfl, hZ, hh⟩ := hP
  have hx := Bd.exec
  have hby := Bd.bytes
  have hml : c.maxLocals = 1 := hml0
  have hown : s.vm.findClass "java/lang/String" = some m.cls := findClass_of_methodNamed Bd.named
  have hnm := (name_of_methodNamed Bd.named Bd.method).1
  have X0 : Stand p l e ({ frames := 1, cells := 0, slots := 0, locals := 13 } : Room) s m #[(.ref so)] below meth c s₁ [] 0 0 := Stand.of_body Bd
  have e0 : s₁.heap = h0 := by rw [← hh, Bd.state]; rfl
  have N0 := Fr.nil n0
  have K0 : Keep h0 h0 [] := Keep.refl _ _
  suffices GO : ∀ P : Outcome → State → Prop, (∀ o U', (∃ v L, o = .returned v ∧ Q2 Z so cs tb kk nn vs h0 n0 v U'.heap L ∧ FrameEnd s o U' L ({ frames := 1, cells := 0, slots := 0, locals := 13 } : Room).cells ({ frames := 1, cells := 0, slots := 0, locals := 13 } : Room).slots) → P o U') → Go p.tables e below P s₁ (mkF m 0 #[.val (.ref so)] []) by
    obtain ⟨s2, o, st, r⟩ := GO _ (fun _ _ q => q)
    exact ⟨s2, o, castTop (ef_2 m so) st, r⟩
  clear hh
  intro P hP
  show Go p.tables e below P s₁ (mkF m 0 #[.val (.ref so)] [])
  refine Go.via (fun t k => XS.aloadN X0.here hx rfl (hb hby d2_0) rfl rfl k) ?_
  show Go p.tables e below P s₁ (mkF m 1 #[.val (.ref so)] [(.ref so)])
  obtain ⟨T1, X1, e1, st1⟩ := getF X0 hx hZ hown (host := "") (Or.inl (hw _ (List.mem_of_getElem? (i := 17) rfl))) Via.refl e0 P4 (g := (mkF m 1 #[.val (.ref so)] [(.ref so)])) rfl rfl (hb hby d2_1)
  refine Go.via st1 ?_
  show Go p.tables e below P T1 (mkF m 4 #[.val (.ref so)] [(.ref tb)])
  obtain ⟨c2, A2, -, S2, N2, -, -⟩ := id P6
  refine Go.via (fun t k => X1.arraylength hx (by rw [e1]; exact A2.1) (State.isArrayOf_alike hZ.alike A2.2.1) (g := (mkF m 4 #[.val (.ref so)] [(.ref tb)])) rfl rfl (hb hby d2_4) t (by rw [len_of S2 N2]; exact k)) ?_
  show Go p.tables e below P T1 (mkF m 5 #[.val (.ref so)] [(.int nn)])
  refine Go.via (fun t k => XS.aloadN X1.here hx rfl (hb hby d2_5) rfl rfl k) ?_
  show Go p.tables e below P T1 (mkF m 6 #[.val (.ref so)] [(.ref so), (.int nn)])
  obtain ⟨cq3, kq3, q3a, q3b, q3c⟩ := isOf hZ e1 P3
  obtain ⟨_, _, ⟨T3, L3, k3, n3⟩, -, X3, ⟨Lc3, hQ3, l3, y3, z3⟩, st3⟩ := X1.virtualBack hx (y := (⟨"java/lang/String", "coder", "()B"⟩ : MethodName)) (z := (⟨"java/lang/String", "coder", "()B"⟩ : MethodName)) hown (mvT hZ (hw _ (List.mem_of_getElem? (i := 18) rfl))) (mvT hZ (hw _ (List.mem_of_getElem? (i := 19) rfl))) (notFace_of_selects (args := #[]) (mvT hZ (hw _ (List.mem_of_getElem? (i := 21) rfl)))) (mvT hZ (hw _ (List.mem_of_getElem? (i := 21) rfl))) (mvT hZ (hw _ (List.mem_of_getElem? (i := 20) rfl))) (by decide) (backOf (W := 1) (rm3 l Z a0 hw [] so cs h0 n0 Z0 O0 P1 (by first | assumption | decide | omega : ¬ cs = (0 : Int32)) P5) hZ (hw _ (List.mem_of_getElem? (i := 22) rfl)) (hw _ (List.mem_of_getElem? (i := 1) rfl)) (by decide) (by decide)) q3a q3c (g := (mkF m 6 #[.val (.ref so)] [(.ref so), (.int nn)])) rfl (by rw [hml]; rfl) (Steps.refl _) (argsL := []) (rest := [(.int nn)]) (lenOf own_pd1 rfl) rfl (by show 2 * 0 + _ ≤ _; exact Nat.le_of_eq rfl) (hb hby d2_6) (fun _ _ => ⟨rfl, e1, (by decide : 0 + 0 ≤ _), (by decide : 0 + 0 ≤ _)⟩)
  dsimp only [Pt.U, Pt.locs, Pt.cells, Pt.slots] at X3 l3 y3 z3 st3 hQ3
  subst l3 y3 z3
  obtain ⟨rfl, Nq3, hh3⟩ := hQ3
  obtain ⟨lc3, Xh3, N3⟩ := own_hide X3 (Fr.app N0 Nq3)
  clear X3
  refine Go.hop st3 ?_
  show Go p.tables e below P T3 (mkF m 9 #[.val (.ref so)] [(.int (0 : Int32)), (.int nn)])
  refine Go.via (fun t k => XS.ishr Xh3.here hx rfl (hb hby d2_9) rfl k) ?_
  show Go p.tables e below P T3 (mkF m 10 #[.val (.ref so)] [(.int (nn >>> ((0 : Int32) &&& 31)))])
  obtain ⟨fs, hr, hrun, hended, hW, hsame⟩ := Xh3.leave (v := some (.int nn)) (fun h => by rw [Bd.returns] at h; cases h)
  refine ⟨_, _, (by have q := retI Xh3 hx Bd.returns (hb hby d2_10) (z := (nn >>> ((0 : Int32) &&& 31))) (rest := []) (pc := 10) (Ls := #[.val (.ref so)]) (by rw [(own_shr0 nn)]; exact hr); exact q), hrun, hended, hP _ _ ⟨_, _, rfl, ?_, ⟨_, rfl⟩, hW, hsame.mono (by decide) (by decide)⟩⟩
  show Q2 Z so cs tb kk nn vs h0 n0 _ T3.heap _
  rw [hh3]
  exact ⟨rfl, N3, rfl⟩
theorem d5_0 : decode jdk_42_method_154_code 0 = .ok (.getstatic 38, 3) := by decide +kernel
theorem d5_3 : decode jdk_42_method_154_code 3 = .ok (.ifCond .eq 14, 3) := by decide +kernel
theorem d5_6 : decode jdk_42_method_154_code 6 = .ok (.aload_n 0, 1) := by decide +kernel
theorem d5_7 : decode jdk_42_method_154_code 7 = .ok (.getfield 15, 3) := by decide +kernel
theorem d5_10 : decode jdk_42_method_154_code 10 = .ok (.ifCond .ne 7, 3) := by decide +kernel
theorem d5_13 : decode jdk_42_method_154_code 13 = .ok (.iconst 1, 1) := by decide +kernel
theorem d5_14 : decode jdk_42_method_154_code 14 = .ok (.goto 4, 3) := by decide +kernel
theorem d5_18 : decode jdk_42_method_154_code 18 = .ok (.ireturn, 1) := by decide +kernel
theorem ef_5 (m : MethodId) (x0 : Addr) : entryFrame m #[(.ref x0)] 1 = mkF m 0 #[.val (.ref x0)] [] := by first | (simp [entryFrame, mkF, argsToLocals, Value.category]; done) | rfl
def Q5 (Z : State) (so : Addr) (cs : Int32) (h0 : Heap) (n0 : Nat) (v : Option Value) (h : Heap) (L : List Loc) : Prop := v = some (.int (1 : Int32)) ∧ Fr n0 L ∧ h = h0
set_option maxRecDepth 65536 in
set_option maxHeartbeats 40000000 in
theorem rm5 (l : Launch) (Z : State) (a0 : Array Value) (hw : ∀ d ∈ tables_1, d.before a0 Z = true) (ws : List Jvm.Cond) (so : Addr) (cs : Int32) (h0 : Heap) (n0 : Nat) (Z0 : n0 ≤ h0.size) (O0 : Old Z n0 h0) (P1 : Sta Z Z.heap "java/lang/String" "COMPACT_STRINGS" "Z" (.int cs)) (hcs : ¬ cs = (0 : Int32)) (P3 : Fld Z h0 so "java/lang/String" "coder" "B" (.int (0 : Int32))) :
    MetFree l (⟨"java/lang/String", "isLatin1", "()Z"⟩ : MethodName) (head1 (Jvm.Cond.code (⟨"java/lang/String", "isLatin1", "()Z"⟩ : MethodName) jdk_42_method_154_code 1 (some .boolean) :: ws) ({ frames := 0, cells := 0, slots := 0, locals := 0 } : Room)) (fun a U => a = #[(.ref so)] ∧ Z.Warmed39 U.vm ∧ U.heap = h0) (fun _ _ _ _ _ => True) (fun _ U o U' => ∃ v L, o = .returned v ∧ Q5 Z so cs h0 n0 v U'.heap L ∧ FrameEnd U o U' L ({ frames := 0, cells := 0, slots := 0, locals := 0 } : Room).cells ({ frames := 0, cells := 0, slots := 0, locals := 0 } : Room).slots) := by
  refine MetFree.of_bodySF (plainFor_of_name own_pn0) hisR ?_
  intro p e s m args below meth c s₁ Bd hml0 hP hK
  obtain ⟨rfl, hZ, hh⟩ := hP
  have hx := Bd.exec
  have hby := Bd.bytes
  have hml : c.maxLocals = 1 := hml0
  have hown : s.vm.findClass "java/lang/String" = some m.cls := findClass_of_methodNamed Bd.named
  have hnm := (name_of_methodNamed Bd.named Bd.method).1
  have X0 : Stand p l e ({ frames := 0, cells := 0, slots := 0, locals := 0 } : Room) s m #[(.ref so)] below meth c s₁ [] 0 0 := Stand.of_body Bd
  have e0 : s₁.heap = h0 := by rw [← hh, Bd.state]; rfl
  have N0 := Fr.nil n0
  have K0 : Keep h0 h0 [] := Keep.refl _ _
  suffices GO : ∀ P : Outcome → State → Prop, (∀ o U', (∃ v L, o = .returned v ∧ Q5 Z so cs h0 n0 v U'.heap L ∧ FrameEnd s o U' L ({ frames := 0, cells := 0, slots := 0, locals := 0 } : Room).cells ({ frames := 0, cells := 0, slots := 0, locals := 0 } : Room).slots) → P o U') → Go p.tables e below P s₁ (mkF m 0 #[.val (.ref so)] []) by
    obtain ⟨s2, o, st, r⟩ := GO _ (fun _ _ q => q)
    exact ⟨s2, o, castTop (ef_5 m so) st, r⟩
  clear hh
  intro P hP
  show Go p.tables e below P s₁ (mkF m 0 #[.val (.ref so)] [])
  obtain ⟨T1, X1, e1, st1⟩ := getS2 X0 hx hZ hown (host := "") (Or.inl (hw _ (List.mem_of_getElem? (i := 23) rfl))) Via.refl e0 (P1.ext O0.2) (g := (mkF m 0 #[.val (.ref so)] [])) rfl (hb hby d5_0)
  refine Go.via st1 ?_
  show Go p.tables e below P T1 (mkF m 3 #[.val (.ref so)] [(.int cs)])
  refine Go.via (fun t k => XS.ifNo X1.here hx rfl (hb hby d5_3) rfl ((if0 _ _).trans (feq hcs).1) k) ?_
  show Go p.tables e below P T1 (mkF m 6 #[.val (.ref so)] [])
  refine Go.via (fun t k => XS.aloadN X1.here hx rfl (hb hby d5_6) rfl rfl k) ?_
  show Go p.tables e below P T1 (mkF m 7 #[.val (.ref so)] [(.ref so)])
  obtain ⟨T2, X2, e2, st2⟩ := getF X1 hx hZ hown (host := "") (Or.inl (hw _ (List.mem_of_getElem? (i := 24) rfl))) Via.refl e1 P3 (g := (mkF m 7 #[.val (.ref so)] [(.ref so)])) rfl rfl (hb hby d5_7)
  refine Go.via st2 ?_
  show Go p.tables e below P T2 (mkF m 10 #[.val (.ref so)] [(.int (0 : Int32))])
  refine Go.via (fun t k => XS.ifNo X2.here hx rfl (hb hby d5_10) rfl ((if0 _ _).trans (teq (rfl : (0 : Int32) = (0 : Int32))).2) k) ?_
  show Go p.tables e below P T2 (mkF m 13 #[.val (.ref so)] [])
  refine Go.via (fun t k => XS.iconst X2.here hx rfl (hb hby d5_13) k) ?_
  show Go p.tables e below P T2 (mkF m 14 #[.val (.ref so)] [(.int (1 : Int32))])
  refine Go.via (fun t k => XS.goto X2.here hx rfl (pc0 := 14) (pc' := 18) rfl (hb hby d5_14) (by decide) (by decide) k) ?_
  show Go p.tables e below P T2 (mkF m 18 #[.val (.ref so)] [(.int (1 : Int32))])
  obtain ⟨fs, hr, hrun, hended, hW, hsame⟩ := X2.leave (v := some (.int (1 : Int32))) (fun h => by rw [Bd.returns] at h; cases h)
  refine ⟨_, _, retZ X2 hx (t := .boolean) Bd.returns (by simp) (hb hby d5_18) rfl hr, hrun, hended, hP _ _ ⟨_, _, rfl, ?_, ⟨_, rfl⟩, hW, hsame.mono (by decide) (by decide)⟩⟩
  show Q5 Z so cs h0 n0 _ T2.heap _
  rw [e2]
  exact ⟨rfl, N0, rfl⟩
theorem own_pn1 : plainName "jdk/internal/util/Preconditions" = true := by first | (simp [plainName, overriddenIn]; done) | decide +kernel
theorem d8_0 : decode jdk_41_method_11_code 0 = .ok (.iload_n 0, 1) := by decide +kernel
theorem d8_1 : decode jdk_41_method_11_code 1 = .ok (.ifCond .lt 8, 3) := by decide +kernel
theorem d8_4 : decode jdk_41_method_11_code 4 = .ok (.iload_n 0, 1) := by decide +kernel
theorem d8_5 : decode jdk_41_method_11_code 5 = .ok (.iload_n 1, 1) := by decide +kernel
theorem d8_6 : decode jdk_41_method_11_code 6 = .ok (.if_icmp .lt 10, 3) := by decide +kernel
theorem d8_16 : decode jdk_41_method_11_code 16 = .ok (.iload_n 0, 1) := by decide +kernel
theorem d8_17 : decode jdk_41_method_11_code 17 = .ok (.ireturn, 1) := by decide +kernel
theorem ef_8 (m : MethodId) (x0 : Int32) (x1 : Int32) (x2 : Value) (hx2 : x2.isRef = true) : entryFrame m #[(.int x0), (.int x1), x2] 3 = mkF m 0 #[.val (.int x0), .val (.int x1), .val x2] [] := by rcases ref_cases hx2 with rfl | ⟨zx2, rfl⟩ <;> first | (simp [entryFrame, mkF, argsToLocals, Value.category]; done) | rfl
def Q8 (Z : State) (ji : Int32) (nn : Int32) (fm : Value) (h0 : Heap) (n0 : Nat) (v : Option Value) (h : Heap) (L : List Loc) : Prop := v = some (.int ji) ∧ Fr n0 L ∧ h = h0
set_option maxRecDepth 65536 in
set_option maxHeartbeats 40000000 in
theorem rm8 (l : Launch) (Z : State) (a0 : Array Value) (hw : ∀ d ∈ tables_1, d.before a0 Z = true) (ws : List Jvm.Cond) (ji : Int32) (nn : Int32) (fm : Value) (h0 : Heap) (n0 : Nat) (Z0 : n0 ≤ h0.size) (rfm : fm.isRef = true) (hj0 : ¬ (ji < (0 : Int32))) (hjn : ji < nn) :
    MetFree l (⟨"jdk/internal/util/Preconditions", "checkIndex", "(IILjava/util/function/BiFunction;)I"⟩ : MethodName) (head1 (Jvm.Cond.code (⟨"jdk/internal/util/Preconditions", "checkIndex", "(IILjava/util/function/BiFunction;)I"⟩ : MethodName) jdk_41_method_11_code 3 (some .int) :: ws) ({ frames := 0, cells := 0, slots := 0, locals := 0 } : Room)) (fun a U => a = #[(.int ji), (.int nn), fm] ∧ Z.Warmed39 U.vm ∧ U.heap = h0) (fun _ _ _ _ _ => True) (fun _ U o U' => ∃ v L, o = .returned v ∧ Q8 Z ji nn fm h0 n0 v U'.heap L ∧ FrameEnd U o U' L ({ frames := 0, cells := 0, slots := 0, locals := 0 } : Room).cells ({ frames := 0, cells := 0, slots := 0, locals := 0 } : Room).slots) := by
  refine MetFree.of_bodySF (plainFor_of_name own_pn1) hisR ?_
  intro p e s m args below meth c s₁ Bd hml0 hP hK
  obtain ⟨rfl, hZ, hh⟩ := hP
  have hx := Bd.exec
  have hby := Bd.bytes
  have hml : c.maxLocals = 3 := hml0
  have hown : s.vm.findClass "jdk/internal/util/Preconditions" = some m.cls := findClass_of_methodNamed Bd.named
  have hnm := (name_of_methodNamed Bd.named Bd.method).1
  have X0 : Stand p l e ({ frames := 0, cells := 0, slots := 0, locals := 0 } : Room) s m #[(.int ji), (.int nn), fm] below meth c s₁ [] 0 0 := Stand.of_body Bd
  have e0 : s₁.heap = h0 := by rw [← hh, Bd.state]; rfl
  have N0 := Fr.nil n0
  have K0 : Keep h0 h0 [] := Keep.refl _ _
  suffices GO : ∀ P : Outcome → State → Prop, (∀ o U', (∃ v L, o = .returned v ∧ Q8 Z ji nn fm h0 n0 v U'.heap L ∧ FrameEnd s o U' L ({ frames := 0, cells := 0, slots := 0, locals := 0 } : Room).cells ({ frames := 0, cells := 0, slots := 0, locals := 0 } : Room).slots) → P o U') → Go p.tables e below P s₁ (mkF m 0 #[.val (.int ji), .val (.int nn), .val fm] []) by
    obtain ⟨s2, o, st, r⟩ := GO _ (fun _ _ q => q)
    exact ⟨s2, o, castTop (ef_8 m ji nn fm rfm) st, r⟩
  clear hh
  intro P hP
  show Go p.tables e below P s₁ (mkF m 0 #[.val (.int ji), .val (.int nn), .val fm] [])
  refine Go.via (fun t k => XS.iloadN X0.here hx rfl (hb hby d8_0) rfl k) ?_
  show Go p.tables e below P s₁ (mkF m 1 #[.val (.int ji), .val (.int nn), .val fm] [(.int ji)])
  refine Go.via (fun t k => XS.ifNo X0.here hx rfl (hb hby d8_1) rfl ((if0 _ _).trans (flt hj0).1) k) ?_
  show Go p.tables e below P s₁ (mkF m 4 #[.val (.int ji), .val (.int nn), .val fm] [])
  refine Go.via (fun t k => XS.iloadN X0.here hx rfl (hb hby d8_4) rfl k) ?_
  show Go p.tables e below P s₁ (mkF m 5 #[.val (.int ji), .val (.int nn), .val fm] [(.int ji)])
  refine Go.via (fun t k => XS.iloadN X0.here hx rfl (hb hby d8_5) rfl k) ?_
  show Go p.tables e below P s₁ (mkF m 6 #[.val (.int ji), .val (.int nn), .val fm] [(.int nn), (.int ji)])
  refine Go.via (fun t k => XS.icmpYes X0.here hx rfl (pc0 := 6) (pc' := 16) rfl (hb hby d8_6) rfl (tlt hjn).1 (by decide) (by decide) k) ?_
  show Go p.tables e below P s₁ (mkF m 16 #[.val (.int ji), .val (.int nn), .val fm] [])
  refine Go.via (fun t k => XS.iloadN X0.here hx rfl (hb hby d8_16) rfl k) ?_
  show Go p.tables e below P s₁ (mkF m 17 #[.val (.int ji), .val (.int nn), .val fm] [(.int ji)])
  obtain ⟨fs, hr, hrun, hended, hW, hsame⟩ := X0.leave (v := some (.int ji)) (fun h => by rw [Bd.returns] at h; cases h)
  refine ⟨_, _, retI X0 hx Bd.returns (hb hby d8_17) hr, hrun, hended, hP _ _ ⟨_, _, rfl, ?_, ⟨_, rfl⟩, hW, hsame.mono (by decide) (by decide)⟩⟩
  show Q8 Z ji nn fm h0 n0 _ s₁.heap _
  rw [e0]
  exact ⟨rfl, N0, rfl⟩
theorem own_pd2 : parseMethodDescriptor "(IILjava/util/function/BiFunction;)I" = some ⟨[.int, .int, (.object "java/util/function/BiFunction")], some .int⟩ := by decide +kernel
theorem d7_0 : decode jdk_42_method_155_code 0 = .ok (.iload_n 0, 1) := by decide +kernel
theorem d7_1 : decode jdk_42_method_155_code 1 = .ok (.iload_n 1, 1) := by decide +kernel
theorem d7_2 : decode jdk_42_method_155_code 2 = .ok (.getstatic 1053, 3) := by decide +kernel
theorem d7_5 : decode jdk_42_method_155_code 5 = .ok (.invokestatic 1059, 3) := by decide +kernel
theorem d7_8 : decode jdk_42_method_155_code 8 = .ok (.pop, 1) := by decide +kernel
theorem d7_9 : decode jdk_42_method_155_code 9 = .ok (.return_, 1) := by decide +kernel
theorem ef_7 (m : MethodId) (x0 : Int32) (x1 : Int32) : entryFrame m #[(.int x0), (.int x1)] 2 = mkF m 0 #[.val (.int x0), .val (.int x1)] [] := by first | (simp [entryFrame, mkF, argsToLocals, Value.category]; done) | rfl
def Q7 (Z : State) (ji : Int32) (nn : Int32) (fm : Value) (h0 : Heap) (n0 : Nat) (v : Option Value) (h : Heap) (L : List Loc) : Prop := v = none ∧ Fr n0 L ∧ h = h0
set_option maxRecDepth 65536 in
set_option maxHeartbeats 40000000 in
theorem rm7 (l : Launch) (Z : State) (a0 : Array Value) (hw : ∀ d ∈ tables_1, d.before a0 Z = true) (ws : List Jvm.Cond) (ji : Int32) (nn : Int32) (fm : Value) (h0 : Heap) (n0 : Nat) (Z0 : n0 ≤ h0.size) (O0 : Old Z n0 h0) (P1 : Sta Z Z.heap "jdk/internal/util/Preconditions" "SIOOBE_FORMATTER" "Ljava/util/function/BiFunction;" fm) (rfm : fm.isRef = true) (hj0 : ¬ (ji < (0 : Int32))) (hjn : ji < nn) :
    MetFree l (⟨"java/lang/String", "checkIndex", "(II)V"⟩ : MethodName) (head1 (Jvm.Cond.code (⟨"java/lang/String", "checkIndex", "(II)V"⟩ : MethodName) jdk_42_method_155_code 2 none :: ws) ({ frames := 1, cells := 0, slots := 0, locals := 14 } : Room)) (fun a U => a = #[(.int ji), (.int nn)] ∧ Z.Warmed39 U.vm ∧ U.heap = h0) (fun _ _ _ _ _ => True) (fun _ U o U' => ∃ v L, o = .returned v ∧ Q7 Z ji nn fm h0 n0 v U'.heap L ∧ FrameEnd U o U' L ({ frames := 1, cells := 0, slots := 0, locals := 14 } : Room).cells ({ frames := 1, cells := 0, slots := 0, locals := 14 } : Room).slots) := by
  refine MetFree.of_bodySF (plainFor_of_name own_pn0) hisR ?_
  intro p e s m args below meth c s₁ Bd hml0 hP hK
  obtain ⟨rfl, hZ, hh⟩ := hP
  have hx := Bd.exec
  have hby := Bd.bytes
  have hml : c.maxLocals = 2 := hml0
  have hown : s.vm.findClass "java/lang/String" = some m.cls := findClass_of_methodNamed Bd.named
  have hnm := (name_of_methodNamed Bd.named Bd.method).1
  have X0 : Stand p l e ({ frames := 1, cells := 0, slots := 0, locals := 14 } : Room) s m #[(.int ji), (.int nn)] below meth c s₁ [] 0 0 := Stand.of_body Bd
  have e0 : s₁.heap = h0 := by rw [← hh, Bd.state]; rfl
  have N0 := Fr.nil n0
  have K0 : Keep h0 h0 [] := Keep.refl _ _
  suffices GO : ∀ P : Outcome → State → Prop, (∀ o U', (∃ v L, o = .returned v ∧ Q7 Z ji nn fm h0 n0 v U'.heap L ∧ FrameEnd s o U' L ({ frames := 1, cells := 0, slots := 0, locals := 14 } : Room).cells ({ frames := 1, cells := 0, slots := 0, locals := 14 } : Room).slots) → P o U') → Go p.tables e below P s₁ (mkF m 0 #[.val (.int ji), .val (.int nn)] []) by
    obtain ⟨s2, o, st, r⟩ := GO _ (fun _ _ q => q)
    exact ⟨s2, o, castTop (ef_7 m ji nn) st, r⟩
  clear hh
  intro P hP
  show Go p.tables e below P s₁ (mkF m 0 #[.val (.int ji), .val (.int nn)] [])
  refine Go.via (fun t k => XS.iloadN X0.here hx rfl (hb hby d7_0) rfl k) ?_
  show Go p.tables e below P s₁ (mkF m 1 #[.val (.int ji), .val (.int nn)] [(.int ji)])
  refine Go.via (fun t k => XS.iloadN X0.here hx rfl (hb hby d7_1) rfl k) ?_
  show Go p.tables e below P s₁ (mkF m 2 #[.val (.int ji), .val (.int nn)] [(.int nn), (.int ji)])
  obtain ⟨T1, X1, e1, st1⟩ := getS2 X0 hx hZ hown (host := "") (Or.inl (hw _ (List.mem_of_getElem? (i := 42) rfl))) Via.refl e0 (P1.ext O0.2) (g := (mkF m 2 #[.val (.int ji), .val (.int nn)] [(.int nn), (.int ji)])) rfl (hb hby d7_2)
  refine Go.via st1 ?_
  show Go p.tables e below P T1 (mkF m 5 #[.val (.int ji), .val (.int nn)] [fm, (.int nn), (.int ji)])
  obtain ⟨_, _, ⟨T2, L2, k2, n2⟩, -, X2, ⟨Lc2, hQ2, l2, y2, z2⟩, st2⟩ := Jvm.LawKit.callS X1 hx (y := (⟨"jdk/internal/util/Preconditions", "checkIndex", "(IILjava/util/function/BiFunction;)I"⟩ : MethodName)) hown (mvT hZ (hw _ (List.mem_of_getElem? (i := 44) rfl))) (mvT hZ (hw _ (List.mem_of_getElem? (i := 45) rfl))) (mvT hZ (hw _ (List.mem_of_getElem? (i := 43) rfl))) (mvT hZ (hw _ (List.mem_of_getElem? (i := 46) rfl))) (by decide) (backOf (W := 0) (rm8 l Z a0 hw [] ji nn fm h0 n0 Z0 (by first | assumption | decide | omega : fm.isRef = true) (by first | assumption | decide | omega : ¬ (ji < (0 : Int32))) (by first | assumption | decide | omega : ji < nn)) hZ (hw _ (List.mem_of_getElem? (i := 46) rfl)) (hw _ (List.mem_of_getElem? (i := 43) rfl)) (by decide) (by decide)) (g := (mkF m 5 #[.val (.int ji), .val (.int nn)] [fm, (.int nn), (.int ji)])) rfl (by rw [hml]; rfl) (argsL := [(.int ji), (.int nn), fm]) (rest := []) (lenOf own_pd2 rfl) rfl (by show 2 * 0 + _ ≤ _; exact Nat.le_of_eq rfl) (hb hby d7_5) (fun _ _ => ⟨rfl, e1, (by decide : 0 + 0 ≤ _), (by decide : 0 + 0 ≤ _)⟩)
  dsimp only [Pt.U, Pt.locs, Pt.cells, Pt.slots] at X2 l2 y2 z2 st2 hQ2
  subst l2 y2 z2
  obtain ⟨rfl, Nq2, hh2⟩ := hQ2
  obtain ⟨lc2, Xh2, N2⟩ := own_hide X2 (Fr.app N0 Nq2)
  clear X2
  refine Go.via st2 ?_
  show Go p.tables e below P T2 (mkF m 8 #[.val (.int ji), .val (.int nn)] [(.int ji)])
  refine Go.via (fun t k => XS.pop Xh2.here hx rfl (hb hby d7_8) rfl rfl k) ?_
  show Go p.tables e below P T2 (mkF m 9 #[.val (.int ji), .val (.int nn)] [])
  obtain ⟨fs, hr, hrun, hended, hW, hsame⟩ := Xh2.leave (v := none) (fun _ => rfl)
  refine ⟨_, _, Xh2.returnOut hx Bd.returns (hb hby d7_9) hr, hrun, hended, hP _ _ ⟨_, _, rfl, ?_, ⟨_, rfl⟩, hW, hsame.mono (by decide) (by decide)⟩⟩
  show Q7 Z ji nn fm h0 n0 _ T2.heap _
  rw [hh2]
  exact ⟨rfl, N2, rfl⟩
theorem own_pd3 : parseMethodDescriptor "(II)V" = some ⟨[.int, .int], none⟩ := by decide +kernel
theorem own_pn2 : plainName "java/lang/StringLatin1" = true := by first | (simp [plainName, overriddenIn]; done) | decide +kernel
theorem d6_0 : decode jdk_43_method_2_code 0 = .ok (.iload_n 1, 1) := by decide +kernel
theorem d6_1 : decode jdk_43_method_2_code 1 = .ok (.aload_n 0, 1) := by decide +kernel
theorem d6_2 : decode jdk_43_method_2_code 2 = .ok (.arraylength, 1) := by decide +kernel
theorem d6_3 : decode jdk_43_method_2_code 3 = .ok (.invokestatic 9, 3) := by decide +kernel
theorem d6_6 : decode jdk_43_method_2_code 6 = .ok (.aload_n 0, 1) := by decide +kernel
theorem d6_7 : decode jdk_43_method_2_code 7 = .ok (.iload_n 1, 1) := by decide +kernel
theorem d6_8 : decode jdk_43_method_2_code 8 = .ok (.baload, 1) := by decide +kernel
theorem d6_9 : decode jdk_43_method_2_code 9 = .ok (.sipush 255, 3) := by decide +kernel
theorem d6_12 : decode jdk_43_method_2_code 12 = .ok (.iand, 1) := by decide +kernel
theorem d6_13 : decode jdk_43_method_2_code 13 = .ok (.i2c, 1) := by decide +kernel
theorem d6_14 : decode jdk_43_method_2_code 14 = .ok (.ireturn, 1) := by decide +kernel
theorem ef_6 (m : MethodId) (x0 : Addr) (x1 : Int32) : entryFrame m #[(.ref x0), (.int x1)] 2 = mkF m 0 #[.val (.ref x0), .val (.int x1)] [] := by first | (simp [entryFrame, mkF, argsToLocals, Value.category]; done) | rfl
def Q6 (Z : State) (tb : Addr) (ji : Int32) (fm : Value) (kk : ClassId) (nn : Int32) (vs : List Value) (xx : Int32) (h0 : Heap) (n0 : Nat) (v : Option Value) (h : Heap) (L : List Loc) : Prop := v = some (.int (xx &&& (255 : Int32))) ∧ Fr n0 L ∧ h = h0
set_option maxRecDepth 65536 in
set_option maxHeartbeats 40000000 in
theorem rm6 (l : Launch) (Z : State) (a0 : Array Value) (hw : ∀ d ∈ tables_1, d.before a0 Z = true) (ws : List Jvm.Cond) (tb : Addr) (ji : Int32) (fm : Value) (kk : ClassId) (nn : Int32) (vs : List Value) (xx : Int32) (h0 : Heap) (n0 : Nat) (Z0 : n0 ≤ h0.size) (O0 : Old Z n0 h0) (P1 : Sta Z Z.heap "jdk/internal/util/Preconditions" "SIOOBE_FORMATTER" "Ljava/util/function/BiFunction;" fm) (rfm : fm.isRef = true) (P3 : Arv Z h0 tb kk .byte nn vs (.int (0 : Int32))) (hj0 : ¬ (ji < (0 : Int32))) (hjn : ji < nn) (hat : vs.getD ji.toNatClampNeg (.int (0 : Int32)) = .int xx) :
    MetFree l (⟨"java/lang/StringLatin1", "charAt", "([BI)C"⟩ : MethodName) (head1 (Jvm.Cond.code (⟨"java/lang/StringLatin1", "charAt", "([BI)C"⟩ : MethodName) jdk_43_method_2_code 2 (some .char) :: ws) ({ frames := 2, cells := 0, slots := 0, locals := 27 } : Room)) (fun a U => a = #[(.ref tb), (.int ji)] ∧ Z.Warmed39 U.vm ∧ U.heap = h0) (fun _ _ _ _ _ => True) (fun _ U o U' => ∃ v L, o = .returned v ∧ Q6 Z tb ji fm kk nn vs xx h0 n0 v U'.heap L ∧ FrameEnd U o U' L ({ frames := 2, cells := 0, slots := 0, locals := 27 } : Room).cells ({ frames := 2, cells := 0, slots := 0, locals := 27 } : Room).slots) := by
  refine MetFree.of_bodySF (plainFor_of_name own_pn2) hisR ?_
  intro p e s m args below meth c s₁ Bd hml0 hP hK
  obtain ⟨rfl, hZ, hh⟩ := hP
  have hx := Bd.exec
  have hby := Bd.bytes
  have hml : c.maxLocals = 2 := hml0
  have hown : s.vm.findClass "java/lang/StringLatin1" = some m.cls := findClass_of_methodNamed Bd.named
  have hnm := (name_of_methodNamed Bd.named Bd.method).1
  have X0 : Stand p l e ({ frames := 2, cells := 0, slots := 0, locals := 27 } : Room) s m #[(.ref tb), (.int ji)] below meth c s₁ [] 0 0 := Stand.of_body Bd
  have e0 : s₁.heap = h0 := by rw [← hh, Bd.state]; rfl
  have N0 := Fr.nil n0
  have K0 : Keep h0 h0 [] := Keep.refl _ _
  suffices GO : ∀ P : Outcome → State → Prop, (∀ o U', (∃ v L, o = .returned v ∧ Q6 Z tb ji fm kk nn vs xx h0 n0 v U'.heap L ∧ FrameEnd s o U' L ({ frames := 2, cells := 0, slots := 0, locals := 27 } : Room).cells ({ frames := 2, cells := 0, slots := 0, locals := 27 } : Room).slots) → P o U') → Go p.tables e below P s₁ (mkF m 0 #[.val (.ref tb), .val (.int ji)] []) by
    obtain ⟨s2, o, st, r⟩ := GO _ (fun _ _ q => q)
    exact ⟨s2, o, castTop (ef_6 m tb ji) st, r⟩
  clear hh
  intro P hP
  show Go p.tables e below P s₁ (mkF m 0 #[.val (.ref tb), .val (.int ji)] [])
  refine Go.via (fun t k => XS.iloadN X0.here hx rfl (hb hby d6_0) rfl k) ?_
  show Go p.tables e below P s₁ (mkF m 1 #[.val (.ref tb), .val (.int ji)] [(.int ji)])
  refine Go.via (fun t k => XS.aloadN X0.here hx rfl (hb hby d6_1) rfl rfl k) ?_
  show Go p.tables e below P s₁ (mkF m 2 #[.val (.ref tb), .val (.int ji)] [(.ref tb), (.int ji)])
  obtain ⟨c1, A1, -, S1, N1, -, -⟩ := id P3
  refine Go.via (fun t k => X0.arraylength hx (by rw [e0]; exact A1.1) (State.isArrayOf_alike hZ.alike A1.2.1) (g := (mkF m 2 #[.val (.ref tb), .val (.int ji)] [(.ref tb), (.int ji)])) rfl rfl (hb hby d6_2) t (by rw [len_of S1 N1]; exact k)) ?_
  show Go p.tables e below P s₁ (mkF m 3 #[.val (.ref tb), .val (.int ji)] [(.int nn), (.int ji)])
  obtain ⟨_, _, ⟨T2, L2, k2, n2⟩, -, X2, ⟨Lc2, hQ2, l2, y2, z2⟩, st2⟩ := Jvm.LawKit.callS X0 hx (y := (⟨"java/lang/String", "checkIndex", "(II)V"⟩ : MethodName)) hown (mvT hZ (hw _ (List.mem_of_getElem? (i := 39) rfl))) (mvT hZ (hw _ (List.mem_of_getElem? (i := 40) rfl))) (mvT hZ (hw _ (List.mem_of_getElem? (i := 1) rfl))) (mvT hZ (hw _ (List.mem_of_getElem? (i := 41) rfl))) (by decide) (backOf (W := 0) (rm7 l Z a0 hw [] ji nn fm h0 n0 Z0 O0 P1 (by first | assumption | decide | omega : fm.isRef = true) (by first | assumption | decide | omega : ¬ (ji < (0 : Int32))) (by first | assumption | decide | omega : ji < nn)) hZ (hw _ (List.mem_of_getElem? (i := 41) rfl)) (hw _ (List.mem_of_getElem? (i := 1) rfl)) (by decide) (by decide)) (g := (mkF m 3 #[.val (.ref tb), .val (.int ji)] [(.int nn), (.int ji)])) rfl (by rw [hml]; rfl) (argsL := [(.int ji), (.int nn)]) (rest := []) (lenOf own_pd3 rfl) rfl (by show 2 * 0 + _ ≤ _; exact Nat.le_of_eq rfl) (hb hby d6_3) (fun _ _ => ⟨rfl, e0, (by decide : 0 + 0 ≤ _), (by decide : 0 + 0 ≤ _)⟩)
  dsimp only [Pt.U, Pt.locs, Pt.cells, Pt.slots] at X2 l2 y2 z2 st2 hQ2
  subst l2 y2 z2
  obtain ⟨rfl, Nq2, hh2⟩ := hQ2
  obtain ⟨lc2, Xh2, N2⟩ := own_hide X2 (Fr.app N0 Nq2)
  clear X2
  refine Go.via st2 ?_
  show Go p.tables e below P T2 (mkF m 6 #[.val (.ref tb), .val (.int ji)] [])
  refine Go.via (fun t k => XS.aloadN Xh2.here hx rfl (hb hby d6_6) rfl rfl k) ?_
  show Go p.tables e below P T2 (mkF m 7 #[.val (.ref tb), .val (.int ji)] [(.ref tb)])
  refine Go.via (fun t k => XS.iloadN Xh2.here hx rfl (hb hby d6_7) rfl k) ?_
  show Go p.tables e below P T2 (mkF m 8 #[.val (.ref tb), .val (.int ji)] [(.int ji), (.ref tb)])
  obtain ⟨c3, A3, q3, S3, N3, H3, G3⟩ := id P3
  have hin3 : ¬ (ji < 0 ∨ c3.slots.size ≤ (ji).toNatClampNeg) := inb_of S3 ⟨hj0, hjn⟩
  have hat3 : c3.slots[(ji).toNatClampNeg]? = some (.int xx) := (H3 _ (Nat.lt_of_not_le fun q => hin3 (Or.inr q))).trans (congrArg some hat)
  refine Go.via (fun t k => Xh2.baloadBytes hx (j := ji) (v := (.int xx)) (by rw [hh2]; exact A3.1) (State.isArrayOf_alike hZ.alike A3.2.1) A3.2.2 hin3 hat3 (g := (mkF m 8 #[.val (.ref tb), .val (.int ji)] [(.int ji), (.ref tb)])) rfl rfl (hb hby d6_8) t k) ?_
  show Go p.tables e below P T2 (mkF m 9 #[.val (.ref tb), .val (.int ji)] [(.int xx)])
  refine Go.via (fun t k => XS.sipush Xh2.here hx rfl (hb hby d6_9) k) ?_
  show Go p.tables e below P T2 (mkF m 12 #[.val (.ref tb), .val (.int ji)] [(.int (255 : Int32)), (.int xx)])
  refine Go.via (fun t k => XS.iand Xh2.here hx rfl (hb hby d6_12) rfl k) ?_
  show Go p.tables e below P T2 (mkF m 13 #[.val (.ref tb), .val (.int ji)] [(.int (xx &&& (255 : Int32)))])
  refine Go.via (fun t k => XS.i2c Xh2.here hx rfl (hb hby d6_13) rfl k) ?_
  show Go p.tables e below P T2 (mkF m 14 #[.val (.ref tb), .val (.int ji)] [(.int ((xx &&& (255 : Int32)).toUInt32.toUInt16.toUInt32.toInt32))])
  obtain ⟨fs, hr, hrun, hended, hW, hsame⟩ := Xh2.leave (v := some (.int (xx &&& (255 : Int32)))) (fun h => by rw [Bd.returns] at h; cases h)
  refine ⟨_, _, retZ Xh2 hx (t := .char) Bd.returns (by simp) (hb hby d6_14) (own_b2c xx) hr, hrun, hended, hP _ _ ⟨_, _, rfl, ?_, ⟨_, rfl⟩, hW, hsame.mono (by decide) (by decide)⟩⟩
  show Q6 Z tb ji fm kk nn vs xx h0 n0 _ T2.heap _
  rw [hh2]
  exact ⟨rfl, N2, rfl⟩
theorem own_pd4 : parseMethodDescriptor "()Z" = some ⟨[], some .boolean⟩ := by decide +kernel
theorem own_pd5 : parseMethodDescriptor "([BI)C" = some ⟨[(.array .byte), .int], some .char⟩ := by decide +kernel
theorem d4_0 : decode jdk_42_method_56_code 0 = .ok (.aload_n 0, 1) := by decide +kernel
theorem d4_1 : decode jdk_42_method_56_code 1 = .ok (.invokevirtual 492, 3) := by decide +kernel
theorem d4_4 : decode jdk_42_method_56_code 4 = .ok (.ifCond .eq 12, 3) := by decide +kernel
theorem d4_7 : decode jdk_42_method_56_code 7 = .ok (.aload_n 0, 1) := by decide +kernel
theorem d4_8 : decode jdk_42_method_56_code 8 = .ok (.getfield 9, 3) := by decide +kernel
theorem d4_11 : decode jdk_42_method_56_code 11 = .ok (.iload_n 1, 1) := by decide +kernel
theorem d4_12 : decode jdk_42_method_56_code 12 = .ok (.invokestatic 495, 3) := by decide +kernel
theorem d4_15 : decode jdk_42_method_56_code 15 = .ok (.ireturn, 1) := by decide +kernel
theorem ef_4 (m : MethodId) (x0 : Addr) (x1 : Int32) : entryFrame m #[(.ref x0), (.int x1)] 2 = mkF m 0 #[.val (.ref x0), .val (.int x1)] [] := by first | (simp [entryFrame, mkF, argsToLocals, Value.category]; done) | rfl
def Q4 (Z : State) (so : Addr) (ji : Int32) (fm : Value) (cs : Int32) (tb : Addr) (kk : ClassId) (nn : Int32) (vs : List Value) (xx : Int32) (h0 : Heap) (n0 : Nat) (v : Option Value) (h : Heap) (L : List Loc) : Prop := v = some (.int (xx &&& (255 : Int32))) ∧ Fr n0 L ∧ h = h0
set_option maxRecDepth 65536 in
set_option maxHeartbeats 40000000 in
theorem rm4 (l : Launch) (Z : State) (a0 : Array Value) (hw : ∀ d ∈ tables_1, d.before a0 Z = true) (ws : List Jvm.Cond) (so : Addr) (ji : Int32) (fm : Value) (cs : Int32) (tb : Addr) (kk : ClassId) (nn : Int32) (vs : List Value) (xx : Int32) (h0 : Heap) (n0 : Nat) (Z0 : n0 ≤ h0.size) (O0 : Old Z n0 h0) (P1 : Sta Z Z.heap "java/lang/String" "COMPACT_STRINGS" "Z" (.int cs)) (hcs : ¬ cs = (0 : Int32)) (P3 : Sta Z Z.heap "jdk/internal/util/Preconditions" "SIOOBE_FORMATTER" "Ljava/util/function/BiFunction;" fm) (rfm : fm.isRef = true) (P5 : Exa Z h0 so "java/lang/String") (P6 : Fld Z h0 so "java/lang/String" "value" "[B" (.ref tb)) (P7 : Fld Z h0 so "java/lang/String" "coder" "B" (.int (0 : Int32))) (P8 : Arv Z h0 tb kk .byte nn vs (.int (0 : Int32))) (hj0 : ¬ (ji < (0 : Int32))) (hjn : ji < nn) (hat : vs.getD ji.toNatClampNeg (.int (0 : Int32)) = .int xx) :
    MetFree l (⟨"java/lang/String", "charAt", "(I)C"⟩ : MethodName) (head1 (Jvm.Cond.code (⟨"java/lang/String", "charAt", "(I)C"⟩ : MethodName) jdk_42_method_56_code 2 (some .char) :: ws) ({ frames := 3, cells := 0, slots := 0, locals := 40 } : Room)) (fun a U => a = #[(.ref so), (.int ji)] ∧ Z.Warmed39 U.vm ∧ U.heap = h0) (fun _ _ _ _ _ => True) (fun _ U o U' => ∃ v L, o = .returned v ∧ Q4 Z so ji fm cs tb kk nn vs xx h0 n0 v U'.heap L ∧ FrameEnd U o U' L ({ frames := 3, cells := 0, slots := 0, locals := 40 } : Room).cells ({ frames := 3, cells := 0, slots := 0, locals := 40 } : Room).slots) := by
  refine MetFree.of_bodySF (plainFor_of_name own_pn0) hisR ?_
  intro p e s m args below meth c s₁ Bd hml0 hP hK
  obtain ⟨rfl, hZ, hh⟩ := hP
  have hx := Bd.exec
  have hby := Bd.bytes
  have hml : c.maxLocals = 2 := hml0
  have hown : s.vm.findClass "java/lang/String" = some m.cls := findClass_of_methodNamed Bd.named
  have hnm := (name_of_methodNamed Bd.named Bd.method).1
  have X0 : Stand p l e ({ frames := 3, cells := 0, slots := 0, locals := 40 } : Room) s m #[(.ref so), (.int ji)] below meth c s₁ [] 0 0 := Stand.of_body Bd
  have e0 : s₁.heap = h0 := by rw [← hh, Bd.state]; rfl
  have N0 := Fr.nil n0
  have K0 : Keep h0 h0 [] := Keep.refl _ _
  suffices GO : ∀ P : Outcome → State → Prop, (∀ o U', (∃ v L, o = .returned v ∧ Q4 Z so ji fm cs tb kk nn vs xx h0 n0 v U'.heap L ∧ FrameEnd s o U' L ({ frames := 3, cells := 0, slots := 0, locals := 40 } : Room).cells ({ frames := 3, cells := 0, slots := 0, locals := 40 } : Room).slots) → P o U') → Go p.tables e below P s₁ (mkF m 0 #[.val (.ref so), .val (.int ji)] []) by
    obtain ⟨s2, o, st, r⟩ := GO _ (fun _ _ q => q)
    exact ⟨s2, o, castTop (ef_4 m so ji) st, r⟩
  clear hh
  intro P hP
  show Go p.tables e below P s₁ (mkF m 0 #[.val (.ref so), .val (.int ji)] [])
  refine Go.via (fun t k => XS.aloadN X0.here hx rfl (hb hby d4_0) rfl rfl k) ?_
  show Go p.tables e below P s₁ (mkF m 1 #[.val (.ref so), .val (.int ji)] [(.ref so)])
  obtain ⟨cq1, kq1, q1a, q1b, q1c⟩ := isOf hZ e0 P5
  obtain ⟨_, _, ⟨T1, L1, k1, n1⟩, -, X1, ⟨Lc1, hQ1, l1, y1, z1⟩, st1⟩ := X0.virtualBack hx (y := (⟨"java/lang/String", "isLatin1", "()Z"⟩ : MethodName)) (z := (⟨"java/lang/String", "isLatin1", "()Z"⟩ : MethodName)) hown (mvT hZ (hw _ (List.mem_of_getElem? (i := 30) rfl))) (mvT hZ (hw _ (List.mem_of_getElem? (i := 31) rfl))) (notFace_of_selects (args := #[]) (mvT hZ (hw _ (List.mem_of_getElem? (i := 33) rfl)))) (mvT hZ (hw _ (List.mem_of_getElem? (i := 33) rfl))) (mvT hZ (hw _ (List.mem_of_getElem? (i := 32) rfl))) (by decide) (backOf (W := 0) (rm5 l Z a0 hw [] so cs h0 n0 Z0 O0 P1 (by first | assumption | decide | omega : ¬ cs = (0 : Int32)) P7) hZ (hw _ (List.mem_of_getElem? (i := 34) rfl)) (hw _ (List.mem_of_getElem? (i := 1) rfl)) (by decide) (by decide)) q1a q1c (g := (mkF m 1 #[.val (.ref so), .val (.int ji)] [(.ref so)])) rfl (by rw [hml]; rfl) (Steps.refl _) (argsL := []) (rest := []) (lenOf own_pd4 rfl) rfl (by show 2 * 0 + _ ≤ _; exact Nat.le_of_eq rfl) (hb hby d4_1) (fun _ _ => ⟨rfl, e0, (by decide : 0 + 0 ≤ _), (by decide : 0 + 0 ≤ _)⟩)
  dsimp only [Pt.U, Pt.locs, Pt.cells, Pt.slots] at X1 l1 y1 z1 st1 hQ1
  subst l1 y1 z1
  obtain ⟨rfl, Nq1, hh1⟩ := hQ1
  obtain ⟨lc1, Xh1, N1⟩ := own_hide X1 (Fr.app N0 Nq1)
  clear X1
  refine Go.hop st1 ?_
  show Go p.tables e below P T1 (mkF m 4 #[.val (.ref so), .val (.int ji)] [(.int (1 : Int32))])
  refine Go.via (fun t k => XS.ifNo Xh1.here hx rfl (hb hby d4_4) rfl ((if0 _ _).trans (feq (by decide : ¬ ((1 : Int32) = (0 : Int32)))).1) k) ?_
  show Go p.tables e below P T1 (mkF m 7 #[.val (.ref so), .val (.int ji)] [])
  refine Go.via (fun t k => XS.aloadN Xh1.here hx rfl (hb hby d4_7) rfl rfl k) ?_
  show Go p.tables e below P T1 (mkF m 8 #[.val (.ref so), .val (.int ji)] [(.ref so)])
  obtain ⟨T2, X2, e2, st2⟩ := getF Xh1 hx hZ hown (host := "") (Or.inl (hw _ (List.mem_of_getElem? (i := 17) rfl))) Via.refl hh1 P6 (g := (mkF m 8 #[.val (.ref so), .val (.int ji)] [(.ref so)])) rfl rfl (hb hby d4_8)
  refine Go.via st2 ?_
  show Go p.tables e below P T2 (mkF m 11 #[.val (.ref so), .val (.int ji)] [(.ref tb)])
  refine Go.via (fun t k => XS.iloadN X2.here hx rfl (hb hby d4_11) rfl k) ?_
  show Go p.tables e below P T2 (mkF m 12 #[.val (.ref so), .val (.int ji)] [(.int ji), (.ref tb)])
  obtain ⟨_, _, ⟨T3, L3, k3, n3⟩, -, X3, ⟨Lc3, hQ3, l3, y3, z3⟩, st3⟩ := Jvm.LawKit.callS X2 hx (y := (⟨"java/lang/StringLatin1", "charAt", "([BI)C"⟩ : MethodName)) hown (mvT hZ (hw _ (List.mem_of_getElem? (i := 35) rfl))) (mvT hZ (hw _ (List.mem_of_getElem? (i := 36) rfl))) (mvT hZ (hw _ (List.mem_of_getElem? (i := 37) rfl))) (mvT hZ (hw _ (List.mem_of_getElem? (i := 38) rfl))) (by decide) (backOf (W := 0) (rm6 l Z a0 hw [] tb ji fm kk nn vs xx h0 n0 Z0 O0 P3 (by first | assumption | decide | omega : fm.isRef = true) P8 (by first | assumption | decide | omega : ¬ (ji < (0 : Int32))) (by first | assumption | decide | omega : ji < nn) hat) hZ (hw _ (List.mem_of_getElem? (i := 38) rfl)) (hw _ (List.mem_of_getElem? (i := 37) rfl)) (by decide) (by decide)) (g := (mkF m 12 #[.val (.ref so), .val (.int ji)] [(.int ji), (.ref tb)])) rfl (by rw [hml]; rfl) (argsL := [(.ref tb), (.int ji)]) (rest := []) (lenOf own_pd5 rfl) rfl (by show 2 * 0 + _ ≤ _; exact Nat.le_of_eq rfl) (hb hby d4_12) (fun _ _ => ⟨rfl, e2, (by decide : 0 + 0 ≤ _), (by decide : 0 + 0 ≤ _)⟩)
  dsimp only [Pt.U, Pt.locs, Pt.cells, Pt.slots] at X3 l3 y3 z3 st3 hQ3
  subst l3 y3 z3
  obtain ⟨rfl, Nq3, hh3⟩ := hQ3
  obtain ⟨lc3, Xh3, N3⟩ := own_hide X3 (Fr.app N1 Nq3)
  clear X3
  refine Go.via st3 ?_
  show Go p.tables e below P T3 (mkF m 15 #[.val (.ref so), .val (.int ji)] [(.int (xx &&& (255 : Int32)))])
  obtain ⟨fs, hr, hrun, hended, hW, hsame⟩ := Xh3.leave (v := some (.int (xx &&& (255 : Int32)))) (fun h => by rw [Bd.returns] at h; cases h)
  refine ⟨_, _, retZ Xh3 hx (t := .char) Bd.returns (by simp) (hb hby d4_15) (own_nc xx) hr, hrun, hended, hP _ _ ⟨_, _, rfl, ?_, ⟨_, rfl⟩, hW, hsame.mono (by decide) (by decide)⟩⟩
  show Q4 Z so ji fm cs tb kk nn vs xx h0 n0 _ T3.heap _
  rw [hh3]
  exact ⟨rfl, N3, rfl⟩
theorem own_pd6 : parseMethodDescriptor "()I" = some ⟨[], some .int⟩ := by decide +kernel
theorem own_pd7 : parseMethodDescriptor "(I)C" = some ⟨[.int], some .char⟩ := by decide +kernel
theorem own_pn3 : plainName "com/example/numeric_planner/numericplanner/planner/KindOfPinLaw" = true := by first | (simp [plainName, overriddenIn]; done) | decide +kernel
theorem d1_0 : decode method_3_code 0 = .ok (.iload_n 1, 1) := by decide +kernel
theorem d1_1 : decode method_3_code 1 = .ok (.ifCond .ne 19, 3) := by decide +kernel
theorem d1_4 : decode method_3_code 4 = .ok (.iload 4, 2) := by decide +kernel
theorem d1_6 : decode method_3_code 6 = .ok (.aload_n 0, 1) := by decide +kernel
theorem d1_7 : decode method_3_code 7 = .ok (.invokevirtual 47, 3) := by decide +kernel
theorem d1_10 : decode method_3_code 10 = .ok (.if_icmp .ge 10, 3) := by decide +kernel
theorem d1_13 : decode method_3_code 13 = .ok (.aload_n 0, 1) := by decide +kernel
theorem d1_14 : decode method_3_code 14 = .ok (.iload 4, 2) := by decide +kernel
theorem d1_16 : decode method_3_code 16 = .ok (.invokevirtual 51, 3) := by decide +kernel
theorem d1_19 : decode method_3_code 19 = .ok (.ireturn, 1) := by decide +kernel
theorem d1_20 : decode method_3_code 20 = .ok (.lload_n 2, 1) := by decide +kernel
theorem d1_21 : decode method_3_code 21 = .ok (.bipush 8, 2) := by decide +kernel
theorem d1_23 : decode method_3_code 23 = .ok (.iload 4, 2) := by decide +kernel
theorem d1_25 : decode method_3_code 25 = .ok (.imul, 1) := by decide +kernel
theorem d1_26 : decode method_3_code 26 = .ok (.lushr, 1) := by decide +kernel
theorem d1_27 : decode method_3_code 27 = .ok (.ldc2_w 55, 3) := by decide +kernel
theorem d1_30 : decode method_3_code 30 = .ok (.land, 1) := by decide +kernel
theorem d1_31 : decode method_3_code 31 = .ok (.l2i, 1) := by decide +kernel
theorem d1_32 : decode method_3_code 32 = .ok (.i2c, 1) := by decide +kernel
theorem d1_33 : decode method_3_code 33 = .ok (.ireturn, 1) := by decide +kernel
theorem ef_1 (m : MethodId) (x0 : Addr) (x1 : Int32) (x2 : Int64) (x3 : Int32) : entryFrame m #[(.ref x0), (.int x1), (.long x2), (.int x3)] 5 = mkF m 0 #[.val (.ref x0), .val (.int x1), .val (.long x2), .second, .val (.int x3)] [] := by first | (simp [entryFrame, mkF, argsToLocals, Value.category]; done) | rfl
def Q1 (Z : State) (so : Addr) (fl : Int32) (lv : Int64) (ji : Int32) (cs : Int32) (fm : Value) (tb : Addr) (kk : ClassId) (bx : List Int32) (h0 : Heap) (n0 : Nat) (v : Option Value) (h : Heap) (L : List Loc) : Prop := ∃ (cc : Int32), v = some (.int cc) ∧ Fr n0 L ∧ h = h0 ∧ (own_by cc)
set_option maxRecDepth 65536 in
set_option maxHeartbeats 40000000 in
theorem rm1 (l : Launch) (Z : State) (a0 : Array Value) (hw : ∀ d ∈ tables_1, d.before a0 Z = true) (ws : List Jvm.Cond) (so : Addr) (fl : Int32) (lv : Int64) (ji : Int32) (cs : Int32) (fm : Value) (tb : Addr) (kk : ClassId) (bx : List Int32) (h0 : Heap) (n0 : Nat) (Z0 : n0 ≤ h0.size) (O0 : Old Z n0 h0) (P1 : Sta Z Z.heap "java/lang/String" "COMPACT_STRINGS" "Z" (.int cs)) (hcs : ¬ cs = (0 : Int32)) (P3 : Sta Z Z.heap "jdk/internal/util/Preconditions" "SIOOBE_FORMATTER" "Ljava/util/function/BiFunction;" fm) (rfm : fm.isRef = true) (P5 : Exa Z h0 so "java/lang/String") (P6 : Fld Z h0 so "java/lang/String" "value" "[B" (.ref tb)) (P7 : Fld Z h0 so "java/lang/String" "coder" "B" (.int (0 : Int32))) (P8 : Arv Z h0 tb kk .byte (own_lg bx) (bx.map Value.int) (.int (0 : Int32))) (hj0 : ¬ (ji < (0 : Int32))) :
    MetFree l (⟨"com/example/numeric_planner/numericplanner/planner/KindOfPinLaw", "pick", "(Ljava/lang/String;ZJI)C"⟩ : MethodName) (head1 (Jvm.Cond.code (⟨"com/example/numeric_planner/numericplanner/planner/KindOfPinLaw", "pick", "(Ljava/lang/String;ZJI)C"⟩ : MethodName) method_3_code 5 (some .char) :: ws) ({ frames := 4, cells := 0, slots := 0, locals := 53 } : Room)) (fun a U => a = #[(.ref so), (.int fl), (.long lv), (.int ji)] ∧ Z.Warmed39 U.vm ∧ U.heap = h0) (fun _ _ _ _ _ => True) (fun _ U o U' => ∃ v L, o = .returned v ∧ Q1 Z so fl lv ji cs fm tb kk bx h0 n0 v U'.heap L ∧ FrameEnd U o U' L ({ frames := 4, cells := 0, slots := 0, locals := 53 } : Room).cells ({ frames := 4, cells := 0, slots := 0, locals := 53 } : Room).slots) := by
  refine MetFree.of_bodySF (plainFor_of_name own_pn3) hisR ?_
  intro p e s m args below meth c s₁ Bd hml0 hP hK
  obtain ⟨rfl, hZ, hh⟩ := hP
  have hx := Bd.exec
  have hby := Bd.bytes
  have hml : c.maxLocals = 5 := hml0
  have hown : s.vm.findClass "com/example/numeric_planner/numericplanner/planner/KindOfPinLaw" = some m.cls := findClass_of_methodNamed Bd.named
  have hnm := (name_of_methodNamed Bd.named Bd.method).1
  have X0 : Stand p l e ({ frames := 4, cells := 0, slots := 0, locals := 53 } : Room) s m #[(.ref so), (.int fl), (.long lv), (.int ji)] below meth c s₁ [] 0 0 := Stand.of_body Bd
  have e0 : s₁.heap = h0 := by rw [← hh, Bd.state]; rfl
  have N0 := Fr.nil n0
  have K0 : Keep h0 h0 [] := Keep.refl _ _
  suffices GO : ∀ P : Outcome → State → Prop, (∀ o U', (∃ v L, o = .returned v ∧ Q1 Z so fl lv ji cs fm tb kk bx h0 n0 v U'.heap L ∧ FrameEnd s o U' L ({ frames := 4, cells := 0, slots := 0, locals := 53 } : Room).cells ({ frames := 4, cells := 0, slots := 0, locals := 53 } : Room).slots) → P o U') → Go p.tables e below P s₁ (mkF m 0 #[.val (.ref so), .val (.int fl), .val (.long lv), .second, .val (.int ji)] []) by
    obtain ⟨s2, o, st, r⟩ := GO _ (fun _ _ q => q)
    exact ⟨s2, o, castTop (ef_1 m so fl lv ji) st, r⟩
  clear hh
  intro P hP
  show Go p.tables e below P s₁ (mkF m 0 #[.val (.ref so), .val (.int fl), .val (.long lv), .second, .val (.int ji)] [])
  refine Go.via (fun t k => XS.iloadN X0.here hx rfl (hb hby d1_0) rfl k) ?_
  show Go p.tables e below P s₁ (mkF m 1 #[.val (.ref so), .val (.int fl), .val (.long lv), .second, .val (.int ji)] [(.int fl)])
  by_cases hc1 : fl = (0 : Int32)
  · refine Go.via (fun t k => XS.ifNo X0.here hx rfl (hb hby d1_1) rfl ((if0 _ _).trans (teq hc1).2) k) ?_
    show Go p.tables e below P s₁ (mkF m 4 #[.val (.ref so), .val (.int fl), .val (.long lv), .second, .val (.int ji)] [])
    refine Go.via (fun t k => XS.iload X0.here hx rfl (hb hby d1_4) rfl k) ?_
    show Go p.tables e below P s₁ (mkF m 6 #[.val (.ref so), .val (.int fl), .val (.long lv), .second, .val (.int ji)] [(.int ji)])
    refine Go.via (fun t k => XS.aloadN X0.here hx rfl (hb hby d1_6) rfl rfl k) ?_
    show Go p.tables e below P s₁ (mkF m 7 #[.val (.ref so), .val (.int fl), .val (.long lv), .second, .val (.int ji)] [(.ref so), (.int ji)])
    obtain ⟨cq2, kq2, q2a, q2b, q2c⟩ := isOf hZ e0 P5
    obtain ⟨_, _, ⟨T2, L2, k2, n2⟩, -, X2, ⟨Lc2, hQ2, l2, y2, z2⟩, st2⟩ := X0.virtualBack hx (y := (⟨"java/lang/String", "length", "()I"⟩ : MethodName)) (z := (⟨"java/lang/String", "length", "()I"⟩ : MethodName)) hown (mvT hZ (hw _ (List.mem_of_getElem? (i := 12) rfl))) (mvT hZ (hw _ (List.mem_of_getElem? (i := 13) rfl))) (notFace_of_selects (args := #[]) (mvT hZ (hw _ (List.mem_of_getElem? (i := 15) rfl)))) (mvT hZ (hw _ (List.mem_of_getElem? (i := 15) rfl))) (mvT hZ (hw _ (List.mem_of_getElem? (i := 14) rfl))) (by decide) (backOf (W := 1) (rm2 l Z a0 hw [] so cs tb kk (own_lg bx) (bx.map Value.int) h0 n0 Z0 O0 P1 (by first | assumption | decide | omega : ¬ cs = (0 : Int32)) P5 P6 P7 P8) hZ (hw _ (List.mem_of_getElem? (i := 16) rfl)) (hw _ (List.mem_of_getElem? (i := 1) rfl)) (by decide) (by decide)) q2a q2c (g := (mkF m 7 #[.val (.ref so), .val (.int fl), .val (.long lv), .second, .val (.int ji)] [(.ref so), (.int ji)])) rfl (by rw [hml]; rfl) (Steps.refl _) (argsL := []) (rest := [(.int ji)]) (lenOf own_pd6 rfl) rfl (by show 2 * 0 + _ ≤ _; exact Nat.le_of_eq rfl) (hb hby d1_7) (fun _ _ => ⟨rfl, e0, (by decide : 0 + 0 ≤ _), (by decide : 0 + 0 ≤ _)⟩)
    dsimp only [Pt.U, Pt.locs, Pt.cells, Pt.slots] at X2 l2 y2 z2 st2 hQ2
    subst l2 y2 z2
    obtain ⟨rfl, Nq2, hh2⟩ := hQ2
    obtain ⟨lc2, Xh2, N2⟩ := own_hide X2 (Fr.app N0 Nq2)
    clear X2
    refine Go.hop st2 ?_
    show Go p.tables e below P T2 (mkF m 10 #[.val (.ref so), .val (.int fl), .val (.long lv), .second, .val (.int ji)] [(.int (own_lg bx)), (.int ji)])
    by_cases hc3 : ji < (own_lg bx)
    · refine Go.via (fun t k => XS.icmpNo Xh2.here hx rfl (hb hby d1_10) rfl (tlt hc3).2.1 k) ?_
      show Go p.tables e below P T2 (mkF m 13 #[.val (.ref so), .val (.int fl), .val (.long lv), .second, .val (.int ji)] [])
      refine Go.via (fun t k => XS.aloadN Xh2.here hx rfl (hb hby d1_13) rfl rfl k) ?_
      show Go p.tables e below P T2 (mkF m 14 #[.val (.ref so), .val (.int fl), .val (.long lv), .second, .val (.int ji)] [(.ref so)])
      refine Go.via (fun t k => XS.iload Xh2.here hx rfl (hb hby d1_14) rfl k) ?_
      show Go p.tables e below P T2 (mkF m 16 #[.val (.ref so), .val (.int fl), .val (.long lv), .second, .val (.int ji)] [(.int ji), (.ref so)])
      obtain ⟨cq4, kq4, q4a, q4b, q4c⟩ := isOf hZ hh2 P5
      obtain ⟨_, _, ⟨T4, L4, k4, n4⟩, -, X4, ⟨Lc4, hQ4, l4, y4, z4⟩, st4⟩ := Xh2.virtualBack hx (y := (⟨"java/lang/String", "charAt", "(I)C"⟩ : MethodName)) (z := (⟨"java/lang/String", "charAt", "(I)C"⟩ : MethodName)) hown (mvT hZ (hw _ (List.mem_of_getElem? (i := 25) rfl))) (mvT hZ (hw _ (List.mem_of_getElem? (i := 26) rfl))) (notFace_of_selects (args := #[]) (mvT hZ (hw _ (List.mem_of_getElem? (i := 28) rfl)))) (mvT hZ (hw _ (List.mem_of_getElem? (i := 28) rfl))) (mvT hZ (hw _ (List.mem_of_getElem? (i := 27) rfl))) (by decide) (backOf (W := 0) (rm4 l Z a0 hw [] so ji fm cs tb kk (own_lg bx) (bx.map Value.int) (bx.getD ji.toNatClampNeg 0) h0 n0 Z0 O0 P1 (by first | assumption | decide | omega : ¬ cs = (0 : Int32)) P3 (by first | assumption | decide | omega : fm.isRef = true) P5 P6 P7 P8 (by first | assumption | decide | omega : ¬ (ji < (0 : Int32))) hc3 (own_gD bx _)) hZ (hw _ (List.mem_of_getElem? (i := 29) rfl)) (hw _ (List.mem_of_getElem? (i := 1) rfl)) (by decide) (by decide)) q4a q4c (g := (mkF m 16 #[.val (.ref so), .val (.int fl), .val (.long lv), .second, .val (.int ji)] [(.int ji), (.ref so)])) rfl (by rw [hml]; rfl) (Steps.refl _) (argsL := [(.int ji)]) (rest := []) (lenOf own_pd7 rfl) rfl (by show 2 * 0 + _ ≤ _; exact Nat.le_of_eq rfl) (hb hby d1_16) (fun _ _ => ⟨rfl, hh2, (by decide : 0 + 0 ≤ _), (by decide : 0 + 0 ≤ _)⟩)
      dsimp only [Pt.U, Pt.locs, Pt.cells, Pt.slots] at X4 l4 y4 z4 st4 hQ4
      subst l4 y4 z4
      obtain ⟨rfl, Nq4, hh4⟩ := hQ4
      obtain ⟨lc4, Xh4, N4⟩ := own_hide X4 (Fr.app N2 Nq4)
      clear X4
      refine Go.hop st4 ?_
      show Go p.tables e below P T4 (mkF m 19 #[.val (.ref so), .val (.int fl), .val (.long lv), .second, .val (.int ji)] [(.int ((bx.getD ji.toNatClampNeg 0) &&& (255 : Int32)))])
      obtain ⟨fs, hr, hrun, hended, hW, hsame⟩ := Xh4.leave (v := some (.int (nar .char ((bx.getD ji.toNatClampNeg 0) &&& (255 : Int32))))) (fun h => by rw [Bd.returns] at h; cases h)
      refine ⟨_, _, retZ Xh4 hx (t := .char) Bd.returns (by simp) (hb hby d1_19) rfl hr, hrun, hended, hP _ _ ⟨_, _, rfl, ?_, ⟨_, rfl⟩, hW, hsame.mono (by decide) (by decide)⟩⟩
      show Q1 Z so fl lv ji cs fm tb kk bx h0 n0 _ T4.heap _
      rw [hh4]
      exact ⟨(nar .char ((bx.getD ji.toNatClampNeg 0) &&& (255 : Int32))), rfl, N4, rfl, (own_byA _)⟩
    · refine Go.via (fun t k => XS.icmpYes Xh2.here hx rfl (pc0 := 10) (pc' := 20) rfl (hb hby d1_10) rfl (flt hc3).2.1 (by decide) (by decide) k) ?_
      show Go p.tables e below P T2 (mkF m 20 #[.val (.ref so), .val (.int fl), .val (.long lv), .second, .val (.int ji)] [])
      refine Go.via (fun t k => XS.lloadN Xh2.here hx rfl (hb hby d1_20) rfl k) ?_
      show Go p.tables e below P T2 (mkF m 21 #[.val (.ref so), .val (.int fl), .val (.long lv), .second, .val (.int ji)] [(.long lv)])
      refine Go.via (fun t k => XS.bipush Xh2.here hx rfl (hb hby d1_21) k) ?_
      show Go p.tables e below P T2 (mkF m 23 #[.val (.ref so), .val (.int fl), .val (.long lv), .second, .val (.int ji)] [(.int (8 : Int32)), (.long lv)])
      refine Go.via (fun t k => XS.iload Xh2.here hx rfl (hb hby d1_23) rfl k) ?_
      show Go p.tables e below P T2 (mkF m 25 #[.val (.ref so), .val (.int fl), .val (.long lv), .second, .val (.int ji)] [(.int ji), (.int (8 : Int32)), (.long lv)])
      refine Go.via (fun t k => XS.imul Xh2.here hx rfl (hb hby d1_25) rfl k) ?_
      show Go p.tables e below P T2 (mkF m 26 #[.val (.ref so), .val (.int fl), .val (.long lv), .second, .val (.int ji)] [(.int ((8 : Int32) * ji)), (.long lv)])
      refine Go.via (fun t k => XS.lushr Xh2.here hx rfl (hb hby d1_26) rfl k) ?_
      show Go p.tables e below P T2 (mkF m 27 #[.val (.ref so), .val (.int fl), .val (.long lv), .second, .val (.int ji)] [(.long ((lv.toUInt64 >>> (((8 : Int32) * ji) &&& 0x3f).toInt64.toUInt64).toInt64))])
      refine Go.via (fun t k => Xh2.ldc2Long hx hown (mvT hZ (hw _ (List.mem_of_getElem? (i := 47) rfl))) (g := (mkF m 27 #[.val (.ref so), .val (.int fl), .val (.long lv), .second, .val (.int ji)] [(.long ((lv.toUInt64 >>> (((8 : Int32) * ji) &&& 0x3f).toInt64.toUInt64).toInt64))])) rfl (hb hby d1_27) t k) ?_
      show Go p.tables e below P T2 (mkF m 30 #[.val (.ref so), .val (.int fl), .val (.long lv), .second, .val (.int ji)] [(.long (255 : Int64)), (.long ((lv.toUInt64 >>> (((8 : Int32) * ji) &&& 0x3f).toInt64.toUInt64).toInt64))])
      refine Go.via (fun t k => XS.land Xh2.here hx rfl (hb hby d1_30) rfl k) ?_
      show Go p.tables e below P T2 (mkF m 31 #[.val (.ref so), .val (.int fl), .val (.long lv), .second, .val (.int ji)] [(.long (((lv.toUInt64 >>> (((8 : Int32) * ji) &&& 0x3f).toInt64.toUInt64).toInt64) &&& (255 : Int64)))])
      refine Go.via (fun t k => XS.l2i Xh2.here hx rfl (hb hby d1_31) rfl k) ?_
      show Go p.tables e below P T2 (mkF m 32 #[.val (.ref so), .val (.int fl), .val (.long lv), .second, .val (.int ji)] [(.int ((((lv.toUInt64 >>> (((8 : Int32) * ji) &&& 0x3f).toInt64.toUInt64).toInt64) &&& (255 : Int64)).toInt32))])
      refine Go.via (fun t k => XS.i2c Xh2.here hx rfl (hb hby d1_32) rfl k) ?_
      show Go p.tables e below P T2 (mkF m 33 #[.val (.ref so), .val (.int fl), .val (.long lv), .second, .val (.int ji)] [(.int (((((lv.toUInt64 >>> (((8 : Int32) * ji) &&& 0x3f).toInt64.toUInt64).toInt64) &&& (255 : Int64)).toInt32).toUInt32.toUInt16.toUInt32.toInt32))])
      obtain ⟨fs, hr, hrun, hended, hW, hsame⟩ := Xh2.leave (v := some (.int (nar .char (((((lv.toUInt64 >>> (((8 : Int32) * ji) &&& 0x3f).toInt64.toUInt64).toInt64) &&& (255 : Int64)).toInt32).toUInt32.toUInt16.toUInt32.toInt32)))) (fun h => by rw [Bd.returns] at h; cases h)
      refine ⟨_, _, retZ Xh2 hx (t := .char) Bd.returns (by simp) (hb hby d1_33) rfl hr, hrun, hended, hP _ _ ⟨_, _, rfl, ?_, ⟨_, rfl⟩, hW, hsame.mono (by decide) (by decide)⟩⟩
      show Q1 Z so fl lv ji cs fm tb kk bx h0 n0 _ T2.heap _
      rw [hh2]
      exact ⟨(nar .char (((((lv.toUInt64 >>> (((8 : Int32) * ji) &&& 0x3f).toInt64.toUInt64).toInt64) &&& (255 : Int64)).toInt32).toUInt32.toUInt16.toUInt32.toInt32)), rfl, N2, rfl, (own_byL _)⟩
  · refine Go.via (fun t k => XS.ifYes X0.here hx rfl (pc0 := 1) (pc' := 20) rfl (hb hby d1_1) rfl ((if0 _ _).trans (feq hc1).2) (by decide) (by decide) k) ?_
    show Go p.tables e below P s₁ (mkF m 20 #[.val (.ref so), .val (.int fl), .val (.long lv), .second, .val (.int ji)] [])
    refine Go.via (fun t k => XS.lloadN X0.here hx rfl (hb hby d1_20) rfl k) ?_
    show Go p.tables e below P s₁ (mkF m 21 #[.val (.ref so), .val (.int fl), .val (.long lv), .second, .val (.int ji)] [(.long lv)])
    refine Go.via (fun t k => XS.bipush X0.here hx rfl (hb hby d1_21) k) ?_
    show Go p.tables e below P s₁ (mkF m 23 #[.val (.ref so), .val (.int fl), .val (.long lv), .second, .val (.int ji)] [(.int (8 : Int32)), (.long lv)])
    refine Go.via (fun t k => XS.iload X0.here hx rfl (hb hby d1_23) rfl k) ?_
    show Go p.tables e below P s₁ (mkF m 25 #[.val (.ref so), .val (.int fl), .val (.long lv), .second, .val (.int ji)] [(.int ji), (.int (8 : Int32)), (.long lv)])
    refine Go.via (fun t k => XS.imul X0.here hx rfl (hb hby d1_25) rfl k) ?_
    show Go p.tables e below P s₁ (mkF m 26 #[.val (.ref so), .val (.int fl), .val (.long lv), .second, .val (.int ji)] [(.int ((8 : Int32) * ji)), (.long lv)])
    refine Go.via (fun t k => XS.lushr X0.here hx rfl (hb hby d1_26) rfl k) ?_
    show Go p.tables e below P s₁ (mkF m 27 #[.val (.ref so), .val (.int fl), .val (.long lv), .second, .val (.int ji)] [(.long ((lv.toUInt64 >>> (((8 : Int32) * ji) &&& 0x3f).toInt64.toUInt64).toInt64))])
    refine Go.via (fun t k => X0.ldc2Long hx hown (mvT hZ (hw _ (List.mem_of_getElem? (i := 47) rfl))) (g := (mkF m 27 #[.val (.ref so), .val (.int fl), .val (.long lv), .second, .val (.int ji)] [(.long ((lv.toUInt64 >>> (((8 : Int32) * ji) &&& 0x3f).toInt64.toUInt64).toInt64))])) rfl (hb hby d1_27) t k) ?_
    show Go p.tables e below P s₁ (mkF m 30 #[.val (.ref so), .val (.int fl), .val (.long lv), .second, .val (.int ji)] [(.long (255 : Int64)), (.long ((lv.toUInt64 >>> (((8 : Int32) * ji) &&& 0x3f).toInt64.toUInt64).toInt64))])
    refine Go.via (fun t k => XS.land X0.here hx rfl (hb hby d1_30) rfl k) ?_
    show Go p.tables e below P s₁ (mkF m 31 #[.val (.ref so), .val (.int fl), .val (.long lv), .second, .val (.int ji)] [(.long (((lv.toUInt64 >>> (((8 : Int32) * ji) &&& 0x3f).toInt64.toUInt64).toInt64) &&& (255 : Int64)))])
    refine Go.via (fun t k => XS.l2i X0.here hx rfl (hb hby d1_31) rfl k) ?_
    show Go p.tables e below P s₁ (mkF m 32 #[.val (.ref so), .val (.int fl), .val (.long lv), .second, .val (.int ji)] [(.int ((((lv.toUInt64 >>> (((8 : Int32) * ji) &&& 0x3f).toInt64.toUInt64).toInt64) &&& (255 : Int64)).toInt32))])
    refine Go.via (fun t k => XS.i2c X0.here hx rfl (hb hby d1_32) rfl k) ?_
    show Go p.tables e below P s₁ (mkF m 33 #[.val (.ref so), .val (.int fl), .val (.long lv), .second, .val (.int ji)] [(.int (((((lv.toUInt64 >>> (((8 : Int32) * ji) &&& 0x3f).toInt64.toUInt64).toInt64) &&& (255 : Int64)).toInt32).toUInt32.toUInt16.toUInt32.toInt32))])
    obtain ⟨fs, hr, hrun, hended, hW, hsame⟩ := X0.leave (v := some (.int (nar .char (((((lv.toUInt64 >>> (((8 : Int32) * ji) &&& 0x3f).toInt64.toUInt64).toInt64) &&& (255 : Int64)).toInt32).toUInt32.toUInt16.toUInt32.toInt32)))) (fun h => by rw [Bd.returns] at h; cases h)
    refine ⟨_, _, retZ X0 hx (t := .char) Bd.returns (by simp) (hb hby d1_33) rfl hr, hrun, hended, hP _ _ ⟨_, _, rfl, ?_, ⟨_, rfl⟩, hW, hsame.mono (by decide) (by decide)⟩⟩
    show Q1 Z so fl lv ji cs fm tb kk bx h0 n0 _ s₁.heap _
    rw [e0]
    exact ⟨(nar .char (((((lv.toUInt64 >>> (((8 : Int32) * ji) &&& 0x3f).toInt64.toUInt64).toInt64) &&& (255 : Int64)).toInt32).toUInt32.toUInt16.toUInt32.toInt32)), rfl, N0, rfl, (own_byL _)⟩
theorem own_pd8 : parseMethodDescriptor "([C)V" = some ⟨[(.array .char)], none⟩ := by decide +kernel
theorem d9_0 : decode method_4_code 0 = .ok (.iload_n 0, 1) := by decide +kernel
theorem d9_1 : decode method_4_code 1 = .ok (.ifCond .ne 14, 3) := by decide +kernel
theorem d9_4 : decode method_4_code 4 = .ok (.new 35, 3) := by decide +kernel
theorem d9_7 : decode method_4_code 7 = .ok (.dup, 1) := by decide +kernel
theorem d9_8 : decode method_4_code 8 = .ok (.iconst 0, 1) := by decide +kernel
theorem d9_9 : decode method_4_code 9 = .ok (.newarray .char, 2) := by decide +kernel
theorem d9_11 : decode method_4_code 11 = .ok (.invokespecial 57, 3) := by decide +kernel
theorem d9_14 : decode method_4_code 14 = .ok (.areturn, 1) := by decide +kernel
theorem d9_15 : decode method_4_code 15 = .ok (.iload_n 0, 1) := by decide +kernel
theorem d9_16 : decode method_4_code 16 = .ok (.iconst 1, 1) := by decide +kernel
theorem d9_17 : decode method_4_code 17 = .ok (.if_icmp .ne 18, 3) := by decide +kernel
theorem d9_20 : decode method_4_code 20 = .ok (.new 35, 3) := by decide +kernel
theorem d9_23 : decode method_4_code 23 = .ok (.dup, 1) := by decide +kernel
theorem d9_24 : decode method_4_code 24 = .ok (.iconst 1, 1) := by decide +kernel
theorem d9_25 : decode method_4_code 25 = .ok (.newarray .char, 2) := by decide +kernel
theorem d9_27 : decode method_4_code 27 = .ok (.dup, 1) := by decide +kernel
theorem d9_28 : decode method_4_code 28 = .ok (.iconst 0, 1) := by decide +kernel
theorem d9_29 : decode method_4_code 29 = .ok (.iload_n 1, 1) := by decide +kernel
theorem d9_30 : decode method_4_code 30 = .ok (.castore, 1) := by decide +kernel
theorem d9_31 : decode method_4_code 31 = .ok (.invokespecial 57, 3) := by decide +kernel
theorem d9_34 : decode method_4_code 34 = .ok (.areturn, 1) := by decide +kernel
theorem d9_35 : decode method_4_code 35 = .ok (.iload_n 0, 1) := by decide +kernel
theorem d9_36 : decode method_4_code 36 = .ok (.iconst 2, 1) := by decide +kernel
theorem d9_37 : decode method_4_code 37 = .ok (.if_icmp .ne 22, 3) := by decide +kernel
theorem d9_40 : decode method_4_code 40 = .ok (.new 35, 3) := by decide +kernel
theorem d9_43 : decode method_4_code 43 = .ok (.dup, 1) := by decide +kernel
theorem d9_44 : decode method_4_code 44 = .ok (.iconst 2, 1) := by decide +kernel
theorem d9_45 : decode method_4_code 45 = .ok (.newarray .char, 2) := by decide +kernel
theorem d9_47 : decode method_4_code 47 = .ok (.dup, 1) := by decide +kernel
theorem d9_48 : decode method_4_code 48 = .ok (.iconst 0, 1) := by decide +kernel
theorem d9_49 : decode method_4_code 49 = .ok (.iload_n 1, 1) := by decide +kernel
theorem d9_50 : decode method_4_code 50 = .ok (.castore, 1) := by decide +kernel
theorem d9_51 : decode method_4_code 51 = .ok (.dup, 1) := by decide +kernel
theorem d9_52 : decode method_4_code 52 = .ok (.iconst 1, 1) := by decide +kernel
theorem d9_53 : decode method_4_code 53 = .ok (.iload_n 2, 1) := by decide +kernel
theorem d9_54 : decode method_4_code 54 = .ok (.castore, 1) := by decide +kernel
theorem d9_55 : decode method_4_code 55 = .ok (.invokespecial 57, 3) := by decide +kernel
theorem d9_58 : decode method_4_code 58 = .ok (.areturn, 1) := by decide +kernel
theorem d9_59 : decode method_4_code 59 = .ok (.iload_n 0, 1) := by decide +kernel
theorem d9_60 : decode method_4_code 60 = .ok (.iconst 3, 1) := by decide +kernel
theorem d9_61 : decode method_4_code 61 = .ok (.if_icmp .ne 26, 3) := by decide +kernel
theorem d9_64 : decode method_4_code 64 = .ok (.new 35, 3) := by decide +kernel
theorem d9_67 : decode method_4_code 67 = .ok (.dup, 1) := by decide +kernel
theorem d9_68 : decode method_4_code 68 = .ok (.iconst 3, 1) := by decide +kernel
theorem d9_69 : decode method_4_code 69 = .ok (.newarray .char, 2) := by decide +kernel
theorem d9_71 : decode method_4_code 71 = .ok (.dup, 1) := by decide +kernel
theorem d9_72 : decode method_4_code 72 = .ok (.iconst 0, 1) := by decide +kernel
theorem d9_73 : decode method_4_code 73 = .ok (.iload_n 1, 1) := by decide +kernel
theorem d9_74 : decode method_4_code 74 = .ok (.castore, 1) := by decide +kernel
theorem d9_75 : decode method_4_code 75 = .ok (.dup, 1) := by decide +kernel
theorem d9_76 : decode method_4_code 76 = .ok (.iconst 1, 1) := by decide +kernel
theorem d9_77 : decode method_4_code 77 = .ok (.iload_n 2, 1) := by decide +kernel
theorem d9_78 : decode method_4_code 78 = .ok (.castore, 1) := by decide +kernel
theorem d9_79 : decode method_4_code 79 = .ok (.dup, 1) := by decide +kernel
theorem d9_80 : decode method_4_code 80 = .ok (.iconst 2, 1) := by decide +kernel
theorem d9_81 : decode method_4_code 81 = .ok (.iload_n 3, 1) := by decide +kernel
theorem d9_82 : decode method_4_code 82 = .ok (.castore, 1) := by decide +kernel
theorem d9_83 : decode method_4_code 83 = .ok (.invokespecial 57, 3) := by decide +kernel
theorem d9_86 : decode method_4_code 86 = .ok (.areturn, 1) := by decide +kernel
theorem d9_87 : decode method_4_code 87 = .ok (.iload_n 0, 1) := by decide +kernel
theorem d9_88 : decode method_4_code 88 = .ok (.iconst 4, 1) := by decide +kernel
theorem d9_89 : decode method_4_code 89 = .ok (.if_icmp .ne 31, 3) := by decide +kernel
theorem d9_92 : decode method_4_code 92 = .ok (.new 35, 3) := by decide +kernel
theorem d9_95 : decode method_4_code 95 = .ok (.dup, 1) := by decide +kernel
theorem d9_96 : decode method_4_code 96 = .ok (.iconst 4, 1) := by decide +kernel
theorem d9_97 : decode method_4_code 97 = .ok (.newarray .char, 2) := by decide +kernel
theorem d9_99 : decode method_4_code 99 = .ok (.dup, 1) := by decide +kernel
theorem d9_100 : decode method_4_code 100 = .ok (.iconst 0, 1) := by decide +kernel
theorem d9_101 : decode method_4_code 101 = .ok (.iload_n 1, 1) := by decide +kernel
theorem d9_102 : decode method_4_code 102 = .ok (.castore, 1) := by decide +kernel
theorem d9_103 : decode method_4_code 103 = .ok (.dup, 1) := by decide +kernel
theorem d9_104 : decode method_4_code 104 = .ok (.iconst 1, 1) := by decide +kernel
theorem d9_105 : decode method_4_code 105 = .ok (.iload_n 2, 1) := by decide +kernel
theorem d9_106 : decode method_4_code 106 = .ok (.castore, 1) := by decide +kernel
theorem d9_107 : decode method_4_code 107 = .ok (.dup, 1) := by decide +kernel
theorem d9_108 : decode method_4_code 108 = .ok (.iconst 2, 1) := by decide +kernel
theorem d9_109 : decode method_4_code 109 = .ok (.iload_n 3, 1) := by decide +kernel
theorem d9_110 : decode method_4_code 110 = .ok (.castore, 1) := by decide +kernel
theorem d9_111 : decode method_4_code 111 = .ok (.dup, 1) := by decide +kernel
theorem d9_112 : decode method_4_code 112 = .ok (.iconst 3, 1) := by decide +kernel
theorem d9_113 : decode method_4_code 113 = .ok (.iload 4, 2) := by decide +kernel
theorem d9_115 : decode method_4_code 115 = .ok (.castore, 1) := by decide +kernel
theorem d9_116 : decode method_4_code 116 = .ok (.invokespecial 57, 3) := by decide +kernel
theorem d9_119 : decode method_4_code 119 = .ok (.areturn, 1) := by decide +kernel
theorem d9_120 : decode method_4_code 120 = .ok (.iload_n 0, 1) := by decide +kernel
theorem d9_121 : decode method_4_code 121 = .ok (.iconst 5, 1) := by decide +kernel
theorem d9_122 : decode method_4_code 122 = .ok (.if_icmp .ne 36, 3) := by decide +kernel
theorem d9_125 : decode method_4_code 125 = .ok (.new 35, 3) := by decide +kernel
theorem d9_128 : decode method_4_code 128 = .ok (.dup, 1) := by decide +kernel
theorem d9_129 : decode method_4_code 129 = .ok (.iconst 5, 1) := by decide +kernel
theorem d9_130 : decode method_4_code 130 = .ok (.newarray .char, 2) := by decide +kernel
theorem d9_132 : decode method_4_code 132 = .ok (.dup, 1) := by decide +kernel
theorem d9_133 : decode method_4_code 133 = .ok (.iconst 0, 1) := by decide +kernel
theorem d9_134 : decode method_4_code 134 = .ok (.iload_n 1, 1) := by decide +kernel
theorem d9_135 : decode method_4_code 135 = .ok (.castore, 1) := by decide +kernel
theorem d9_136 : decode method_4_code 136 = .ok (.dup, 1) := by decide +kernel
theorem d9_137 : decode method_4_code 137 = .ok (.iconst 1, 1) := by decide +kernel
theorem d9_138 : decode method_4_code 138 = .ok (.iload_n 2, 1) := by decide +kernel
theorem d9_139 : decode method_4_code 139 = .ok (.castore, 1) := by decide +kernel
theorem d9_140 : decode method_4_code 140 = .ok (.dup, 1) := by decide +kernel
theorem d9_141 : decode method_4_code 141 = .ok (.iconst 2, 1) := by decide +kernel
theorem d9_142 : decode method_4_code 142 = .ok (.iload_n 3, 1) := by decide +kernel
theorem d9_143 : decode method_4_code 143 = .ok (.castore, 1) := by decide +kernel
theorem d9_144 : decode method_4_code 144 = .ok (.dup, 1) := by decide +kernel
theorem d9_145 : decode method_4_code 145 = .ok (.iconst 3, 1) := by decide +kernel
theorem d9_146 : decode method_4_code 146 = .ok (.iload 4, 2) := by decide +kernel
theorem d9_148 : decode method_4_code 148 = .ok (.castore, 1) := by decide +kernel
theorem d9_149 : decode method_4_code 149 = .ok (.dup, 1) := by decide +kernel
theorem d9_150 : decode method_4_code 150 = .ok (.iconst 4, 1) := by decide +kernel
theorem d9_151 : decode method_4_code 151 = .ok (.iload 5, 2) := by decide +kernel
theorem d9_153 : decode method_4_code 153 = .ok (.castore, 1) := by decide +kernel
theorem d9_154 : decode method_4_code 154 = .ok (.invokespecial 57, 3) := by decide +kernel
theorem d9_157 : decode method_4_code 157 = .ok (.areturn, 1) := by decide +kernel
theorem d9_158 : decode method_4_code 158 = .ok (.iload_n 0, 1) := by decide +kernel
theorem d9_159 : decode method_4_code 159 = .ok (.bipush 6, 2) := by decide +kernel
theorem d9_161 : decode method_4_code 161 = .ok (.if_icmp .ne 42, 3) := by decide +kernel
theorem d9_164 : decode method_4_code 164 = .ok (.new 35, 3) := by decide +kernel
theorem d9_167 : decode method_4_code 167 = .ok (.dup, 1) := by decide +kernel
theorem d9_168 : decode method_4_code 168 = .ok (.bipush 6, 2) := by decide +kernel
theorem d9_170 : decode method_4_code 170 = .ok (.newarray .char, 2) := by decide +kernel
theorem d9_172 : decode method_4_code 172 = .ok (.dup, 1) := by decide +kernel
theorem d9_173 : decode method_4_code 173 = .ok (.iconst 0, 1) := by decide +kernel
theorem d9_174 : decode method_4_code 174 = .ok (.iload_n 1, 1) := by decide +kernel
theorem d9_175 : decode method_4_code 175 = .ok (.castore, 1) := by decide +kernel
theorem d9_176 : decode method_4_code 176 = .ok (.dup, 1) := by decide +kernel
theorem d9_177 : decode method_4_code 177 = .ok (.iconst 1, 1) := by decide +kernel
theorem d9_178 : decode method_4_code 178 = .ok (.iload_n 2, 1) := by decide +kernel
theorem d9_179 : decode method_4_code 179 = .ok (.castore, 1) := by decide +kernel
theorem d9_180 : decode method_4_code 180 = .ok (.dup, 1) := by decide +kernel
theorem d9_181 : decode method_4_code 181 = .ok (.iconst 2, 1) := by decide +kernel
theorem d9_182 : decode method_4_code 182 = .ok (.iload_n 3, 1) := by decide +kernel
theorem d9_183 : decode method_4_code 183 = .ok (.castore, 1) := by decide +kernel
theorem d9_184 : decode method_4_code 184 = .ok (.dup, 1) := by decide +kernel
theorem d9_185 : decode method_4_code 185 = .ok (.iconst 3, 1) := by decide +kernel
theorem d9_186 : decode method_4_code 186 = .ok (.iload 4, 2) := by decide +kernel
theorem d9_188 : decode method_4_code 188 = .ok (.castore, 1) := by decide +kernel
theorem d9_189 : decode method_4_code 189 = .ok (.dup, 1) := by decide +kernel
theorem d9_190 : decode method_4_code 190 = .ok (.iconst 4, 1) := by decide +kernel
theorem d9_191 : decode method_4_code 191 = .ok (.iload 5, 2) := by decide +kernel
theorem d9_193 : decode method_4_code 193 = .ok (.castore, 1) := by decide +kernel
theorem d9_194 : decode method_4_code 194 = .ok (.dup, 1) := by decide +kernel
theorem d9_195 : decode method_4_code 195 = .ok (.iconst 5, 1) := by decide +kernel
theorem d9_196 : decode method_4_code 196 = .ok (.iload 6, 2) := by decide +kernel
theorem d9_198 : decode method_4_code 198 = .ok (.castore, 1) := by decide +kernel
theorem d9_199 : decode method_4_code 199 = .ok (.invokespecial 57, 3) := by decide +kernel
theorem d9_202 : decode method_4_code 202 = .ok (.areturn, 1) := by decide +kernel
theorem d9_203 : decode method_4_code 203 = .ok (.new 35, 3) := by decide +kernel
theorem d9_206 : decode method_4_code 206 = .ok (.dup, 1) := by decide +kernel
theorem d9_207 : decode method_4_code 207 = .ok (.bipush 7, 2) := by decide +kernel
theorem d9_209 : decode method_4_code 209 = .ok (.newarray .char, 2) := by decide +kernel
theorem d9_211 : decode method_4_code 211 = .ok (.dup, 1) := by decide +kernel
theorem d9_212 : decode method_4_code 212 = .ok (.iconst 0, 1) := by decide +kernel
theorem d9_213 : decode method_4_code 213 = .ok (.iload_n 1, 1) := by decide +kernel
theorem d9_214 : decode method_4_code 214 = .ok (.castore, 1) := by decide +kernel
theorem d9_215 : decode method_4_code 215 = .ok (.dup, 1) := by decide +kernel
theorem d9_216 : decode method_4_code 216 = .ok (.iconst 1, 1) := by decide +kernel
theorem d9_217 : decode method_4_code 217 = .ok (.iload_n 2, 1) := by decide +kernel
theorem d9_218 : decode method_4_code 218 = .ok (.castore, 1) := by decide +kernel
theorem d9_219 : decode method_4_code 219 = .ok (.dup, 1) := by decide +kernel
theorem d9_220 : decode method_4_code 220 = .ok (.iconst 2, 1) := by decide +kernel
theorem d9_221 : decode method_4_code 221 = .ok (.iload_n 3, 1) := by decide +kernel
theorem d9_222 : decode method_4_code 222 = .ok (.castore, 1) := by decide +kernel
theorem d9_223 : decode method_4_code 223 = .ok (.dup, 1) := by decide +kernel
theorem d9_224 : decode method_4_code 224 = .ok (.iconst 3, 1) := by decide +kernel
theorem d9_225 : decode method_4_code 225 = .ok (.iload 4, 2) := by decide +kernel
theorem d9_227 : decode method_4_code 227 = .ok (.castore, 1) := by decide +kernel
theorem d9_228 : decode method_4_code 228 = .ok (.dup, 1) := by decide +kernel
theorem d9_229 : decode method_4_code 229 = .ok (.iconst 4, 1) := by decide +kernel
theorem d9_230 : decode method_4_code 230 = .ok (.iload 5, 2) := by decide +kernel
theorem d9_232 : decode method_4_code 232 = .ok (.castore, 1) := by decide +kernel
theorem d9_233 : decode method_4_code 233 = .ok (.dup, 1) := by decide +kernel
theorem d9_234 : decode method_4_code 234 = .ok (.iconst 5, 1) := by decide +kernel
theorem d9_235 : decode method_4_code 235 = .ok (.iload 6, 2) := by decide +kernel
theorem d9_237 : decode method_4_code 237 = .ok (.castore, 1) := by decide +kernel
theorem d9_238 : decode method_4_code 238 = .ok (.dup, 1) := by decide +kernel
theorem d9_239 : decode method_4_code 239 = .ok (.bipush 6, 2) := by decide +kernel
theorem d9_241 : decode method_4_code 241 = .ok (.iload 7, 2) := by decide +kernel
theorem d9_243 : decode method_4_code 243 = .ok (.castore, 1) := by decide +kernel
theorem d9_244 : decode method_4_code 244 = .ok (.invokespecial 57, 3) := by decide +kernel
theorem d9_247 : decode method_4_code 247 = .ok (.areturn, 1) := by decide +kernel
theorem ef_9 (m : MethodId) (x0 : Int32) (x1 : Int32) (x2 : Int32) (x3 : Int32) (x4 : Int32) (x5 : Int32) (x6 : Int32) (x7 : Int32) : entryFrame m #[(.int x0), (.int x1), (.int x2), (.int x3), (.int x4), (.int x5), (.int x6), (.int x7)] 8 = mkF m 0 #[.val (.int x0), .val (.int x1), .val (.int x2), .val (.int x3), .val (.int x4), .val (.int x5), .val (.int x6), .val (.int x7)] [] := by first | (simp [entryFrame, mkF, argsToLocals, Value.category]; done) | rfl
def Q9 (Z : State) (nn : Int32) (q0 : Int32) (q1 : Int32) (q2 : Int32) (q3 : Int32) (q4 : Int32) (q5 : Int32) (q6 : Int32) (cs : Int32) (h0 : Heap) (n0 : Nat) (v : Option Value) (h : Heap) (L : List Loc) : Prop := ∃ (r : Addr) (tb : Addr) (kk : ClassId) (bl : List Int32), v = some (.ref r) ∧ Fr n0 L ∧ Keep h0 h [] ∧ h0.size ≤ r ∧ Exa Z h r "java/lang/String" ∧ Fld Z h r "java/lang/String" "value" "[B" (.ref tb) ∧ Fld Z h r "java/lang/String" "coder" "B" (.int (0 : Int32)) ∧ Arv Z h tb kk .byte (own_lg bl) (bl.map Value.int) (.int (0 : Int32)) ∧ (bl.length ≤ 1000) ∧ (tb < h.size) ∧ (r ≠ tb)
set_option maxRecDepth 65536 in
set_option maxHeartbeats 40000000 in
theorem rm9 (l : Launch) (Z : State) (a0 : Array Value) (hw : ∀ d ∈ tables_1, d.before a0 Z = true) (ws : List Jvm.Cond) (nn : Int32) (q0 : Int32) (q1 : Int32) (q2 : Int32) (q3 : Int32) (q4 : Int32) (q5 : Int32) (q6 : Int32) (cs : Int32) (h0 : Heap) (n0 : Nat) (Z0 : n0 ≤ h0.size) (O0 : Old Z n0 h0) (P1 : Sta Z Z.heap "java/lang/String" "COMPACT_STRINGS" "Z" (.int cs)) (hcs : ¬ cs = (0 : Int32)) (by0 : own_by q0) (by1 : own_by q1) (by2 : own_by q2) (by3 : own_by q3) (by4 : own_by q4) (by5 : own_by q5) (by6 : own_by q6) :
    MetFree l (⟨"com/example/numeric_planner/numericplanner/planner/KindOfPinLaw", "make", "(ICCCCCCC)Ljava/lang/String;"⟩ : MethodName) (head1 (Jvm.Cond.code (⟨"com/example/numeric_planner/numericplanner/planner/KindOfPinLaw", "make", "(ICCCCCCC)Ljava/lang/String;"⟩ : MethodName) method_4_code 8 (some (.object "java/lang/String")) :: ws) ({ frames := 4, cells := 6, slots := 18, locals := 66 } : Room)) (fun a U => a = #[(.int nn), (.int q0), (.int q1), (.int q2), (.int q3), (.int q4), (.int q5), (.int q6)] ∧ Z.Warmed39 U.vm ∧ U.heap = h0 ∧ CHv Z consts_1 U.vm h0) (fun _ _ _ _ _ => True) (fun _ U o U' => ∃ v L, o = .returned v ∧ Q9 Z nn q0 q1 q2 q3 q4 q5 q6 cs h0 n0 v U'.heap L ∧ CHr Z consts_1 U.vm U.heap U'.vm U'.heap ∧ ReturnedEndW U o U' L ({ frames := 4, cells := 6, slots := 18, locals := 66 } : Room).cells ({ frames := 4, cells := 6, slots := 18, locals := 66 } : Room).slots) := by
  refine MetFree.of_bodySF (plainFor_of_name own_pn3) hisR ?_
  intro p e s m args below meth c s₁ Bd hml0 hP hK
  obtain ⟨rfl, hZ, hh, hCH0⟩ := hP
  have hx := Bd.exec
  have hby := Bd.bytes
  have hml : c.maxLocals = 8 := hml0
  have hown : s.vm.findClass "com/example/numeric_planner/numericplanner/planner/KindOfPinLaw" = some m.cls := findClass_of_methodNamed Bd.named
  have hnm := (name_of_methodNamed Bd.named Bd.method).1
  have X0 : Stand p l e ({ frames := 4, cells := 6, slots := 18, locals := 66 } : Room) s m #[(.int nn), (.int q0), (.int q1), (.int q2), (.int q3), (.int q4), (.int q5), (.int q6)] below meth c s₁ [] 0 0 := Stand.of_body Bd
  have X0 : Stand p l e ({ frames := 4, cells := 6, slots := 18, locals := 66 } : Room) (s.setVm s.vm) m #[(.int nn), (.int q0), (.int q1), (.int q2), (.int q3), (.int q4), (.int q5), (.int q6)] below meth c s₁ [] 0 0 := X0
  have hZ : Z.Warmed39 (s.setVm s.vm).vm := hZ
  have hown : (s.setVm s.vm).vm.findClass "com/example/numeric_planner/numericplanner/planner/KindOfPinLaw" = some m.cls := hown
  have hS0 : s.Since s.vm 0 := State.WarmedH.since (State.WarmedH.refl s) 0
  have CR0 : CHr Z consts_1 s.vm h0 s.vm h0 := CHr.refl hCH0
  have e0 : s₁.heap = h0 := by rw [← hh, Bd.state]; rfl
  have N0 := Fr.nil n0
  have K0 : Keep h0 h0 [] := Keep.refl _ _
  suffices GO : ∀ P : Outcome → State → Prop, (∀ o U', (∃ v L, o = .returned v ∧ Q9 Z nn q0 q1 q2 q3 q4 q5 q6 cs h0 n0 v U'.heap L ∧ CHr Z consts_1 s.vm s.heap U'.vm U'.heap ∧ ReturnedEndW s o U' L ({ frames := 4, cells := 6, slots := 18, locals := 66 } : Room).cells ({ frames := 4, cells := 6, slots := 18, locals := 66 } : Room).slots) → P o U') → Go p.tables e below P s₁ (mkF m 0 #[.val (.int nn), .val (.int q0), .val (.int q1), .val (.int q2), .val (.int q3), .val (.int q4), .val (.int q5), .val (.int q6)] []) by
    obtain ⟨s2, o, st, r⟩ := GO _ (fun _ _ q => q)
    exact ⟨s2, o, castTop (ef_9 m nn q0 q1 q2 q3 q4 q5 q6) st, r⟩
  intro P hP
  show Go p.tables e below P s₁ (mkF m 0 #[.val (.int nn), .val (.int q0), .val (.int q1), .val (.int q2), .val (.int q3), .val (.int q4), .val (.int q5), .val (.int q6)] [])
  refine Go.via (fun t k => XS.iloadN X0.here hx rfl (hb hby d9_0) rfl k) ?_
  show Go p.tables e below P s₁ (mkF m 1 #[.val (.int nn), .val (.int q0), .val (.int q1), .val (.int q2), .val (.int q3), .val (.int q4), .val (.int q5), .val (.int q6)] [(.int nn)])
  by_cases hc1 : nn = (0 : Int32)
  · refine Go.via (fun t k => XS.ifNo X0.here hx rfl (hb hby d9_1) rfl ((if0 _ _).trans (teq hc1).2) k) ?_
    show Go p.tables e below P s₁ (mkF m 4 #[.val (.int nn), .val (.int q0), .val (.int q1), .val (.int q2), .val (.int q3), .val (.int q4), .val (.int q5), .val (.int q6)] [])
    obtain ⟨T2, h2, X2, e2, E2, A2, D2, -, st2⟩ := newO X0 hx hZ hown (hw _ (List.mem_of_getElem? (i := 51) rfl)) (hw _ (List.mem_of_getElem? (i := 2) rfl)) (hw _ (List.mem_of_getElem? (i := 1) rfl)) e0 (g := (mkF m 4 #[.val (.int nn), .val (.int q0), .val (.int q1), .val (.int q2), .val (.int q3), .val (.int q4), .val (.int q5), .val (.int q6)] [])) rfl (hb hby d9_4) (by decide) (by decide)
    obtain ⟨b2, g2⟩ : ∃ z, z = h0.size := ⟨_, rfl⟩
    rw [← g2] at A2 D2 st2
    refine Go.via st2 ?_
    have g3 : n0 ≤ b2 := Nat.le_trans Z0 (Nat.le_of_eq g2.symm)
    have sz4 : h0.size ≤ b2 := Nat.le_trans K0.1 (Nat.le_of_eq g2.symm)
    have Z5 : n0 ≤ h2.size := Nat.le_trans Z0 E2.1
    have K6 : Keep h0 h2 [] := K0.ext E2
    have O7 : Old Z n0 h2 := O0.ext E2
    have CR8 := CHr.trans CR0 (CHr.ext E2 CR0.1)
    show Go p.tables e below P T2 (mkF m 7 #[.val (.int nn), .val (.int q0), .val (.int q1), .val (.int q2), .val (.int q3), .val (.int q4), .val (.int q5), .val (.int q6)] [(.ref b2)])
    refine Go.via (fun t k => XS.dup X2.here hx rfl (hb hby d9_7) rfl rfl k) ?_
    show Go p.tables e below P T2 (mkF m 8 #[.val (.int nn), .val (.int q0), .val (.int q1), .val (.int q2), .val (.int q3), .val (.int q4), .val (.int q5), .val (.int q6)] [(.ref b2), (.ref b2)])
    refine Go.via (fun t k => XS.iconst X2.here hx rfl (hb hby d9_8) k) ?_
    show Go p.tables e below P T2 (mkF m 9 #[.val (.int nn), .val (.int q0), .val (.int q1), .val (.int q2), .val (.int q3), .val (.int q4), .val (.int q5), .val (.int q6)] [(.int (0 : Int32)), (.ref b2), (.ref b2)])
    obtain ⟨T9, h9, k9, X9, e9, E9, A9, st9⟩ := newP X2 hx hZ (hw _ (List.mem_of_getElem? (i := 52) rfl)) e2 (g := (mkF m 9 #[.val (.int nn), .val (.int q0), .val (.int q1), .val (.int q2), .val (.int q3), .val (.int q4), .val (.int q5), .val (.int q6)] [(.int (0 : Int32)), (.ref b2), (.ref b2)])) rfl (hb hby d9_9) rfl (by decide) (cap := 0) (by decide) (by decide) (by decide) (by decide)
    obtain ⟨b9, g9⟩ : ∃ z, z = h2.size := ⟨_, rfl⟩
    rw [← g9] at A9 st9
    refine Go.via st9 ?_
    have ne10 : b2 ≠ b9 := Nat.ne_of_lt (Nat.lt_of_lt_of_le A2.lt (Nat.le_of_eq g9.symm))
    have g11 : n0 ≤ b9 := Nat.le_trans Z5 (Nat.le_of_eq g9.symm)
    have sz12 : h0.size ≤ b9 := Nat.le_trans K6.1 (Nat.le_of_eq g9.symm)
    have Z13 : n0 ≤ h9.size := Nat.le_trans Z5 E9.1
    have K14 : Keep h0 h9 [] := K6.ext E9
    have O15 : Old Z n0 h9 := O7.ext E9
    have CR16 := CHr.trans CR8 (CHr.ext E9 CR8.1)
    have V9 : Arv Z h9 b9 k9 .char (0 : Int32) [] (.int (0 : Int32)) := (Arv.new A9 (by decide)).pad (pad_rep [] (.int (0 : Int32)) 0)
    show Go p.tables e below P T9 (mkF m 11 #[.val (.int nn), .val (.int q0), .val (.int q1), .val (.int q2), .val (.int q3), .val (.int q4), .val (.int q5), .val (.int q6)] [(.ref b9), (.ref b2), (.ref b2)])
    have F17 : Exa Z h9 b2 "java/lang/String" := (A2.ext E9)
    have F18 : Fld Z h9 b2 "java/lang/String" "value" "[B" .null := ((D2 (Or.inr (hw _ (List.mem_of_getElem? (i := 4) rfl))) (ty := (.array .byte)) (by decide) : Fld Z h2 b2 "java/lang/String" "value" "[B" .null).ext E9)
    have F19 : Fld Z h9 b2 "java/lang/String" "coder" "B" (.int (0 : Int32)) := ((D2 (Or.inr (hw _ (List.mem_of_getElem? (i := 5) rfl))) (ty := .byte) (by decide) : Fld Z h2 b2 "java/lang/String" "coder" "B" (.int (0 : Int32))).ext E9)
    obtain ⟨_, _, ⟨T20, L20, k20, n20⟩, -, X20, hSn20, hgn20, ⟨Lc20, hQ20, l20, y20, z20, hC20⟩, st20⟩ := X9.specialBackS hx (y := (⟨"java/lang/String", "<init>", "([C)V"⟩ : MethodName)) rfl hown (mvT hZ (hw _ (List.mem_of_getElem? (i := 53) rfl))) (mvT hZ (hw _ (List.mem_of_getElem? (i := 54) rfl))) (mvT hZ (hw _ (List.mem_of_getElem? (i := 55) rfl))) (by decide) (backOfSH (W := 1) (rm10 l Z a0 hw [] b2 b9 k9 [] (.int (0 : Int32)) h9 n0 Z13 F17 F18 F19 g3 V9) hZ (hw _ (List.mem_of_getElem? (i := 55) rfl)) (hw _ (List.mem_of_getElem? (i := 1) rfl)) (by decide) (by decide) (own_EW hw) CR16.1) (g := (mkF m 11 #[.val (.int nn), .val (.int q0), .val (.int q1), .val (.int q2), .val (.int q3), .val (.int q4), .val (.int q5), .val (.int q6)] [(.ref b9), (.ref b2), (.ref b2)])) rfl (by rw [hml]; rfl) (Steps.refl _) (a := b2) (argsL := [(.ref b9)]) (rest := [(.ref b2)]) (lenOf own_pd8 rfl) rfl (by show 2 * 0 + _ ≤ _; exact Nat.le_of_eq rfl) (hb hby d9_11) (fun _ _ => ⟨rfl, e9, (by decide : 2 + 4 ≤ _), (by decide : 4 + 8 ≤ _)⟩)
    dsimp only [Pt.U, Pt.locs, Pt.cells, Pt.slots] at X20 l20 y20 z20 st20 hQ20 hSn20 hgn20 hC20
    subst l20 y20 z20
    have hS20 : s.Since T20.vm T20.heap.size := foldS hS0 (by rw [e9]; exact (Nat.zero_le _)) hSn20 hgn20
    have X20 : Stand p l e ({ frames := 4, cells := 6, slots := 18, locals := 66 } : Room) (s.setVm T20.vm) m #[(.int nn), (.int q0), (.int q1), (.int q2), (.int q3), (.int q4), (.int q5), (.int q6)] below meth c T20 _ _ _ := X20
    have hown : (s.setVm T20.vm).vm.findClass "com/example/numeric_planner/numericplanner/planner/KindOfPinLaw" = some m.cls := by rw [show (s.setVm T20.vm).vm = T20.vm from rfl, hSn20.1.alike.findClass]; exact hown
    have hZ : Z.Warmed39 (s.setVm T20.vm).vm := State.Warmed39.trans (t := s.setVm s.vm) hZ hSn20.1
    obtain ⟨tb_20, kk_20, rfl, Nq20, K20, u20_0, u20_1, u20_2, u20_3, u20_4, u20_5⟩ := hQ20
    obtain ⟨lc20, Xh20, N20⟩ := own_hide X20 (Fr.app N0 Nq20)
    clear X20
    refine Go.hop st20 ?_
    have CR21 := CHr.trans CR16 hC20
    have Z22 : n0 ≤ T20.heap.size := Nat.le_trans Z13 K20.1
    have K23 : Keep h0 T20.heap [] := K14.trans K20 (own_allC (Or.inr sz4) own_all0)
    have O24 : Old Z n0 T20.heap := O15.keep K20 (own_allC g3 own_all0)
    have hk25 : T20.heap.size ≤ T20.heap.size := Nat.le_refl _
    show Go p.tables e below P T20 (mkF m 14 #[.val (.int nn), .val (.int q0), .val (.int q1), .val (.int q2), .val (.int q3), .val (.int q4), .val (.int q5), .val (.int q6)] [(.ref b2)])
    have Vr27 : Arv Z T20.heap tb_20 kk_20 .byte (own_lg ([] : List Int32)) (([] : List Int32).map Value.int) (.int (0 : Int32)) := by
      rw [show own_lg ([] : List Int32) = (0 : Int32) from rfl]; exact u20_3
    obtain ⟨fs, hr, hrun, hended, hend⟩ := Xh20.leaveW hS20 (by exact hk25) (v := some (.ref b2)) (fun h => by rw [Bd.returns] at h; cases h)
    have hCf : CHr Z consts_1 s.vm s.heap (T20.setFrames fs).vm (T20.setFrames fs).heap := by
      rw [hh]
      show CHr Z consts_1 s.vm h0 T20.vm T20.heap
      exact CHr.trans CR21 (CHv.at Xh20 hZ (own_EW hw) CR21.1)
    refine ⟨_, _, retA Xh20 hx Bd.returns rfl rfl rfl (hb hby d9_14) hr, hrun, hended, hP _ _ ⟨_, _, rfl, ?_, hCf, own_rew hend (by decide) (by decide)⟩⟩
    show Q9 Z nn q0 q1 q2 q3 q4 q5 q6 cs h0 n0 _ T20.heap _
    exact ⟨b2, tb_20, kk_20, ([] : List Int32), rfl, N20, K23, sz4, u20_0, u20_1, u20_2, Vr27, (by simp), Vr27.lt, u20_5⟩
  · refine Go.via (fun t k => XS.ifYes X0.here hx rfl (pc0 := 1) (pc' := 15) rfl (hb hby d9_1) rfl ((if0 _ _).trans (feq hc1).2) (by decide) (by decide) k) ?_
    show Go p.tables e below P s₁ (mkF m 15 #[.val (.int nn), .val (.int q0), .val (.int q1), .val (.int q2), .val (.int q3), .val (.int q4), .val (.int q5), .val (.int q6)] [])
    refine Go.via (fun t k => XS.iloadN X0.here hx rfl (hb hby d9_15) rfl k) ?_
    show Go p.tables e below P s₁ (mkF m 16 #[.val (.int nn), .val (.int q0), .val (.int q1), .val (.int q2), .val (.int q3), .val (.int q4), .val (.int q5), .val (.int q6)] [(.int nn)])
    refine Go.via (fun t k => XS.iconst X0.here hx rfl (hb hby d9_16) k) ?_
    show Go p.tables e below P s₁ (mkF m 17 #[.val (.int nn), .val (.int q0), .val (.int q1), .val (.int q2), .val (.int q3), .val (.int q4), .val (.int q5), .val (.int q6)] [(.int (1 : Int32)), (.int nn)])
    by_cases hc28 : nn = (1 : Int32)
    · refine Go.via (fun t k => XS.icmpNo X0.here hx rfl (hb hby d9_17) rfl (teq hc28).2 k) ?_
      show Go p.tables e below P s₁ (mkF m 20 #[.val (.int nn), .val (.int q0), .val (.int q1), .val (.int q2), .val (.int q3), .val (.int q4), .val (.int q5), .val (.int q6)] [])
      obtain ⟨T29, h29, X29, e29, E29, A29, D29, -, st29⟩ := newO X0 hx hZ hown (hw _ (List.mem_of_getElem? (i := 51) rfl)) (hw _ (List.mem_of_getElem? (i := 2) rfl)) (hw _ (List.mem_of_getElem? (i := 1) rfl)) e0 (g := (mkF m 20 #[.val (.int nn), .val (.int q0), .val (.int q1), .val (.int q2), .val (.int q3), .val (.int q4), .val (.int q5), .val (.int q6)] [])) rfl (hb hby d9_20) (by decide) (by decide)
      obtain ⟨b29, g29⟩ : ∃ z, z = h0.size := ⟨_, rfl⟩
      rw [← g29] at A29 D29 st29
      refine Go.via st29 ?_
      have g30 : n0 ≤ b29 := Nat.le_trans Z0 (Nat.le_of_eq g29.symm)
      have sz31 : h0.size ≤ b29 := Nat.le_trans K0.1 (Nat.le_of_eq g29.symm)
      have Z32 : n0 ≤ h29.size := Nat.le_trans Z0 E29.1
      have K33 : Keep h0 h29 [] := K0.ext E29
      have O34 : Old Z n0 h29 := O0.ext E29
      have CR35 := CHr.trans CR0 (CHr.ext E29 CR0.1)
      show Go p.tables e below P T29 (mkF m 23 #[.val (.int nn), .val (.int q0), .val (.int q1), .val (.int q2), .val (.int q3), .val (.int q4), .val (.int q5), .val (.int q6)] [(.ref b29)])
      refine Go.via (fun t k => XS.dup X29.here hx rfl (hb hby d9_23) rfl rfl k) ?_
      show Go p.tables e below P T29 (mkF m 24 #[.val (.int nn), .val (.int q0), .val (.int q1), .val (.int q2), .val (.int q3), .val (.int q4), .val (.int q5), .val (.int q6)] [(.ref b29), (.ref b29)])
      refine Go.via (fun t k => XS.iconst X29.here hx rfl (hb hby d9_24) k) ?_
      show Go p.tables e below P T29 (mkF m 25 #[.val (.int nn), .val (.int q0), .val (.int q1), .val (.int q2), .val (.int q3), .val (.int q4), .val (.int q5), .val (.int q6)] [(.int (1 : Int32)), (.ref b29), (.ref b29)])
      obtain ⟨T36, h36, k36, X36, e36, E36, A36, st36⟩ := newP X29 hx hZ (hw _ (List.mem_of_getElem? (i := 52) rfl)) e29 (g := (mkF m 25 #[.val (.int nn), .val (.int q0), .val (.int q1), .val (.int q2), .val (.int q3), .val (.int q4), .val (.int q5), .val (.int q6)] [(.int (1 : Int32)), (.ref b29), (.ref b29)])) rfl (hb hby d9_25) rfl (by decide) (cap := 1) (by decide) (by decide) (by decide) (by decide)
      obtain ⟨b36, g36⟩ : ∃ z, z = h29.size := ⟨_, rfl⟩
      rw [← g36] at A36 st36
      refine Go.via st36 ?_
      have ne37 : b29 ≠ b36 := Nat.ne_of_lt (Nat.lt_of_lt_of_le A29.lt (Nat.le_of_eq g36.symm))
      have g38 : n0 ≤ b36 := Nat.le_trans Z32 (Nat.le_of_eq g36.symm)
      have sz39 : h0.size ≤ b36 := Nat.le_trans K33.1 (Nat.le_of_eq g36.symm)
      have Z40 : n0 ≤ h36.size := Nat.le_trans Z32 E36.1
      have K41 : Keep h0 h36 [] := K33.ext E36
      have O42 : Old Z n0 h36 := O34.ext E36
      have CR43 := CHr.trans CR35 (CHr.ext E36 CR35.1)
      have V36 : Arv Z h36 b36 k36 .char (1 : Int32) [(.int (0 : Int32))] (.int (0 : Int32)) := (Arv.new A36 (by decide)).pad (pad_rep [] (.int (0 : Int32)) 1)
      show Go p.tables e below P T36 (mkF m 27 #[.val (.int nn), .val (.int q0), .val (.int q1), .val (.int q2), .val (.int q3), .val (.int q4), .val (.int q5), .val (.int q6)] [(.ref b36), (.ref b29), (.ref b29)])
      refine Go.via (fun t k => XS.dup X36.here hx rfl (hb hby d9_27) rfl rfl k) ?_
      show Go p.tables e below P T36 (mkF m 28 #[.val (.int nn), .val (.int q0), .val (.int q1), .val (.int q2), .val (.int q3), .val (.int q4), .val (.int q5), .val (.int q6)] [(.ref b36), (.ref b36), (.ref b29), (.ref b29)])
      refine Go.via (fun t k => XS.iconst X36.here hx rfl (hb hby d9_28) k) ?_
      show Go p.tables e below P T36 (mkF m 29 #[.val (.int nn), .val (.int q0), .val (.int q1), .val (.int q2), .val (.int q3), .val (.int q4), .val (.int q5), .val (.int q6)] [(.int (0 : Int32)), (.ref b36), (.ref b36), (.ref b29), (.ref b29)])
      refine Go.via (fun t k => XS.iloadN X36.here hx rfl (hb hby d9_29) rfl k) ?_
      show Go p.tables e below P T36 (mkF m 30 #[.val (.int nn), .val (.int q0), .val (.int q1), .val (.int q2), .val (.int q3), .val (.int q4), .val (.int q5), .val (.int q6)] [(.int q0), (.int (0 : Int32)), (.ref b36), (.ref b36), (.ref b29), (.ref b29)])
      have F44 : Exa Z h36 b29 "java/lang/String" := (A29.ext E36)
      have F45 : Fld Z h36 b29 "java/lang/String" "value" "[B" .null := ((D29 (Or.inr (hw _ (List.mem_of_getElem? (i := 4) rfl))) (ty := (.array .byte)) (by decide) : Fld Z h29 b29 "java/lang/String" "value" "[B" .null).ext E36)
      have F46 : Fld Z h36 b29 "java/lang/String" "coder" "B" (.int (0 : Int32)) := ((D29 (Or.inr (hw _ (List.mem_of_getElem? (i := 5) rfl))) (ty := .byte) (by decide) : Fld Z h29 b29 "java/lang/String" "coder" "B" (.int (0 : Int32))).ext E36)
      obtain ⟨c47, A47, q47, S47, N47, H47, G47⟩ := id V36
      have hin47 : ¬ ((0 : Int32) < 0 ∨ c47.slots.size ≤ ((0 : Int32)).toNatClampNeg) := inb_of S47 ⟨by decide, by decide⟩
      obtain ⟨T47, h47, X47, e47, W47, st47⟩ := stC X36 hx hZ e36 A47 (j := (0 : Int32)) hin47 (g := (mkF m 30 #[.val (.int nn), .val (.int q0), .val (.int q1), .val (.int q2), .val (.int q3), .val (.int q4), .val (.int q5), .val (.int q6)] [(.int q0), (.int (0 : Int32)), (.ref b36), (.ref b36), (.ref b29), (.ref b29)])) rfl rfl (hb hby d9_30)
      refine Go.via st47 ?_
      have Z48 : n0 ≤ h47.size := Nat.le_trans Z40 (Nat.le_of_eq W47.size.symm)
      have K49 : Keep h0 h47 [] := K41.wr W47 (Or.inr sz39)
      obtain ⟨lc47, Xh47, N50⟩ := own_hide X47 (Fr.snoc X47 N0 g38)
      clear X47
      have O51 : Old Z n0 h47 := O42.wr W47 g38
      have Sf47 := Safe.wr W47 (Safe.arv hZ.alike V36 (by decide)) CR43.1 (Safe.arv hZ.alike V36 (by decide))
      have CR52 := CHr.trans CR43 (CHr.wr W47 (Safe.arv hZ.alike V36 (by decide)) CR43.1)
      have V47 : Arv Z h47 b36 k36 .char (1 : Int32) [(.int (nar .char q0))] (.int (0 : Int32)) := Arv.set A47 q47 S47 N47 H47 G47 (fits_nar_char _) W47 0 rfl (Nat.le_of_ble_eq_true rfl)
      show Go p.tables e below P T47 (mkF m 31 #[.val (.int nn), .val (.int q0), .val (.int q1), .val (.int q2), .val (.int q3), .val (.int q4), .val (.int q5), .val (.int q6)] [(.ref b36), (.ref b29), (.ref b29)])
      have F53 : Exa Z h47 b29 "java/lang/String" := (F44.wr W47)
      have F54 : Fld Z h47 b29 "java/lang/String" "value" "[B" .null := (F45.other W47 (Or.inl ne37))
      have F55 : Fld Z h47 b29 "java/lang/String" "coder" "B" (.int (0 : Int32)) := (F46.other W47 (Or.inl ne37))
      obtain ⟨_, _, ⟨T56, L56, k56, n56⟩, -, X56, ⟨Lc56, hQ56, l56, y56, z56⟩, st56⟩ := Xh47.specialBack hx (y := (⟨"java/lang/String", "<init>", "([C)V"⟩ : MethodName)) rfl hown (mvT hZ (hw _ (List.mem_of_getElem? (i := 53) rfl))) (mvT hZ (hw _ (List.mem_of_getElem? (i := 54) rfl))) (mvT hZ (hw _ (List.mem_of_getElem? (i := 55) rfl))) (by decide) (StrChars.Road.backV (W := 1) hZ (own_ws hw) (kI := 4) (hw _ (List.mem_of_getElem? (i := 2) rfl)) (cs := ([(nar .char q0)] : List Int32)) (bs := ([((nar .char q0)).toInt8.toInt32] : List Int32)) (n := 1) g30 Z48 F53 F54 F55 V47 (P1.ext O51.2) hcs rfl rfl (by decide) (by decide) (own_alC (own_hp by0) own_al0) rfl (by decide) (by decide)) (g := (mkF m 31 #[.val (.int nn), .val (.int q0), .val (.int q1), .val (.int q2), .val (.int q3), .val (.int q4), .val (.int q5), .val (.int q6)] [(.ref b36), (.ref b29), (.ref b29)])) rfl (by rw [hml]; rfl) (Steps.refl _) (a := b29) (argsL := [(.ref b36)]) (rest := [(.ref b29)]) (lenOf own_pd8 rfl) rfl (by show 2 * 0 + _ ≤ _; exact Nat.le_of_eq rfl) (hb hby d9_31) (fun _ _ => ⟨rfl, e47, (by decide : 2 + 1 ≤ _), (by decide : 5 + 1 ≤ _)⟩)
      dsimp only [Pt.U, Pt.locs, Pt.cells, Pt.slots] at X56 l56 y56 z56 st56 hQ56
      subst l56 y56 z56
      obtain ⟨rfl, Nq56, K56, Ex56, Fc56, t56, kb56, -, lt56, ne56, Fv56, Va56⟩ := hQ56
      obtain ⟨lc56, Xh56, N56⟩ := own_hide X56 (Fr.app N50 Nq56)
      clear X56
      refine Go.hop st56 ?_
      have ne57 : b29 ≠ t56 := Nat.ne_of_lt (Nat.lt_of_lt_of_le F53.lt lt56)
      have ne58 : b36 ≠ t56 := Nat.ne_of_lt (Nat.lt_of_lt_of_le V47.lt lt56)
      have g59 : n0 ≤ t56 := Nat.le_trans Z48 lt56
      have sz60 : h0.size ≤ t56 := Nat.le_trans K49.1 lt56
      have Z61 : n0 ≤ T56.heap.size := Nat.le_trans Z48 K56.1
      have K62 : Keep h0 T56.heap [] := K49.trans K56 (own_allC (Or.inr sz31) own_all0)
      have CR63 := CHr.trans CR52 (CHr.keep K56 (sfS (own_safeS hZ.alike F53 F54) sf0) CR52.1)
      have O64 : Old Z n0 T56.heap := O51.keep K56 (own_allC g30 own_all0)
      have Vt56 : Arv Z T56.heap t56 kb56 .byte (1 : Int32) [(.int ((nar .char q0)).toInt8.toInt32)] (.int (0 : Int32)) := Va56
      show Go p.tables e below P T56 (mkF m 34 #[.val (.int nn), .val (.int q0), .val (.int q1), .val (.int q2), .val (.int q3), .val (.int q4), .val (.int q5), .val (.int q6)] [(.ref b29)])
      have Vr66 : Arv Z T56.heap t56 kb56 .byte (own_lg ([((nar .char q0)).toInt8.toInt32] : List Int32)) (([((nar .char q0)).toInt8.toInt32] : List Int32).map Value.int) (.int (0 : Int32)) := by
        rw [show own_lg ([((nar .char q0)).toInt8.toInt32] : List Int32) = (1 : Int32) from rfl]; exact Vt56
      obtain ⟨fs, hr, hrun, hended, hend⟩ := Xh56.leaveW hS0 (by exact (Nat.zero_le _)) (v := some (.ref b29)) (fun h => by rw [Bd.returns] at h; cases h)
      have hCf : CHr Z consts_1 s.vm s.heap (T56.setFrames fs).vm (T56.setFrames fs).heap := by
        rw [hh]
        show CHr Z consts_1 s.vm h0 T56.vm T56.heap
        exact CHr.trans CR63 (CHv.at Xh56 hZ (own_EW hw) CR63.1)
      refine ⟨_, _, retA Xh56 hx Bd.returns rfl rfl rfl (hb hby d9_34) hr, hrun, hended, hP _ _ ⟨_, _, rfl, ?_, hCf, own_rew hend (by decide) (by decide)⟩⟩
      show Q9 Z nn q0 q1 q2 q3 q4 q5 q6 cs h0 n0 _ T56.heap _
      exact ⟨b29, t56, kb56, ([((nar .char q0)).toInt8.toInt32] : List Int32), rfl, N56, K62, sz31, Ex56, Fv56, Fc56, Vr66, (by simp), Vr66.lt, ne57⟩
    · refine Go.via (fun t k => XS.icmpYes X0.here hx rfl (pc0 := 17) (pc' := 35) rfl (hb hby d9_17) rfl (feq hc28).2 (by decide) (by decide) k) ?_
      show Go p.tables e below P s₁ (mkF m 35 #[.val (.int nn), .val (.int q0), .val (.int q1), .val (.int q2), .val (.int q3), .val (.int q4), .val (.int q5), .val (.int q6)] [])
      refine Go.via (fun t k => XS.iloadN X0.here hx rfl (hb hby d9_35) rfl k) ?_
      show Go p.tables e below P s₁ (mkF m 36 #[.val (.int nn), .val (.int q0), .val (.int q1), .val (.int q2), .val (.int q3), .val (.int q4), .val (.int q5), .val (.int q6)] [(.int nn)])
      refine Go.via (fun t k => XS.iconst X0.here hx rfl (hb hby d9_36) k) ?_
      show Go p.tables e below P s₁ (mkF m 37 #[.val (.int nn), .val (.int q0), .val (.int q1), .val (.int q2), .val (.int q3), .val (.int q4), .val (.int q5), .val (.int q6)] [(.int (2 : Int32)), (.int nn)])
      by_cases hc67 : nn = (2 : Int32)
      · refine Go.via (fun t k => XS.icmpNo X0.here hx rfl (hb hby d9_37) rfl (teq hc67).2 k) ?_
        show Go p.tables e below P s₁ (mkF m 40 #[.val (.int nn), .val (.int q0), .val (.int q1), .val (.int q2), .val (.int q3), .val (.int q4), .val (.int q5), .val (.int q6)] [])
        obtain ⟨T68, h68, X68, e68, E68, A68, D68, -, st68⟩ := newO X0 hx hZ hown (hw _ (List.mem_of_getElem? (i := 51) rfl)) (hw _ (List.mem_of_getElem? (i := 2) rfl)) (hw _ (List.mem_of_getElem? (i := 1) rfl)) e0 (g := (mkF m 40 #[.val (.int nn), .val (.int q0), .val (.int q1), .val (.int q2), .val (.int q3), .val (.int q4), .val (.int q5), .val (.int q6)] [])) rfl (hb hby d9_40) (by decide) (by decide)
        obtain ⟨b68, g68⟩ : ∃ z, z = h0.size := ⟨_, rfl⟩
        rw [← g68] at A68 D68 st68
        refine Go.via st68 ?_
        have g69 : n0 ≤ b68 := Nat.le_trans Z0 (Nat.le_of_eq g68.symm)
        have sz70 : h0.size ≤ b68 := Nat.le_trans K0.1 (Nat.le_of_eq g68.symm)
        have Z71 : n0 ≤ h68.size := Nat.le_trans Z0 E68.1
        have K72 : Keep h0 h68 [] := K0.ext E68
        have O73 : Old Z n0 h68 := O0.ext E68
        have CR74 := CHr.trans CR0 (CHr.ext E68 CR0.1)
        show Go p.tables e below P T68 (mkF m 43 #[.val (.int nn), .val (.int q0), .val (.int q1), .val (.int q2), .val (.int q3), .val (.int q4), .val (.int q5), .val (.int q6)] [(.ref b68)])
        refine Go.via (fun t k => XS.dup X68.here hx rfl (hb hby d9_43) rfl rfl k) ?_
        show Go p.tables e below P T68 (mkF m 44 #[.val (.int nn), .val (.int q0), .val (.int q1), .val (.int q2), .val (.int q3), .val (.int q4), .val (.int q5), .val (.int q6)] [(.ref b68), (.ref b68)])
        refine Go.via (fun t k => XS.iconst X68.here hx rfl (hb hby d9_44) k) ?_
        show Go p.tables e below P T68 (mkF m 45 #[.val (.int nn), .val (.int q0), .val (.int q1), .val (.int q2), .val (.int q3), .val (.int q4), .val (.int q5), .val (.int q6)] [(.int (2 : Int32)), (.ref b68), (.ref b68)])
        obtain ⟨T75, h75, k75, X75, e75, E75, A75, st75⟩ := newP X68 hx hZ (hw _ (List.mem_of_getElem? (i := 52) rfl)) e68 (g := (mkF m 45 #[.val (.int nn), .val (.int q0), .val (.int q1), .val (.int q2), .val (.int q3), .val (.int q4), .val (.int q5), .val (.int q6)] [(.int (2 : Int32)), (.ref b68), (.ref b68)])) rfl (hb hby d9_45) rfl (by decide) (cap := 2) (by decide) (by decide) (by decide) (by decide)
        obtain ⟨b75, g75⟩ : ∃ z, z = h68.size := ⟨_, rfl⟩
        rw [← g75] at A75 st75
        refine Go.via st75 ?_
        have ne76 : b68 ≠ b75 := Nat.ne_of_lt (Nat.lt_of_lt_of_le A68.lt (Nat.le_of_eq g75.symm))
        have g77 : n0 ≤ b75 := Nat.le_trans Z71 (Nat.le_of_eq g75.symm)
        have sz78 : h0.size ≤ b75 := Nat.le_trans K72.1 (Nat.le_of_eq g75.symm)
        have Z79 : n0 ≤ h75.size := Nat.le_trans Z71 E75.1
        have K80 : Keep h0 h75 [] := K72.ext E75
        have O81 : Old Z n0 h75 := O73.ext E75
        have CR82 := CHr.trans CR74 (CHr.ext E75 CR74.1)
        have V75 : Arv Z h75 b75 k75 .char (2 : Int32) [(.int (0 : Int32)), (.int (0 : Int32))] (.int (0 : Int32)) := (Arv.new A75 (by decide)).pad (pad_rep [] (.int (0 : Int32)) 2)
        show Go p.tables e below P T75 (mkF m 47 #[.val (.int nn), .val (.int q0), .val (.int q1), .val (.int q2), .val (.int q3), .val (.int q4), .val (.int q5), .val (.int q6)] [(.ref b75), (.ref b68), (.ref b68)])
        refine Go.via (fun t k => XS.dup X75.here hx rfl (hb hby d9_47) rfl rfl k) ?_
        show Go p.tables e below P T75 (mkF m 48 #[.val (.int nn), .val (.int q0), .val (.int q1), .val (.int q2), .val (.int q3), .val (.int q4), .val (.int q5), .val (.int q6)] [(.ref b75), (.ref b75), (.ref b68), (.ref b68)])
        refine Go.via (fun t k => XS.iconst X75.here hx rfl (hb hby d9_48) k) ?_
        show Go p.tables e below P T75 (mkF m 49 #[.val (.int nn), .val (.int q0), .val (.int q1), .val (.int q2), .val (.int q3), .val (.int q4), .val (.int q5), .val (.int q6)] [(.int (0 : Int32)), (.ref b75), (.ref b75), (.ref b68), (.ref b68)])
        refine Go.via (fun t k => XS.iloadN X75.here hx rfl (hb hby d9_49) rfl k) ?_
        show Go p.tables e below P T75 (mkF m 50 #[.val (.int nn), .val (.int q0), .val (.int q1), .val (.int q2), .val (.int q3), .val (.int q4), .val (.int q5), .val (.int q6)] [(.int q0), (.int (0 : Int32)), (.ref b75), (.ref b75), (.ref b68), (.ref b68)])
        have F83 : Exa Z h75 b68 "java/lang/String" := (A68.ext E75)
        have F84 : Fld Z h75 b68 "java/lang/String" "value" "[B" .null := ((D68 (Or.inr (hw _ (List.mem_of_getElem? (i := 4) rfl))) (ty := (.array .byte)) (by decide) : Fld Z h68 b68 "java/lang/String" "value" "[B" .null).ext E75)
        have F85 : Fld Z h75 b68 "java/lang/String" "coder" "B" (.int (0 : Int32)) := ((D68 (Or.inr (hw _ (List.mem_of_getElem? (i := 5) rfl))) (ty := .byte) (by decide) : Fld Z h68 b68 "java/lang/String" "coder" "B" (.int (0 : Int32))).ext E75)
        obtain ⟨c86, A86, q86, S86, N86, H86, G86⟩ := id V75
        have hin86 : ¬ ((0 : Int32) < 0 ∨ c86.slots.size ≤ ((0 : Int32)).toNatClampNeg) := inb_of S86 ⟨by decide, by decide⟩
        obtain ⟨T86, h86, X86, e86, W86, st86⟩ := stC X75 hx hZ e75 A86 (j := (0 : Int32)) hin86 (g := (mkF m 50 #[.val (.int nn), .val (.int q0), .val (.int q1), .val (.int q2), .val (.int q3), .val (.int q4), .val (.int q5), .val (.int q6)] [(.int q0), (.int (0 : Int32)), (.ref b75), (.ref b75), (.ref b68), (.ref b68)])) rfl rfl (hb hby d9_50)
        refine Go.via st86 ?_
        have Z87 : n0 ≤ h86.size := Nat.le_trans Z79 (Nat.le_of_eq W86.size.symm)
        have K88 : Keep h0 h86 [] := K80.wr W86 (Or.inr sz78)
        obtain ⟨lc86, Xh86, N89⟩ := own_hide X86 (Fr.snoc X86 N0 g77)
        clear X86
        have O90 : Old Z n0 h86 := O81.wr W86 g77
        have Sf86 := Safe.wr W86 (Safe.arv hZ.alike V75 (by decide)) CR82.1 (Safe.arv hZ.alike V75 (by decide))
        have CR91 := CHr.trans CR82 (CHr.wr W86 (Safe.arv hZ.alike V75 (by decide)) CR82.1)
        have V86 : Arv Z h86 b75 k75 .char (2 : Int32) [(.int (nar .char q0)), (.int (0 : Int32))] (.int (0 : Int32)) := Arv.set A86 q86 S86 N86 H86 G86 (fits_nar_char _) W86 0 rfl (Nat.le_of_ble_eq_true rfl)
        show Go p.tables e below P T86 (mkF m 51 #[.val (.int nn), .val (.int q0), .val (.int q1), .val (.int q2), .val (.int q3), .val (.int q4), .val (.int q5), .val (.int q6)] [(.ref b75), (.ref b68), (.ref b68)])
        refine Go.via (fun t k => XS.dup Xh86.here hx rfl (hb hby d9_51) rfl rfl k) ?_
        show Go p.tables e below P T86 (mkF m 52 #[.val (.int nn), .val (.int q0), .val (.int q1), .val (.int q2), .val (.int q3), .val (.int q4), .val (.int q5), .val (.int q6)] [(.ref b75), (.ref b75), (.ref b68), (.ref b68)])
        refine Go.via (fun t k => XS.iconst Xh86.here hx rfl (hb hby d9_52) k) ?_
        show Go p.tables e below P T86 (mkF m 53 #[.val (.int nn), .val (.int q0), .val (.int q1), .val (.int q2), .val (.int q3), .val (.int q4), .val (.int q5), .val (.int q6)] [(.int (1 : Int32)), (.ref b75), (.ref b75), (.ref b68), (.ref b68)])
        refine Go.via (fun t k => XS.iloadN Xh86.here hx rfl (hb hby d9_53) rfl k) ?_
        show Go p.tables e below P T86 (mkF m 54 #[.val (.int nn), .val (.int q0), .val (.int q1), .val (.int q2), .val (.int q3), .val (.int q4), .val (.int q5), .val (.int q6)] [(.int q1), (.int (1 : Int32)), (.ref b75), (.ref b75), (.ref b68), (.ref b68)])
        have F92 : Exa Z h86 b68 "java/lang/String" := (F83.wr W86)
        have F93 : Fld Z h86 b68 "java/lang/String" "value" "[B" .null := (F84.other W86 (Or.inl ne76))
        have F94 : Fld Z h86 b68 "java/lang/String" "coder" "B" (.int (0 : Int32)) := (F85.other W86 (Or.inl ne76))
        obtain ⟨c95, A95, q95, S95, N95, H95, G95⟩ := id V86
        have hin95 : ¬ ((1 : Int32) < 0 ∨ c95.slots.size ≤ ((1 : Int32)).toNatClampNeg) := inb_of S95 ⟨by decide, by decide⟩
        obtain ⟨T95, h95, X95, e95, W95, st95⟩ := stC Xh86 hx hZ e86 A95 (j := (1 : Int32)) hin95 (g := (mkF m 54 #[.val (.int nn), .val (.int q0), .val (.int q1), .val (.int q2), .val (.int q3), .val (.int q4), .val (.int q5), .val (.int q6)] [(.int q1), (.int (1 : Int32)), (.ref b75), (.ref b75), (.ref b68), (.ref b68)])) rfl rfl (hb hby d9_54)
        refine Go.via st95 ?_
        have Z96 : n0 ≤ h95.size := Nat.le_trans Z87 (Nat.le_of_eq W95.size.symm)
        have K97 : Keep h0 h95 [] := K88.wr W95 (Or.inr sz78)
        obtain ⟨lc95, Xh95, N98⟩ := own_hide X95 (Fr.snoc X95 N89 g77)
        clear X95
        have O99 : Old Z n0 h95 := O90.wr W95 g77
        have Sf95 := Safe.wr W95 (Safe.arv hZ.alike V86 (by decide)) CR91.1 (Safe.arv hZ.alike V86 (by decide))
        have CR100 := CHr.trans CR91 (CHr.wr W95 (Safe.arv hZ.alike V86 (by decide)) CR91.1)
        have V95 : Arv Z h95 b75 k75 .char (2 : Int32) [(.int (nar .char q0)), (.int (nar .char q1))] (.int (0 : Int32)) := Arv.set A95 q95 S95 N95 H95 G95 (fits_nar_char _) W95 1 rfl (Nat.le_of_ble_eq_true rfl)
        show Go p.tables e below P T95 (mkF m 55 #[.val (.int nn), .val (.int q0), .val (.int q1), .val (.int q2), .val (.int q3), .val (.int q4), .val (.int q5), .val (.int q6)] [(.ref b75), (.ref b68), (.ref b68)])
        have F101 : Exa Z h95 b68 "java/lang/String" := (F92.wr W95)
        have F102 : Fld Z h95 b68 "java/lang/String" "value" "[B" .null := (F93.other W95 (Or.inl ne76))
        have F103 : Fld Z h95 b68 "java/lang/String" "coder" "B" (.int (0 : Int32)) := (F94.other W95 (Or.inl ne76))
        obtain ⟨_, _, ⟨T104, L104, k104, n104⟩, -, X104, ⟨Lc104, hQ104, l104, y104, z104⟩, st104⟩ := Xh95.specialBack hx (y := (⟨"java/lang/String", "<init>", "([C)V"⟩ : MethodName)) rfl hown (mvT hZ (hw _ (List.mem_of_getElem? (i := 53) rfl))) (mvT hZ (hw _ (List.mem_of_getElem? (i := 54) rfl))) (mvT hZ (hw _ (List.mem_of_getElem? (i := 55) rfl))) (by decide) (StrChars.Road.backV (W := 1) hZ (own_ws hw) (kI := 4) (hw _ (List.mem_of_getElem? (i := 2) rfl)) (cs := ([(nar .char q0), (nar .char q1)] : List Int32)) (bs := ([((nar .char q0)).toInt8.toInt32, ((nar .char q1)).toInt8.toInt32] : List Int32)) (n := 2) g69 Z96 F101 F102 F103 V95 (P1.ext O99.2) hcs rfl rfl (by decide) (by decide) (own_alC (own_hp by0) (own_alC (own_hp by1) own_al0)) rfl (by decide) (by decide)) (g := (mkF m 55 #[.val (.int nn), .val (.int q0), .val (.int q1), .val (.int q2), .val (.int q3), .val (.int q4), .val (.int q5), .val (.int q6)] [(.ref b75), (.ref b68), (.ref b68)])) rfl (by rw [hml]; rfl) (Steps.refl _) (a := b68) (argsL := [(.ref b75)]) (rest := [(.ref b68)]) (lenOf own_pd8 rfl) rfl (by show 2 * 0 + _ ≤ _; exact Nat.le_of_eq rfl) (hb hby d9_55) (fun _ _ => ⟨rfl, e95, (by decide : 2 + 1 ≤ _), (by decide : 6 + 2 ≤ _)⟩)
        dsimp only [Pt.U, Pt.locs, Pt.cells, Pt.slots] at X104 l104 y104 z104 st104 hQ104
        subst l104 y104 z104
        obtain ⟨rfl, Nq104, K104, Ex104, Fc104, t104, kb104, -, lt104, ne104, Fv104, Va104⟩ := hQ104
        obtain ⟨lc104, Xh104, N104⟩ := own_hide X104 (Fr.app N98 Nq104)
        clear X104
        refine Go.hop st104 ?_
        have ne105 : b68 ≠ t104 := Nat.ne_of_lt (Nat.lt_of_lt_of_le F101.lt lt104)
        have ne106 : b75 ≠ t104 := Nat.ne_of_lt (Nat.lt_of_lt_of_le V95.lt lt104)
        have g107 : n0 ≤ t104 := Nat.le_trans Z96 lt104
        have sz108 : h0.size ≤ t104 := Nat.le_trans K97.1 lt104
        have Z109 : n0 ≤ T104.heap.size := Nat.le_trans Z96 K104.1
        have K110 : Keep h0 T104.heap [] := K97.trans K104 (own_allC (Or.inr sz70) own_all0)
        have CR111 := CHr.trans CR100 (CHr.keep K104 (sfS (own_safeS hZ.alike F101 F102) sf0) CR100.1)
        have O112 : Old Z n0 T104.heap := O99.keep K104 (own_allC g69 own_all0)
        have Vt104 : Arv Z T104.heap t104 kb104 .byte (2 : Int32) [(.int ((nar .char q0)).toInt8.toInt32), (.int ((nar .char q1)).toInt8.toInt32)] (.int (0 : Int32)) := Va104
        show Go p.tables e below P T104 (mkF m 58 #[.val (.int nn), .val (.int q0), .val (.int q1), .val (.int q2), .val (.int q3), .val (.int q4), .val (.int q5), .val (.int q6)] [(.ref b68)])
        have Vr114 : Arv Z T104.heap t104 kb104 .byte (own_lg ([((nar .char q0)).toInt8.toInt32, ((nar .char q1)).toInt8.toInt32] : List Int32)) (([((nar .char q0)).toInt8.toInt32, ((nar .char q1)).toInt8.toInt32] : List Int32).map Value.int) (.int (0 : Int32)) := by
          rw [show own_lg ([((nar .char q0)).toInt8.toInt32, ((nar .char q1)).toInt8.toInt32] : List Int32) = (2 : Int32) from rfl]; exact Vt104
        obtain ⟨fs, hr, hrun, hended, hend⟩ := Xh104.leaveW hS0 (by exact (Nat.zero_le _)) (v := some (.ref b68)) (fun h => by rw [Bd.returns] at h; cases h)
        have hCf : CHr Z consts_1 s.vm s.heap (T104.setFrames fs).vm (T104.setFrames fs).heap := by
          rw [hh]
          show CHr Z consts_1 s.vm h0 T104.vm T104.heap
          exact CHr.trans CR111 (CHv.at Xh104 hZ (own_EW hw) CR111.1)
        refine ⟨_, _, retA Xh104 hx Bd.returns rfl rfl rfl (hb hby d9_58) hr, hrun, hended, hP _ _ ⟨_, _, rfl, ?_, hCf, own_rew hend (by decide) (by decide)⟩⟩
        show Q9 Z nn q0 q1 q2 q3 q4 q5 q6 cs h0 n0 _ T104.heap _
        exact ⟨b68, t104, kb104, ([((nar .char q0)).toInt8.toInt32, ((nar .char q1)).toInt8.toInt32] : List Int32), rfl, N104, K110, sz70, Ex104, Fv104, Fc104, Vr114, (by simp), Vr114.lt, ne105⟩
      · refine Go.via (fun t k => XS.icmpYes X0.here hx rfl (pc0 := 37) (pc' := 59) rfl (hb hby d9_37) rfl (feq hc67).2 (by decide) (by decide) k) ?_
        show Go p.tables e below P s₁ (mkF m 59 #[.val (.int nn), .val (.int q0), .val (.int q1), .val (.int q2), .val (.int q3), .val (.int q4), .val (.int q5), .val (.int q6)] [])
        refine Go.via (fun t k => XS.iloadN X0.here hx rfl (hb hby d9_59) rfl k) ?_
        show Go p.tables e below P s₁ (mkF m 60 #[.val (.int nn), .val (.int q0), .val (.int q1), .val (.int q2), .val (.int q3), .val (.int q4), .val (.int q5), .val (.int q6)] [(.int nn)])
        refine Go.via (fun t k => XS.iconst X0.here hx rfl (hb hby d9_60) k) ?_
        show Go p.tables e below P s₁ (mkF m 61 #[.val (.int nn), .val (.int q0), .val (.int q1), .val (.int q2), .val (.int q3), .val (.int q4), .val (.int q5), .val (.int q6)] [(.int (3 : Int32)), (.int nn)])
        by_cases hc115 : nn = (3 : Int32)
        · refine Go.via (fun t k => XS.icmpNo X0.here hx rfl (hb hby d9_61) rfl (teq hc115).2 k) ?_
          show Go p.tables e below P s₁ (mkF m 64 #[.val (.int nn), .val (.int q0), .val (.int q1), .val (.int q2), .val (.int q3), .val (.int q4), .val (.int q5), .val (.int q6)] [])
          obtain ⟨T116, h116, X116, e116, E116, A116, D116, -, st116⟩ := newO X0 hx hZ hown (hw _ (List.mem_of_getElem? (i := 51) rfl)) (hw _ (List.mem_of_getElem? (i := 2) rfl)) (hw _ (List.mem_of_getElem? (i := 1) rfl)) e0 (g := (mkF m 64 #[.val (.int nn), .val (.int q0), .val (.int q1), .val (.int q2), .val (.int q3), .val (.int q4), .val (.int q5), .val (.int q6)] [])) rfl (hb hby d9_64) (by decide) (by decide)
          obtain ⟨b116, g116⟩ : ∃ z, z = h0.size := ⟨_, rfl⟩
          rw [← g116] at A116 D116 st116
          refine Go.via st116 ?_
          have g117 : n0 ≤ b116 := Nat.le_trans Z0 (Nat.le_of_eq g116.symm)
          have sz118 : h0.size ≤ b116 := Nat.le_trans K0.1 (Nat.le_of_eq g116.symm)
          have Z119 : n0 ≤ h116.size := Nat.le_trans Z0 E116.1
          have K120 : Keep h0 h116 [] := K0.ext E116
          have O121 : Old Z n0 h116 := O0.ext E116
          have CR122 := CHr.trans CR0 (CHr.ext E116 CR0.1)
          show Go p.tables e below P T116 (mkF m 67 #[.val (.int nn), .val (.int q0), .val (.int q1), .val (.int q2), .val (.int q3), .val (.int q4), .val (.int q5), .val (.int q6)] [(.ref b116)])
          refine Go.via (fun t k => XS.dup X116.here hx rfl (hb hby d9_67) rfl rfl k) ?_
          show Go p.tables e below P T116 (mkF m 68 #[.val (.int nn), .val (.int q0), .val (.int q1), .val (.int q2), .val (.int q3), .val (.int q4), .val (.int q5), .val (.int q6)] [(.ref b116), (.ref b116)])
          refine Go.via (fun t k => XS.iconst X116.here hx rfl (hb hby d9_68) k) ?_
          show Go p.tables e below P T116 (mkF m 69 #[.val (.int nn), .val (.int q0), .val (.int q1), .val (.int q2), .val (.int q3), .val (.int q4), .val (.int q5), .val (.int q6)] [(.int (3 : Int32)), (.ref b116), (.ref b116)])
          obtain ⟨T123, h123, k123, X123, e123, E123, A123, st123⟩ := newP X116 hx hZ (hw _ (List.mem_of_getElem? (i := 52) rfl)) e116 (g := (mkF m 69 #[.val (.int nn), .val (.int q0), .val (.int q1), .val (.int q2), .val (.int q3), .val (.int q4), .val (.int q5), .val (.int q6)] [(.int (3 : Int32)), (.ref b116), (.ref b116)])) rfl (hb hby d9_69) rfl (by decide) (cap := 3) (by decide) (by decide) (by decide) (by decide)
          obtain ⟨b123, g123⟩ : ∃ z, z = h116.size := ⟨_, rfl⟩
          rw [← g123] at A123 st123
          refine Go.via st123 ?_
          have ne124 : b116 ≠ b123 := Nat.ne_of_lt (Nat.lt_of_lt_of_le A116.lt (Nat.le_of_eq g123.symm))
          have g125 : n0 ≤ b123 := Nat.le_trans Z119 (Nat.le_of_eq g123.symm)
          have sz126 : h0.size ≤ b123 := Nat.le_trans K120.1 (Nat.le_of_eq g123.symm)
          have Z127 : n0 ≤ h123.size := Nat.le_trans Z119 E123.1
          have K128 : Keep h0 h123 [] := K120.ext E123
          have O129 : Old Z n0 h123 := O121.ext E123
          have CR130 := CHr.trans CR122 (CHr.ext E123 CR122.1)
          have V123 : Arv Z h123 b123 k123 .char (3 : Int32) [(.int (0 : Int32)), (.int (0 : Int32)), (.int (0 : Int32))] (.int (0 : Int32)) := (Arv.new A123 (by decide)).pad (pad_rep [] (.int (0 : Int32)) 3)
          show Go p.tables e below P T123 (mkF m 71 #[.val (.int nn), .val (.int q0), .val (.int q1), .val (.int q2), .val (.int q3), .val (.int q4), .val (.int q5), .val (.int q6)] [(.ref b123), (.ref b116), (.ref b116)])
          refine Go.via (fun t k => XS.dup X123.here hx rfl (hb hby d9_71) rfl rfl k) ?_
          show Go p.tables e below P T123 (mkF m 72 #[.val (.int nn), .val (.int q0), .val (.int q1), .val (.int q2), .val (.int q3), .val (.int q4), .val (.int q5), .val (.int q6)] [(.ref b123), (.ref b123), (.ref b116), (.ref b116)])
          refine Go.via (fun t k => XS.iconst X123.here hx rfl (hb hby d9_72) k) ?_
          show Go p.tables e below P T123 (mkF m 73 #[.val (.int nn), .val (.int q0), .val (.int q1), .val (.int q2), .val (.int q3), .val (.int q4), .val (.int q5), .val (.int q6)] [(.int (0 : Int32)), (.ref b123), (.ref b123), (.ref b116), (.ref b116)])
          refine Go.via (fun t k => XS.iloadN X123.here hx rfl (hb hby d9_73) rfl k) ?_
          show Go p.tables e below P T123 (mkF m 74 #[.val (.int nn), .val (.int q0), .val (.int q1), .val (.int q2), .val (.int q3), .val (.int q4), .val (.int q5), .val (.int q6)] [(.int q0), (.int (0 : Int32)), (.ref b123), (.ref b123), (.ref b116), (.ref b116)])
          have F131 : Exa Z h123 b116 "java/lang/String" := (A116.ext E123)
          have F132 : Fld Z h123 b116 "java/lang/String" "value" "[B" .null := ((D116 (Or.inr (hw _ (List.mem_of_getElem? (i := 4) rfl))) (ty := (.array .byte)) (by decide) : Fld Z h116 b116 "java/lang/String" "value" "[B" .null).ext E123)
          have F133 : Fld Z h123 b116 "java/lang/String" "coder" "B" (.int (0 : Int32)) := ((D116 (Or.inr (hw _ (List.mem_of_getElem? (i := 5) rfl))) (ty := .byte) (by decide) : Fld Z h116 b116 "java/lang/String" "coder" "B" (.int (0 : Int32))).ext E123)
          obtain ⟨c134, A134, q134, S134, N134, H134, G134⟩ := id V123
          have hin134 : ¬ ((0 : Int32) < 0 ∨ c134.slots.size ≤ ((0 : Int32)).toNatClampNeg) := inb_of S134 ⟨by decide, by decide⟩
          obtain ⟨T134, h134, X134, e134, W134, st134⟩ := stC X123 hx hZ e123 A134 (j := (0 : Int32)) hin134 (g := (mkF m 74 #[.val (.int nn), .val (.int q0), .val (.int q1), .val (.int q2), .val (.int q3), .val (.int q4), .val (.int q5), .val (.int q6)] [(.int q0), (.int (0 : Int32)), (.ref b123), (.ref b123), (.ref b116), (.ref b116)])) rfl rfl (hb hby d9_74)
          refine Go.via st134 ?_
          have Z135 : n0 ≤ h134.size := Nat.le_trans Z127 (Nat.le_of_eq W134.size.symm)
          have K136 : Keep h0 h134 [] := K128.wr W134 (Or.inr sz126)
          obtain ⟨lc134, Xh134, N137⟩ := own_hide X134 (Fr.snoc X134 N0 g125)
          clear X134
          have O138 : Old Z n0 h134 := O129.wr W134 g125
          have Sf134 := Safe.wr W134 (Safe.arv hZ.alike V123 (by decide)) CR130.1 (Safe.arv hZ.alike V123 (by decide))
          have CR139 := CHr.trans CR130 (CHr.wr W134 (Safe.arv hZ.alike V123 (by decide)) CR130.1)
          have V134 : Arv Z h134 b123 k123 .char (3 : Int32) [(.int (nar .char q0)), (.int (0 : Int32)), (.int (0 : Int32))] (.int (0 : Int32)) := Arv.set A134 q134 S134 N134 H134 G134 (fits_nar_char _) W134 0 rfl (Nat.le_of_ble_eq_true rfl)
          show Go p.tables e below P T134 (mkF m 75 #[.val (.int nn), .val (.int q0), .val (.int q1), .val (.int q2), .val (.int q3), .val (.int q4), .val (.int q5), .val (.int q6)] [(.ref b123), (.ref b116), (.ref b116)])
          refine Go.via (fun t k => XS.dup Xh134.here hx rfl (hb hby d9_75) rfl rfl k) ?_
          show Go p.tables e below P T134 (mkF m 76 #[.val (.int nn), .val (.int q0), .val (.int q1), .val (.int q2), .val (.int q3), .val (.int q4), .val (.int q5), .val (.int q6)] [(.ref b123), (.ref b123), (.ref b116), (.ref b116)])
          refine Go.via (fun t k => XS.iconst Xh134.here hx rfl (hb hby d9_76) k) ?_
          show Go p.tables e below P T134 (mkF m 77 #[.val (.int nn), .val (.int q0), .val (.int q1), .val (.int q2), .val (.int q3), .val (.int q4), .val (.int q5), .val (.int q6)] [(.int (1 : Int32)), (.ref b123), (.ref b123), (.ref b116), (.ref b116)])
          refine Go.via (fun t k => XS.iloadN Xh134.here hx rfl (hb hby d9_77) rfl k) ?_
          show Go p.tables e below P T134 (mkF m 78 #[.val (.int nn), .val (.int q0), .val (.int q1), .val (.int q2), .val (.int q3), .val (.int q4), .val (.int q5), .val (.int q6)] [(.int q1), (.int (1 : Int32)), (.ref b123), (.ref b123), (.ref b116), (.ref b116)])
          have F140 : Exa Z h134 b116 "java/lang/String" := (F131.wr W134)
          have F141 : Fld Z h134 b116 "java/lang/String" "value" "[B" .null := (F132.other W134 (Or.inl ne124))
          have F142 : Fld Z h134 b116 "java/lang/String" "coder" "B" (.int (0 : Int32)) := (F133.other W134 (Or.inl ne124))
          obtain ⟨c143, A143, q143, S143, N143, H143, G143⟩ := id V134
          have hin143 : ¬ ((1 : Int32) < 0 ∨ c143.slots.size ≤ ((1 : Int32)).toNatClampNeg) := inb_of S143 ⟨by decide, by decide⟩
          obtain ⟨T143, h143, X143, e143, W143, st143⟩ := stC Xh134 hx hZ e134 A143 (j := (1 : Int32)) hin143 (g := (mkF m 78 #[.val (.int nn), .val (.int q0), .val (.int q1), .val (.int q2), .val (.int q3), .val (.int q4), .val (.int q5), .val (.int q6)] [(.int q1), (.int (1 : Int32)), (.ref b123), (.ref b123), (.ref b116), (.ref b116)])) rfl rfl (hb hby d9_78)
          refine Go.via st143 ?_
          have Z144 : n0 ≤ h143.size := Nat.le_trans Z135 (Nat.le_of_eq W143.size.symm)
          have K145 : Keep h0 h143 [] := K136.wr W143 (Or.inr sz126)
          obtain ⟨lc143, Xh143, N146⟩ := own_hide X143 (Fr.snoc X143 N137 g125)
          clear X143
          have O147 : Old Z n0 h143 := O138.wr W143 g125
          have Sf143 := Safe.wr W143 (Safe.arv hZ.alike V134 (by decide)) CR139.1 (Safe.arv hZ.alike V134 (by decide))
          have CR148 := CHr.trans CR139 (CHr.wr W143 (Safe.arv hZ.alike V134 (by decide)) CR139.1)
          have V143 : Arv Z h143 b123 k123 .char (3 : Int32) [(.int (nar .char q0)), (.int (nar .char q1)), (.int (0 : Int32))] (.int (0 : Int32)) := Arv.set A143 q143 S143 N143 H143 G143 (fits_nar_char _) W143 1 rfl (Nat.le_of_ble_eq_true rfl)
          show Go p.tables e below P T143 (mkF m 79 #[.val (.int nn), .val (.int q0), .val (.int q1), .val (.int q2), .val (.int q3), .val (.int q4), .val (.int q5), .val (.int q6)] [(.ref b123), (.ref b116), (.ref b116)])
          refine Go.via (fun t k => XS.dup Xh143.here hx rfl (hb hby d9_79) rfl rfl k) ?_
          show Go p.tables e below P T143 (mkF m 80 #[.val (.int nn), .val (.int q0), .val (.int q1), .val (.int q2), .val (.int q3), .val (.int q4), .val (.int q5), .val (.int q6)] [(.ref b123), (.ref b123), (.ref b116), (.ref b116)])
          refine Go.via (fun t k => XS.iconst Xh143.here hx rfl (hb hby d9_80) k) ?_
          show Go p.tables e below P T143 (mkF m 81 #[.val (.int nn), .val (.int q0), .val (.int q1), .val (.int q2), .val (.int q3), .val (.int q4), .val (.int q5), .val (.int q6)] [(.int (2 : Int32)), (.ref b123), (.ref b123), (.ref b116), (.ref b116)])
          refine Go.via (fun t k => XS.iloadN Xh143.here hx rfl (hb hby d9_81) rfl k) ?_
          show Go p.tables e below P T143 (mkF m 82 #[.val (.int nn), .val (.int q0), .val (.int q1), .val (.int q2), .val (.int q3), .val (.int q4), .val (.int q5), .val (.int q6)] [(.int q2), (.int (2 : Int32)), (.ref b123), (.ref b123), (.ref b116), (.ref b116)])
          have F149 : Exa Z h143 b116 "java/lang/String" := (F140.wr W143)
          have F150 : Fld Z h143 b116 "java/lang/String" "value" "[B" .null := (F141.other W143 (Or.inl ne124))
          have F151 : Fld Z h143 b116 "java/lang/String" "coder" "B" (.int (0 : Int32)) := (F142.other W143 (Or.inl ne124))
          obtain ⟨c152, A152, q152, S152, N152, H152, G152⟩ := id V143
          have hin152 : ¬ ((2 : Int32) < 0 ∨ c152.slots.size ≤ ((2 : Int32)).toNatClampNeg) := inb_of S152 ⟨by decide, by decide⟩
          obtain ⟨T152, h152, X152, e152, W152, st152⟩ := stC Xh143 hx hZ e143 A152 (j := (2 : Int32)) hin152 (g := (mkF m 82 #[.val (.int nn), .val (.int q0), .val (.int q1), .val (.int q2), .val (.int q3), .val (.int q4), .val (.int q5), .val (.int q6)] [(.int q2), (.int (2 : Int32)), (.ref b123), (.ref b123), (.ref b116), (.ref b116)])) rfl rfl (hb hby d9_82)
          refine Go.via st152 ?_
          have Z153 : n0 ≤ h152.size := Nat.le_trans Z144 (Nat.le_of_eq W152.size.symm)
          have K154 : Keep h0 h152 [] := K145.wr W152 (Or.inr sz126)
          obtain ⟨lc152, Xh152, N155⟩ := own_hide X152 (Fr.snoc X152 N146 g125)
          clear X152
          have O156 : Old Z n0 h152 := O147.wr W152 g125
          have Sf152 := Safe.wr W152 (Safe.arv hZ.alike V143 (by decide)) CR148.1 (Safe.arv hZ.alike V143 (by decide))
          have CR157 := CHr.trans CR148 (CHr.wr W152 (Safe.arv hZ.alike V143 (by decide)) CR148.1)
          have V152 : Arv Z h152 b123 k123 .char (3 : Int32) [(.int (nar .char q0)), (.int (nar .char q1)), (.int (nar .char q2))] (.int (0 : Int32)) := Arv.set A152 q152 S152 N152 H152 G152 (fits_nar_char _) W152 2 rfl (Nat.le_of_ble_eq_true rfl)
          show Go p.tables e below P T152 (mkF m 83 #[.val (.int nn), .val (.int q0), .val (.int q1), .val (.int q2), .val (.int q3), .val (.int q4), .val (.int q5), .val (.int q6)] [(.ref b123), (.ref b116), (.ref b116)])
          have F158 : Exa Z h152 b116 "java/lang/String" := (F149.wr W152)
          have F159 : Fld Z h152 b116 "java/lang/String" "value" "[B" .null := (F150.other W152 (Or.inl ne124))
          have F160 : Fld Z h152 b116 "java/lang/String" "coder" "B" (.int (0 : Int32)) := (F151.other W152 (Or.inl ne124))
          obtain ⟨_, _, ⟨T161, L161, k161, n161⟩, -, X161, ⟨Lc161, hQ161, l161, y161, z161⟩, st161⟩ := Xh152.specialBack hx (y := (⟨"java/lang/String", "<init>", "([C)V"⟩ : MethodName)) rfl hown (mvT hZ (hw _ (List.mem_of_getElem? (i := 53) rfl))) (mvT hZ (hw _ (List.mem_of_getElem? (i := 54) rfl))) (mvT hZ (hw _ (List.mem_of_getElem? (i := 55) rfl))) (by decide) (StrChars.Road.backV (W := 1) hZ (own_ws hw) (kI := 4) (hw _ (List.mem_of_getElem? (i := 2) rfl)) (cs := ([(nar .char q0), (nar .char q1), (nar .char q2)] : List Int32)) (bs := ([((nar .char q0)).toInt8.toInt32, ((nar .char q1)).toInt8.toInt32, ((nar .char q2)).toInt8.toInt32] : List Int32)) (n := 3) g117 Z153 F158 F159 F160 V152 (P1.ext O156.2) hcs rfl rfl (by decide) (by decide) (own_alC (own_hp by0) (own_alC (own_hp by1) (own_alC (own_hp by2) own_al0))) rfl (by decide) (by decide)) (g := (mkF m 83 #[.val (.int nn), .val (.int q0), .val (.int q1), .val (.int q2), .val (.int q3), .val (.int q4), .val (.int q5), .val (.int q6)] [(.ref b123), (.ref b116), (.ref b116)])) rfl (by rw [hml]; rfl) (Steps.refl _) (a := b116) (argsL := [(.ref b123)]) (rest := [(.ref b116)]) (lenOf own_pd8 rfl) rfl (by show 2 * 0 + _ ≤ _; exact Nat.le_of_eq rfl) (hb hby d9_83) (fun _ _ => ⟨rfl, e152, (by decide : 2 + 1 ≤ _), (by decide : 7 + 3 ≤ _)⟩)
          dsimp only [Pt.U, Pt.locs, Pt.cells, Pt.slots] at X161 l161 y161 z161 st161 hQ161
          subst l161 y161 z161
          obtain ⟨rfl, Nq161, K161, Ex161, Fc161, t161, kb161, -, lt161, ne161, Fv161, Va161⟩ := hQ161
          obtain ⟨lc161, Xh161, N161⟩ := own_hide X161 (Fr.app N155 Nq161)
          clear X161
          refine Go.hop st161 ?_
          have ne162 : b116 ≠ t161 := Nat.ne_of_lt (Nat.lt_of_lt_of_le F158.lt lt161)
          have ne163 : b123 ≠ t161 := Nat.ne_of_lt (Nat.lt_of_lt_of_le V152.lt lt161)
          have g164 : n0 ≤ t161 := Nat.le_trans Z153 lt161
          have sz165 : h0.size ≤ t161 := Nat.le_trans K154.1 lt161
          have Z166 : n0 ≤ T161.heap.size := Nat.le_trans Z153 K161.1
          have K167 : Keep h0 T161.heap [] := K154.trans K161 (own_allC (Or.inr sz118) own_all0)
          have CR168 := CHr.trans CR157 (CHr.keep K161 (sfS (own_safeS hZ.alike F158 F159) sf0) CR157.1)
          have O169 : Old Z n0 T161.heap := O156.keep K161 (own_allC g117 own_all0)
          have Vt161 : Arv Z T161.heap t161 kb161 .byte (3 : Int32) [(.int ((nar .char q0)).toInt8.toInt32), (.int ((nar .char q1)).toInt8.toInt32), (.int ((nar .char q2)).toInt8.toInt32)] (.int (0 : Int32)) := Va161
          show Go p.tables e below P T161 (mkF m 86 #[.val (.int nn), .val (.int q0), .val (.int q1), .val (.int q2), .val (.int q3), .val (.int q4), .val (.int q5), .val (.int q6)] [(.ref b116)])
          have Vr171 : Arv Z T161.heap t161 kb161 .byte (own_lg ([((nar .char q0)).toInt8.toInt32, ((nar .char q1)).toInt8.toInt32, ((nar .char q2)).toInt8.toInt32] : List Int32)) (([((nar .char q0)).toInt8.toInt32, ((nar .char q1)).toInt8.toInt32, ((nar .char q2)).toInt8.toInt32] : List Int32).map Value.int) (.int (0 : Int32)) := by
            rw [show own_lg ([((nar .char q0)).toInt8.toInt32, ((nar .char q1)).toInt8.toInt32, ((nar .char q2)).toInt8.toInt32] : List Int32) = (3 : Int32) from rfl]; exact Vt161
          obtain ⟨fs, hr, hrun, hended, hend⟩ := Xh161.leaveW hS0 (by exact (Nat.zero_le _)) (v := some (.ref b116)) (fun h => by rw [Bd.returns] at h; cases h)
          have hCf : CHr Z consts_1 s.vm s.heap (T161.setFrames fs).vm (T161.setFrames fs).heap := by
            rw [hh]
            show CHr Z consts_1 s.vm h0 T161.vm T161.heap
            exact CHr.trans CR168 (CHv.at Xh161 hZ (own_EW hw) CR168.1)
          refine ⟨_, _, retA Xh161 hx Bd.returns rfl rfl rfl (hb hby d9_86) hr, hrun, hended, hP _ _ ⟨_, _, rfl, ?_, hCf, own_rew hend (by decide) (by decide)⟩⟩
          show Q9 Z nn q0 q1 q2 q3 q4 q5 q6 cs h0 n0 _ T161.heap _
          exact ⟨b116, t161, kb161, ([((nar .char q0)).toInt8.toInt32, ((nar .char q1)).toInt8.toInt32, ((nar .char q2)).toInt8.toInt32] : List Int32), rfl, N161, K167, sz118, Ex161, Fv161, Fc161, Vr171, (by simp), Vr171.lt, ne162⟩
        · refine Go.via (fun t k => XS.icmpYes X0.here hx rfl (pc0 := 61) (pc' := 87) rfl (hb hby d9_61) rfl (feq hc115).2 (by decide) (by decide) k) ?_
          show Go p.tables e below P s₁ (mkF m 87 #[.val (.int nn), .val (.int q0), .val (.int q1), .val (.int q2), .val (.int q3), .val (.int q4), .val (.int q5), .val (.int q6)] [])
          refine Go.via (fun t k => XS.iloadN X0.here hx rfl (hb hby d9_87) rfl k) ?_
          show Go p.tables e below P s₁ (mkF m 88 #[.val (.int nn), .val (.int q0), .val (.int q1), .val (.int q2), .val (.int q3), .val (.int q4), .val (.int q5), .val (.int q6)] [(.int nn)])
          refine Go.via (fun t k => XS.iconst X0.here hx rfl (hb hby d9_88) k) ?_
          show Go p.tables e below P s₁ (mkF m 89 #[.val (.int nn), .val (.int q0), .val (.int q1), .val (.int q2), .val (.int q3), .val (.int q4), .val (.int q5), .val (.int q6)] [(.int (4 : Int32)), (.int nn)])
          by_cases hc172 : nn = (4 : Int32)
          · refine Go.via (fun t k => XS.icmpNo X0.here hx rfl (hb hby d9_89) rfl (teq hc172).2 k) ?_
            show Go p.tables e below P s₁ (mkF m 92 #[.val (.int nn), .val (.int q0), .val (.int q1), .val (.int q2), .val (.int q3), .val (.int q4), .val (.int q5), .val (.int q6)] [])
            obtain ⟨T173, h173, X173, e173, E173, A173, D173, -, st173⟩ := newO X0 hx hZ hown (hw _ (List.mem_of_getElem? (i := 51) rfl)) (hw _ (List.mem_of_getElem? (i := 2) rfl)) (hw _ (List.mem_of_getElem? (i := 1) rfl)) e0 (g := (mkF m 92 #[.val (.int nn), .val (.int q0), .val (.int q1), .val (.int q2), .val (.int q3), .val (.int q4), .val (.int q5), .val (.int q6)] [])) rfl (hb hby d9_92) (by decide) (by decide)
            obtain ⟨b173, g173⟩ : ∃ z, z = h0.size := ⟨_, rfl⟩
            rw [← g173] at A173 D173 st173
            refine Go.via st173 ?_
            have g174 : n0 ≤ b173 := Nat.le_trans Z0 (Nat.le_of_eq g173.symm)
            have sz175 : h0.size ≤ b173 := Nat.le_trans K0.1 (Nat.le_of_eq g173.symm)
            have Z176 : n0 ≤ h173.size := Nat.le_trans Z0 E173.1
            have K177 : Keep h0 h173 [] := K0.ext E173
            have O178 : Old Z n0 h173 := O0.ext E173
            have CR179 := CHr.trans CR0 (CHr.ext E173 CR0.1)
            show Go p.tables e below P T173 (mkF m 95 #[.val (.int nn), .val (.int q0), .val (.int q1), .val (.int q2), .val (.int q3), .val (.int q4), .val (.int q5), .val (.int q6)] [(.ref b173)])
            refine Go.via (fun t k => XS.dup X173.here hx rfl (hb hby d9_95) rfl rfl k) ?_
            show Go p.tables e below P T173 (mkF m 96 #[.val (.int nn), .val (.int q0), .val (.int q1), .val (.int q2), .val (.int q3), .val (.int q4), .val (.int q5), .val (.int q6)] [(.ref b173), (.ref b173)])
            refine Go.via (fun t k => XS.iconst X173.here hx rfl (hb hby d9_96) k) ?_
            show Go p.tables e below P T173 (mkF m 97 #[.val (.int nn), .val (.int q0), .val (.int q1), .val (.int q2), .val (.int q3), .val (.int q4), .val (.int q5), .val (.int q6)] [(.int (4 : Int32)), (.ref b173), (.ref b173)])
            obtain ⟨T180, h180, k180, X180, e180, E180, A180, st180⟩ := newP X173 hx hZ (hw _ (List.mem_of_getElem? (i := 52) rfl)) e173 (g := (mkF m 97 #[.val (.int nn), .val (.int q0), .val (.int q1), .val (.int q2), .val (.int q3), .val (.int q4), .val (.int q5), .val (.int q6)] [(.int (4 : Int32)), (.ref b173), (.ref b173)])) rfl (hb hby d9_97) rfl (by decide) (cap := 4) (by decide) (by decide) (by decide) (by decide)
            obtain ⟨b180, g180⟩ : ∃ z, z = h173.size := ⟨_, rfl⟩
            rw [← g180] at A180 st180
            refine Go.via st180 ?_
            have ne181 : b173 ≠ b180 := Nat.ne_of_lt (Nat.lt_of_lt_of_le A173.lt (Nat.le_of_eq g180.symm))
            have g182 : n0 ≤ b180 := Nat.le_trans Z176 (Nat.le_of_eq g180.symm)
            have sz183 : h0.size ≤ b180 := Nat.le_trans K177.1 (Nat.le_of_eq g180.symm)
            have Z184 : n0 ≤ h180.size := Nat.le_trans Z176 E180.1
            have K185 : Keep h0 h180 [] := K177.ext E180
            have O186 : Old Z n0 h180 := O178.ext E180
            have CR187 := CHr.trans CR179 (CHr.ext E180 CR179.1)
            have V180 : Arv Z h180 b180 k180 .char (4 : Int32) [(.int (0 : Int32)), (.int (0 : Int32)), (.int (0 : Int32)), (.int (0 : Int32))] (.int (0 : Int32)) := (Arv.new A180 (by decide)).pad (pad_rep [] (.int (0 : Int32)) 4)
            show Go p.tables e below P T180 (mkF m 99 #[.val (.int nn), .val (.int q0), .val (.int q1), .val (.int q2), .val (.int q3), .val (.int q4), .val (.int q5), .val (.int q6)] [(.ref b180), (.ref b173), (.ref b173)])
            refine Go.via (fun t k => XS.dup X180.here hx rfl (hb hby d9_99) rfl rfl k) ?_
            show Go p.tables e below P T180 (mkF m 100 #[.val (.int nn), .val (.int q0), .val (.int q1), .val (.int q2), .val (.int q3), .val (.int q4), .val (.int q5), .val (.int q6)] [(.ref b180), (.ref b180), (.ref b173), (.ref b173)])
            refine Go.via (fun t k => XS.iconst X180.here hx rfl (hb hby d9_100) k) ?_
            show Go p.tables e below P T180 (mkF m 101 #[.val (.int nn), .val (.int q0), .val (.int q1), .val (.int q2), .val (.int q3), .val (.int q4), .val (.int q5), .val (.int q6)] [(.int (0 : Int32)), (.ref b180), (.ref b180), (.ref b173), (.ref b173)])
            refine Go.via (fun t k => XS.iloadN X180.here hx rfl (hb hby d9_101) rfl k) ?_
            show Go p.tables e below P T180 (mkF m 102 #[.val (.int nn), .val (.int q0), .val (.int q1), .val (.int q2), .val (.int q3), .val (.int q4), .val (.int q5), .val (.int q6)] [(.int q0), (.int (0 : Int32)), (.ref b180), (.ref b180), (.ref b173), (.ref b173)])
            have F188 : Exa Z h180 b173 "java/lang/String" := (A173.ext E180)
            have F189 : Fld Z h180 b173 "java/lang/String" "value" "[B" .null := ((D173 (Or.inr (hw _ (List.mem_of_getElem? (i := 4) rfl))) (ty := (.array .byte)) (by decide) : Fld Z h173 b173 "java/lang/String" "value" "[B" .null).ext E180)
            have F190 : Fld Z h180 b173 "java/lang/String" "coder" "B" (.int (0 : Int32)) := ((D173 (Or.inr (hw _ (List.mem_of_getElem? (i := 5) rfl))) (ty := .byte) (by decide) : Fld Z h173 b173 "java/lang/String" "coder" "B" (.int (0 : Int32))).ext E180)
            obtain ⟨c191, A191, q191, S191, N191, H191, G191⟩ := id V180
            have hin191 : ¬ ((0 : Int32) < 0 ∨ c191.slots.size ≤ ((0 : Int32)).toNatClampNeg) := inb_of S191 ⟨by decide, by decide⟩
            obtain ⟨T191, h191, X191, e191, W191, st191⟩ := stC X180 hx hZ e180 A191 (j := (0 : Int32)) hin191 (g := (mkF m 102 #[.val (.int nn), .val (.int q0), .val (.int q1), .val (.int q2), .val (.int q3), .val (.int q4), .val (.int q5), .val (.int q6)] [(.int q0), (.int (0 : Int32)), (.ref b180), (.ref b180), (.ref b173), (.ref b173)])) rfl rfl (hb hby d9_102)
            refine Go.via st191 ?_
            have Z192 : n0 ≤ h191.size := Nat.le_trans Z184 (Nat.le_of_eq W191.size.symm)
            have K193 : Keep h0 h191 [] := K185.wr W191 (Or.inr sz183)
            obtain ⟨lc191, Xh191, N194⟩ := own_hide X191 (Fr.snoc X191 N0 g182)
            clear X191
            have O195 : Old Z n0 h191 := O186.wr W191 g182
            have Sf191 := Safe.wr W191 (Safe.arv hZ.alike V180 (by decide)) CR187.1 (Safe.arv hZ.alike V180 (by decide))
            have CR196 := CHr.trans CR187 (CHr.wr W191 (Safe.arv hZ.alike V180 (by decide)) CR187.1)
            have V191 : Arv Z h191 b180 k180 .char (4 : Int32) [(.int (nar .char q0)), (.int (0 : Int32)), (.int (0 : Int32)), (.int (0 : Int32))] (.int (0 : Int32)) := Arv.set A191 q191 S191 N191 H191 G191 (fits_nar_char _) W191 0 rfl (Nat.le_of_ble_eq_true rfl)
            show Go p.tables e below P T191 (mkF m 103 #[.val (.int nn), .val (.int q0), .val (.int q1), .val (.int q2), .val (.int q3), .val (.int q4), .val (.int q5), .val (.int q6)] [(.ref b180), (.ref b173), (.ref b173)])
            refine Go.via (fun t k => XS.dup Xh191.here hx rfl (hb hby d9_103) rfl rfl k) ?_
            show Go p.tables e below P T191 (mkF m 104 #[.val (.int nn), .val (.int q0), .val (.int q1), .val (.int q2), .val (.int q3), .val (.int q4), .val (.int q5), .val (.int q6)] [(.ref b180), (.ref b180), (.ref b173), (.ref b173)])
            refine Go.via (fun t k => XS.iconst Xh191.here hx rfl (hb hby d9_104) k) ?_
            show Go p.tables e below P T191 (mkF m 105 #[.val (.int nn), .val (.int q0), .val (.int q1), .val (.int q2), .val (.int q3), .val (.int q4), .val (.int q5), .val (.int q6)] [(.int (1 : Int32)), (.ref b180), (.ref b180), (.ref b173), (.ref b173)])
            refine Go.via (fun t k => XS.iloadN Xh191.here hx rfl (hb hby d9_105) rfl k) ?_
            show Go p.tables e below P T191 (mkF m 106 #[.val (.int nn), .val (.int q0), .val (.int q1), .val (.int q2), .val (.int q3), .val (.int q4), .val (.int q5), .val (.int q6)] [(.int q1), (.int (1 : Int32)), (.ref b180), (.ref b180), (.ref b173), (.ref b173)])
            have F197 : Exa Z h191 b173 "java/lang/String" := (F188.wr W191)
            have F198 : Fld Z h191 b173 "java/lang/String" "value" "[B" .null := (F189.other W191 (Or.inl ne181))
            have F199 : Fld Z h191 b173 "java/lang/String" "coder" "B" (.int (0 : Int32)) := (F190.other W191 (Or.inl ne181))
            obtain ⟨c200, A200, q200, S200, N200, H200, G200⟩ := id V191
            have hin200 : ¬ ((1 : Int32) < 0 ∨ c200.slots.size ≤ ((1 : Int32)).toNatClampNeg) := inb_of S200 ⟨by decide, by decide⟩
            obtain ⟨T200, h200, X200, e200, W200, st200⟩ := stC Xh191 hx hZ e191 A200 (j := (1 : Int32)) hin200 (g := (mkF m 106 #[.val (.int nn), .val (.int q0), .val (.int q1), .val (.int q2), .val (.int q3), .val (.int q4), .val (.int q5), .val (.int q6)] [(.int q1), (.int (1 : Int32)), (.ref b180), (.ref b180), (.ref b173), (.ref b173)])) rfl rfl (hb hby d9_106)
            refine Go.via st200 ?_
            have Z201 : n0 ≤ h200.size := Nat.le_trans Z192 (Nat.le_of_eq W200.size.symm)
            have K202 : Keep h0 h200 [] := K193.wr W200 (Or.inr sz183)
            obtain ⟨lc200, Xh200, N203⟩ := own_hide X200 (Fr.snoc X200 N194 g182)
            clear X200
            have O204 : Old Z n0 h200 := O195.wr W200 g182
            have Sf200 := Safe.wr W200 (Safe.arv hZ.alike V191 (by decide)) CR196.1 (Safe.arv hZ.alike V191 (by decide))
            have CR205 := CHr.trans CR196 (CHr.wr W200 (Safe.arv hZ.alike V191 (by decide)) CR196.1)
            have V200 : Arv Z h200 b180 k180 .char (4 : Int32) [(.int (nar .char q0)), (.int (nar .char q1)), (.int (0 : Int32)), (.int (0 : Int32))] (.int (0 : Int32)) := Arv.set A200 q200 S200 N200 H200 G200 (fits_nar_char _) W200 1 rfl (Nat.le_of_ble_eq_true rfl)
            show Go p.tables e below P T200 (mkF m 107 #[.val (.int nn), .val (.int q0), .val (.int q1), .val (.int q2), .val (.int q3), .val (.int q4), .val (.int q5), .val (.int q6)] [(.ref b180), (.ref b173), (.ref b173)])
            refine Go.via (fun t k => XS.dup Xh200.here hx rfl (hb hby d9_107) rfl rfl k) ?_
            show Go p.tables e below P T200 (mkF m 108 #[.val (.int nn), .val (.int q0), .val (.int q1), .val (.int q2), .val (.int q3), .val (.int q4), .val (.int q5), .val (.int q6)] [(.ref b180), (.ref b180), (.ref b173), (.ref b173)])
            refine Go.via (fun t k => XS.iconst Xh200.here hx rfl (hb hby d9_108) k) ?_
            show Go p.tables e below P T200 (mkF m 109 #[.val (.int nn), .val (.int q0), .val (.int q1), .val (.int q2), .val (.int q3), .val (.int q4), .val (.int q5), .val (.int q6)] [(.int (2 : Int32)), (.ref b180), (.ref b180), (.ref b173), (.ref b173)])
            refine Go.via (fun t k => XS.iloadN Xh200.here hx rfl (hb hby d9_109) rfl k) ?_
            show Go p.tables e below P T200 (mkF m 110 #[.val (.int nn), .val (.int q0), .val (.int q1), .val (.int q2), .val (.int q3), .val (.int q4), .val (.int q5), .val (.int q6)] [(.int q2), (.int (2 : Int32)), (.ref b180), (.ref b180), (.ref b173), (.ref b173)])
            have F206 : Exa Z h200 b173 "java/lang/String" := (F197.wr W200)
            have F207 : Fld Z h200 b173 "java/lang/String" "value" "[B" .null := (F198.other W200 (Or.inl ne181))
            have F208 : Fld Z h200 b173 "java/lang/String" "coder" "B" (.int (0 : Int32)) := (F199.other W200 (Or.inl ne181))
            obtain ⟨c209, A209, q209, S209, N209, H209, G209⟩ := id V200
            have hin209 : ¬ ((2 : Int32) < 0 ∨ c209.slots.size ≤ ((2 : Int32)).toNatClampNeg) := inb_of S209 ⟨by decide, by decide⟩
            obtain ⟨T209, h209, X209, e209, W209, st209⟩ := stC Xh200 hx hZ e200 A209 (j := (2 : Int32)) hin209 (g := (mkF m 110 #[.val (.int nn), .val (.int q0), .val (.int q1), .val (.int q2), .val (.int q3), .val (.int q4), .val (.int q5), .val (.int q6)] [(.int q2), (.int (2 : Int32)), (.ref b180), (.ref b180), (.ref b173), (.ref b173)])) rfl rfl (hb hby d9_110)
            refine Go.via st209 ?_
            have Z210 : n0 ≤ h209.size := Nat.le_trans Z201 (Nat.le_of_eq W209.size.symm)
            have K211 : Keep h0 h209 [] := K202.wr W209 (Or.inr sz183)
            obtain ⟨lc209, Xh209, N212⟩ := own_hide X209 (Fr.snoc X209 N203 g182)
            clear X209
            have O213 : Old Z n0 h209 := O204.wr W209 g182
            have Sf209 := Safe.wr W209 (Safe.arv hZ.alike V200 (by decide)) CR205.1 (Safe.arv hZ.alike V200 (by decide))
            have CR214 := CHr.trans CR205 (CHr.wr W209 (Safe.arv hZ.alike V200 (by decide)) CR205.1)
            have V209 : Arv Z h209 b180 k180 .char (4 : Int32) [(.int (nar .char q0)), (.int (nar .char q1)), (.int (nar .char q2)), (.int (0 : Int32))] (.int (0 : Int32)) := Arv.set A209 q209 S209 N209 H209 G209 (fits_nar_char _) W209 2 rfl (Nat.le_of_ble_eq_true rfl)
            show Go p.tables e below P T209 (mkF m 111 #[.val (.int nn), .val (.int q0), .val (.int q1), .val (.int q2), .val (.int q3), .val (.int q4), .val (.int q5), .val (.int q6)] [(.ref b180), (.ref b173), (.ref b173)])
            refine Go.via (fun t k => XS.dup Xh209.here hx rfl (hb hby d9_111) rfl rfl k) ?_
            show Go p.tables e below P T209 (mkF m 112 #[.val (.int nn), .val (.int q0), .val (.int q1), .val (.int q2), .val (.int q3), .val (.int q4), .val (.int q5), .val (.int q6)] [(.ref b180), (.ref b180), (.ref b173), (.ref b173)])
            refine Go.via (fun t k => XS.iconst Xh209.here hx rfl (hb hby d9_112) k) ?_
            show Go p.tables e below P T209 (mkF m 113 #[.val (.int nn), .val (.int q0), .val (.int q1), .val (.int q2), .val (.int q3), .val (.int q4), .val (.int q5), .val (.int q6)] [(.int (3 : Int32)), (.ref b180), (.ref b180), (.ref b173), (.ref b173)])
            refine Go.via (fun t k => XS.iload Xh209.here hx rfl (hb hby d9_113) rfl k) ?_
            show Go p.tables e below P T209 (mkF m 115 #[.val (.int nn), .val (.int q0), .val (.int q1), .val (.int q2), .val (.int q3), .val (.int q4), .val (.int q5), .val (.int q6)] [(.int q3), (.int (3 : Int32)), (.ref b180), (.ref b180), (.ref b173), (.ref b173)])
            have F215 : Exa Z h209 b173 "java/lang/String" := (F206.wr W209)
            have F216 : Fld Z h209 b173 "java/lang/String" "value" "[B" .null := (F207.other W209 (Or.inl ne181))
            have F217 : Fld Z h209 b173 "java/lang/String" "coder" "B" (.int (0 : Int32)) := (F208.other W209 (Or.inl ne181))
            obtain ⟨c218, A218, q218, S218, N218, H218, G218⟩ := id V209
            have hin218 : ¬ ((3 : Int32) < 0 ∨ c218.slots.size ≤ ((3 : Int32)).toNatClampNeg) := inb_of S218 ⟨by decide, by decide⟩
            obtain ⟨T218, h218, X218, e218, W218, st218⟩ := stC Xh209 hx hZ e209 A218 (j := (3 : Int32)) hin218 (g := (mkF m 115 #[.val (.int nn), .val (.int q0), .val (.int q1), .val (.int q2), .val (.int q3), .val (.int q4), .val (.int q5), .val (.int q6)] [(.int q3), (.int (3 : Int32)), (.ref b180), (.ref b180), (.ref b173), (.ref b173)])) rfl rfl (hb hby d9_115)
            refine Go.via st218 ?_
            have Z219 : n0 ≤ h218.size := Nat.le_trans Z210 (Nat.le_of_eq W218.size.symm)
            have K220 : Keep h0 h218 [] := K211.wr W218 (Or.inr sz183)
            obtain ⟨lc218, Xh218, N221⟩ := own_hide X218 (Fr.snoc X218 N212 g182)
            clear X218
            have O222 : Old Z n0 h218 := O213.wr W218 g182
            have Sf218 := Safe.wr W218 (Safe.arv hZ.alike V209 (by decide)) CR214.1 (Safe.arv hZ.alike V209 (by decide))
            have CR223 := CHr.trans CR214 (CHr.wr W218 (Safe.arv hZ.alike V209 (by decide)) CR214.1)
            have V218 : Arv Z h218 b180 k180 .char (4 : Int32) [(.int (nar .char q0)), (.int (nar .char q1)), (.int (nar .char q2)), (.int (nar .char q3))] (.int (0 : Int32)) := Arv.set A218 q218 S218 N218 H218 G218 (fits_nar_char _) W218 3 rfl (Nat.le_of_ble_eq_true rfl)
            show Go p.tables e below P T218 (mkF m 116 #[.val (.int nn), .val (.int q0), .val (.int q1), .val (.int q2), .val (.int q3), .val (.int q4), .val (.int q5), .val (.int q6)] [(.ref b180), (.ref b173), (.ref b173)])
            have F224 : Exa Z h218 b173 "java/lang/String" := (F215.wr W218)
            have F225 : Fld Z h218 b173 "java/lang/String" "value" "[B" .null := (F216.other W218 (Or.inl ne181))
            have F226 : Fld Z h218 b173 "java/lang/String" "coder" "B" (.int (0 : Int32)) := (F217.other W218 (Or.inl ne181))
            obtain ⟨_, _, ⟨T227, L227, k227, n227⟩, -, X227, ⟨Lc227, hQ227, l227, y227, z227⟩, st227⟩ := Xh218.specialBack hx (y := (⟨"java/lang/String", "<init>", "([C)V"⟩ : MethodName)) rfl hown (mvT hZ (hw _ (List.mem_of_getElem? (i := 53) rfl))) (mvT hZ (hw _ (List.mem_of_getElem? (i := 54) rfl))) (mvT hZ (hw _ (List.mem_of_getElem? (i := 55) rfl))) (by decide) (StrChars.Road.backV (W := 1) hZ (own_ws hw) (kI := 4) (hw _ (List.mem_of_getElem? (i := 2) rfl)) (cs := ([(nar .char q0), (nar .char q1), (nar .char q2), (nar .char q3)] : List Int32)) (bs := ([((nar .char q0)).toInt8.toInt32, ((nar .char q1)).toInt8.toInt32, ((nar .char q2)).toInt8.toInt32, ((nar .char q3)).toInt8.toInt32] : List Int32)) (n := 4) g174 Z219 F224 F225 F226 V218 (P1.ext O222.2) hcs rfl rfl (by decide) (by decide) (own_alC (own_hp by0) (own_alC (own_hp by1) (own_alC (own_hp by2) (own_alC (own_hp by3) own_al0)))) rfl (by decide) (by decide)) (g := (mkF m 116 #[.val (.int nn), .val (.int q0), .val (.int q1), .val (.int q2), .val (.int q3), .val (.int q4), .val (.int q5), .val (.int q6)] [(.ref b180), (.ref b173), (.ref b173)])) rfl (by rw [hml]; rfl) (Steps.refl _) (a := b173) (argsL := [(.ref b180)]) (rest := [(.ref b173)]) (lenOf own_pd8 rfl) rfl (by show 2 * 0 + _ ≤ _; exact Nat.le_of_eq rfl) (hb hby d9_116) (fun _ _ => ⟨rfl, e218, (by decide : 2 + 1 ≤ _), (by decide : 8 + 4 ≤ _)⟩)
            dsimp only [Pt.U, Pt.locs, Pt.cells, Pt.slots] at X227 l227 y227 z227 st227 hQ227
            subst l227 y227 z227
            obtain ⟨rfl, Nq227, K227, Ex227, Fc227, t227, kb227, -, lt227, ne227, Fv227, Va227⟩ := hQ227
            obtain ⟨lc227, Xh227, N227⟩ := own_hide X227 (Fr.app N221 Nq227)
            clear X227
            refine Go.hop st227 ?_
            have ne228 : b173 ≠ t227 := Nat.ne_of_lt (Nat.lt_of_lt_of_le F224.lt lt227)
            have ne229 : b180 ≠ t227 := Nat.ne_of_lt (Nat.lt_of_lt_of_le V218.lt lt227)
            have g230 : n0 ≤ t227 := Nat.le_trans Z219 lt227
            have sz231 : h0.size ≤ t227 := Nat.le_trans K220.1 lt227
            have Z232 : n0 ≤ T227.heap.size := Nat.le_trans Z219 K227.1
            have K233 : Keep h0 T227.heap [] := K220.trans K227 (own_allC (Or.inr sz175) own_all0)
            have CR234 := CHr.trans CR223 (CHr.keep K227 (sfS (own_safeS hZ.alike F224 F225) sf0) CR223.1)
            have O235 : Old Z n0 T227.heap := O222.keep K227 (own_allC g174 own_all0)
            have Vt227 : Arv Z T227.heap t227 kb227 .byte (4 : Int32) [(.int ((nar .char q0)).toInt8.toInt32), (.int ((nar .char q1)).toInt8.toInt32), (.int ((nar .char q2)).toInt8.toInt32), (.int ((nar .char q3)).toInt8.toInt32)] (.int (0 : Int32)) := Va227
            show Go p.tables e below P T227 (mkF m 119 #[.val (.int nn), .val (.int q0), .val (.int q1), .val (.int q2), .val (.int q3), .val (.int q4), .val (.int q5), .val (.int q6)] [(.ref b173)])
            have Vr237 : Arv Z T227.heap t227 kb227 .byte (own_lg ([((nar .char q0)).toInt8.toInt32, ((nar .char q1)).toInt8.toInt32, ((nar .char q2)).toInt8.toInt32, ((nar .char q3)).toInt8.toInt32] : List Int32)) (([((nar .char q0)).toInt8.toInt32, ((nar .char q1)).toInt8.toInt32, ((nar .char q2)).toInt8.toInt32, ((nar .char q3)).toInt8.toInt32] : List Int32).map Value.int) (.int (0 : Int32)) := by
              rw [show own_lg ([((nar .char q0)).toInt8.toInt32, ((nar .char q1)).toInt8.toInt32, ((nar .char q2)).toInt8.toInt32, ((nar .char q3)).toInt8.toInt32] : List Int32) = (4 : Int32) from rfl]; exact Vt227
            obtain ⟨fs, hr, hrun, hended, hend⟩ := Xh227.leaveW hS0 (by exact (Nat.zero_le _)) (v := some (.ref b173)) (fun h => by rw [Bd.returns] at h; cases h)
            have hCf : CHr Z consts_1 s.vm s.heap (T227.setFrames fs).vm (T227.setFrames fs).heap := by
              rw [hh]
              show CHr Z consts_1 s.vm h0 T227.vm T227.heap
              exact CHr.trans CR234 (CHv.at Xh227 hZ (own_EW hw) CR234.1)
            refine ⟨_, _, retA Xh227 hx Bd.returns rfl rfl rfl (hb hby d9_119) hr, hrun, hended, hP _ _ ⟨_, _, rfl, ?_, hCf, own_rew hend (by decide) (by decide)⟩⟩
            show Q9 Z nn q0 q1 q2 q3 q4 q5 q6 cs h0 n0 _ T227.heap _
            exact ⟨b173, t227, kb227, ([((nar .char q0)).toInt8.toInt32, ((nar .char q1)).toInt8.toInt32, ((nar .char q2)).toInt8.toInt32, ((nar .char q3)).toInt8.toInt32] : List Int32), rfl, N227, K233, sz175, Ex227, Fv227, Fc227, Vr237, (by simp), Vr237.lt, ne228⟩
          · refine Go.via (fun t k => XS.icmpYes X0.here hx rfl (pc0 := 89) (pc' := 120) rfl (hb hby d9_89) rfl (feq hc172).2 (by decide) (by decide) k) ?_
            show Go p.tables e below P s₁ (mkF m 120 #[.val (.int nn), .val (.int q0), .val (.int q1), .val (.int q2), .val (.int q3), .val (.int q4), .val (.int q5), .val (.int q6)] [])
            refine Go.via (fun t k => XS.iloadN X0.here hx rfl (hb hby d9_120) rfl k) ?_
            show Go p.tables e below P s₁ (mkF m 121 #[.val (.int nn), .val (.int q0), .val (.int q1), .val (.int q2), .val (.int q3), .val (.int q4), .val (.int q5), .val (.int q6)] [(.int nn)])
            refine Go.via (fun t k => XS.iconst X0.here hx rfl (hb hby d9_121) k) ?_
            show Go p.tables e below P s₁ (mkF m 122 #[.val (.int nn), .val (.int q0), .val (.int q1), .val (.int q2), .val (.int q3), .val (.int q4), .val (.int q5), .val (.int q6)] [(.int (5 : Int32)), (.int nn)])
            by_cases hc238 : nn = (5 : Int32)
            · refine Go.via (fun t k => XS.icmpNo X0.here hx rfl (hb hby d9_122) rfl (teq hc238).2 k) ?_
              show Go p.tables e below P s₁ (mkF m 125 #[.val (.int nn), .val (.int q0), .val (.int q1), .val (.int q2), .val (.int q3), .val (.int q4), .val (.int q5), .val (.int q6)] [])
              obtain ⟨T239, h239, X239, e239, E239, A239, D239, -, st239⟩ := newO X0 hx hZ hown (hw _ (List.mem_of_getElem? (i := 51) rfl)) (hw _ (List.mem_of_getElem? (i := 2) rfl)) (hw _ (List.mem_of_getElem? (i := 1) rfl)) e0 (g := (mkF m 125 #[.val (.int nn), .val (.int q0), .val (.int q1), .val (.int q2), .val (.int q3), .val (.int q4), .val (.int q5), .val (.int q6)] [])) rfl (hb hby d9_125) (by decide) (by decide)
              obtain ⟨b239, g239⟩ : ∃ z, z = h0.size := ⟨_, rfl⟩
              rw [← g239] at A239 D239 st239
              refine Go.via st239 ?_
              have g240 : n0 ≤ b239 := Nat.le_trans Z0 (Nat.le_of_eq g239.symm)
              have sz241 : h0.size ≤ b239 := Nat.le_trans K0.1 (Nat.le_of_eq g239.symm)
              have Z242 : n0 ≤ h239.size := Nat.le_trans Z0 E239.1
              have K243 : Keep h0 h239 [] := K0.ext E239
              have O244 : Old Z n0 h239 := O0.ext E239
              have CR245 := CHr.trans CR0 (CHr.ext E239 CR0.1)
              show Go p.tables e below P T239 (mkF m 128 #[.val (.int nn), .val (.int q0), .val (.int q1), .val (.int q2), .val (.int q3), .val (.int q4), .val (.int q5), .val (.int q6)] [(.ref b239)])
              refine Go.via (fun t k => XS.dup X239.here hx rfl (hb hby d9_128) rfl rfl k) ?_
              show Go p.tables e below P T239 (mkF m 129 #[.val (.int nn), .val (.int q0), .val (.int q1), .val (.int q2), .val (.int q3), .val (.int q4), .val (.int q5), .val (.int q6)] [(.ref b239), (.ref b239)])
              refine Go.via (fun t k => XS.iconst X239.here hx rfl (hb hby d9_129) k) ?_
              show Go p.tables e below P T239 (mkF m 130 #[.val (.int nn), .val (.int q0), .val (.int q1), .val (.int q2), .val (.int q3), .val (.int q4), .val (.int q5), .val (.int q6)] [(.int (5 : Int32)), (.ref b239), (.ref b239)])
              obtain ⟨T246, h246, k246, X246, e246, E246, A246, st246⟩ := newP X239 hx hZ (hw _ (List.mem_of_getElem? (i := 52) rfl)) e239 (g := (mkF m 130 #[.val (.int nn), .val (.int q0), .val (.int q1), .val (.int q2), .val (.int q3), .val (.int q4), .val (.int q5), .val (.int q6)] [(.int (5 : Int32)), (.ref b239), (.ref b239)])) rfl (hb hby d9_130) rfl (by decide) (cap := 5) (by decide) (by decide) (by decide) (by decide)
              obtain ⟨b246, g246⟩ : ∃ z, z = h239.size := ⟨_, rfl⟩
              rw [← g246] at A246 st246
              refine Go.via st246 ?_
              have ne247 : b239 ≠ b246 := Nat.ne_of_lt (Nat.lt_of_lt_of_le A239.lt (Nat.le_of_eq g246.symm))
              have g248 : n0 ≤ b246 := Nat.le_trans Z242 (Nat.le_of_eq g246.symm)
              have sz249 : h0.size ≤ b246 := Nat.le_trans K243.1 (Nat.le_of_eq g246.symm)
              have Z250 : n0 ≤ h246.size := Nat.le_trans Z242 E246.1
              have K251 : Keep h0 h246 [] := K243.ext E246
              have O252 : Old Z n0 h246 := O244.ext E246
              have CR253 := CHr.trans CR245 (CHr.ext E246 CR245.1)
              have V246 : Arv Z h246 b246 k246 .char (5 : Int32) [(.int (0 : Int32)), (.int (0 : Int32)), (.int (0 : Int32)), (.int (0 : Int32)), (.int (0 : Int32))] (.int (0 : Int32)) := (Arv.new A246 (by decide)).pad (pad_rep [] (.int (0 : Int32)) 5)
              show Go p.tables e below P T246 (mkF m 132 #[.val (.int nn), .val (.int q0), .val (.int q1), .val (.int q2), .val (.int q3), .val (.int q4), .val (.int q5), .val (.int q6)] [(.ref b246), (.ref b239), (.ref b239)])
              refine Go.via (fun t k => XS.dup X246.here hx rfl (hb hby d9_132) rfl rfl k) ?_
              show Go p.tables e below P T246 (mkF m 133 #[.val (.int nn), .val (.int q0), .val (.int q1), .val (.int q2), .val (.int q3), .val (.int q4), .val (.int q5), .val (.int q6)] [(.ref b246), (.ref b246), (.ref b239), (.ref b239)])
              refine Go.via (fun t k => XS.iconst X246.here hx rfl (hb hby d9_133) k) ?_
              show Go p.tables e below P T246 (mkF m 134 #[.val (.int nn), .val (.int q0), .val (.int q1), .val (.int q2), .val (.int q3), .val (.int q4), .val (.int q5), .val (.int q6)] [(.int (0 : Int32)), (.ref b246), (.ref b246), (.ref b239), (.ref b239)])
              refine Go.via (fun t k => XS.iloadN X246.here hx rfl (hb hby d9_134) rfl k) ?_
              show Go p.tables e below P T246 (mkF m 135 #[.val (.int nn), .val (.int q0), .val (.int q1), .val (.int q2), .val (.int q3), .val (.int q4), .val (.int q5), .val (.int q6)] [(.int q0), (.int (0 : Int32)), (.ref b246), (.ref b246), (.ref b239), (.ref b239)])
              have F254 : Exa Z h246 b239 "java/lang/String" := (A239.ext E246)
              have F255 : Fld Z h246 b239 "java/lang/String" "value" "[B" .null := ((D239 (Or.inr (hw _ (List.mem_of_getElem? (i := 4) rfl))) (ty := (.array .byte)) (by decide) : Fld Z h239 b239 "java/lang/String" "value" "[B" .null).ext E246)
              have F256 : Fld Z h246 b239 "java/lang/String" "coder" "B" (.int (0 : Int32)) := ((D239 (Or.inr (hw _ (List.mem_of_getElem? (i := 5) rfl))) (ty := .byte) (by decide) : Fld Z h239 b239 "java/lang/String" "coder" "B" (.int (0 : Int32))).ext E246)
              obtain ⟨c257, A257, q257, S257, N257, H257, G257⟩ := id V246
              have hin257 : ¬ ((0 : Int32) < 0 ∨ c257.slots.size ≤ ((0 : Int32)).toNatClampNeg) := inb_of S257 ⟨by decide, by decide⟩
              obtain ⟨T257, h257, X257, e257, W257, st257⟩ := stC X246 hx hZ e246 A257 (j := (0 : Int32)) hin257 (g := (mkF m 135 #[.val (.int nn), .val (.int q0), .val (.int q1), .val (.int q2), .val (.int q3), .val (.int q4), .val (.int q5), .val (.int q6)] [(.int q0), (.int (0 : Int32)), (.ref b246), (.ref b246), (.ref b239), (.ref b239)])) rfl rfl (hb hby d9_135)
              refine Go.via st257 ?_
              have Z258 : n0 ≤ h257.size := Nat.le_trans Z250 (Nat.le_of_eq W257.size.symm)
              have K259 : Keep h0 h257 [] := K251.wr W257 (Or.inr sz249)
              obtain ⟨lc257, Xh257, N260⟩ := own_hide X257 (Fr.snoc X257 N0 g248)
              clear X257
              have O261 : Old Z n0 h257 := O252.wr W257 g248
              have Sf257 := Safe.wr W257 (Safe.arv hZ.alike V246 (by decide)) CR253.1 (Safe.arv hZ.alike V246 (by decide))
              have CR262 := CHr.trans CR253 (CHr.wr W257 (Safe.arv hZ.alike V246 (by decide)) CR253.1)
              have V257 : Arv Z h257 b246 k246 .char (5 : Int32) [(.int (nar .char q0)), (.int (0 : Int32)), (.int (0 : Int32)), (.int (0 : Int32)), (.int (0 : Int32))] (.int (0 : Int32)) := Arv.set A257 q257 S257 N257 H257 G257 (fits_nar_char _) W257 0 rfl (Nat.le_of_ble_eq_true rfl)
              show Go p.tables e below P T257 (mkF m 136 #[.val (.int nn), .val (.int q0), .val (.int q1), .val (.int q2), .val (.int q3), .val (.int q4), .val (.int q5), .val (.int q6)] [(.ref b246), (.ref b239), (.ref b239)])
              refine Go.via (fun t k => XS.dup Xh257.here hx rfl (hb hby d9_136) rfl rfl k) ?_
              show Go p.tables e below P T257 (mkF m 137 #[.val (.int nn), .val (.int q0), .val (.int q1), .val (.int q2), .val (.int q3), .val (.int q4), .val (.int q5), .val (.int q6)] [(.ref b246), (.ref b246), (.ref b239), (.ref b239)])
              refine Go.via (fun t k => XS.iconst Xh257.here hx rfl (hb hby d9_137) k) ?_
              show Go p.tables e below P T257 (mkF m 138 #[.val (.int nn), .val (.int q0), .val (.int q1), .val (.int q2), .val (.int q3), .val (.int q4), .val (.int q5), .val (.int q6)] [(.int (1 : Int32)), (.ref b246), (.ref b246), (.ref b239), (.ref b239)])
              refine Go.via (fun t k => XS.iloadN Xh257.here hx rfl (hb hby d9_138) rfl k) ?_
              show Go p.tables e below P T257 (mkF m 139 #[.val (.int nn), .val (.int q0), .val (.int q1), .val (.int q2), .val (.int q3), .val (.int q4), .val (.int q5), .val (.int q6)] [(.int q1), (.int (1 : Int32)), (.ref b246), (.ref b246), (.ref b239), (.ref b239)])
              have F263 : Exa Z h257 b239 "java/lang/String" := (F254.wr W257)
              have F264 : Fld Z h257 b239 "java/lang/String" "value" "[B" .null := (F255.other W257 (Or.inl ne247))
              have F265 : Fld Z h257 b239 "java/lang/String" "coder" "B" (.int (0 : Int32)) := (F256.other W257 (Or.inl ne247))
              obtain ⟨c266, A266, q266, S266, N266, H266, G266⟩ := id V257
              have hin266 : ¬ ((1 : Int32) < 0 ∨ c266.slots.size ≤ ((1 : Int32)).toNatClampNeg) := inb_of S266 ⟨by decide, by decide⟩
              obtain ⟨T266, h266, X266, e266, W266, st266⟩ := stC Xh257 hx hZ e257 A266 (j := (1 : Int32)) hin266 (g := (mkF m 139 #[.val (.int nn), .val (.int q0), .val (.int q1), .val (.int q2), .val (.int q3), .val (.int q4), .val (.int q5), .val (.int q6)] [(.int q1), (.int (1 : Int32)), (.ref b246), (.ref b246), (.ref b239), (.ref b239)])) rfl rfl (hb hby d9_139)
              refine Go.via st266 ?_
              have Z267 : n0 ≤ h266.size := Nat.le_trans Z258 (Nat.le_of_eq W266.size.symm)
              have K268 : Keep h0 h266 [] := K259.wr W266 (Or.inr sz249)
              obtain ⟨lc266, Xh266, N269⟩ := own_hide X266 (Fr.snoc X266 N260 g248)
              clear X266
              have O270 : Old Z n0 h266 := O261.wr W266 g248
              have Sf266 := Safe.wr W266 (Safe.arv hZ.alike V257 (by decide)) CR262.1 (Safe.arv hZ.alike V257 (by decide))
              have CR271 := CHr.trans CR262 (CHr.wr W266 (Safe.arv hZ.alike V257 (by decide)) CR262.1)
              have V266 : Arv Z h266 b246 k246 .char (5 : Int32) [(.int (nar .char q0)), (.int (nar .char q1)), (.int (0 : Int32)), (.int (0 : Int32)), (.int (0 : Int32))] (.int (0 : Int32)) := Arv.set A266 q266 S266 N266 H266 G266 (fits_nar_char _) W266 1 rfl (Nat.le_of_ble_eq_true rfl)
              show Go p.tables e below P T266 (mkF m 140 #[.val (.int nn), .val (.int q0), .val (.int q1), .val (.int q2), .val (.int q3), .val (.int q4), .val (.int q5), .val (.int q6)] [(.ref b246), (.ref b239), (.ref b239)])
              refine Go.via (fun t k => XS.dup Xh266.here hx rfl (hb hby d9_140) rfl rfl k) ?_
              show Go p.tables e below P T266 (mkF m 141 #[.val (.int nn), .val (.int q0), .val (.int q1), .val (.int q2), .val (.int q3), .val (.int q4), .val (.int q5), .val (.int q6)] [(.ref b246), (.ref b246), (.ref b239), (.ref b239)])
              refine Go.via (fun t k => XS.iconst Xh266.here hx rfl (hb hby d9_141) k) ?_
              show Go p.tables e below P T266 (mkF m 142 #[.val (.int nn), .val (.int q0), .val (.int q1), .val (.int q2), .val (.int q3), .val (.int q4), .val (.int q5), .val (.int q6)] [(.int (2 : Int32)), (.ref b246), (.ref b246), (.ref b239), (.ref b239)])
              refine Go.via (fun t k => XS.iloadN Xh266.here hx rfl (hb hby d9_142) rfl k) ?_
              show Go p.tables e below P T266 (mkF m 143 #[.val (.int nn), .val (.int q0), .val (.int q1), .val (.int q2), .val (.int q3), .val (.int q4), .val (.int q5), .val (.int q6)] [(.int q2), (.int (2 : Int32)), (.ref b246), (.ref b246), (.ref b239), (.ref b239)])
              have F272 : Exa Z h266 b239 "java/lang/String" := (F263.wr W266)
              have F273 : Fld Z h266 b239 "java/lang/String" "value" "[B" .null := (F264.other W266 (Or.inl ne247))
              have F274 : Fld Z h266 b239 "java/lang/String" "coder" "B" (.int (0 : Int32)) := (F265.other W266 (Or.inl ne247))
              obtain ⟨c275, A275, q275, S275, N275, H275, G275⟩ := id V266
              have hin275 : ¬ ((2 : Int32) < 0 ∨ c275.slots.size ≤ ((2 : Int32)).toNatClampNeg) := inb_of S275 ⟨by decide, by decide⟩
              obtain ⟨T275, h275, X275, e275, W275, st275⟩ := stC Xh266 hx hZ e266 A275 (j := (2 : Int32)) hin275 (g := (mkF m 143 #[.val (.int nn), .val (.int q0), .val (.int q1), .val (.int q2), .val (.int q3), .val (.int q4), .val (.int q5), .val (.int q6)] [(.int q2), (.int (2 : Int32)), (.ref b246), (.ref b246), (.ref b239), (.ref b239)])) rfl rfl (hb hby d9_143)
              refine Go.via st275 ?_
              have Z276 : n0 ≤ h275.size := Nat.le_trans Z267 (Nat.le_of_eq W275.size.symm)
              have K277 : Keep h0 h275 [] := K268.wr W275 (Or.inr sz249)
              obtain ⟨lc275, Xh275, N278⟩ := own_hide X275 (Fr.snoc X275 N269 g248)
              clear X275
              have O279 : Old Z n0 h275 := O270.wr W275 g248
              have Sf275 := Safe.wr W275 (Safe.arv hZ.alike V266 (by decide)) CR271.1 (Safe.arv hZ.alike V266 (by decide))
              have CR280 := CHr.trans CR271 (CHr.wr W275 (Safe.arv hZ.alike V266 (by decide)) CR271.1)
              have V275 : Arv Z h275 b246 k246 .char (5 : Int32) [(.int (nar .char q0)), (.int (nar .char q1)), (.int (nar .char q2)), (.int (0 : Int32)), (.int (0 : Int32))] (.int (0 : Int32)) := Arv.set A275 q275 S275 N275 H275 G275 (fits_nar_char _) W275 2 rfl (Nat.le_of_ble_eq_true rfl)
              show Go p.tables e below P T275 (mkF m 144 #[.val (.int nn), .val (.int q0), .val (.int q1), .val (.int q2), .val (.int q3), .val (.int q4), .val (.int q5), .val (.int q6)] [(.ref b246), (.ref b239), (.ref b239)])
              refine Go.via (fun t k => XS.dup Xh275.here hx rfl (hb hby d9_144) rfl rfl k) ?_
              show Go p.tables e below P T275 (mkF m 145 #[.val (.int nn), .val (.int q0), .val (.int q1), .val (.int q2), .val (.int q3), .val (.int q4), .val (.int q5), .val (.int q6)] [(.ref b246), (.ref b246), (.ref b239), (.ref b239)])
              refine Go.via (fun t k => XS.iconst Xh275.here hx rfl (hb hby d9_145) k) ?_
              show Go p.tables e below P T275 (mkF m 146 #[.val (.int nn), .val (.int q0), .val (.int q1), .val (.int q2), .val (.int q3), .val (.int q4), .val (.int q5), .val (.int q6)] [(.int (3 : Int32)), (.ref b246), (.ref b246), (.ref b239), (.ref b239)])
              refine Go.via (fun t k => XS.iload Xh275.here hx rfl (hb hby d9_146) rfl k) ?_
              show Go p.tables e below P T275 (mkF m 148 #[.val (.int nn), .val (.int q0), .val (.int q1), .val (.int q2), .val (.int q3), .val (.int q4), .val (.int q5), .val (.int q6)] [(.int q3), (.int (3 : Int32)), (.ref b246), (.ref b246), (.ref b239), (.ref b239)])
              have F281 : Exa Z h275 b239 "java/lang/String" := (F272.wr W275)
              have F282 : Fld Z h275 b239 "java/lang/String" "value" "[B" .null := (F273.other W275 (Or.inl ne247))
              have F283 : Fld Z h275 b239 "java/lang/String" "coder" "B" (.int (0 : Int32)) := (F274.other W275 (Or.inl ne247))
              obtain ⟨c284, A284, q284, S284, N284, H284, G284⟩ := id V275
              have hin284 : ¬ ((3 : Int32) < 0 ∨ c284.slots.size ≤ ((3 : Int32)).toNatClampNeg) := inb_of S284 ⟨by decide, by decide⟩
              obtain ⟨T284, h284, X284, e284, W284, st284⟩ := stC Xh275 hx hZ e275 A284 (j := (3 : Int32)) hin284 (g := (mkF m 148 #[.val (.int nn), .val (.int q0), .val (.int q1), .val (.int q2), .val (.int q3), .val (.int q4), .val (.int q5), .val (.int q6)] [(.int q3), (.int (3 : Int32)), (.ref b246), (.ref b246), (.ref b239), (.ref b239)])) rfl rfl (hb hby d9_148)
              refine Go.via st284 ?_
              have Z285 : n0 ≤ h284.size := Nat.le_trans Z276 (Nat.le_of_eq W284.size.symm)
              have K286 : Keep h0 h284 [] := K277.wr W284 (Or.inr sz249)
              obtain ⟨lc284, Xh284, N287⟩ := own_hide X284 (Fr.snoc X284 N278 g248)
              clear X284
              have O288 : Old Z n0 h284 := O279.wr W284 g248
              have Sf284 := Safe.wr W284 (Safe.arv hZ.alike V275 (by decide)) CR280.1 (Safe.arv hZ.alike V275 (by decide))
              have CR289 := CHr.trans CR280 (CHr.wr W284 (Safe.arv hZ.alike V275 (by decide)) CR280.1)
              have V284 : Arv Z h284 b246 k246 .char (5 : Int32) [(.int (nar .char q0)), (.int (nar .char q1)), (.int (nar .char q2)), (.int (nar .char q3)), (.int (0 : Int32))] (.int (0 : Int32)) := Arv.set A284 q284 S284 N284 H284 G284 (fits_nar_char _) W284 3 rfl (Nat.le_of_ble_eq_true rfl)
              show Go p.tables e below P T284 (mkF m 149 #[.val (.int nn), .val (.int q0), .val (.int q1), .val (.int q2), .val (.int q3), .val (.int q4), .val (.int q5), .val (.int q6)] [(.ref b246), (.ref b239), (.ref b239)])
              refine Go.via (fun t k => XS.dup Xh284.here hx rfl (hb hby d9_149) rfl rfl k) ?_
              show Go p.tables e below P T284 (mkF m 150 #[.val (.int nn), .val (.int q0), .val (.int q1), .val (.int q2), .val (.int q3), .val (.int q4), .val (.int q5), .val (.int q6)] [(.ref b246), (.ref b246), (.ref b239), (.ref b239)])
              refine Go.via (fun t k => XS.iconst Xh284.here hx rfl (hb hby d9_150) k) ?_
              show Go p.tables e below P T284 (mkF m 151 #[.val (.int nn), .val (.int q0), .val (.int q1), .val (.int q2), .val (.int q3), .val (.int q4), .val (.int q5), .val (.int q6)] [(.int (4 : Int32)), (.ref b246), (.ref b246), (.ref b239), (.ref b239)])
              refine Go.via (fun t k => XS.iload Xh284.here hx rfl (hb hby d9_151) rfl k) ?_
              show Go p.tables e below P T284 (mkF m 153 #[.val (.int nn), .val (.int q0), .val (.int q1), .val (.int q2), .val (.int q3), .val (.int q4), .val (.int q5), .val (.int q6)] [(.int q4), (.int (4 : Int32)), (.ref b246), (.ref b246), (.ref b239), (.ref b239)])
              have F290 : Exa Z h284 b239 "java/lang/String" := (F281.wr W284)
              have F291 : Fld Z h284 b239 "java/lang/String" "value" "[B" .null := (F282.other W284 (Or.inl ne247))
              have F292 : Fld Z h284 b239 "java/lang/String" "coder" "B" (.int (0 : Int32)) := (F283.other W284 (Or.inl ne247))
              obtain ⟨c293, A293, q293, S293, N293, H293, G293⟩ := id V284
              have hin293 : ¬ ((4 : Int32) < 0 ∨ c293.slots.size ≤ ((4 : Int32)).toNatClampNeg) := inb_of S293 ⟨by decide, by decide⟩
              obtain ⟨T293, h293, X293, e293, W293, st293⟩ := stC Xh284 hx hZ e284 A293 (j := (4 : Int32)) hin293 (g := (mkF m 153 #[.val (.int nn), .val (.int q0), .val (.int q1), .val (.int q2), .val (.int q3), .val (.int q4), .val (.int q5), .val (.int q6)] [(.int q4), (.int (4 : Int32)), (.ref b246), (.ref b246), (.ref b239), (.ref b239)])) rfl rfl (hb hby d9_153)
              refine Go.via st293 ?_
              have Z294 : n0 ≤ h293.size := Nat.le_trans Z285 (Nat.le_of_eq W293.size.symm)
              have K295 : Keep h0 h293 [] := K286.wr W293 (Or.inr sz249)
              obtain ⟨lc293, Xh293, N296⟩ := own_hide X293 (Fr.snoc X293 N287 g248)
              clear X293
              have O297 : Old Z n0 h293 := O288.wr W293 g248
              have Sf293 := Safe.wr W293 (Safe.arv hZ.alike V284 (by decide)) CR289.1 (Safe.arv hZ.alike V284 (by decide))
              have CR298 := CHr.trans CR289 (CHr.wr W293 (Safe.arv hZ.alike V284 (by decide)) CR289.1)
              have V293 : Arv Z h293 b246 k246 .char (5 : Int32) [(.int (nar .char q0)), (.int (nar .char q1)), (.int (nar .char q2)), (.int (nar .char q3)), (.int (nar .char q4))] (.int (0 : Int32)) := Arv.set A293 q293 S293 N293 H293 G293 (fits_nar_char _) W293 4 rfl (Nat.le_of_ble_eq_true rfl)
              show Go p.tables e below P T293 (mkF m 154 #[.val (.int nn), .val (.int q0), .val (.int q1), .val (.int q2), .val (.int q3), .val (.int q4), .val (.int q5), .val (.int q6)] [(.ref b246), (.ref b239), (.ref b239)])
              have F299 : Exa Z h293 b239 "java/lang/String" := (F290.wr W293)
              have F300 : Fld Z h293 b239 "java/lang/String" "value" "[B" .null := (F291.other W293 (Or.inl ne247))
              have F301 : Fld Z h293 b239 "java/lang/String" "coder" "B" (.int (0 : Int32)) := (F292.other W293 (Or.inl ne247))
              obtain ⟨_, _, ⟨T302, L302, k302, n302⟩, -, X302, ⟨Lc302, hQ302, l302, y302, z302⟩, st302⟩ := Xh293.specialBack hx (y := (⟨"java/lang/String", "<init>", "([C)V"⟩ : MethodName)) rfl hown (mvT hZ (hw _ (List.mem_of_getElem? (i := 53) rfl))) (mvT hZ (hw _ (List.mem_of_getElem? (i := 54) rfl))) (mvT hZ (hw _ (List.mem_of_getElem? (i := 55) rfl))) (by decide) (StrChars.Road.backV (W := 1) hZ (own_ws hw) (kI := 4) (hw _ (List.mem_of_getElem? (i := 2) rfl)) (cs := ([(nar .char q0), (nar .char q1), (nar .char q2), (nar .char q3), (nar .char q4)] : List Int32)) (bs := ([((nar .char q0)).toInt8.toInt32, ((nar .char q1)).toInt8.toInt32, ((nar .char q2)).toInt8.toInt32, ((nar .char q3)).toInt8.toInt32, ((nar .char q4)).toInt8.toInt32] : List Int32)) (n := 5) g240 Z294 F299 F300 F301 V293 (P1.ext O297.2) hcs rfl rfl (by decide) (by decide) (own_alC (own_hp by0) (own_alC (own_hp by1) (own_alC (own_hp by2) (own_alC (own_hp by3) (own_alC (own_hp by4) own_al0))))) rfl (by decide) (by decide)) (g := (mkF m 154 #[.val (.int nn), .val (.int q0), .val (.int q1), .val (.int q2), .val (.int q3), .val (.int q4), .val (.int q5), .val (.int q6)] [(.ref b246), (.ref b239), (.ref b239)])) rfl (by rw [hml]; rfl) (Steps.refl _) (a := b239) (argsL := [(.ref b246)]) (rest := [(.ref b239)]) (lenOf own_pd8 rfl) rfl (by show 2 * 0 + _ ≤ _; exact Nat.le_of_eq rfl) (hb hby d9_154) (fun _ _ => ⟨rfl, e293, (by decide : 2 + 1 ≤ _), (by decide : 9 + 5 ≤ _)⟩)
              dsimp only [Pt.U, Pt.locs, Pt.cells, Pt.slots] at X302 l302 y302 z302 st302 hQ302
              subst l302 y302 z302
              obtain ⟨rfl, Nq302, K302, Ex302, Fc302, t302, kb302, -, lt302, ne302, Fv302, Va302⟩ := hQ302
              obtain ⟨lc302, Xh302, N302⟩ := own_hide X302 (Fr.app N296 Nq302)
              clear X302
              refine Go.hop st302 ?_
              have ne303 : b239 ≠ t302 := Nat.ne_of_lt (Nat.lt_of_lt_of_le F299.lt lt302)
              have ne304 : b246 ≠ t302 := Nat.ne_of_lt (Nat.lt_of_lt_of_le V293.lt lt302)
              have g305 : n0 ≤ t302 := Nat.le_trans Z294 lt302
              have sz306 : h0.size ≤ t302 := Nat.le_trans K295.1 lt302
              have Z307 : n0 ≤ T302.heap.size := Nat.le_trans Z294 K302.1
              have K308 : Keep h0 T302.heap [] := K295.trans K302 (own_allC (Or.inr sz241) own_all0)
              have CR309 := CHr.trans CR298 (CHr.keep K302 (sfS (own_safeS hZ.alike F299 F300) sf0) CR298.1)
              have O310 : Old Z n0 T302.heap := O297.keep K302 (own_allC g240 own_all0)
              have Vt302 : Arv Z T302.heap t302 kb302 .byte (5 : Int32) [(.int ((nar .char q0)).toInt8.toInt32), (.int ((nar .char q1)).toInt8.toInt32), (.int ((nar .char q2)).toInt8.toInt32), (.int ((nar .char q3)).toInt8.toInt32), (.int ((nar .char q4)).toInt8.toInt32)] (.int (0 : Int32)) := Va302
              show Go p.tables e below P T302 (mkF m 157 #[.val (.int nn), .val (.int q0), .val (.int q1), .val (.int q2), .val (.int q3), .val (.int q4), .val (.int q5), .val (.int q6)] [(.ref b239)])
              have Vr312 : Arv Z T302.heap t302 kb302 .byte (own_lg ([((nar .char q0)).toInt8.toInt32, ((nar .char q1)).toInt8.toInt32, ((nar .char q2)).toInt8.toInt32, ((nar .char q3)).toInt8.toInt32, ((nar .char q4)).toInt8.toInt32] : List Int32)) (([((nar .char q0)).toInt8.toInt32, ((nar .char q1)).toInt8.toInt32, ((nar .char q2)).toInt8.toInt32, ((nar .char q3)).toInt8.toInt32, ((nar .char q4)).toInt8.toInt32] : List Int32).map Value.int) (.int (0 : Int32)) := by
                rw [show own_lg ([((nar .char q0)).toInt8.toInt32, ((nar .char q1)).toInt8.toInt32, ((nar .char q2)).toInt8.toInt32, ((nar .char q3)).toInt8.toInt32, ((nar .char q4)).toInt8.toInt32] : List Int32) = (5 : Int32) from rfl]; exact Vt302
              obtain ⟨fs, hr, hrun, hended, hend⟩ := Xh302.leaveW hS0 (by exact (Nat.zero_le _)) (v := some (.ref b239)) (fun h => by rw [Bd.returns] at h; cases h)
              have hCf : CHr Z consts_1 s.vm s.heap (T302.setFrames fs).vm (T302.setFrames fs).heap := by
                rw [hh]
                show CHr Z consts_1 s.vm h0 T302.vm T302.heap
                exact CHr.trans CR309 (CHv.at Xh302 hZ (own_EW hw) CR309.1)
              refine ⟨_, _, retA Xh302 hx Bd.returns rfl rfl rfl (hb hby d9_157) hr, hrun, hended, hP _ _ ⟨_, _, rfl, ?_, hCf, own_rew hend (by decide) (by decide)⟩⟩
              show Q9 Z nn q0 q1 q2 q3 q4 q5 q6 cs h0 n0 _ T302.heap _
              exact ⟨b239, t302, kb302, ([((nar .char q0)).toInt8.toInt32, ((nar .char q1)).toInt8.toInt32, ((nar .char q2)).toInt8.toInt32, ((nar .char q3)).toInt8.toInt32, ((nar .char q4)).toInt8.toInt32] : List Int32), rfl, N302, K308, sz241, Ex302, Fv302, Fc302, Vr312, (by simp), Vr312.lt, ne303⟩
            · refine Go.via (fun t k => XS.icmpYes X0.here hx rfl (pc0 := 122) (pc' := 158) rfl (hb hby d9_122) rfl (feq hc238).2 (by decide) (by decide) k) ?_
              show Go p.tables e below P s₁ (mkF m 158 #[.val (.int nn), .val (.int q0), .val (.int q1), .val (.int q2), .val (.int q3), .val (.int q4), .val (.int q5), .val (.int q6)] [])
              refine Go.via (fun t k => XS.iloadN X0.here hx rfl (hb hby d9_158) rfl k) ?_
              show Go p.tables e below P s₁ (mkF m 159 #[.val (.int nn), .val (.int q0), .val (.int q1), .val (.int q2), .val (.int q3), .val (.int q4), .val (.int q5), .val (.int q6)] [(.int nn)])
              refine Go.via (fun t k => XS.bipush X0.here hx rfl (hb hby d9_159) k) ?_
              show Go p.tables e below P s₁ (mkF m 161 #[.val (.int nn), .val (.int q0), .val (.int q1), .val (.int q2), .val (.int q3), .val (.int q4), .val (.int q5), .val (.int q6)] [(.int (6 : Int32)), (.int nn)])
              by_cases hc313 : nn = (6 : Int32)
              · refine Go.via (fun t k => XS.icmpNo X0.here hx rfl (hb hby d9_161) rfl (teq hc313).2 k) ?_
                show Go p.tables e below P s₁ (mkF m 164 #[.val (.int nn), .val (.int q0), .val (.int q1), .val (.int q2), .val (.int q3), .val (.int q4), .val (.int q5), .val (.int q6)] [])
                obtain ⟨T314, h314, X314, e314, E314, A314, D314, -, st314⟩ := newO X0 hx hZ hown (hw _ (List.mem_of_getElem? (i := 51) rfl)) (hw _ (List.mem_of_getElem? (i := 2) rfl)) (hw _ (List.mem_of_getElem? (i := 1) rfl)) e0 (g := (mkF m 164 #[.val (.int nn), .val (.int q0), .val (.int q1), .val (.int q2), .val (.int q3), .val (.int q4), .val (.int q5), .val (.int q6)] [])) rfl (hb hby d9_164) (by decide) (by decide)
                obtain ⟨b314, g314⟩ : ∃ z, z = h0.size := ⟨_, rfl⟩
                rw [← g314] at A314 D314 st314
                refine Go.via st314 ?_
                have g315 : n0 ≤ b314 := Nat.le_trans Z0 (Nat.le_of_eq g314.symm)
                have sz316 : h0.size ≤ b314 := Nat.le_trans K0.1 (Nat.le_of_eq g314.symm)
                have Z317 : n0 ≤ h314.size := Nat.le_trans Z0 E314.1
                have K318 : Keep h0 h314 [] := K0.ext E314
                have O319 : Old Z n0 h314 := O0.ext E314
                have CR320 := CHr.trans CR0 (CHr.ext E314 CR0.1)
                show Go p.tables e below P T314 (mkF m 167 #[.val (.int nn), .val (.int q0), .val (.int q1), .val (.int q2), .val (.int q3), .val (.int q4), .val (.int q5), .val (.int q6)] [(.ref b314)])
                refine Go.via (fun t k => XS.dup X314.here hx rfl (hb hby d9_167) rfl rfl k) ?_
                show Go p.tables e below P T314 (mkF m 168 #[.val (.int nn), .val (.int q0), .val (.int q1), .val (.int q2), .val (.int q3), .val (.int q4), .val (.int q5), .val (.int q6)] [(.ref b314), (.ref b314)])
                refine Go.via (fun t k => XS.bipush X314.here hx rfl (hb hby d9_168) k) ?_
                show Go p.tables e below P T314 (mkF m 170 #[.val (.int nn), .val (.int q0), .val (.int q1), .val (.int q2), .val (.int q3), .val (.int q4), .val (.int q5), .val (.int q6)] [(.int (6 : Int32)), (.ref b314), (.ref b314)])
                obtain ⟨T321, h321, k321, X321, e321, E321, A321, st321⟩ := newP X314 hx hZ (hw _ (List.mem_of_getElem? (i := 52) rfl)) e314 (g := (mkF m 170 #[.val (.int nn), .val (.int q0), .val (.int q1), .val (.int q2), .val (.int q3), .val (.int q4), .val (.int q5), .val (.int q6)] [(.int (6 : Int32)), (.ref b314), (.ref b314)])) rfl (hb hby d9_170) rfl (by decide) (cap := 6) (by decide) (by decide) (by decide) (by decide)
                obtain ⟨b321, g321⟩ : ∃ z, z = h314.size := ⟨_, rfl⟩
                rw [← g321] at A321 st321
                refine Go.via st321 ?_
                have ne322 : b314 ≠ b321 := Nat.ne_of_lt (Nat.lt_of_lt_of_le A314.lt (Nat.le_of_eq g321.symm))
                have g323 : n0 ≤ b321 := Nat.le_trans Z317 (Nat.le_of_eq g321.symm)
                have sz324 : h0.size ≤ b321 := Nat.le_trans K318.1 (Nat.le_of_eq g321.symm)
                have Z325 : n0 ≤ h321.size := Nat.le_trans Z317 E321.1
                have K326 : Keep h0 h321 [] := K318.ext E321
                have O327 : Old Z n0 h321 := O319.ext E321
                have CR328 := CHr.trans CR320 (CHr.ext E321 CR320.1)
                have V321 : Arv Z h321 b321 k321 .char (6 : Int32) [(.int (0 : Int32)), (.int (0 : Int32)), (.int (0 : Int32)), (.int (0 : Int32)), (.int (0 : Int32)), (.int (0 : Int32))] (.int (0 : Int32)) := (Arv.new A321 (by decide)).pad (pad_rep [] (.int (0 : Int32)) 6)
                show Go p.tables e below P T321 (mkF m 172 #[.val (.int nn), .val (.int q0), .val (.int q1), .val (.int q2), .val (.int q3), .val (.int q4), .val (.int q5), .val (.int q6)] [(.ref b321), (.ref b314), (.ref b314)])
                refine Go.via (fun t k => XS.dup X321.here hx rfl (hb hby d9_172) rfl rfl k) ?_
                show Go p.tables e below P T321 (mkF m 173 #[.val (.int nn), .val (.int q0), .val (.int q1), .val (.int q2), .val (.int q3), .val (.int q4), .val (.int q5), .val (.int q6)] [(.ref b321), (.ref b321), (.ref b314), (.ref b314)])
                refine Go.via (fun t k => XS.iconst X321.here hx rfl (hb hby d9_173) k) ?_
                show Go p.tables e below P T321 (mkF m 174 #[.val (.int nn), .val (.int q0), .val (.int q1), .val (.int q2), .val (.int q3), .val (.int q4), .val (.int q5), .val (.int q6)] [(.int (0 : Int32)), (.ref b321), (.ref b321), (.ref b314), (.ref b314)])
                refine Go.via (fun t k => XS.iloadN X321.here hx rfl (hb hby d9_174) rfl k) ?_
                show Go p.tables e below P T321 (mkF m 175 #[.val (.int nn), .val (.int q0), .val (.int q1), .val (.int q2), .val (.int q3), .val (.int q4), .val (.int q5), .val (.int q6)] [(.int q0), (.int (0 : Int32)), (.ref b321), (.ref b321), (.ref b314), (.ref b314)])
                have F329 : Exa Z h321 b314 "java/lang/String" := (A314.ext E321)
                have F330 : Fld Z h321 b314 "java/lang/String" "value" "[B" .null := ((D314 (Or.inr (hw _ (List.mem_of_getElem? (i := 4) rfl))) (ty := (.array .byte)) (by decide) : Fld Z h314 b314 "java/lang/String" "value" "[B" .null).ext E321)
                have F331 : Fld Z h321 b314 "java/lang/String" "coder" "B" (.int (0 : Int32)) := ((D314 (Or.inr (hw _ (List.mem_of_getElem? (i := 5) rfl))) (ty := .byte) (by decide) : Fld Z h314 b314 "java/lang/String" "coder" "B" (.int (0 : Int32))).ext E321)
                obtain ⟨c332, A332, q332, S332, N332, H332, G332⟩ := id V321
                have hin332 : ¬ ((0 : Int32) < 0 ∨ c332.slots.size ≤ ((0 : Int32)).toNatClampNeg) := inb_of S332 ⟨by decide, by decide⟩
                obtain ⟨T332, h332, X332, e332, W332, st332⟩ := stC X321 hx hZ e321 A332 (j := (0 : Int32)) hin332 (g := (mkF m 175 #[.val (.int nn), .val (.int q0), .val (.int q1), .val (.int q2), .val (.int q3), .val (.int q4), .val (.int q5), .val (.int q6)] [(.int q0), (.int (0 : Int32)), (.ref b321), (.ref b321), (.ref b314), (.ref b314)])) rfl rfl (hb hby d9_175)
                refine Go.via st332 ?_
                have Z333 : n0 ≤ h332.size := Nat.le_trans Z325 (Nat.le_of_eq W332.size.symm)
                have K334 : Keep h0 h332 [] := K326.wr W332 (Or.inr sz324)
                obtain ⟨lc332, Xh332, N335⟩ := own_hide X332 (Fr.snoc X332 N0 g323)
                clear X332
                have O336 : Old Z n0 h332 := O327.wr W332 g323
                have Sf332 := Safe.wr W332 (Safe.arv hZ.alike V321 (by decide)) CR328.1 (Safe.arv hZ.alike V321 (by decide))
                have CR337 := CHr.trans CR328 (CHr.wr W332 (Safe.arv hZ.alike V321 (by decide)) CR328.1)
                have V332 : Arv Z h332 b321 k321 .char (6 : Int32) [(.int (nar .char q0)), (.int (0 : Int32)), (.int (0 : Int32)), (.int (0 : Int32)), (.int (0 : Int32)), (.int (0 : Int32))] (.int (0 : Int32)) := Arv.set A332 q332 S332 N332 H332 G332 (fits_nar_char _) W332 0 rfl (Nat.le_of_ble_eq_true rfl)
                show Go p.tables e below P T332 (mkF m 176 #[.val (.int nn), .val (.int q0), .val (.int q1), .val (.int q2), .val (.int q3), .val (.int q4), .val (.int q5), .val (.int q6)] [(.ref b321), (.ref b314), (.ref b314)])
                refine Go.via (fun t k => XS.dup Xh332.here hx rfl (hb hby d9_176) rfl rfl k) ?_
                show Go p.tables e below P T332 (mkF m 177 #[.val (.int nn), .val (.int q0), .val (.int q1), .val (.int q2), .val (.int q3), .val (.int q4), .val (.int q5), .val (.int q6)] [(.ref b321), (.ref b321), (.ref b314), (.ref b314)])
                refine Go.via (fun t k => XS.iconst Xh332.here hx rfl (hb hby d9_177) k) ?_
                show Go p.tables e below P T332 (mkF m 178 #[.val (.int nn), .val (.int q0), .val (.int q1), .val (.int q2), .val (.int q3), .val (.int q4), .val (.int q5), .val (.int q6)] [(.int (1 : Int32)), (.ref b321), (.ref b321), (.ref b314), (.ref b314)])
                refine Go.via (fun t k => XS.iloadN Xh332.here hx rfl (hb hby d9_178) rfl k) ?_
                show Go p.tables e below P T332 (mkF m 179 #[.val (.int nn), .val (.int q0), .val (.int q1), .val (.int q2), .val (.int q3), .val (.int q4), .val (.int q5), .val (.int q6)] [(.int q1), (.int (1 : Int32)), (.ref b321), (.ref b321), (.ref b314), (.ref b314)])
                have F338 : Exa Z h332 b314 "java/lang/String" := (F329.wr W332)
                have F339 : Fld Z h332 b314 "java/lang/String" "value" "[B" .null := (F330.other W332 (Or.inl ne322))
                have F340 : Fld Z h332 b314 "java/lang/String" "coder" "B" (.int (0 : Int32)) := (F331.other W332 (Or.inl ne322))
                obtain ⟨c341, A341, q341, S341, N341, H341, G341⟩ := id V332
                have hin341 : ¬ ((1 : Int32) < 0 ∨ c341.slots.size ≤ ((1 : Int32)).toNatClampNeg) := inb_of S341 ⟨by decide, by decide⟩
                obtain ⟨T341, h341, X341, e341, W341, st341⟩ := stC Xh332 hx hZ e332 A341 (j := (1 : Int32)) hin341 (g := (mkF m 179 #[.val (.int nn), .val (.int q0), .val (.int q1), .val (.int q2), .val (.int q3), .val (.int q4), .val (.int q5), .val (.int q6)] [(.int q1), (.int (1 : Int32)), (.ref b321), (.ref b321), (.ref b314), (.ref b314)])) rfl rfl (hb hby d9_179)
                refine Go.via st341 ?_
                have Z342 : n0 ≤ h341.size := Nat.le_trans Z333 (Nat.le_of_eq W341.size.symm)
                have K343 : Keep h0 h341 [] := K334.wr W341 (Or.inr sz324)
                obtain ⟨lc341, Xh341, N344⟩ := own_hide X341 (Fr.snoc X341 N335 g323)
                clear X341
                have O345 : Old Z n0 h341 := O336.wr W341 g323
                have Sf341 := Safe.wr W341 (Safe.arv hZ.alike V332 (by decide)) CR337.1 (Safe.arv hZ.alike V332 (by decide))
                have CR346 := CHr.trans CR337 (CHr.wr W341 (Safe.arv hZ.alike V332 (by decide)) CR337.1)
                have V341 : Arv Z h341 b321 k321 .char (6 : Int32) [(.int (nar .char q0)), (.int (nar .char q1)), (.int (0 : Int32)), (.int (0 : Int32)), (.int (0 : Int32)), (.int (0 : Int32))] (.int (0 : Int32)) := Arv.set A341 q341 S341 N341 H341 G341 (fits_nar_char _) W341 1 rfl (Nat.le_of_ble_eq_true rfl)
                show Go p.tables e below P T341 (mkF m 180 #[.val (.int nn), .val (.int q0), .val (.int q1), .val (.int q2), .val (.int q3), .val (.int q4), .val (.int q5), .val (.int q6)] [(.ref b321), (.ref b314), (.ref b314)])
                refine Go.via (fun t k => XS.dup Xh341.here hx rfl (hb hby d9_180) rfl rfl k) ?_
                show Go p.tables e below P T341 (mkF m 181 #[.val (.int nn), .val (.int q0), .val (.int q1), .val (.int q2), .val (.int q3), .val (.int q4), .val (.int q5), .val (.int q6)] [(.ref b321), (.ref b321), (.ref b314), (.ref b314)])
                refine Go.via (fun t k => XS.iconst Xh341.here hx rfl (hb hby d9_181) k) ?_
                show Go p.tables e below P T341 (mkF m 182 #[.val (.int nn), .val (.int q0), .val (.int q1), .val (.int q2), .val (.int q3), .val (.int q4), .val (.int q5), .val (.int q6)] [(.int (2 : Int32)), (.ref b321), (.ref b321), (.ref b314), (.ref b314)])
                refine Go.via (fun t k => XS.iloadN Xh341.here hx rfl (hb hby d9_182) rfl k) ?_
                show Go p.tables e below P T341 (mkF m 183 #[.val (.int nn), .val (.int q0), .val (.int q1), .val (.int q2), .val (.int q3), .val (.int q4), .val (.int q5), .val (.int q6)] [(.int q2), (.int (2 : Int32)), (.ref b321), (.ref b321), (.ref b314), (.ref b314)])
                have F347 : Exa Z h341 b314 "java/lang/String" := (F338.wr W341)
                have F348 : Fld Z h341 b314 "java/lang/String" "value" "[B" .null := (F339.other W341 (Or.inl ne322))
                have F349 : Fld Z h341 b314 "java/lang/String" "coder" "B" (.int (0 : Int32)) := (F340.other W341 (Or.inl ne322))
                obtain ⟨c350, A350, q350, S350, N350, H350, G350⟩ := id V341
                have hin350 : ¬ ((2 : Int32) < 0 ∨ c350.slots.size ≤ ((2 : Int32)).toNatClampNeg) := inb_of S350 ⟨by decide, by decide⟩
                obtain ⟨T350, h350, X350, e350, W350, st350⟩ := stC Xh341 hx hZ e341 A350 (j := (2 : Int32)) hin350 (g := (mkF m 183 #[.val (.int nn), .val (.int q0), .val (.int q1), .val (.int q2), .val (.int q3), .val (.int q4), .val (.int q5), .val (.int q6)] [(.int q2), (.int (2 : Int32)), (.ref b321), (.ref b321), (.ref b314), (.ref b314)])) rfl rfl (hb hby d9_183)
                refine Go.via st350 ?_
                have Z351 : n0 ≤ h350.size := Nat.le_trans Z342 (Nat.le_of_eq W350.size.symm)
                have K352 : Keep h0 h350 [] := K343.wr W350 (Or.inr sz324)
                obtain ⟨lc350, Xh350, N353⟩ := own_hide X350 (Fr.snoc X350 N344 g323)
                clear X350
                have O354 : Old Z n0 h350 := O345.wr W350 g323
                have Sf350 := Safe.wr W350 (Safe.arv hZ.alike V341 (by decide)) CR346.1 (Safe.arv hZ.alike V341 (by decide))
                have CR355 := CHr.trans CR346 (CHr.wr W350 (Safe.arv hZ.alike V341 (by decide)) CR346.1)
                have V350 : Arv Z h350 b321 k321 .char (6 : Int32) [(.int (nar .char q0)), (.int (nar .char q1)), (.int (nar .char q2)), (.int (0 : Int32)), (.int (0 : Int32)), (.int (0 : Int32))] (.int (0 : Int32)) := Arv.set A350 q350 S350 N350 H350 G350 (fits_nar_char _) W350 2 rfl (Nat.le_of_ble_eq_true rfl)
                show Go p.tables e below P T350 (mkF m 184 #[.val (.int nn), .val (.int q0), .val (.int q1), .val (.int q2), .val (.int q3), .val (.int q4), .val (.int q5), .val (.int q6)] [(.ref b321), (.ref b314), (.ref b314)])
                refine Go.via (fun t k => XS.dup Xh350.here hx rfl (hb hby d9_184) rfl rfl k) ?_
                show Go p.tables e below P T350 (mkF m 185 #[.val (.int nn), .val (.int q0), .val (.int q1), .val (.int q2), .val (.int q3), .val (.int q4), .val (.int q5), .val (.int q6)] [(.ref b321), (.ref b321), (.ref b314), (.ref b314)])
                refine Go.via (fun t k => XS.iconst Xh350.here hx rfl (hb hby d9_185) k) ?_
                show Go p.tables e below P T350 (mkF m 186 #[.val (.int nn), .val (.int q0), .val (.int q1), .val (.int q2), .val (.int q3), .val (.int q4), .val (.int q5), .val (.int q6)] [(.int (3 : Int32)), (.ref b321), (.ref b321), (.ref b314), (.ref b314)])
                refine Go.via (fun t k => XS.iload Xh350.here hx rfl (hb hby d9_186) rfl k) ?_
                show Go p.tables e below P T350 (mkF m 188 #[.val (.int nn), .val (.int q0), .val (.int q1), .val (.int q2), .val (.int q3), .val (.int q4), .val (.int q5), .val (.int q6)] [(.int q3), (.int (3 : Int32)), (.ref b321), (.ref b321), (.ref b314), (.ref b314)])
                have F356 : Exa Z h350 b314 "java/lang/String" := (F347.wr W350)
                have F357 : Fld Z h350 b314 "java/lang/String" "value" "[B" .null := (F348.other W350 (Or.inl ne322))
                have F358 : Fld Z h350 b314 "java/lang/String" "coder" "B" (.int (0 : Int32)) := (F349.other W350 (Or.inl ne322))
                obtain ⟨c359, A359, q359, S359, N359, H359, G359⟩ := id V350
                have hin359 : ¬ ((3 : Int32) < 0 ∨ c359.slots.size ≤ ((3 : Int32)).toNatClampNeg) := inb_of S359 ⟨by decide, by decide⟩
                obtain ⟨T359, h359, X359, e359, W359, st359⟩ := stC Xh350 hx hZ e350 A359 (j := (3 : Int32)) hin359 (g := (mkF m 188 #[.val (.int nn), .val (.int q0), .val (.int q1), .val (.int q2), .val (.int q3), .val (.int q4), .val (.int q5), .val (.int q6)] [(.int q3), (.int (3 : Int32)), (.ref b321), (.ref b321), (.ref b314), (.ref b314)])) rfl rfl (hb hby d9_188)
                refine Go.via st359 ?_
                have Z360 : n0 ≤ h359.size := Nat.le_trans Z351 (Nat.le_of_eq W359.size.symm)
                have K361 : Keep h0 h359 [] := K352.wr W359 (Or.inr sz324)
                obtain ⟨lc359, Xh359, N362⟩ := own_hide X359 (Fr.snoc X359 N353 g323)
                clear X359
                have O363 : Old Z n0 h359 := O354.wr W359 g323
                have Sf359 := Safe.wr W359 (Safe.arv hZ.alike V350 (by decide)) CR355.1 (Safe.arv hZ.alike V350 (by decide))
                have CR364 := CHr.trans CR355 (CHr.wr W359 (Safe.arv hZ.alike V350 (by decide)) CR355.1)
                have V359 : Arv Z h359 b321 k321 .char (6 : Int32) [(.int (nar .char q0)), (.int (nar .char q1)), (.int (nar .char q2)), (.int (nar .char q3)), (.int (0 : Int32)), (.int (0 : Int32))] (.int (0 : Int32)) := Arv.set A359 q359 S359 N359 H359 G359 (fits_nar_char _) W359 3 rfl (Nat.le_of_ble_eq_true rfl)
                show Go p.tables e below P T359 (mkF m 189 #[.val (.int nn), .val (.int q0), .val (.int q1), .val (.int q2), .val (.int q3), .val (.int q4), .val (.int q5), .val (.int q6)] [(.ref b321), (.ref b314), (.ref b314)])
                refine Go.via (fun t k => XS.dup Xh359.here hx rfl (hb hby d9_189) rfl rfl k) ?_
                show Go p.tables e below P T359 (mkF m 190 #[.val (.int nn), .val (.int q0), .val (.int q1), .val (.int q2), .val (.int q3), .val (.int q4), .val (.int q5), .val (.int q6)] [(.ref b321), (.ref b321), (.ref b314), (.ref b314)])
                refine Go.via (fun t k => XS.iconst Xh359.here hx rfl (hb hby d9_190) k) ?_
                show Go p.tables e below P T359 (mkF m 191 #[.val (.int nn), .val (.int q0), .val (.int q1), .val (.int q2), .val (.int q3), .val (.int q4), .val (.int q5), .val (.int q6)] [(.int (4 : Int32)), (.ref b321), (.ref b321), (.ref b314), (.ref b314)])
                refine Go.via (fun t k => XS.iload Xh359.here hx rfl (hb hby d9_191) rfl k) ?_
                show Go p.tables e below P T359 (mkF m 193 #[.val (.int nn), .val (.int q0), .val (.int q1), .val (.int q2), .val (.int q3), .val (.int q4), .val (.int q5), .val (.int q6)] [(.int q4), (.int (4 : Int32)), (.ref b321), (.ref b321), (.ref b314), (.ref b314)])
                have F365 : Exa Z h359 b314 "java/lang/String" := (F356.wr W359)
                have F366 : Fld Z h359 b314 "java/lang/String" "value" "[B" .null := (F357.other W359 (Or.inl ne322))
                have F367 : Fld Z h359 b314 "java/lang/String" "coder" "B" (.int (0 : Int32)) := (F358.other W359 (Or.inl ne322))
                obtain ⟨c368, A368, q368, S368, N368, H368, G368⟩ := id V359
                have hin368 : ¬ ((4 : Int32) < 0 ∨ c368.slots.size ≤ ((4 : Int32)).toNatClampNeg) := inb_of S368 ⟨by decide, by decide⟩
                obtain ⟨T368, h368, X368, e368, W368, st368⟩ := stC Xh359 hx hZ e359 A368 (j := (4 : Int32)) hin368 (g := (mkF m 193 #[.val (.int nn), .val (.int q0), .val (.int q1), .val (.int q2), .val (.int q3), .val (.int q4), .val (.int q5), .val (.int q6)] [(.int q4), (.int (4 : Int32)), (.ref b321), (.ref b321), (.ref b314), (.ref b314)])) rfl rfl (hb hby d9_193)
                refine Go.via st368 ?_
                have Z369 : n0 ≤ h368.size := Nat.le_trans Z360 (Nat.le_of_eq W368.size.symm)
                have K370 : Keep h0 h368 [] := K361.wr W368 (Or.inr sz324)
                obtain ⟨lc368, Xh368, N371⟩ := own_hide X368 (Fr.snoc X368 N362 g323)
                clear X368
                have O372 : Old Z n0 h368 := O363.wr W368 g323
                have Sf368 := Safe.wr W368 (Safe.arv hZ.alike V359 (by decide)) CR364.1 (Safe.arv hZ.alike V359 (by decide))
                have CR373 := CHr.trans CR364 (CHr.wr W368 (Safe.arv hZ.alike V359 (by decide)) CR364.1)
                have V368 : Arv Z h368 b321 k321 .char (6 : Int32) [(.int (nar .char q0)), (.int (nar .char q1)), (.int (nar .char q2)), (.int (nar .char q3)), (.int (nar .char q4)), (.int (0 : Int32))] (.int (0 : Int32)) := Arv.set A368 q368 S368 N368 H368 G368 (fits_nar_char _) W368 4 rfl (Nat.le_of_ble_eq_true rfl)
                show Go p.tables e below P T368 (mkF m 194 #[.val (.int nn), .val (.int q0), .val (.int q1), .val (.int q2), .val (.int q3), .val (.int q4), .val (.int q5), .val (.int q6)] [(.ref b321), (.ref b314), (.ref b314)])
                refine Go.via (fun t k => XS.dup Xh368.here hx rfl (hb hby d9_194) rfl rfl k) ?_
                show Go p.tables e below P T368 (mkF m 195 #[.val (.int nn), .val (.int q0), .val (.int q1), .val (.int q2), .val (.int q3), .val (.int q4), .val (.int q5), .val (.int q6)] [(.ref b321), (.ref b321), (.ref b314), (.ref b314)])
                refine Go.via (fun t k => XS.iconst Xh368.here hx rfl (hb hby d9_195) k) ?_
                show Go p.tables e below P T368 (mkF m 196 #[.val (.int nn), .val (.int q0), .val (.int q1), .val (.int q2), .val (.int q3), .val (.int q4), .val (.int q5), .val (.int q6)] [(.int (5 : Int32)), (.ref b321), (.ref b321), (.ref b314), (.ref b314)])
                refine Go.via (fun t k => XS.iload Xh368.here hx rfl (hb hby d9_196) rfl k) ?_
                show Go p.tables e below P T368 (mkF m 198 #[.val (.int nn), .val (.int q0), .val (.int q1), .val (.int q2), .val (.int q3), .val (.int q4), .val (.int q5), .val (.int q6)] [(.int q5), (.int (5 : Int32)), (.ref b321), (.ref b321), (.ref b314), (.ref b314)])
                have F374 : Exa Z h368 b314 "java/lang/String" := (F365.wr W368)
                have F375 : Fld Z h368 b314 "java/lang/String" "value" "[B" .null := (F366.other W368 (Or.inl ne322))
                have F376 : Fld Z h368 b314 "java/lang/String" "coder" "B" (.int (0 : Int32)) := (F367.other W368 (Or.inl ne322))
                obtain ⟨c377, A377, q377, S377, N377, H377, G377⟩ := id V368
                have hin377 : ¬ ((5 : Int32) < 0 ∨ c377.slots.size ≤ ((5 : Int32)).toNatClampNeg) := inb_of S377 ⟨by decide, by decide⟩
                obtain ⟨T377, h377, X377, e377, W377, st377⟩ := stC Xh368 hx hZ e368 A377 (j := (5 : Int32)) hin377 (g := (mkF m 198 #[.val (.int nn), .val (.int q0), .val (.int q1), .val (.int q2), .val (.int q3), .val (.int q4), .val (.int q5), .val (.int q6)] [(.int q5), (.int (5 : Int32)), (.ref b321), (.ref b321), (.ref b314), (.ref b314)])) rfl rfl (hb hby d9_198)
                refine Go.via st377 ?_
                have Z378 : n0 ≤ h377.size := Nat.le_trans Z369 (Nat.le_of_eq W377.size.symm)
                have K379 : Keep h0 h377 [] := K370.wr W377 (Or.inr sz324)
                obtain ⟨lc377, Xh377, N380⟩ := own_hide X377 (Fr.snoc X377 N371 g323)
                clear X377
                have O381 : Old Z n0 h377 := O372.wr W377 g323
                have Sf377 := Safe.wr W377 (Safe.arv hZ.alike V368 (by decide)) CR373.1 (Safe.arv hZ.alike V368 (by decide))
                have CR382 := CHr.trans CR373 (CHr.wr W377 (Safe.arv hZ.alike V368 (by decide)) CR373.1)
                have V377 : Arv Z h377 b321 k321 .char (6 : Int32) [(.int (nar .char q0)), (.int (nar .char q1)), (.int (nar .char q2)), (.int (nar .char q3)), (.int (nar .char q4)), (.int (nar .char q5))] (.int (0 : Int32)) := Arv.set A377 q377 S377 N377 H377 G377 (fits_nar_char _) W377 5 rfl (Nat.le_of_ble_eq_true rfl)
                show Go p.tables e below P T377 (mkF m 199 #[.val (.int nn), .val (.int q0), .val (.int q1), .val (.int q2), .val (.int q3), .val (.int q4), .val (.int q5), .val (.int q6)] [(.ref b321), (.ref b314), (.ref b314)])
                have F383 : Exa Z h377 b314 "java/lang/String" := (F374.wr W377)
                have F384 : Fld Z h377 b314 "java/lang/String" "value" "[B" .null := (F375.other W377 (Or.inl ne322))
                have F385 : Fld Z h377 b314 "java/lang/String" "coder" "B" (.int (0 : Int32)) := (F376.other W377 (Or.inl ne322))
                obtain ⟨_, _, ⟨T386, L386, k386, n386⟩, -, X386, ⟨Lc386, hQ386, l386, y386, z386⟩, st386⟩ := Xh377.specialBack hx (y := (⟨"java/lang/String", "<init>", "([C)V"⟩ : MethodName)) rfl hown (mvT hZ (hw _ (List.mem_of_getElem? (i := 53) rfl))) (mvT hZ (hw _ (List.mem_of_getElem? (i := 54) rfl))) (mvT hZ (hw _ (List.mem_of_getElem? (i := 55) rfl))) (by decide) (StrChars.Road.backV (W := 1) hZ (own_ws hw) (kI := 4) (hw _ (List.mem_of_getElem? (i := 2) rfl)) (cs := ([(nar .char q0), (nar .char q1), (nar .char q2), (nar .char q3), (nar .char q4), (nar .char q5)] : List Int32)) (bs := ([((nar .char q0)).toInt8.toInt32, ((nar .char q1)).toInt8.toInt32, ((nar .char q2)).toInt8.toInt32, ((nar .char q3)).toInt8.toInt32, ((nar .char q4)).toInt8.toInt32, ((nar .char q5)).toInt8.toInt32] : List Int32)) (n := 6) g315 Z378 F383 F384 F385 V377 (P1.ext O381.2) hcs rfl rfl (by decide) (by decide) (own_alC (own_hp by0) (own_alC (own_hp by1) (own_alC (own_hp by2) (own_alC (own_hp by3) (own_alC (own_hp by4) (own_alC (own_hp by5) own_al0)))))) rfl (by decide) (by decide)) (g := (mkF m 199 #[.val (.int nn), .val (.int q0), .val (.int q1), .val (.int q2), .val (.int q3), .val (.int q4), .val (.int q5), .val (.int q6)] [(.ref b321), (.ref b314), (.ref b314)])) rfl (by rw [hml]; rfl) (Steps.refl _) (a := b314) (argsL := [(.ref b321)]) (rest := [(.ref b314)]) (lenOf own_pd8 rfl) rfl (by show 2 * 0 + _ ≤ _; exact Nat.le_of_eq rfl) (hb hby d9_199) (fun _ _ => ⟨rfl, e377, (by decide : 2 + 1 ≤ _), (by decide : 10 + 6 ≤ _)⟩)
                dsimp only [Pt.U, Pt.locs, Pt.cells, Pt.slots] at X386 l386 y386 z386 st386 hQ386
                subst l386 y386 z386
                obtain ⟨rfl, Nq386, K386, Ex386, Fc386, t386, kb386, -, lt386, ne386, Fv386, Va386⟩ := hQ386
                obtain ⟨lc386, Xh386, N386⟩ := own_hide X386 (Fr.app N380 Nq386)
                clear X386
                refine Go.hop st386 ?_
                have ne387 : b314 ≠ t386 := Nat.ne_of_lt (Nat.lt_of_lt_of_le F383.lt lt386)
                have ne388 : b321 ≠ t386 := Nat.ne_of_lt (Nat.lt_of_lt_of_le V377.lt lt386)
                have g389 : n0 ≤ t386 := Nat.le_trans Z378 lt386
                have sz390 : h0.size ≤ t386 := Nat.le_trans K379.1 lt386
                have Z391 : n0 ≤ T386.heap.size := Nat.le_trans Z378 K386.1
                have K392 : Keep h0 T386.heap [] := K379.trans K386 (own_allC (Or.inr sz316) own_all0)
                have CR393 := CHr.trans CR382 (CHr.keep K386 (sfS (own_safeS hZ.alike F383 F384) sf0) CR382.1)
                have O394 : Old Z n0 T386.heap := O381.keep K386 (own_allC g315 own_all0)
                have Vt386 : Arv Z T386.heap t386 kb386 .byte (6 : Int32) [(.int ((nar .char q0)).toInt8.toInt32), (.int ((nar .char q1)).toInt8.toInt32), (.int ((nar .char q2)).toInt8.toInt32), (.int ((nar .char q3)).toInt8.toInt32), (.int ((nar .char q4)).toInt8.toInt32), (.int ((nar .char q5)).toInt8.toInt32)] (.int (0 : Int32)) := Va386
                show Go p.tables e below P T386 (mkF m 202 #[.val (.int nn), .val (.int q0), .val (.int q1), .val (.int q2), .val (.int q3), .val (.int q4), .val (.int q5), .val (.int q6)] [(.ref b314)])
                have Vr396 : Arv Z T386.heap t386 kb386 .byte (own_lg ([((nar .char q0)).toInt8.toInt32, ((nar .char q1)).toInt8.toInt32, ((nar .char q2)).toInt8.toInt32, ((nar .char q3)).toInt8.toInt32, ((nar .char q4)).toInt8.toInt32, ((nar .char q5)).toInt8.toInt32] : List Int32)) (([((nar .char q0)).toInt8.toInt32, ((nar .char q1)).toInt8.toInt32, ((nar .char q2)).toInt8.toInt32, ((nar .char q3)).toInt8.toInt32, ((nar .char q4)).toInt8.toInt32, ((nar .char q5)).toInt8.toInt32] : List Int32).map Value.int) (.int (0 : Int32)) := by
                  rw [show own_lg ([((nar .char q0)).toInt8.toInt32, ((nar .char q1)).toInt8.toInt32, ((nar .char q2)).toInt8.toInt32, ((nar .char q3)).toInt8.toInt32, ((nar .char q4)).toInt8.toInt32, ((nar .char q5)).toInt8.toInt32] : List Int32) = (6 : Int32) from rfl]; exact Vt386
                obtain ⟨fs, hr, hrun, hended, hend⟩ := Xh386.leaveW hS0 (by exact (Nat.zero_le _)) (v := some (.ref b314)) (fun h => by rw [Bd.returns] at h; cases h)
                have hCf : CHr Z consts_1 s.vm s.heap (T386.setFrames fs).vm (T386.setFrames fs).heap := by
                  rw [hh]
                  show CHr Z consts_1 s.vm h0 T386.vm T386.heap
                  exact CHr.trans CR393 (CHv.at Xh386 hZ (own_EW hw) CR393.1)
                refine ⟨_, _, retA Xh386 hx Bd.returns rfl rfl rfl (hb hby d9_202) hr, hrun, hended, hP _ _ ⟨_, _, rfl, ?_, hCf, own_rew hend (by decide) (by decide)⟩⟩
                show Q9 Z nn q0 q1 q2 q3 q4 q5 q6 cs h0 n0 _ T386.heap _
                exact ⟨b314, t386, kb386, ([((nar .char q0)).toInt8.toInt32, ((nar .char q1)).toInt8.toInt32, ((nar .char q2)).toInt8.toInt32, ((nar .char q3)).toInt8.toInt32, ((nar .char q4)).toInt8.toInt32, ((nar .char q5)).toInt8.toInt32] : List Int32), rfl, N386, K392, sz316, Ex386, Fv386, Fc386, Vr396, (by simp), Vr396.lt, ne387⟩
              · refine Go.via (fun t k => XS.icmpYes X0.here hx rfl (pc0 := 161) (pc' := 203) rfl (hb hby d9_161) rfl (feq hc313).2 (by decide) (by decide) k) ?_
                show Go p.tables e below P s₁ (mkF m 203 #[.val (.int nn), .val (.int q0), .val (.int q1), .val (.int q2), .val (.int q3), .val (.int q4), .val (.int q5), .val (.int q6)] [])
                obtain ⟨T397, h397, X397, e397, E397, A397, D397, -, st397⟩ := newO X0 hx hZ hown (hw _ (List.mem_of_getElem? (i := 51) rfl)) (hw _ (List.mem_of_getElem? (i := 2) rfl)) (hw _ (List.mem_of_getElem? (i := 1) rfl)) e0 (g := (mkF m 203 #[.val (.int nn), .val (.int q0), .val (.int q1), .val (.int q2), .val (.int q3), .val (.int q4), .val (.int q5), .val (.int q6)] [])) rfl (hb hby d9_203) (by decide) (by decide)
                obtain ⟨b397, g397⟩ : ∃ z, z = h0.size := ⟨_, rfl⟩
                rw [← g397] at A397 D397 st397
                refine Go.via st397 ?_
                have g398 : n0 ≤ b397 := Nat.le_trans Z0 (Nat.le_of_eq g397.symm)
                have sz399 : h0.size ≤ b397 := Nat.le_trans K0.1 (Nat.le_of_eq g397.symm)
                have Z400 : n0 ≤ h397.size := Nat.le_trans Z0 E397.1
                have K401 : Keep h0 h397 [] := K0.ext E397
                have O402 : Old Z n0 h397 := O0.ext E397
                have CR403 := CHr.trans CR0 (CHr.ext E397 CR0.1)
                show Go p.tables e below P T397 (mkF m 206 #[.val (.int nn), .val (.int q0), .val (.int q1), .val (.int q2), .val (.int q3), .val (.int q4), .val (.int q5), .val (.int q6)] [(.ref b397)])
                refine Go.via (fun t k => XS.dup X397.here hx rfl (hb hby d9_206) rfl rfl k) ?_
                show Go p.tables e below P T397 (mkF m 207 #[.val (.int nn), .val (.int q0), .val (.int q1), .val (.int q2), .val (.int q3), .val (.int q4), .val (.int q5), .val (.int q6)] [(.ref b397), (.ref b397)])
                refine Go.via (fun t k => XS.bipush X397.here hx rfl (hb hby d9_207) k) ?_
                show Go p.tables e below P T397 (mkF m 209 #[.val (.int nn), .val (.int q0), .val (.int q1), .val (.int q2), .val (.int q3), .val (.int q4), .val (.int q5), .val (.int q6)] [(.int (7 : Int32)), (.ref b397), (.ref b397)])
                obtain ⟨T404, h404, k404, X404, e404, E404, A404, st404⟩ := newP X397 hx hZ (hw _ (List.mem_of_getElem? (i := 52) rfl)) e397 (g := (mkF m 209 #[.val (.int nn), .val (.int q0), .val (.int q1), .val (.int q2), .val (.int q3), .val (.int q4), .val (.int q5), .val (.int q6)] [(.int (7 : Int32)), (.ref b397), (.ref b397)])) rfl (hb hby d9_209) rfl (by decide) (cap := 7) (by decide) (by decide) (by decide) (by decide)
                obtain ⟨b404, g404⟩ : ∃ z, z = h397.size := ⟨_, rfl⟩
                rw [← g404] at A404 st404
                refine Go.via st404 ?_
                have ne405 : b397 ≠ b404 := Nat.ne_of_lt (Nat.lt_of_lt_of_le A397.lt (Nat.le_of_eq g404.symm))
                have g406 : n0 ≤ b404 := Nat.le_trans Z400 (Nat.le_of_eq g404.symm)
                have sz407 : h0.size ≤ b404 := Nat.le_trans K401.1 (Nat.le_of_eq g404.symm)
                have Z408 : n0 ≤ h404.size := Nat.le_trans Z400 E404.1
                have K409 : Keep h0 h404 [] := K401.ext E404
                have O410 : Old Z n0 h404 := O402.ext E404
                have CR411 := CHr.trans CR403 (CHr.ext E404 CR403.1)
                have V404 : Arv Z h404 b404 k404 .char (7 : Int32) [(.int (0 : Int32)), (.int (0 : Int32)), (.int (0 : Int32)), (.int (0 : Int32)), (.int (0 : Int32)), (.int (0 : Int32)), (.int (0 : Int32))] (.int (0 : Int32)) := (Arv.new A404 (by decide)).pad (pad_rep [] (.int (0 : Int32)) 7)
                show Go p.tables e below P T404 (mkF m 211 #[.val (.int nn), .val (.int q0), .val (.int q1), .val (.int q2), .val (.int q3), .val (.int q4), .val (.int q5), .val (.int q6)] [(.ref b404), (.ref b397), (.ref b397)])
                refine Go.via (fun t k => XS.dup X404.here hx rfl (hb hby d9_211) rfl rfl k) ?_
                show Go p.tables e below P T404 (mkF m 212 #[.val (.int nn), .val (.int q0), .val (.int q1), .val (.int q2), .val (.int q3), .val (.int q4), .val (.int q5), .val (.int q6)] [(.ref b404), (.ref b404), (.ref b397), (.ref b397)])
                refine Go.via (fun t k => XS.iconst X404.here hx rfl (hb hby d9_212) k) ?_
                show Go p.tables e below P T404 (mkF m 213 #[.val (.int nn), .val (.int q0), .val (.int q1), .val (.int q2), .val (.int q3), .val (.int q4), .val (.int q5), .val (.int q6)] [(.int (0 : Int32)), (.ref b404), (.ref b404), (.ref b397), (.ref b397)])
                refine Go.via (fun t k => XS.iloadN X404.here hx rfl (hb hby d9_213) rfl k) ?_
                show Go p.tables e below P T404 (mkF m 214 #[.val (.int nn), .val (.int q0), .val (.int q1), .val (.int q2), .val (.int q3), .val (.int q4), .val (.int q5), .val (.int q6)] [(.int q0), (.int (0 : Int32)), (.ref b404), (.ref b404), (.ref b397), (.ref b397)])
                have F412 : Exa Z h404 b397 "java/lang/String" := (A397.ext E404)
                have F413 : Fld Z h404 b397 "java/lang/String" "value" "[B" .null := ((D397 (Or.inr (hw _ (List.mem_of_getElem? (i := 4) rfl))) (ty := (.array .byte)) (by decide) : Fld Z h397 b397 "java/lang/String" "value" "[B" .null).ext E404)
                have F414 : Fld Z h404 b397 "java/lang/String" "coder" "B" (.int (0 : Int32)) := ((D397 (Or.inr (hw _ (List.mem_of_getElem? (i := 5) rfl))) (ty := .byte) (by decide) : Fld Z h397 b397 "java/lang/String" "coder" "B" (.int (0 : Int32))).ext E404)
                obtain ⟨c415, A415, q415, S415, N415, H415, G415⟩ := id V404
                have hin415 : ¬ ((0 : Int32) < 0 ∨ c415.slots.size ≤ ((0 : Int32)).toNatClampNeg) := inb_of S415 ⟨by decide, by decide⟩
                obtain ⟨T415, h415, X415, e415, W415, st415⟩ := stC X404 hx hZ e404 A415 (j := (0 : Int32)) hin415 (g := (mkF m 214 #[.val (.int nn), .val (.int q0), .val (.int q1), .val (.int q2), .val (.int q3), .val (.int q4), .val (.int q5), .val (.int q6)] [(.int q0), (.int (0 : Int32)), (.ref b404), (.ref b404), (.ref b397), (.ref b397)])) rfl rfl (hb hby d9_214)
                refine Go.via st415 ?_
                have Z416 : n0 ≤ h415.size := Nat.le_trans Z408 (Nat.le_of_eq W415.size.symm)
                have K417 : Keep h0 h415 [] := K409.wr W415 (Or.inr sz407)
                obtain ⟨lc415, Xh415, N418⟩ := own_hide X415 (Fr.snoc X415 N0 g406)
                clear X415
                have O419 : Old Z n0 h415 := O410.wr W415 g406
                have Sf415 := Safe.wr W415 (Safe.arv hZ.alike V404 (by decide)) CR411.1 (Safe.arv hZ.alike V404 (by decide))
                have CR420 := CHr.trans CR411 (CHr.wr W415 (Safe.arv hZ.alike V404 (by decide)) CR411.1)
                have V415 : Arv Z h415 b404 k404 .char (7 : Int32) [(.int (nar .char q0)), (.int (0 : Int32)), (.int (0 : Int32)), (.int (0 : Int32)), (.int (0 : Int32)), (.int (0 : Int32)), (.int (0 : Int32))] (.int (0 : Int32)) := Arv.set A415 q415 S415 N415 H415 G415 (fits_nar_char _) W415 0 rfl (Nat.le_of_ble_eq_true rfl)
                show Go p.tables e below P T415 (mkF m 215 #[.val (.int nn), .val (.int q0), .val (.int q1), .val (.int q2), .val (.int q3), .val (.int q4), .val (.int q5), .val (.int q6)] [(.ref b404), (.ref b397), (.ref b397)])
                refine Go.via (fun t k => XS.dup Xh415.here hx rfl (hb hby d9_215) rfl rfl k) ?_
                show Go p.tables e below P T415 (mkF m 216 #[.val (.int nn), .val (.int q0), .val (.int q1), .val (.int q2), .val (.int q3), .val (.int q4), .val (.int q5), .val (.int q6)] [(.ref b404), (.ref b404), (.ref b397), (.ref b397)])
                refine Go.via (fun t k => XS.iconst Xh415.here hx rfl (hb hby d9_216) k) ?_
                show Go p.tables e below P T415 (mkF m 217 #[.val (.int nn), .val (.int q0), .val (.int q1), .val (.int q2), .val (.int q3), .val (.int q4), .val (.int q5), .val (.int q6)] [(.int (1 : Int32)), (.ref b404), (.ref b404), (.ref b397), (.ref b397)])
                refine Go.via (fun t k => XS.iloadN Xh415.here hx rfl (hb hby d9_217) rfl k) ?_
                show Go p.tables e below P T415 (mkF m 218 #[.val (.int nn), .val (.int q0), .val (.int q1), .val (.int q2), .val (.int q3), .val (.int q4), .val (.int q5), .val (.int q6)] [(.int q1), (.int (1 : Int32)), (.ref b404), (.ref b404), (.ref b397), (.ref b397)])
                have F421 : Exa Z h415 b397 "java/lang/String" := (F412.wr W415)
                have F422 : Fld Z h415 b397 "java/lang/String" "value" "[B" .null := (F413.other W415 (Or.inl ne405))
                have F423 : Fld Z h415 b397 "java/lang/String" "coder" "B" (.int (0 : Int32)) := (F414.other W415 (Or.inl ne405))
                obtain ⟨c424, A424, q424, S424, N424, H424, G424⟩ := id V415
                have hin424 : ¬ ((1 : Int32) < 0 ∨ c424.slots.size ≤ ((1 : Int32)).toNatClampNeg) := inb_of S424 ⟨by decide, by decide⟩
                obtain ⟨T424, h424, X424, e424, W424, st424⟩ := stC Xh415 hx hZ e415 A424 (j := (1 : Int32)) hin424 (g := (mkF m 218 #[.val (.int nn), .val (.int q0), .val (.int q1), .val (.int q2), .val (.int q3), .val (.int q4), .val (.int q5), .val (.int q6)] [(.int q1), (.int (1 : Int32)), (.ref b404), (.ref b404), (.ref b397), (.ref b397)])) rfl rfl (hb hby d9_218)
                refine Go.via st424 ?_
                have Z425 : n0 ≤ h424.size := Nat.le_trans Z416 (Nat.le_of_eq W424.size.symm)
                have K426 : Keep h0 h424 [] := K417.wr W424 (Or.inr sz407)
                obtain ⟨lc424, Xh424, N427⟩ := own_hide X424 (Fr.snoc X424 N418 g406)
                clear X424
                have O428 : Old Z n0 h424 := O419.wr W424 g406
                have Sf424 := Safe.wr W424 (Safe.arv hZ.alike V415 (by decide)) CR420.1 (Safe.arv hZ.alike V415 (by decide))
                have CR429 := CHr.trans CR420 (CHr.wr W424 (Safe.arv hZ.alike V415 (by decide)) CR420.1)
                have V424 : Arv Z h424 b404 k404 .char (7 : Int32) [(.int (nar .char q0)), (.int (nar .char q1)), (.int (0 : Int32)), (.int (0 : Int32)), (.int (0 : Int32)), (.int (0 : Int32)), (.int (0 : Int32))] (.int (0 : Int32)) := Arv.set A424 q424 S424 N424 H424 G424 (fits_nar_char _) W424 1 rfl (Nat.le_of_ble_eq_true rfl)
                show Go p.tables e below P T424 (mkF m 219 #[.val (.int nn), .val (.int q0), .val (.int q1), .val (.int q2), .val (.int q3), .val (.int q4), .val (.int q5), .val (.int q6)] [(.ref b404), (.ref b397), (.ref b397)])
                refine Go.via (fun t k => XS.dup Xh424.here hx rfl (hb hby d9_219) rfl rfl k) ?_
                show Go p.tables e below P T424 (mkF m 220 #[.val (.int nn), .val (.int q0), .val (.int q1), .val (.int q2), .val (.int q3), .val (.int q4), .val (.int q5), .val (.int q6)] [(.ref b404), (.ref b404), (.ref b397), (.ref b397)])
                refine Go.via (fun t k => XS.iconst Xh424.here hx rfl (hb hby d9_220) k) ?_
                show Go p.tables e below P T424 (mkF m 221 #[.val (.int nn), .val (.int q0), .val (.int q1), .val (.int q2), .val (.int q3), .val (.int q4), .val (.int q5), .val (.int q6)] [(.int (2 : Int32)), (.ref b404), (.ref b404), (.ref b397), (.ref b397)])
                refine Go.via (fun t k => XS.iloadN Xh424.here hx rfl (hb hby d9_221) rfl k) ?_
                show Go p.tables e below P T424 (mkF m 222 #[.val (.int nn), .val (.int q0), .val (.int q1), .val (.int q2), .val (.int q3), .val (.int q4), .val (.int q5), .val (.int q6)] [(.int q2), (.int (2 : Int32)), (.ref b404), (.ref b404), (.ref b397), (.ref b397)])
                have F430 : Exa Z h424 b397 "java/lang/String" := (F421.wr W424)
                have F431 : Fld Z h424 b397 "java/lang/String" "value" "[B" .null := (F422.other W424 (Or.inl ne405))
                have F432 : Fld Z h424 b397 "java/lang/String" "coder" "B" (.int (0 : Int32)) := (F423.other W424 (Or.inl ne405))
                obtain ⟨c433, A433, q433, S433, N433, H433, G433⟩ := id V424
                have hin433 : ¬ ((2 : Int32) < 0 ∨ c433.slots.size ≤ ((2 : Int32)).toNatClampNeg) := inb_of S433 ⟨by decide, by decide⟩
                obtain ⟨T433, h433, X433, e433, W433, st433⟩ := stC Xh424 hx hZ e424 A433 (j := (2 : Int32)) hin433 (g := (mkF m 222 #[.val (.int nn), .val (.int q0), .val (.int q1), .val (.int q2), .val (.int q3), .val (.int q4), .val (.int q5), .val (.int q6)] [(.int q2), (.int (2 : Int32)), (.ref b404), (.ref b404), (.ref b397), (.ref b397)])) rfl rfl (hb hby d9_222)
                refine Go.via st433 ?_
                have Z434 : n0 ≤ h433.size := Nat.le_trans Z425 (Nat.le_of_eq W433.size.symm)
                have K435 : Keep h0 h433 [] := K426.wr W433 (Or.inr sz407)
                obtain ⟨lc433, Xh433, N436⟩ := own_hide X433 (Fr.snoc X433 N427 g406)
                clear X433
                have O437 : Old Z n0 h433 := O428.wr W433 g406
                have Sf433 := Safe.wr W433 (Safe.arv hZ.alike V424 (by decide)) CR429.1 (Safe.arv hZ.alike V424 (by decide))
                have CR438 := CHr.trans CR429 (CHr.wr W433 (Safe.arv hZ.alike V424 (by decide)) CR429.1)
                have V433 : Arv Z h433 b404 k404 .char (7 : Int32) [(.int (nar .char q0)), (.int (nar .char q1)), (.int (nar .char q2)), (.int (0 : Int32)), (.int (0 : Int32)), (.int (0 : Int32)), (.int (0 : Int32))] (.int (0 : Int32)) := Arv.set A433 q433 S433 N433 H433 G433 (fits_nar_char _) W433 2 rfl (Nat.le_of_ble_eq_true rfl)
                show Go p.tables e below P T433 (mkF m 223 #[.val (.int nn), .val (.int q0), .val (.int q1), .val (.int q2), .val (.int q3), .val (.int q4), .val (.int q5), .val (.int q6)] [(.ref b404), (.ref b397), (.ref b397)])
                refine Go.via (fun t k => XS.dup Xh433.here hx rfl (hb hby d9_223) rfl rfl k) ?_
                show Go p.tables e below P T433 (mkF m 224 #[.val (.int nn), .val (.int q0), .val (.int q1), .val (.int q2), .val (.int q3), .val (.int q4), .val (.int q5), .val (.int q6)] [(.ref b404), (.ref b404), (.ref b397), (.ref b397)])
                refine Go.via (fun t k => XS.iconst Xh433.here hx rfl (hb hby d9_224) k) ?_
                show Go p.tables e below P T433 (mkF m 225 #[.val (.int nn), .val (.int q0), .val (.int q1), .val (.int q2), .val (.int q3), .val (.int q4), .val (.int q5), .val (.int q6)] [(.int (3 : Int32)), (.ref b404), (.ref b404), (.ref b397), (.ref b397)])
                refine Go.via (fun t k => XS.iload Xh433.here hx rfl (hb hby d9_225) rfl k) ?_
                show Go p.tables e below P T433 (mkF m 227 #[.val (.int nn), .val (.int q0), .val (.int q1), .val (.int q2), .val (.int q3), .val (.int q4), .val (.int q5), .val (.int q6)] [(.int q3), (.int (3 : Int32)), (.ref b404), (.ref b404), (.ref b397), (.ref b397)])
                have F439 : Exa Z h433 b397 "java/lang/String" := (F430.wr W433)
                have F440 : Fld Z h433 b397 "java/lang/String" "value" "[B" .null := (F431.other W433 (Or.inl ne405))
                have F441 : Fld Z h433 b397 "java/lang/String" "coder" "B" (.int (0 : Int32)) := (F432.other W433 (Or.inl ne405))
                obtain ⟨c442, A442, q442, S442, N442, H442, G442⟩ := id V433
                have hin442 : ¬ ((3 : Int32) < 0 ∨ c442.slots.size ≤ ((3 : Int32)).toNatClampNeg) := inb_of S442 ⟨by decide, by decide⟩
                obtain ⟨T442, h442, X442, e442, W442, st442⟩ := stC Xh433 hx hZ e433 A442 (j := (3 : Int32)) hin442 (g := (mkF m 227 #[.val (.int nn), .val (.int q0), .val (.int q1), .val (.int q2), .val (.int q3), .val (.int q4), .val (.int q5), .val (.int q6)] [(.int q3), (.int (3 : Int32)), (.ref b404), (.ref b404), (.ref b397), (.ref b397)])) rfl rfl (hb hby d9_227)
                refine Go.via st442 ?_
                have Z443 : n0 ≤ h442.size := Nat.le_trans Z434 (Nat.le_of_eq W442.size.symm)
                have K444 : Keep h0 h442 [] := K435.wr W442 (Or.inr sz407)
                obtain ⟨lc442, Xh442, N445⟩ := own_hide X442 (Fr.snoc X442 N436 g406)
                clear X442
                have O446 : Old Z n0 h442 := O437.wr W442 g406
                have Sf442 := Safe.wr W442 (Safe.arv hZ.alike V433 (by decide)) CR438.1 (Safe.arv hZ.alike V433 (by decide))
                have CR447 := CHr.trans CR438 (CHr.wr W442 (Safe.arv hZ.alike V433 (by decide)) CR438.1)
                have V442 : Arv Z h442 b404 k404 .char (7 : Int32) [(.int (nar .char q0)), (.int (nar .char q1)), (.int (nar .char q2)), (.int (nar .char q3)), (.int (0 : Int32)), (.int (0 : Int32)), (.int (0 : Int32))] (.int (0 : Int32)) := Arv.set A442 q442 S442 N442 H442 G442 (fits_nar_char _) W442 3 rfl (Nat.le_of_ble_eq_true rfl)
                show Go p.tables e below P T442 (mkF m 228 #[.val (.int nn), .val (.int q0), .val (.int q1), .val (.int q2), .val (.int q3), .val (.int q4), .val (.int q5), .val (.int q6)] [(.ref b404), (.ref b397), (.ref b397)])
                refine Go.via (fun t k => XS.dup Xh442.here hx rfl (hb hby d9_228) rfl rfl k) ?_
                show Go p.tables e below P T442 (mkF m 229 #[.val (.int nn), .val (.int q0), .val (.int q1), .val (.int q2), .val (.int q3), .val (.int q4), .val (.int q5), .val (.int q6)] [(.ref b404), (.ref b404), (.ref b397), (.ref b397)])
                refine Go.via (fun t k => XS.iconst Xh442.here hx rfl (hb hby d9_229) k) ?_
                show Go p.tables e below P T442 (mkF m 230 #[.val (.int nn), .val (.int q0), .val (.int q1), .val (.int q2), .val (.int q3), .val (.int q4), .val (.int q5), .val (.int q6)] [(.int (4 : Int32)), (.ref b404), (.ref b404), (.ref b397), (.ref b397)])
                refine Go.via (fun t k => XS.iload Xh442.here hx rfl (hb hby d9_230) rfl k) ?_
                show Go p.tables e below P T442 (mkF m 232 #[.val (.int nn), .val (.int q0), .val (.int q1), .val (.int q2), .val (.int q3), .val (.int q4), .val (.int q5), .val (.int q6)] [(.int q4), (.int (4 : Int32)), (.ref b404), (.ref b404), (.ref b397), (.ref b397)])
                have F448 : Exa Z h442 b397 "java/lang/String" := (F439.wr W442)
                have F449 : Fld Z h442 b397 "java/lang/String" "value" "[B" .null := (F440.other W442 (Or.inl ne405))
                have F450 : Fld Z h442 b397 "java/lang/String" "coder" "B" (.int (0 : Int32)) := (F441.other W442 (Or.inl ne405))
                obtain ⟨c451, A451, q451, S451, N451, H451, G451⟩ := id V442
                have hin451 : ¬ ((4 : Int32) < 0 ∨ c451.slots.size ≤ ((4 : Int32)).toNatClampNeg) := inb_of S451 ⟨by decide, by decide⟩
                obtain ⟨T451, h451, X451, e451, W451, st451⟩ := stC Xh442 hx hZ e442 A451 (j := (4 : Int32)) hin451 (g := (mkF m 232 #[.val (.int nn), .val (.int q0), .val (.int q1), .val (.int q2), .val (.int q3), .val (.int q4), .val (.int q5), .val (.int q6)] [(.int q4), (.int (4 : Int32)), (.ref b404), (.ref b404), (.ref b397), (.ref b397)])) rfl rfl (hb hby d9_232)
                refine Go.via st451 ?_
                have Z452 : n0 ≤ h451.size := Nat.le_trans Z443 (Nat.le_of_eq W451.size.symm)
                have K453 : Keep h0 h451 [] := K444.wr W451 (Or.inr sz407)
                obtain ⟨lc451, Xh451, N454⟩ := own_hide X451 (Fr.snoc X451 N445 g406)
                clear X451
                have O455 : Old Z n0 h451 := O446.wr W451 g406
                have Sf451 := Safe.wr W451 (Safe.arv hZ.alike V442 (by decide)) CR447.1 (Safe.arv hZ.alike V442 (by decide))
                have CR456 := CHr.trans CR447 (CHr.wr W451 (Safe.arv hZ.alike V442 (by decide)) CR447.1)
                have V451 : Arv Z h451 b404 k404 .char (7 : Int32) [(.int (nar .char q0)), (.int (nar .char q1)), (.int (nar .char q2)), (.int (nar .char q3)), (.int (nar .char q4)), (.int (0 : Int32)), (.int (0 : Int32))] (.int (0 : Int32)) := Arv.set A451 q451 S451 N451 H451 G451 (fits_nar_char _) W451 4 rfl (Nat.le_of_ble_eq_true rfl)
                show Go p.tables e below P T451 (mkF m 233 #[.val (.int nn), .val (.int q0), .val (.int q1), .val (.int q2), .val (.int q3), .val (.int q4), .val (.int q5), .val (.int q6)] [(.ref b404), (.ref b397), (.ref b397)])
                refine Go.via (fun t k => XS.dup Xh451.here hx rfl (hb hby d9_233) rfl rfl k) ?_
                show Go p.tables e below P T451 (mkF m 234 #[.val (.int nn), .val (.int q0), .val (.int q1), .val (.int q2), .val (.int q3), .val (.int q4), .val (.int q5), .val (.int q6)] [(.ref b404), (.ref b404), (.ref b397), (.ref b397)])
                refine Go.via (fun t k => XS.iconst Xh451.here hx rfl (hb hby d9_234) k) ?_
                show Go p.tables e below P T451 (mkF m 235 #[.val (.int nn), .val (.int q0), .val (.int q1), .val (.int q2), .val (.int q3), .val (.int q4), .val (.int q5), .val (.int q6)] [(.int (5 : Int32)), (.ref b404), (.ref b404), (.ref b397), (.ref b397)])
                refine Go.via (fun t k => XS.iload Xh451.here hx rfl (hb hby d9_235) rfl k) ?_
                show Go p.tables e below P T451 (mkF m 237 #[.val (.int nn), .val (.int q0), .val (.int q1), .val (.int q2), .val (.int q3), .val (.int q4), .val (.int q5), .val (.int q6)] [(.int q5), (.int (5 : Int32)), (.ref b404), (.ref b404), (.ref b397), (.ref b397)])
                have F457 : Exa Z h451 b397 "java/lang/String" := (F448.wr W451)
                have F458 : Fld Z h451 b397 "java/lang/String" "value" "[B" .null := (F449.other W451 (Or.inl ne405))
                have F459 : Fld Z h451 b397 "java/lang/String" "coder" "B" (.int (0 : Int32)) := (F450.other W451 (Or.inl ne405))
                obtain ⟨c460, A460, q460, S460, N460, H460, G460⟩ := id V451
                have hin460 : ¬ ((5 : Int32) < 0 ∨ c460.slots.size ≤ ((5 : Int32)).toNatClampNeg) := inb_of S460 ⟨by decide, by decide⟩
                obtain ⟨T460, h460, X460, e460, W460, st460⟩ := stC Xh451 hx hZ e451 A460 (j := (5 : Int32)) hin460 (g := (mkF m 237 #[.val (.int nn), .val (.int q0), .val (.int q1), .val (.int q2), .val (.int q3), .val (.int q4), .val (.int q5), .val (.int q6)] [(.int q5), (.int (5 : Int32)), (.ref b404), (.ref b404), (.ref b397), (.ref b397)])) rfl rfl (hb hby d9_237)
                refine Go.via st460 ?_
                have Z461 : n0 ≤ h460.size := Nat.le_trans Z452 (Nat.le_of_eq W460.size.symm)
                have K462 : Keep h0 h460 [] := K453.wr W460 (Or.inr sz407)
                obtain ⟨lc460, Xh460, N463⟩ := own_hide X460 (Fr.snoc X460 N454 g406)
                clear X460
                have O464 : Old Z n0 h460 := O455.wr W460 g406
                have Sf460 := Safe.wr W460 (Safe.arv hZ.alike V451 (by decide)) CR456.1 (Safe.arv hZ.alike V451 (by decide))
                have CR465 := CHr.trans CR456 (CHr.wr W460 (Safe.arv hZ.alike V451 (by decide)) CR456.1)
                have V460 : Arv Z h460 b404 k404 .char (7 : Int32) [(.int (nar .char q0)), (.int (nar .char q1)), (.int (nar .char q2)), (.int (nar .char q3)), (.int (nar .char q4)), (.int (nar .char q5)), (.int (0 : Int32))] (.int (0 : Int32)) := Arv.set A460 q460 S460 N460 H460 G460 (fits_nar_char _) W460 5 rfl (Nat.le_of_ble_eq_true rfl)
                show Go p.tables e below P T460 (mkF m 238 #[.val (.int nn), .val (.int q0), .val (.int q1), .val (.int q2), .val (.int q3), .val (.int q4), .val (.int q5), .val (.int q6)] [(.ref b404), (.ref b397), (.ref b397)])
                refine Go.via (fun t k => XS.dup Xh460.here hx rfl (hb hby d9_238) rfl rfl k) ?_
                show Go p.tables e below P T460 (mkF m 239 #[.val (.int nn), .val (.int q0), .val (.int q1), .val (.int q2), .val (.int q3), .val (.int q4), .val (.int q5), .val (.int q6)] [(.ref b404), (.ref b404), (.ref b397), (.ref b397)])
                refine Go.via (fun t k => XS.bipush Xh460.here hx rfl (hb hby d9_239) k) ?_
                show Go p.tables e below P T460 (mkF m 241 #[.val (.int nn), .val (.int q0), .val (.int q1), .val (.int q2), .val (.int q3), .val (.int q4), .val (.int q5), .val (.int q6)] [(.int (6 : Int32)), (.ref b404), (.ref b404), (.ref b397), (.ref b397)])
                refine Go.via (fun t k => XS.iload Xh460.here hx rfl (hb hby d9_241) rfl k) ?_
                show Go p.tables e below P T460 (mkF m 243 #[.val (.int nn), .val (.int q0), .val (.int q1), .val (.int q2), .val (.int q3), .val (.int q4), .val (.int q5), .val (.int q6)] [(.int q6), (.int (6 : Int32)), (.ref b404), (.ref b404), (.ref b397), (.ref b397)])
                have F466 : Exa Z h460 b397 "java/lang/String" := (F457.wr W460)
                have F467 : Fld Z h460 b397 "java/lang/String" "value" "[B" .null := (F458.other W460 (Or.inl ne405))
                have F468 : Fld Z h460 b397 "java/lang/String" "coder" "B" (.int (0 : Int32)) := (F459.other W460 (Or.inl ne405))
                obtain ⟨c469, A469, q469, S469, N469, H469, G469⟩ := id V460
                have hin469 : ¬ ((6 : Int32) < 0 ∨ c469.slots.size ≤ ((6 : Int32)).toNatClampNeg) := inb_of S469 ⟨by decide, by decide⟩
                obtain ⟨T469, h469, X469, e469, W469, st469⟩ := stC Xh460 hx hZ e460 A469 (j := (6 : Int32)) hin469 (g := (mkF m 243 #[.val (.int nn), .val (.int q0), .val (.int q1), .val (.int q2), .val (.int q3), .val (.int q4), .val (.int q5), .val (.int q6)] [(.int q6), (.int (6 : Int32)), (.ref b404), (.ref b404), (.ref b397), (.ref b397)])) rfl rfl (hb hby d9_243)
                refine Go.via st469 ?_
                have Z470 : n0 ≤ h469.size := Nat.le_trans Z461 (Nat.le_of_eq W469.size.symm)
                have K471 : Keep h0 h469 [] := K462.wr W469 (Or.inr sz407)
                obtain ⟨lc469, Xh469, N472⟩ := own_hide X469 (Fr.snoc X469 N463 g406)
                clear X469
                have O473 : Old Z n0 h469 := O464.wr W469 g406
                have Sf469 := Safe.wr W469 (Safe.arv hZ.alike V460 (by decide)) CR465.1 (Safe.arv hZ.alike V460 (by decide))
                have CR474 := CHr.trans CR465 (CHr.wr W469 (Safe.arv hZ.alike V460 (by decide)) CR465.1)
                have V469 : Arv Z h469 b404 k404 .char (7 : Int32) [(.int (nar .char q0)), (.int (nar .char q1)), (.int (nar .char q2)), (.int (nar .char q3)), (.int (nar .char q4)), (.int (nar .char q5)), (.int (nar .char q6))] (.int (0 : Int32)) := Arv.set A469 q469 S469 N469 H469 G469 (fits_nar_char _) W469 6 rfl (Nat.le_of_ble_eq_true rfl)
                show Go p.tables e below P T469 (mkF m 244 #[.val (.int nn), .val (.int q0), .val (.int q1), .val (.int q2), .val (.int q3), .val (.int q4), .val (.int q5), .val (.int q6)] [(.ref b404), (.ref b397), (.ref b397)])
                have F475 : Exa Z h469 b397 "java/lang/String" := (F466.wr W469)
                have F476 : Fld Z h469 b397 "java/lang/String" "value" "[B" .null := (F467.other W469 (Or.inl ne405))
                have F477 : Fld Z h469 b397 "java/lang/String" "coder" "B" (.int (0 : Int32)) := (F468.other W469 (Or.inl ne405))
                obtain ⟨_, _, ⟨T478, L478, k478, n478⟩, -, X478, ⟨Lc478, hQ478, l478, y478, z478⟩, st478⟩ := Xh469.specialBack hx (y := (⟨"java/lang/String", "<init>", "([C)V"⟩ : MethodName)) rfl hown (mvT hZ (hw _ (List.mem_of_getElem? (i := 53) rfl))) (mvT hZ (hw _ (List.mem_of_getElem? (i := 54) rfl))) (mvT hZ (hw _ (List.mem_of_getElem? (i := 55) rfl))) (by decide) (StrChars.Road.backV (W := 1) hZ (own_ws hw) (kI := 4) (hw _ (List.mem_of_getElem? (i := 2) rfl)) (cs := ([(nar .char q0), (nar .char q1), (nar .char q2), (nar .char q3), (nar .char q4), (nar .char q5), (nar .char q6)] : List Int32)) (bs := ([((nar .char q0)).toInt8.toInt32, ((nar .char q1)).toInt8.toInt32, ((nar .char q2)).toInt8.toInt32, ((nar .char q3)).toInt8.toInt32, ((nar .char q4)).toInt8.toInt32, ((nar .char q5)).toInt8.toInt32, ((nar .char q6)).toInt8.toInt32] : List Int32)) (n := 7) g398 Z470 F475 F476 F477 V469 (P1.ext O473.2) hcs rfl rfl (by decide) (by decide) (own_alC (own_hp by0) (own_alC (own_hp by1) (own_alC (own_hp by2) (own_alC (own_hp by3) (own_alC (own_hp by4) (own_alC (own_hp by5) (own_alC (own_hp by6) own_al0))))))) rfl (by decide) (by decide)) (g := (mkF m 244 #[.val (.int nn), .val (.int q0), .val (.int q1), .val (.int q2), .val (.int q3), .val (.int q4), .val (.int q5), .val (.int q6)] [(.ref b404), (.ref b397), (.ref b397)])) rfl (by rw [hml]; rfl) (Steps.refl _) (a := b397) (argsL := [(.ref b404)]) (rest := [(.ref b397)]) (lenOf own_pd8 rfl) rfl (by show 2 * 0 + _ ≤ _; exact Nat.le_of_eq rfl) (hb hby d9_244) (fun _ _ => ⟨rfl, e469, (by decide : 2 + 1 ≤ _), (by decide : 11 + 7 ≤ _)⟩)
                dsimp only [Pt.U, Pt.locs, Pt.cells, Pt.slots] at X478 l478 y478 z478 st478 hQ478
                subst l478 y478 z478
                obtain ⟨rfl, Nq478, K478, Ex478, Fc478, t478, kb478, -, lt478, ne478, Fv478, Va478⟩ := hQ478
                obtain ⟨lc478, Xh478, N478⟩ := own_hide X478 (Fr.app N472 Nq478)
                clear X478
                refine Go.hop st478 ?_
                have ne479 : b397 ≠ t478 := Nat.ne_of_lt (Nat.lt_of_lt_of_le F475.lt lt478)
                have ne480 : b404 ≠ t478 := Nat.ne_of_lt (Nat.lt_of_lt_of_le V469.lt lt478)
                have g481 : n0 ≤ t478 := Nat.le_trans Z470 lt478
                have sz482 : h0.size ≤ t478 := Nat.le_trans K471.1 lt478
                have Z483 : n0 ≤ T478.heap.size := Nat.le_trans Z470 K478.1
                have K484 : Keep h0 T478.heap [] := K471.trans K478 (own_allC (Or.inr sz399) own_all0)
                have CR485 := CHr.trans CR474 (CHr.keep K478 (sfS (own_safeS hZ.alike F475 F476) sf0) CR474.1)
                have O486 : Old Z n0 T478.heap := O473.keep K478 (own_allC g398 own_all0)
                have Vt478 : Arv Z T478.heap t478 kb478 .byte (7 : Int32) [(.int ((nar .char q0)).toInt8.toInt32), (.int ((nar .char q1)).toInt8.toInt32), (.int ((nar .char q2)).toInt8.toInt32), (.int ((nar .char q3)).toInt8.toInt32), (.int ((nar .char q4)).toInt8.toInt32), (.int ((nar .char q5)).toInt8.toInt32), (.int ((nar .char q6)).toInt8.toInt32)] (.int (0 : Int32)) := Va478
                show Go p.tables e below P T478 (mkF m 247 #[.val (.int nn), .val (.int q0), .val (.int q1), .val (.int q2), .val (.int q3), .val (.int q4), .val (.int q5), .val (.int q6)] [(.ref b397)])
                have Vr488 : Arv Z T478.heap t478 kb478 .byte (own_lg ([((nar .char q0)).toInt8.toInt32, ((nar .char q1)).toInt8.toInt32, ((nar .char q2)).toInt8.toInt32, ((nar .char q3)).toInt8.toInt32, ((nar .char q4)).toInt8.toInt32, ((nar .char q5)).toInt8.toInt32, ((nar .char q6)).toInt8.toInt32] : List Int32)) (([((nar .char q0)).toInt8.toInt32, ((nar .char q1)).toInt8.toInt32, ((nar .char q2)).toInt8.toInt32, ((nar .char q3)).toInt8.toInt32, ((nar .char q4)).toInt8.toInt32, ((nar .char q5)).toInt8.toInt32, ((nar .char q6)).toInt8.toInt32] : List Int32).map Value.int) (.int (0 : Int32)) := by
                  rw [show own_lg ([((nar .char q0)).toInt8.toInt32, ((nar .char q1)).toInt8.toInt32, ((nar .char q2)).toInt8.toInt32, ((nar .char q3)).toInt8.toInt32, ((nar .char q4)).toInt8.toInt32, ((nar .char q5)).toInt8.toInt32, ((nar .char q6)).toInt8.toInt32] : List Int32) = (7 : Int32) from rfl]; exact Vt478
                obtain ⟨fs, hr, hrun, hended, hend⟩ := Xh478.leaveW hS0 (by exact (Nat.zero_le _)) (v := some (.ref b397)) (fun h => by rw [Bd.returns] at h; cases h)
                have hCf : CHr Z consts_1 s.vm s.heap (T478.setFrames fs).vm (T478.setFrames fs).heap := by
                  rw [hh]
                  show CHr Z consts_1 s.vm h0 T478.vm T478.heap
                  exact CHr.trans CR485 (CHv.at Xh478 hZ (own_EW hw) CR485.1)
                refine ⟨_, _, retA Xh478 hx Bd.returns rfl rfl rfl (hb hby d9_247) hr, hrun, hended, hP _ _ ⟨_, _, rfl, ?_, hCf, own_rew hend (by decide) (by decide)⟩⟩
                show Q9 Z nn q0 q1 q2 q3 q4 q5 q6 cs h0 n0 _ T478.heap _
                exact ⟨b397, t478, kb478, ([((nar .char q0)).toInt8.toInt32, ((nar .char q1)).toInt8.toInt32, ((nar .char q2)).toInt8.toInt32, ((nar .char q3)).toInt8.toInt32, ((nar .char q4)).toInt8.toInt32, ((nar .char q5)).toInt8.toInt32, ((nar .char q6)).toInt8.toInt32] : List Int32), rfl, N478, K484, sz399, Ex478, Fv478, Fc478, Vr488, (by simp), Vr488.lt, ne479⟩
theorem d20_0 : decode jdk_43_method_13_code 0 = .ok (.aload_n 0, 1) := by decide +kernel
theorem d20_1 : decode jdk_43_method_13_code 1 = .ok (.arraylength, 1) := by decide +kernel
theorem d20_2 : decode jdk_43_method_13_code 2 = .ok (.aload_n 1, 1) := by decide +kernel
theorem d20_3 : decode jdk_43_method_13_code 3 = .ok (.arraylength, 1) := by decide +kernel
theorem d20_4 : decode jdk_43_method_13_code 4 = .ok (.if_icmp .ne 30, 3) := by decide +kernel
theorem d20_7 : decode jdk_43_method_13_code 7 = .ok (.iconst 0, 1) := by decide +kernel
theorem d20_8 : decode jdk_43_method_13_code 8 = .ok (.istore_n 2, 1) := by decide +kernel
theorem d20_9 : decode jdk_43_method_13_code 9 = .ok (.iload_n 2, 1) := by decide +kernel
theorem d20_10 : decode jdk_43_method_13_code 10 = .ok (.aload_n 0, 1) := by decide +kernel
theorem d20_11 : decode jdk_43_method_13_code 11 = .ok (.arraylength, 1) := by decide +kernel
theorem d20_12 : decode jdk_43_method_13_code 12 = .ok (.if_icmp .ge 20, 3) := by decide +kernel
theorem d20_15 : decode jdk_43_method_13_code 15 = .ok (.aload_n 0, 1) := by decide +kernel
theorem d20_16 : decode jdk_43_method_13_code 16 = .ok (.iload_n 2, 1) := by decide +kernel
theorem d20_17 : decode jdk_43_method_13_code 17 = .ok (.baload, 1) := by decide +kernel
theorem d20_18 : decode jdk_43_method_13_code 18 = .ok (.aload_n 1, 1) := by decide +kernel
theorem d20_19 : decode jdk_43_method_13_code 19 = .ok (.iload_n 2, 1) := by decide +kernel
theorem d20_20 : decode jdk_43_method_13_code 20 = .ok (.baload, 1) := by decide +kernel
theorem d20_21 : decode jdk_43_method_13_code 21 = .ok (.if_icmp .eq 5, 3) := by decide +kernel
theorem d20_24 : decode jdk_43_method_13_code 24 = .ok (.iconst 0, 1) := by decide +kernel
theorem d20_25 : decode jdk_43_method_13_code 25 = .ok (.ireturn, 1) := by decide +kernel
theorem d20_26 : decode jdk_43_method_13_code 26 = .ok (.iinc 2 1, 3) := by decide +kernel
theorem d20_29 : decode jdk_43_method_13_code 29 = .ok (.goto (-20), 3) := by decide +kernel
theorem d20_32 : decode jdk_43_method_13_code 32 = .ok (.iconst 1, 1) := by decide +kernel
theorem d20_33 : decode jdk_43_method_13_code 33 = .ok (.ireturn, 1) := by decide +kernel
theorem d20_34 : decode jdk_43_method_13_code 34 = .ok (.iconst 0, 1) := by decide +kernel
theorem d20_35 : decode jdk_43_method_13_code 35 = .ok (.ireturn, 1) := by decide +kernel
theorem ef_20 (m : MethodId) (x0 : Addr) (x1 : Addr) : entryFrame m #[(.ref x0), (.ref x1)] 3 = mkF m 0 #[.val (.ref x0), .val (.ref x1), .unset] [] := by first | (simp [entryFrame, mkF, argsToLocals, Value.category]; done) | rfl
def Q20 (Z : State) (tb : Addr) (tc : Addr) (kk : ClassId) (kc : ClassId) (bx : List Int32) (bz : List Int32) (h0 : Heap) (n0 : Nat) (v : Option Value) (h : Heap) (L : List Loc) : Prop := v = some (.int (if bx = bz then (1 : Int32) else (0 : Int32))) ∧ Fr n0 L ∧ h = h0
set_option maxRecDepth 65536 in
set_option maxHeartbeats 40000000 in
theorem rm20 (l : Launch) (Z : State) (a0 : Array Value) (hw : ∀ d ∈ tables_1, d.before a0 Z = true) (ws : List Jvm.Cond) (tb : Addr) (tc : Addr) (kk : ClassId) (kc : ClassId) (bx : List Int32) (bz : List Int32) (h0 : Heap) (n0 : Nat) (Z0 : n0 ≤ h0.size) (P0 : Arv Z h0 tb kk .byte (own_lg bx) (bx.map Value.int) (.int (0 : Int32))) (P1 : Arv Z h0 tc kc .byte (own_lg bz) (bz.map Value.int) (.int (0 : Int32))) (smx : bx.length ≤ 1000) (smz : bz.length ≤ 1000) :
    MetFree l (⟨"java/lang/StringLatin1", "equals", "([B[B)Z"⟩ : MethodName) (head1 (Jvm.Cond.code (⟨"java/lang/StringLatin1", "equals", "([B[B)Z"⟩ : MethodName) jdk_43_method_13_code 3 (some .boolean) :: ws) ({ frames := 0, cells := 0, slots := 0, locals := 0 } : Room)) (fun a U => a = #[(.ref tb), (.ref tc)] ∧ Z.Warmed39 U.vm ∧ U.heap = h0) (fun _ _ _ _ _ => True) (fun _ U o U' => ∃ v L, o = .returned v ∧ Q20 Z tb tc kk kc bx bz h0 n0 v U'.heap L ∧ FrameEnd U o U' L ({ frames := 0, cells := 0, slots := 0, locals := 0 } : Room).cells ({ frames := 0, cells := 0, slots := 0, locals := 0 } : Room).slots) := by
  refine MetFree.of_bodySF (plainFor_of_name own_pn2) hisR ?_
  intro p e s m args below meth c s₁ Bd hml0 hP hK
  obtain ⟨rfl, hZ, hh⟩ := hP
  have hx := Bd.exec
  have hby := Bd.bytes
  have hml : c.maxLocals = 3 := hml0
  have hown : s.vm.findClass "java/lang/StringLatin1" = some m.cls := findClass_of_methodNamed Bd.named
  have hnm := (name_of_methodNamed Bd.named Bd.method).1
  have X0 : Stand p l e ({ frames := 0, cells := 0, slots := 0, locals := 0 } : Room) s m #[(.ref tb), (.ref tc)] below meth c s₁ [] 0 0 := Stand.of_body Bd
  have e0 : s₁.heap = h0 := by rw [← hh, Bd.state]; rfl
  have N0 := Fr.nil n0
  have K0 : Keep h0 h0 [] := Keep.refl _ _
  suffices GO : ∀ P : Outcome → State → Prop, (∀ o U', (∃ v L, o = .returned v ∧ Q20 Z tb tc kk kc bx bz h0 n0 v U'.heap L ∧ FrameEnd s o U' L ({ frames := 0, cells := 0, slots := 0, locals := 0 } : Room).cells ({ frames := 0, cells := 0, slots := 0, locals := 0 } : Room).slots) → P o U') → Go p.tables e below P s₁ (mkF m 0 #[.val (.ref tb), .val (.ref tc), .unset] []) by
    obtain ⟨s2, o, st, r⟩ := GO _ (fun _ _ q => q)
    exact ⟨s2, o, castTop (ef_20 m tb tc) st, r⟩
  clear hh
  intro P hP
  show Go p.tables e below P s₁ (mkF m 0 #[.val (.ref tb), .val (.ref tc), .unset] [])
  refine Go.via (fun t k => XS.aloadN X0.here hx rfl (hb hby d20_0) rfl rfl k) ?_
  show Go p.tables e below P s₁ (mkF m 1 #[.val (.ref tb), .val (.ref tc), .unset] [(.ref tb)])
  obtain ⟨c1, A1, -, S1, N1, -, -⟩ := id P0
  refine Go.via (fun t k => X0.arraylength hx (by rw [e0]; exact A1.1) (State.isArrayOf_alike hZ.alike A1.2.1) (g := (mkF m 1 #[.val (.ref tb), .val (.ref tc), .unset] [(.ref tb)])) rfl rfl (hb hby d20_1) t (by rw [len_of S1 N1]; exact k)) ?_
  show Go p.tables e below P s₁ (mkF m 2 #[.val (.ref tb), .val (.ref tc), .unset] [(.int (own_lg bx))])
  refine Go.via (fun t k => XS.aloadN X0.here hx rfl (hb hby d20_2) rfl rfl k) ?_
  show Go p.tables e below P s₁ (mkF m 3 #[.val (.ref tb), .val (.ref tc), .unset] [(.ref tc), (.int (own_lg bx))])
  obtain ⟨c2, A2, -, S2, N2, -, -⟩ := id P1
  refine Go.via (fun t k => X0.arraylength hx (by rw [e0]; exact A2.1) (State.isArrayOf_alike hZ.alike A2.2.1) (g := (mkF m 3 #[.val (.ref tb), .val (.ref tc), .unset] [(.ref tc), (.int (own_lg bx))])) rfl rfl (hb hby d20_3) t (by rw [len_of S2 N2]; exact k)) ?_
  show Go p.tables e below P s₁ (mkF m 4 #[.val (.ref tb), .val (.ref tc), .unset] [(.int (own_lg bz)), (.int (own_lg bx))])
  by_cases hc3 : (own_lg bx) = (own_lg bz)
  · refine Go.via (fun t k => XS.icmpNo X0.here hx rfl (hb hby d20_4) rfl (teq hc3).2 k) ?_
    show Go p.tables e below P s₁ (mkF m 7 #[.val (.ref tb), .val (.ref tc), .unset] [])
    refine Go.via (fun t k => XS.iconst X0.here hx rfl (hb hby d20_7) k) ?_
    show Go p.tables e below P s₁ (mkF m 8 #[.val (.ref tb), .val (.ref tc), .unset] [(.int (0 : Int32))])
    refine Go.via (fun t k => XS.istoreN X0.here hx rfl (hb hby d20_8) rfl (l' := #[.val (.ref tb), .val (.ref tc), .val (.int (0 : Int32))]) rfl k) ?_
    have LP4 : ∀ (k4 : Nat) (T4 : State) (locs4 : List Loc) (i : Nat) (x2 : Int32), Stand p l e ({ frames := 0, cells := 0, slots := 0, locals := 0 } : Room) s m #[(.ref tb), (.ref tc)] below meth c T4 locs4 0 0 → T4.heap = h0 → Fr n0 locs4 → i ≤ bx.length → x2 = i.toInt32 → (∀ j, j < i → bx.getD j 0 = bz.getD j 0) → bx.length - i < k4 → Go p.tables e below P T4 (mkF m 9 #[.val (.ref tb), .val (.ref tc), .val (.int x2)] []) := by
      intro k4
      induction k4 with
      | zero => intro T4 locs4 i x2 X4 e4 N4 hi hx2 hpre hk; exact absurd hk (Nat.not_lt_zero _)
      | succ k4 ih4 =>
        intro T4 locs4 i x2 X4 e4 N4 hi hx2 hpre hk
        show Go p.tables e below P T4 (mkF m 9 #[.val (.ref tb), .val (.ref tc), .val (.int x2)] [])
        refine Go.via (fun t k => XS.iloadN X4.here hx rfl (hb hby d20_9) rfl k) ?_
        show Go p.tables e below P T4 (mkF m 10 #[.val (.ref tb), .val (.ref tc), .val (.int x2)] [(.int x2)])
        refine Go.via (fun t k => XS.aloadN X4.here hx rfl (hb hby d20_10) rfl rfl k) ?_
        show Go p.tables e below P T4 (mkF m 11 #[.val (.ref tb), .val (.ref tc), .val (.int x2)] [(.ref tb), (.int x2)])
        obtain ⟨c5, A5, -, S5, N5, -, -⟩ := id P0
        refine Go.via (fun t k => X4.arraylength hx (by rw [e4]; exact A5.1) (State.isArrayOf_alike hZ.alike A5.2.1) (g := (mkF m 11 #[.val (.ref tb), .val (.ref tc), .val (.int x2)] [(.ref tb), (.int x2)])) rfl rfl (hb hby d20_11) t (by rw [len_of S5 N5]; exact k)) ?_
        show Go p.tables e below P T4 (mkF m 12 #[.val (.ref tb), .val (.ref tc), .val (.int x2)] [(.int (own_lg bx)), (.int x2)])
        by_cases hc6 : x2 < (own_lg bx)
        · refine Go.via (fun t k => XS.icmpNo X4.here hx rfl (hb hby d20_12) rfl (tlt hc6).2.1 k) ?_
          show Go p.tables e below P T4 (mkF m 15 #[.val (.ref tb), .val (.ref tc), .val (.int x2)] [])
          have hlt : i < bx.length := (own_ltN (by omega) (by omega)).mp (by rw [← hx2]; exact hc6)
          refine Go.via (fun t k => XS.aloadN X4.here hx rfl (hb hby d20_15) rfl rfl k) ?_
          show Go p.tables e below P T4 (mkF m 16 #[.val (.ref tb), .val (.ref tc), .val (.int x2)] [(.ref tb)])
          refine Go.via (fun t k => XS.iloadN X4.here hx rfl (hb hby d20_16) rfl k) ?_
          show Go p.tables e below P T4 (mkF m 17 #[.val (.ref tb), .val (.ref tc), .val (.int x2)] [(.int x2), (.ref tb)])
          obtain ⟨c7, A7, q7, S7, N7, H7, G7⟩ := id P0
          have hin7 : ¬ (x2 < 0 ∨ c7.slots.size ≤ (x2).toNatClampNeg) := inb_of S7 ⟨by rw [hx2]; exact own_nneg (by omega), by rw [hx2]; exact (own_ltN (by omega) (by omega)).mpr hlt⟩
          have hat7 : c7.slots[(x2).toNatClampNeg]? = some (.int (bx.getD i 0)) := (H7 _ (Nat.lt_of_not_le fun q => hin7 (Or.inr q))).trans (congrArg some (by rw [hx2, own_clamp (by omega)]; exact own_gD bx i))
          refine Go.via (fun t k => X4.baloadBytes hx (j := x2) (v := (.int (bx.getD i 0))) (by rw [e4]; exact A7.1) (State.isArrayOf_alike hZ.alike A7.2.1) A7.2.2 hin7 hat7 (g := (mkF m 17 #[.val (.ref tb), .val (.ref tc), .val (.int x2)] [(.int x2), (.ref tb)])) rfl rfl (hb hby d20_17) t k) ?_
          show Go p.tables e below P T4 (mkF m 18 #[.val (.ref tb), .val (.ref tc), .val (.int x2)] [(.int (bx.getD i 0))])
          refine Go.via (fun t k => XS.aloadN X4.here hx rfl (hb hby d20_18) rfl rfl k) ?_
          show Go p.tables e below P T4 (mkF m 19 #[.val (.ref tb), .val (.ref tc), .val (.int x2)] [(.ref tc), (.int (bx.getD i 0))])
          refine Go.via (fun t k => XS.iloadN X4.here hx rfl (hb hby d20_19) rfl k) ?_
          show Go p.tables e below P T4 (mkF m 20 #[.val (.ref tb), .val (.ref tc), .val (.int x2)] [(.int x2), (.ref tc), (.int (bx.getD i 0))])
          obtain ⟨c8, A8, q8, S8, N8, H8, G8⟩ := id P1
          have hin8 : ¬ (x2 < 0 ∨ c8.slots.size ≤ (x2).toNatClampNeg) := inb_of S8 ⟨by rw [hx2]; exact own_nneg (by omega), by rw [hx2]; exact (own_ltN (by omega) (by omega)).mpr ((own_lgj smx smz hc3) ▸ hlt)⟩
          have hat8 : c8.slots[(x2).toNatClampNeg]? = some (.int (bz.getD i 0)) := (H8 _ (Nat.lt_of_not_le fun q => hin8 (Or.inr q))).trans (congrArg some (by rw [hx2, own_clamp (by omega)]; exact own_gD bz i))
          refine Go.via (fun t k => X4.baloadBytes hx (j := x2) (v := (.int (bz.getD i 0))) (by rw [e4]; exact A8.1) (State.isArrayOf_alike hZ.alike A8.2.1) A8.2.2 hin8 hat8 (g := (mkF m 20 #[.val (.ref tb), .val (.ref tc), .val (.int x2)] [(.int x2), (.ref tc), (.int (bx.getD i 0))])) rfl rfl (hb hby d20_20) t k) ?_
          show Go p.tables e below P T4 (mkF m 21 #[.val (.ref tb), .val (.ref tc), .val (.int x2)] [(.int (bz.getD i 0)), (.int (bx.getD i 0))])
          by_cases hc9 : (bx.getD i 0) = (bz.getD i 0)
          · refine Go.via (fun t k => XS.icmpYes X4.here hx rfl (pc0 := 21) (pc' := 26) rfl (hb hby d20_21) rfl (teq hc9).1 (by decide) (by decide) k) ?_
            show Go p.tables e below P T4 (mkF m 26 #[.val (.ref tb), .val (.ref tc), .val (.int x2)] [])
            refine Go.via (fun t k => XS.iinc X4.here hx rfl (hb hby d20_26) rfl (l' := #[.val (.ref tb), .val (.ref tc), .val (.int (x2 + (1 : Int32)))]) rfl k) ?_
            show Go p.tables e below P T4 (mkF m 29 #[.val (.ref tb), .val (.ref tc), .val (.int (x2 + (1 : Int32)))] [])
            refine Go.via (fun t k => XS.goto X4.here hx rfl (pc0 := 29) (pc' := 9) rfl (hb hby d20_29) (by decide) (by decide) k) ?_
            exact ih4 T4 _ (i + 1) (x2 + (1 : Int32)) X4 e4 N4 hlt (by rw [hx2]; exact own_succ i) (own_pre hpre hc9) (by omega)
          · refine Go.via (fun t k => XS.icmpNo X4.here hx rfl (hb hby d20_21) rfl (feq hc9).1 k) ?_
            show Go p.tables e below P T4 (mkF m 24 #[.val (.ref tb), .val (.ref tc), .val (.int x2)] [])
            refine Go.via (fun t k => XS.iconst X4.here hx rfl (hb hby d20_24) k) ?_
            show Go p.tables e below P T4 (mkF m 25 #[.val (.ref tb), .val (.ref tc), .val (.int x2)] [(.int (0 : Int32))])
            obtain ⟨fs, hr, hrun, hended, hW, hsame⟩ := X4.leave (v := some (.int (if bx = bz then (1 : Int32) else (0 : Int32)))) (fun h => by rw [Bd.returns] at h; cases h)
            refine ⟨_, _, retZ X4 hx (t := .boolean) Bd.returns (by simp) (hb hby d20_25) (show nar .boolean (0 : Int32) = _ from (if_neg (fun q => hc9 (by rw [q]))).symm) hr, hrun, hended, hP _ _ ⟨_, _, rfl, ?_, ⟨_, rfl⟩, hW, hsame.mono (by decide) (by decide)⟩⟩
            show Q20 Z tb tc kk kc bx bz h0 n0 _ T4.heap _
            rw [e4]
            exact ⟨rfl, N4, rfl⟩
        · refine Go.via (fun t k => XS.icmpYes X4.here hx rfl (pc0 := 12) (pc' := 32) rfl (hb hby d20_12) rfl (flt hc6).2.1 (by decide) (by decide) k) ?_
          show Go p.tables e below P T4 (mkF m 32 #[.val (.ref tb), .val (.ref tc), .val (.int x2)] [])
          refine Go.via (fun t k => XS.iconst X4.here hx rfl (hb hby d20_32) k) ?_
          show Go p.tables e below P T4 (mkF m 33 #[.val (.ref tb), .val (.ref tc), .val (.int x2)] [(.int (1 : Int32))])
          have hge : ¬ i < bx.length := fun r => hc6 (by rw [hx2]; exact (own_ltN (by omega) (by omega)).mpr r)
          obtain ⟨fs, hr, hrun, hended, hW, hsame⟩ := X4.leave (v := some (.int (if bx = bz then (1 : Int32) else (0 : Int32)))) (fun h => by rw [Bd.returns] at h; cases h)
          refine ⟨_, _, retZ X4 hx (t := .boolean) Bd.returns (by simp) (hb hby d20_33) (show nar .boolean (1 : Int32) = _ from (if_pos (own_eqg (own_lgj smx smz hc3) (fun j q => hpre j (by omega)))).symm) hr, hrun, hended, hP _ _ ⟨_, _, rfl, ?_, ⟨_, rfl⟩, hW, hsame.mono (by decide) (by decide)⟩⟩
          show Q20 Z tb tc kk kc bx bz h0 n0 _ T4.heap _
          rw [e4]
          exact ⟨rfl, N4, rfl⟩
    exact LP4 _ s₁ _ 0 (0 : Int32) X0 e0 N0 (Nat.zero_le _) rfl (fun _ q => nomatch q) (Nat.lt_succ_self _)
  · refine Go.via (fun t k => XS.icmpYes X0.here hx rfl (pc0 := 4) (pc' := 34) rfl (hb hby d20_4) rfl (feq hc3).2 (by decide) (by decide) k) ?_
    show Go p.tables e below P s₁ (mkF m 34 #[.val (.ref tb), .val (.ref tc), .unset] [])
    refine Go.via (fun t k => XS.iconst X0.here hx rfl (hb hby d20_34) k) ?_
    show Go p.tables e below P s₁ (mkF m 35 #[.val (.ref tb), .val (.ref tc), .unset] [(.int (0 : Int32))])
    obtain ⟨fs, hr, hrun, hended, hW, hsame⟩ := X0.leave (v := some (.int (if bx = bz then (1 : Int32) else (0 : Int32)))) (fun h => by rw [Bd.returns] at h; cases h)
    refine ⟨_, _, retZ X0 hx (t := .boolean) Bd.returns (by simp) (hb hby d20_35) (show nar .boolean (0 : Int32) = _ from (if_neg (fun q => hc3 (congrArg own_lg q))).symm) hr, hrun, hended, hP _ _ ⟨_, _, rfl, ?_, ⟨_, rfl⟩, hW, hsame.mono (by decide) (by decide)⟩⟩
    show Q20 Z tb tc kk kc bx bz h0 n0 _ s₁.heap _
    rw [e0]
    exact ⟨rfl, N0, rfl⟩
theorem own_pd9 : parseMethodDescriptor "([B[B)Z" = some ⟨[(.array .byte), (.array .byte)], some .boolean⟩ := by decide +kernel
theorem d19_0 : decode jdk_42_method_66_code 0 = .ok (.aload_n 0, 1) := by decide +kernel
theorem d19_1 : decode jdk_42_method_66_code 1 = .ok (.aload_n 1, 1) := by decide +kernel
theorem d19_2 : decode jdk_42_method_66_code 2 = .ok (.if_acmp .ne 5, 3) := by decide +kernel
theorem d19_5 : decode jdk_42_method_66_code 5 = .ok (.iconst 1, 1) := by decide +kernel
theorem d19_6 : decode jdk_42_method_66_code 6 = .ok (.ireturn, 1) := by decide +kernel
theorem d19_7 : decode jdk_42_method_66_code 7 = .ok (.aload_n 1, 1) := by decide +kernel
theorem d19_8 : decode jdk_42_method_66_code 8 = .ok (.instanceof 10, 3) := by decide +kernel
theorem d19_11 : decode jdk_42_method_66_code 11 = .ok (.ifCond .eq 43, 3) := by decide +kernel
theorem d19_14 : decode jdk_42_method_66_code 14 = .ok (.aload_n 1, 1) := by decide +kernel
theorem d19_15 : decode jdk_42_method_66_code 15 = .ok (.checkcast 10, 3) := by decide +kernel
theorem d19_18 : decode jdk_42_method_66_code 18 = .ok (.astore_n 2, 1) := by decide +kernel
theorem d19_19 : decode jdk_42_method_66_code 19 = .ok (.getstatic 38, 3) := by decide +kernel
theorem d19_22 : decode jdk_42_method_66_code 22 = .ok (.ifCond .eq 14, 3) := by decide +kernel
theorem d19_25 : decode jdk_42_method_66_code 25 = .ok (.aload_n 0, 1) := by decide +kernel
theorem d19_26 : decode jdk_42_method_66_code 26 = .ok (.getfield 15, 3) := by decide +kernel
theorem d19_29 : decode jdk_42_method_66_code 29 = .ok (.aload_n 2, 1) := by decide +kernel
theorem d19_30 : decode jdk_42_method_66_code 30 = .ok (.getfield 15, 3) := by decide +kernel
theorem d19_33 : decode jdk_42_method_66_code 33 = .ok (.if_icmp .ne 21, 3) := by decide +kernel
theorem d19_36 : decode jdk_42_method_66_code 36 = .ok (.aload_n 0, 1) := by decide +kernel
theorem d19_37 : decode jdk_42_method_66_code 37 = .ok (.getfield 9, 3) := by decide +kernel
theorem d19_40 : decode jdk_42_method_66_code 40 = .ok (.aload_n 2, 1) := by decide +kernel
theorem d19_41 : decode jdk_42_method_66_code 41 = .ok (.getfield 9, 3) := by decide +kernel
theorem d19_44 : decode jdk_42_method_66_code 44 = .ok (.invokestatic 541, 3) := by decide +kernel
theorem d19_47 : decode jdk_42_method_66_code 47 = .ok (.ifCond .eq 7, 3) := by decide +kernel
theorem d19_50 : decode jdk_42_method_66_code 50 = .ok (.iconst 1, 1) := by decide +kernel
theorem d19_51 : decode jdk_42_method_66_code 51 = .ok (.goto 4, 3) := by decide +kernel
theorem d19_54 : decode jdk_42_method_66_code 54 = .ok (.iconst 0, 1) := by decide +kernel
theorem d19_55 : decode jdk_42_method_66_code 55 = .ok (.ireturn, 1) := by decide +kernel
theorem ef_19 (m : MethodId) (x0 : Addr) (x1 : Addr) : entryFrame m #[(.ref x0), (.ref x1)] 3 = mkF m 0 #[.val (.ref x0), .val (.ref x1), .unset] [] := by first | (simp [entryFrame, mkF, argsToLocals, Value.category]; done) | rfl
def Q19 (Z : State) (so : Addr) (sq : Addr) (cs : Int32) (tb : Addr) (tc : Addr) (kk : ClassId) (kc : ClassId) (bx : List Int32) (bz : List Int32) (h0 : Heap) (n0 : Nat) (v : Option Value) (h : Heap) (L : List Loc) : Prop := v = some (.int (if bx = bz then (1 : Int32) else (0 : Int32))) ∧ Fr n0 L ∧ h = h0
set_option maxRecDepth 65536 in
set_option maxHeartbeats 40000000 in
theorem rm19 (l : Launch) (Z : State) (a0 : Array Value) (hw : ∀ d ∈ tables_1, d.before a0 Z = true) (ws : List Jvm.Cond) (so : Addr) (sq : Addr) (cs : Int32) (tb : Addr) (tc : Addr) (kk : ClassId) (kc : ClassId) (bx : List Int32) (bz : List Int32) (h0 : Heap) (n0 : Nat) (Z0 : n0 ≤ h0.size) (O0 : Old Z n0 h0) (P1 : Sta Z Z.heap "java/lang/String" "COMPACT_STRINGS" "Z" (.int cs)) (hcs : ¬ cs = (0 : Int32)) (P3 : Exa Z h0 so "java/lang/String") (P4 : Fld Z h0 so "java/lang/String" "value" "[B" (.ref tb)) (P5 : Fld Z h0 so "java/lang/String" "coder" "B" (.int (0 : Int32))) (P6 : Arv Z h0 tb kk .byte (own_lg bx) (bx.map Value.int) (.int (0 : Int32))) (P7 : Exa Z h0 sq "java/lang/String") (P8 : Fld Z h0 sq "java/lang/String" "value" "[B" (.ref tc)) (P9 : Fld Z h0 sq "java/lang/String" "coder" "B" (.int (0 : Int32))) (P10 : Arv Z h0 tc kc .byte (own_lg bz) (bz.map Value.int) (.int (0 : Int32))) (smx : bx.length ≤ 1000) (smz : bz.length ≤ 1000) (hsm_ : so = sq → bx = bz) :
    MetFree l (⟨"java/lang/String", "equals", "(Ljava/lang/Object;)Z"⟩ : MethodName) (head1 (Jvm.Cond.code (⟨"java/lang/String", "equals", "(Ljava/lang/Object;)Z"⟩ : MethodName) jdk_42_method_66_code 3 (some .boolean) :: ws) ({ frames := 1, cells := 0, slots := 0, locals := 14 } : Room)) (fun a U => a = #[(.ref so), (.ref sq)] ∧ Z.Warmed39 U.vm ∧ U.heap = h0) (fun _ _ _ _ _ => True) (fun _ U o U' => ∃ v L, o = .returned v ∧ Q19 Z so sq cs tb tc kk kc bx bz h0 n0 v U'.heap L ∧ FrameEnd U o U' L ({ frames := 1, cells := 0, slots := 0, locals := 14 } : Room).cells ({ frames := 1, cells := 0, slots := 0, locals := 14 } : Room).slots) := by
  refine MetFree.of_bodySF (plainFor_of_name own_pn0) hisR ?_
  intro p e s m args below meth c s₁ Bd hml0 hP hK
  obtain ⟨rfl, hZ, hh⟩ := hP
  have hx := Bd.exec
  have hby := Bd.bytes
  have hml : c.maxLocals = 3 := hml0
  have hown : s.vm.findClass "java/lang/String" = some m.cls := findClass_of_methodNamed Bd.named
  have hnm := (name_of_methodNamed Bd.named Bd.method).1
  have X0 : Stand p l e ({ frames := 1, cells := 0, slots := 0, locals := 14 } : Room) s m #[(.ref so), (.ref sq)] below meth c s₁ [] 0 0 := Stand.of_body Bd
  have e0 : s₁.heap = h0 := by rw [← hh, Bd.state]; rfl
  have N0 := Fr.nil n0
  have K0 : Keep h0 h0 [] := Keep.refl _ _
  suffices GO : ∀ P : Outcome → State → Prop, (∀ o U', (∃ v L, o = .returned v ∧ Q19 Z so sq cs tb tc kk kc bx bz h0 n0 v U'.heap L ∧ FrameEnd s o U' L ({ frames := 1, cells := 0, slots := 0, locals := 14 } : Room).cells ({ frames := 1, cells := 0, slots := 0, locals := 14 } : Room).slots) → P o U') → Go p.tables e below P s₁ (mkF m 0 #[.val (.ref so), .val (.ref sq), .unset] []) by
    obtain ⟨s2, o, st, r⟩ := GO _ (fun _ _ q => q)
    exact ⟨s2, o, castTop (ef_19 m so sq) st, r⟩
  clear hh
  intro P hP
  show Go p.tables e below P s₁ (mkF m 0 #[.val (.ref so), .val (.ref sq), .unset] [])
  refine Go.via (fun t k => XS.aloadN X0.here hx rfl (hb hby d19_0) rfl rfl k) ?_
  show Go p.tables e below P s₁ (mkF m 1 #[.val (.ref so), .val (.ref sq), .unset] [(.ref so)])
  refine Go.via (fun t k => XS.aloadN X0.here hx rfl (hb hby d19_1) rfl rfl k) ?_
  show Go p.tables e below P s₁ (mkF m 2 #[.val (.ref so), .val (.ref sq), .unset] [(.ref sq), (.ref so)])
  by_cases hc1 : ((.ref so) : Value) = (.ref sq)
  · refine Go.via (fun t k => Jvm.RoadKit.acmp (g := (mkF m 2 #[.val (.ref so), .val (.ref sq), .unset] [(.ref sq), (.ref so)])) X0 hx rfl rfl rfl (pc0 := 2) (pc' := 5) (same := true) rfl (hb hby d19_2) rfl (decide_eq_true hc1) (by decide) (by decide) k) ?_
    show Go p.tables e below P s₁ (mkF m 5 #[.val (.ref so), .val (.ref sq), .unset] [])
    refine Go.via (fun t k => XS.iconst X0.here hx rfl (hb hby d19_5) k) ?_
    show Go p.tables e below P s₁ (mkF m 6 #[.val (.ref so), .val (.ref sq), .unset] [(.int (1 : Int32))])
    obtain ⟨fs, hr, hrun, hended, hW, hsame⟩ := X0.leave (v := some (.int (if bx = bz then (1 : Int32) else (0 : Int32)))) (fun h => by rw [Bd.returns] at h; cases h)
    refine ⟨_, _, retZ X0 hx (t := .boolean) Bd.returns (by simp) (hb hby d19_6) (show nar .boolean (1 : Int32) = _ from (if_pos (hsm_ (Value.ref.inj hc1))).symm) hr, hrun, hended, hP _ _ ⟨_, _, rfl, ?_, ⟨_, rfl⟩, hW, hsame.mono (by decide) (by decide)⟩⟩
    show Q19 Z so sq cs tb tc kk kc bx bz h0 n0 _ s₁.heap _
    rw [e0]
    exact ⟨rfl, N0, rfl⟩
  · refine Go.via (fun t k => Jvm.RoadKit.acmp (g := (mkF m 2 #[.val (.ref so), .val (.ref sq), .unset] [(.ref sq), (.ref so)])) X0 hx rfl rfl rfl (pc0 := 2) (pc' := 7) (same := false) rfl (hb hby d19_2) rfl (decide_eq_false hc1) (by decide) (by decide) k) ?_
    show Go p.tables e below P s₁ (mkF m 7 #[.val (.ref so), .val (.ref sq), .unset] [])
    refine Go.via (fun t k => XS.aloadN X0.here hx rfl (hb hby d19_7) rfl rfl k) ?_
    show Go p.tables e below P s₁ (mkF m 8 #[.val (.ref so), .val (.ref sq), .unset] [(.ref sq)])
    obtain ⟨T3, X3, e3, st3⟩ := instY X0 hx hZ hown (hw _ (List.mem_of_getElem? (i := 106) rfl)) e0 (Ins.self P7) (g := (mkF m 8 #[.val (.ref so), .val (.ref sq), .unset] [(.ref sq)])) rfl rfl (hb hby d19_8)
    refine Go.via st3 ?_
    show Go p.tables e below P T3 (mkF m 11 #[.val (.ref so), .val (.ref sq), .unset] [(.int (1 : Int32))])
    refine Go.via (fun t k => XS.ifNo X3.here hx rfl (hb hby d19_11) rfl ((if0 _ _).trans (feq (by decide : ¬ ((1 : Int32) = (0 : Int32)))).1) k) ?_
    show Go p.tables e below P T3 (mkF m 14 #[.val (.ref so), .val (.ref sq), .unset] [])
    refine Go.via (fun t k => XS.aloadN X3.here hx rfl (hb hby d19_14) rfl rfl k) ?_
    show Go p.tables e below P T3 (mkF m 15 #[.val (.ref so), .val (.ref sq), .unset] [(.ref sq)])
    obtain ⟨T4, X4, e4, st4⟩ := castY X3 hx hZ hown (hw _ (List.mem_of_getElem? (i := 106) rfl)) e3 (Ins.self P7) (g := (mkF m 15 #[.val (.ref so), .val (.ref sq), .unset] [(.ref sq)])) rfl rfl (hb hby d19_15)
    refine Go.via st4 ?_
    show Go p.tables e below P T4 (mkF m 18 #[.val (.ref so), .val (.ref sq), .unset] [(.ref sq)])
    refine Go.via (fun t k => XS.astoreN X4.here hx rfl (hb hby d19_18) rfl rfl (l' := #[.val (.ref so), .val (.ref sq), .val (.ref sq)]) rfl k) ?_
    show Go p.tables e below P T4 (mkF m 19 #[.val (.ref so), .val (.ref sq), .val (.ref sq)] [])
    obtain ⟨T5, X5, e5, st5⟩ := getS2 X4 hx hZ hown (host := "") (Or.inl (hw _ (List.mem_of_getElem? (i := 23) rfl))) Via.refl e4 (P1.ext O0.2) (g := (mkF m 19 #[.val (.ref so), .val (.ref sq), .val (.ref sq)] [])) rfl (hb hby d19_19)
    refine Go.via st5 ?_
    show Go p.tables e below P T5 (mkF m 22 #[.val (.ref so), .val (.ref sq), .val (.ref sq)] [(.int cs)])
    refine Go.via (fun t k => XS.ifNo X5.here hx rfl (hb hby d19_22) rfl ((if0 _ _).trans (feq hcs).1) k) ?_
    show Go p.tables e below P T5 (mkF m 25 #[.val (.ref so), .val (.ref sq), .val (.ref sq)] [])
    refine Go.via (fun t k => XS.aloadN X5.here hx rfl (hb hby d19_25) rfl rfl k) ?_
    show Go p.tables e below P T5 (mkF m 26 #[.val (.ref so), .val (.ref sq), .val (.ref sq)] [(.ref so)])
    obtain ⟨T6, X6, e6, st6⟩ := getF X5 hx hZ hown (host := "") (Or.inl (hw _ (List.mem_of_getElem? (i := 24) rfl))) Via.refl e5 P5 (g := (mkF m 26 #[.val (.ref so), .val (.ref sq), .val (.ref sq)] [(.ref so)])) rfl rfl (hb hby d19_26)
    refine Go.via st6 ?_
    show Go p.tables e below P T6 (mkF m 29 #[.val (.ref so), .val (.ref sq), .val (.ref sq)] [(.int (0 : Int32))])
    refine Go.via (fun t k => XS.aloadN X6.here hx rfl (hb hby d19_29) rfl rfl k) ?_
    show Go p.tables e below P T6 (mkF m 30 #[.val (.ref so), .val (.ref sq), .val (.ref sq)] [(.ref sq), (.int (0 : Int32))])
    obtain ⟨T7, X7, e7, st7⟩ := getF X6 hx hZ hown (host := "") (Or.inl (hw _ (List.mem_of_getElem? (i := 24) rfl))) Via.refl e6 P9 (g := (mkF m 30 #[.val (.ref so), .val (.ref sq), .val (.ref sq)] [(.ref sq), (.int (0 : Int32))])) rfl rfl (hb hby d19_30)
    refine Go.via st7 ?_
    show Go p.tables e below P T7 (mkF m 33 #[.val (.ref so), .val (.ref sq), .val (.ref sq)] [(.int (0 : Int32)), (.int (0 : Int32))])
    refine Go.via (fun t k => XS.icmpNo X7.here hx rfl (hb hby d19_33) rfl (teq (rfl : (0 : Int32) = (0 : Int32))).2 k) ?_
    show Go p.tables e below P T7 (mkF m 36 #[.val (.ref so), .val (.ref sq), .val (.ref sq)] [])
    refine Go.via (fun t k => XS.aloadN X7.here hx rfl (hb hby d19_36) rfl rfl k) ?_
    show Go p.tables e below P T7 (mkF m 37 #[.val (.ref so), .val (.ref sq), .val (.ref sq)] [(.ref so)])
    obtain ⟨T8, X8, e8, st8⟩ := getF X7 hx hZ hown (host := "") (Or.inl (hw _ (List.mem_of_getElem? (i := 17) rfl))) Via.refl e7 P4 (g := (mkF m 37 #[.val (.ref so), .val (.ref sq), .val (.ref sq)] [(.ref so)])) rfl rfl (hb hby d19_37)
    refine Go.via st8 ?_
    show Go p.tables e below P T8 (mkF m 40 #[.val (.ref so), .val (.ref sq), .val (.ref sq)] [(.ref tb)])
    refine Go.via (fun t k => XS.aloadN X8.here hx rfl (hb hby d19_40) rfl rfl k) ?_
    show Go p.tables e below P T8 (mkF m 41 #[.val (.ref so), .val (.ref sq), .val (.ref sq)] [(.ref sq), (.ref tb)])
    obtain ⟨T9, X9, e9, st9⟩ := getF X8 hx hZ hown (host := "") (Or.inl (hw _ (List.mem_of_getElem? (i := 17) rfl))) Via.refl e8 P8 (g := (mkF m 41 #[.val (.ref so), .val (.ref sq), .val (.ref sq)] [(.ref sq), (.ref tb)])) rfl rfl (hb hby d19_41)
    refine Go.via st9 ?_
    show Go p.tables e below P T9 (mkF m 44 #[.val (.ref so), .val (.ref sq), .val (.ref sq)] [(.ref tc), (.ref tb)])
    obtain ⟨_, _, ⟨T10, L10, k10, n10⟩, -, X10, ⟨Lc10, hQ10, l10, y10, z10⟩, st10⟩ := Jvm.LawKit.callS X9 hx (y := (⟨"java/lang/StringLatin1", "equals", "([B[B)Z"⟩ : MethodName)) hown (mvT hZ (hw _ (List.mem_of_getElem? (i := 107) rfl))) (mvT hZ (hw _ (List.mem_of_getElem? (i := 108) rfl))) (mvT hZ (hw _ (List.mem_of_getElem? (i := 37) rfl))) (mvT hZ (hw _ (List.mem_of_getElem? (i := 109) rfl))) (by decide) (backOf (W := 0) (rm20 l Z a0 hw [] tb tc kk kc bx bz h0 n0 Z0 P6 P10 (by first | assumption | decide | omega : bx.length ≤ 1000) (by first | assumption | decide | omega : bz.length ≤ 1000)) hZ (hw _ (List.mem_of_getElem? (i := 109) rfl)) (hw _ (List.mem_of_getElem? (i := 37) rfl)) (by decide) (by decide)) (g := (mkF m 44 #[.val (.ref so), .val (.ref sq), .val (.ref sq)] [(.ref tc), (.ref tb)])) rfl (by rw [hml]; rfl) (argsL := [(.ref tb), (.ref tc)]) (rest := []) (lenOf own_pd9 rfl) rfl (by show 2 * 0 + _ ≤ _; exact Nat.le_of_eq rfl) (hb hby d19_44) (fun _ _ => ⟨rfl, e9, (by decide : 0 + 0 ≤ _), (by decide : 0 + 0 ≤ _)⟩)
    dsimp only [Pt.U, Pt.locs, Pt.cells, Pt.slots] at X10 l10 y10 z10 st10 hQ10
    subst l10 y10 z10
    obtain ⟨rfl, Nq10, hh10⟩ := hQ10
    obtain ⟨lc10, Xh10, N10⟩ := own_hide X10 (Fr.app N0 Nq10)
    clear X10
    refine Go.via st10 ?_
    show Go p.tables e below P T10 (mkF m 47 #[.val (.ref so), .val (.ref sq), .val (.ref sq)] [(.int (if bx = bz then (1 : Int32) else (0 : Int32)))])
    by_cases hc11 : (if bx = bz then (1 : Int32) else (0 : Int32)) = (0 : Int32)
    · refine Go.via (fun t k => XS.ifYes Xh10.here hx rfl (pc0 := 47) (pc' := 54) rfl (hb hby d19_47) rfl ((if0 _ _).trans (teq hc11).1) (by decide) (by decide) k) ?_
      show Go p.tables e below P T10 (mkF m 54 #[.val (.ref so), .val (.ref sq), .val (.ref sq)] [])
      refine Go.via (fun t k => XS.iconst Xh10.here hx rfl (hb hby d19_54) k) ?_
      show Go p.tables e below P T10 (mkF m 55 #[.val (.ref so), .val (.ref sq), .val (.ref sq)] [(.int (0 : Int32))])
      obtain ⟨fs, hr, hrun, hended, hW, hsame⟩ := Xh10.leave (v := some (.int (if bx = bz then (1 : Int32) else (0 : Int32)))) (fun h => by rw [Bd.returns] at h; cases h)
      refine ⟨_, _, retZ Xh10 hx (t := .boolean) Bd.returns (by simp) (hb hby d19_55) (show nar .boolean (0 : Int32) = _ from (if_neg (own_i0 hc11)).symm) hr, hrun, hended, hP _ _ ⟨_, _, rfl, ?_, ⟨_, rfl⟩, hW, hsame.mono (by decide) (by decide)⟩⟩
      show Q19 Z so sq cs tb tc kk kc bx bz h0 n0 _ T10.heap _
      rw [hh10]
      exact ⟨rfl, N10, rfl⟩
    · refine Go.via (fun t k => XS.ifNo Xh10.here hx rfl (hb hby d19_47) rfl ((if0 _ _).trans (feq hc11).1) k) ?_
      show Go p.tables e below P T10 (mkF m 50 #[.val (.ref so), .val (.ref sq), .val (.ref sq)] [])
      refine Go.via (fun t k => XS.iconst Xh10.here hx rfl (hb hby d19_50) k) ?_
      show Go p.tables e below P T10 (mkF m 51 #[.val (.ref so), .val (.ref sq), .val (.ref sq)] [(.int (1 : Int32))])
      refine Go.via (fun t k => XS.goto Xh10.here hx rfl (pc0 := 51) (pc' := 55) rfl (hb hby d19_51) (by decide) (by decide) k) ?_
      show Go p.tables e below P T10 (mkF m 55 #[.val (.ref so), .val (.ref sq), .val (.ref sq)] [(.int (1 : Int32))])
      obtain ⟨fs, hr, hrun, hended, hW, hsame⟩ := Xh10.leave (v := some (.int (if bx = bz then (1 : Int32) else (0 : Int32)))) (fun h => by rw [Bd.returns] at h; cases h)
      refine ⟨_, _, retZ Xh10 hx (t := .boolean) Bd.returns (by simp) (hb hby d19_55) (show nar .boolean (1 : Int32) = _ from (if_pos (own_i1 hc11)).symm) hr, hrun, hended, hP _ _ ⟨_, _, rfl, ?_, ⟨_, rfl⟩, hW, hsame.mono (by decide) (by decide)⟩⟩
      show Q19 Z so sq cs tb tc kk kc bx bz h0 n0 _ T10.heap _
      rw [hh10]
      exact ⟨rfl, N10, rfl⟩
theorem ef_19n (m : MethodId) (x0 : Addr) : entryFrame m #[(.ref x0), .null] 3 = mkF m 0 #[.val (.ref x0), .val .null, .unset] [] := by first | (simp [entryFrame, mkF, argsToLocals, Value.category]; done) | rfl
def Q19n (Z : State) (so : Addr) (h0 : Heap) (n0 : Nat) (v : Option Value) (h : Heap) (L : List Loc) : Prop := v = some (.int (0 : Int32)) ∧ Fr n0 L ∧ h = h0
set_option maxRecDepth 65536 in
set_option maxHeartbeats 40000000 in
theorem rm19n (l : Launch) (Z : State) (a0 : Array Value) (hw : ∀ d ∈ tables_1, d.before a0 Z = true) (ws : List Jvm.Cond) (so : Addr) (h0 : Heap) (n0 : Nat) (Z0 : n0 ≤ h0.size) :
    MetFree l (⟨"java/lang/String", "equals", "(Ljava/lang/Object;)Z"⟩ : MethodName) (head1 (Jvm.Cond.code (⟨"java/lang/String", "equals", "(Ljava/lang/Object;)Z"⟩ : MethodName) jdk_42_method_66_code 3 (some .boolean) :: ws) ({ frames := 0, cells := 0, slots := 0, locals := 0 } : Room)) (fun a U => a = #[(.ref so), .null] ∧ Z.Warmed39 U.vm ∧ U.heap = h0) (fun _ _ _ _ _ => True) (fun _ U o U' => ∃ v L, o = .returned v ∧ Q19n Z so h0 n0 v U'.heap L ∧ FrameEnd U o U' L ({ frames := 0, cells := 0, slots := 0, locals := 0 } : Room).cells ({ frames := 0, cells := 0, slots := 0, locals := 0 } : Room).slots) := by
  refine MetFree.of_bodySF (plainFor_of_name own_pn0) hisR ?_
  intro p e s m args below meth c s₁ Bd hml0 hP hK
  obtain ⟨rfl, hZ, hh⟩ := hP
  have hx := Bd.exec
  have hby := Bd.bytes
  have hml : c.maxLocals = 3 := hml0
  have hown : s.vm.findClass "java/lang/String" = some m.cls := findClass_of_methodNamed Bd.named
  have hnm := (name_of_methodNamed Bd.named Bd.method).1
  have X0 : Stand p l e ({ frames := 0, cells := 0, slots := 0, locals := 0 } : Room) s m #[(.ref so), .null] below meth c s₁ [] 0 0 := Stand.of_body Bd
  have e0 : s₁.heap = h0 := by rw [← hh, Bd.state]; rfl
  have N0 := Fr.nil n0
  have K0 : Keep h0 h0 [] := Keep.refl _ _
  suffices GO : ∀ P : Outcome → State → Prop, (∀ o U', (∃ v L, o = .returned v ∧ Q19n Z so h0 n0 v U'.heap L ∧ FrameEnd s o U' L ({ frames := 0, cells := 0, slots := 0, locals := 0 } : Room).cells ({ frames := 0, cells := 0, slots := 0, locals := 0 } : Room).slots) → P o U') → Go p.tables e below P s₁ (mkF m 0 #[.val (.ref so), .val .null, .unset] []) by
    obtain ⟨s2, o, st, r⟩ := GO _ (fun _ _ q => q)
    exact ⟨s2, o, castTop (ef_19n m so) st, r⟩
  clear hh
  intro P hP
  show Go p.tables e below P s₁ (mkF m 0 #[.val (.ref so), .val .null, .unset] [])
  refine Go.via (fun t k => XS.aloadN X0.here hx rfl (hb hby d19_0) rfl rfl k) ?_
  show Go p.tables e below P s₁ (mkF m 1 #[.val (.ref so), .val .null, .unset] [(.ref so)])
  refine Go.via (fun t k => XS.aloadN X0.here hx rfl (hb hby d19_1) rfl rfl k) ?_
  show Go p.tables e below P s₁ (mkF m 2 #[.val (.ref so), .val .null, .unset] [.null, (.ref so)])
  refine Go.via (fun t k => Jvm.RoadKit.acmp (g := (mkF m 2 #[.val (.ref so), .val .null, .unset] [.null, (.ref so)])) X0 hx rfl rfl rfl (pc0 := 2) (pc' := 7) (same := false) rfl (hb hby d19_2) rfl (decide_eq_false nofun) (by decide) (by decide) k) ?_
  show Go p.tables e below P s₁ (mkF m 7 #[.val (.ref so), .val .null, .unset] [])
  refine Go.via (fun t k => XS.aloadN X0.here hx rfl (hb hby d19_7) rfl rfl k) ?_
  show Go p.tables e below P s₁ (mkF m 8 #[.val (.ref so), .val .null, .unset] [.null])
  refine Go.via (fun t k => X0.instanceofNull hx (g := (mkF m 8 #[.val (.ref so), .val .null, .unset] [.null])) rfl rfl (hb hby d19_8) t k) ?_
  show Go p.tables e below P s₁ (mkF m 11 #[.val (.ref so), .val .null, .unset] [(.int (0 : Int32))])
  refine Go.via (fun t k => XS.ifYes X0.here hx rfl (pc0 := 11) (pc' := 54) rfl (hb hby d19_11) rfl ((if0 _ _).trans (teq (rfl : (0 : Int32) = (0 : Int32))).1) (by decide) (by decide) k) ?_
  show Go p.tables e below P s₁ (mkF m 54 #[.val (.ref so), .val .null, .unset] [])
  refine Go.via (fun t k => XS.iconst X0.here hx rfl (hb hby d19_54) k) ?_
  show Go p.tables e below P s₁ (mkF m 55 #[.val (.ref so), .val .null, .unset] [(.int (0 : Int32))])
  obtain ⟨fs, hr, hrun, hended, hW, hsame⟩ := X0.leave (v := some (.int (0 : Int32))) (fun h => by rw [Bd.returns] at h; cases h)
  refine ⟨_, _, retZ X0 hx (t := .boolean) Bd.returns (by simp) (hb hby d19_55) rfl hr, hrun, hended, hP _ _ ⟨_, _, rfl, ?_, ⟨_, rfl⟩, hW, hsame.mono (by decide) (by decide)⟩⟩
  show Q19n Z so h0 n0 _ s₁.heap _
  rw [e0]
  exact ⟨rfl, N0, rfl⟩
theorem own_pn4 : plainName "java/util/Optional" = true := by first | (simp [plainName, overriddenIn]; done) | decide +kernel
theorem d17_0 : decode jdk_32_method_1_code 0 = .ok (.getstatic 1, 3) := by decide +kernel
theorem d17_3 : decode jdk_32_method_1_code 3 = .ok (.astore_n 0, 1) := by decide +kernel
theorem d17_4 : decode jdk_32_method_1_code 4 = .ok (.aload_n 0, 1) := by decide +kernel
theorem d17_5 : decode jdk_32_method_1_code 5 = .ok (.areturn, 1) := by decide +kernel
theorem ef_17 (m : MethodId)  : entryFrame m #[] 1 = mkF m 0 #[.unset] [] := by first | (simp [entryFrame, mkF, argsToLocals, Value.category]; done) | rfl
def Q17 (Z : State) (em : Addr) (h0 : Heap) (n0 : Nat) (v : Option Value) (h : Heap) (L : List Loc) : Prop := v = some (.ref em) ∧ Fr n0 L ∧ h = h0
set_option maxRecDepth 65536 in
set_option maxHeartbeats 40000000 in
theorem rm17 (l : Launch) (Z : State) (a0 : Array Value) (hw : ∀ d ∈ tables_1, d.before a0 Z = true) (ws : List Jvm.Cond) (em : Addr) (h0 : Heap) (n0 : Nat) (Z0 : n0 ≤ h0.size) (O0 : Old Z n0 h0) (P1 : Sta Z Z.heap "java/util/Optional" "EMPTY" "Ljava/util/Optional;" (.ref em)) :
    MetFree l (⟨"java/util/Optional", "empty", "()Ljava/util/Optional;"⟩ : MethodName) (head1 (Jvm.Cond.code (⟨"java/util/Optional", "empty", "()Ljava/util/Optional;"⟩ : MethodName) jdk_32_method_1_code 1 (some (.object "java/util/Optional")) :: ws) ({ frames := 0, cells := 0, slots := 0, locals := 0 } : Room)) (fun a U => a = #[] ∧ Z.Warmed39 U.vm ∧ U.heap = h0) (fun _ _ _ _ _ => True) (fun _ U o U' => ∃ v L, o = .returned v ∧ Q17 Z em h0 n0 v U'.heap L ∧ FrameEnd U o U' L ({ frames := 0, cells := 0, slots := 0, locals := 0 } : Room).cells ({ frames := 0, cells := 0, slots := 0, locals := 0 } : Room).slots) := by
  refine MetFree.of_bodySF (plainFor_of_name own_pn4) hisR ?_
  intro p e s m args below meth c s₁ Bd hml0 hP hK
  obtain ⟨rfl, hZ, hh⟩ := hP
  have hx := Bd.exec
  have hby := Bd.bytes
  have hml : c.maxLocals = 1 := hml0
  have hown : s.vm.findClass "java/util/Optional" = some m.cls := findClass_of_methodNamed Bd.named
  have hnm := (name_of_methodNamed Bd.named Bd.method).1
  have X0 : Stand p l e ({ frames := 0, cells := 0, slots := 0, locals := 0 } : Room) s m #[] below meth c s₁ [] 0 0 := Stand.of_body Bd
  have e0 : s₁.heap = h0 := by rw [← hh, Bd.state]; rfl
  have N0 := Fr.nil n0
  have K0 : Keep h0 h0 [] := Keep.refl _ _
  suffices GO : ∀ P : Outcome → State → Prop, (∀ o U', (∃ v L, o = .returned v ∧ Q17 Z em h0 n0 v U'.heap L ∧ FrameEnd s o U' L ({ frames := 0, cells := 0, slots := 0, locals := 0 } : Room).cells ({ frames := 0, cells := 0, slots := 0, locals := 0 } : Room).slots) → P o U') → Go p.tables e below P s₁ (mkF m 0 #[.unset] []) by
    obtain ⟨s2, o, st, r⟩ := GO _ (fun _ _ q => q)
    exact ⟨s2, o, castTop (ef_17 m ) st, r⟩
  clear hh
  intro P hP
  show Go p.tables e below P s₁ (mkF m 0 #[.unset] [])
  obtain ⟨T1, X1, e1, st1⟩ := getS2 X0 hx hZ hown (host := "") (Or.inl (hw _ (List.mem_of_getElem? (i := 81) rfl))) Via.refl e0 (P1.ext O0.2) (g := (mkF m 0 #[.unset] [])) rfl (hb hby d17_0)
  refine Go.via st1 ?_
  show Go p.tables e below P T1 (mkF m 3 #[.unset] [(.ref em)])
  refine Go.via (fun t k => XS.astoreN X1.here hx rfl (hb hby d17_3) rfl rfl (l' := #[.val (.ref em)]) rfl k) ?_
  show Go p.tables e below P T1 (mkF m 4 #[.val (.ref em)] [])
  refine Go.via (fun t k => XS.aloadN X1.here hx rfl (hb hby d17_4) rfl rfl k) ?_
  show Go p.tables e below P T1 (mkF m 5 #[.val (.ref em)] [(.ref em)])
  obtain ⟨fs, hr, hrun, hended, hW, hsame⟩ := X1.leave (v := some (.ref em)) (fun h => by rw [Bd.returns] at h; cases h)
  refine ⟨_, _, retA X1 hx Bd.returns rfl rfl rfl (hb hby d17_5) hr, hrun, hended, hP _ _ ⟨_, _, rfl, ?_, ⟨_, rfl⟩, hW, hsame.mono (by decide) (by decide)⟩⟩
  show Q17 Z em h0 n0 _ T1.heap _
  rw [e1]
  exact ⟨rfl, N0, rfl⟩
theorem own_pn5 : plainName "com/example/numeric_planner/numericplanner/planner/Solution$Kind" = true := by first | (simp [plainName, overriddenIn]; done) | decide +kernel
theorem d18_0 : decode prog_62_method_1_code 0 = .ok (.getstatic 10, 3) := by decide +kernel
theorem d18_3 : decode prog_62_method_1_code 3 = .ok (.invokevirtual 14, 3) := by decide +kernel
theorem d18_6 : decode prog_62_method_1_code 6 = .ok (.checkcast 15, 3) := by decide +kernel
theorem d18_9 : decode prog_62_method_1_code 9 = .ok (.areturn, 1) := by decide +kernel
theorem ef_18 (m : MethodId)  : entryFrame m #[] 0 = mkF m 0 #[] [] := by first | (simp [entryFrame, mkF, argsToLocals, Value.category]; done) | rfl
def Q18 (Z : State) (va : Addr) (kva : ClassId) (aV : Addr) (aP : Addr) (h0 : Heap) (n0 : Nat) (v : Option Value) (h : Heap) (L : List Loc) : Prop := ∃ (r : Addr), v = some (.ref r) ∧ Fr n0 L ∧ Keep h0 h [] ∧ h0.size ≤ r ∧ Arv Z h r kva (.object "com/example/numeric_planner/numericplanner/planner/Solution$Kind") (2 : Int32) [(.ref aV), (.ref aP)] .null ∧ Exa Z h r "[Lcom/example/numeric_planner/numericplanner/planner/Solution$Kind;"
set_option maxRecDepth 65536 in
set_option maxHeartbeats 40000000 in
theorem rm18 (l : Launch) (Z : State) (a0 : Array Value) (hw : ∀ d ∈ tables_1, d.before a0 Z = true) (ws : List Jvm.Cond) (va : Addr) (kva : ClassId) (aV : Addr) (aP : Addr) (h0 : Heap) (n0 : Nat) (Z0 : n0 ≤ h0.size) (O0 : Old Z n0 h0) (P1 : Sta Z Z.heap "com/example/numeric_planner/numericplanner/planner/Solution$Kind" "$VALUES" "[Lcom/example/numeric_planner/numericplanner/planner/Solution$Kind;" (.ref va)) (P2 : Arv Z Z.heap va kva (.object "com/example/numeric_planner/numericplanner/planner/Solution$Kind") (2 : Int32) [(.ref aV), (.ref aP)] .null) (P3 : Exa Z Z.heap va "[Lcom/example/numeric_planner/numericplanner/planner/Solution$Kind;") :
    MetFree l (⟨"com/example/numeric_planner/numericplanner/planner/Solution$Kind", "values", "()[Lcom/example/numeric_planner/numericplanner/planner/Solution$Kind;"⟩ : MethodName) (head1 (Jvm.Cond.code (⟨"com/example/numeric_planner/numericplanner/planner/Solution$Kind", "values", "()[Lcom/example/numeric_planner/numericplanner/planner/Solution$Kind;"⟩ : MethodName) prog_62_method_1_code 0 (some (.array (.object "com/example/numeric_planner/numericplanner/planner/Solution$Kind"))) :: ws) ({ frames := 1, cells := 1, slots := 2, locals := 14 } : Room)) (fun a U => a = #[] ∧ Z.Warmed39 U.vm ∧ U.heap = h0) (fun _ _ _ _ _ => True) (fun _ U o U' => ∃ v L, o = .returned v ∧ Q18 Z va kva aV aP h0 n0 v U'.heap L ∧ FrameEnd U o U' L ({ frames := 1, cells := 1, slots := 2, locals := 14 } : Room).cells ({ frames := 1, cells := 1, slots := 2, locals := 14 } : Room).slots) := by
  refine MetFree.of_bodySF (plainFor_of_name own_pn5) hisR ?_
  intro p e s m args below meth c s₁ Bd hml0 hP hK
  obtain ⟨rfl, hZ, hh⟩ := hP
  have hx := Bd.exec
  have hby := Bd.bytes
  have hml : c.maxLocals = 0 := hml0
  have hown : s.vm.findClass "com/example/numeric_planner/numericplanner/planner/Solution$Kind" = some m.cls := findClass_of_methodNamed Bd.named
  have hnm := (name_of_methodNamed Bd.named Bd.method).1
  have X0 : Stand p l e ({ frames := 1, cells := 1, slots := 2, locals := 14 } : Room) s m #[] below meth c s₁ [] 0 0 := Stand.of_body Bd
  have e0 : s₁.heap = h0 := by rw [← hh, Bd.state]; rfl
  have N0 := Fr.nil n0
  have K0 : Keep h0 h0 [] := Keep.refl _ _
  suffices GO : ∀ P : Outcome → State → Prop, (∀ o U', (∃ v L, o = .returned v ∧ Q18 Z va kva aV aP h0 n0 v U'.heap L ∧ FrameEnd s o U' L ({ frames := 1, cells := 1, slots := 2, locals := 14 } : Room).cells ({ frames := 1, cells := 1, slots := 2, locals := 14 } : Room).slots) → P o U') → Go p.tables e below P s₁ (mkF m 0 #[] []) by
    obtain ⟨s2, o, st, r⟩ := GO _ (fun _ _ q => q)
    exact ⟨s2, o, castTop (ef_18 m ) st, r⟩
  clear hh
  intro P hP
  show Go p.tables e below P s₁ (mkF m 0 #[] [])
  obtain ⟨T1, X1, e1, st1⟩ := getS2 X0 hx hZ hown (host := "") (Or.inl (hw _ (List.mem_of_getElem? (i := 85) rfl))) Via.refl e0 (P1.ext O0.2) (g := (mkF m 0 #[] [])) rfl (hb hby d18_0)
  refine Go.via st1 ?_
  show Go p.tables e below P T1 (mkF m 3 #[] [(.ref va)])
  obtain ⟨T2, h2, X2, e2, E2, V2, B2, st2⟩ := cloneH X1 hx hZ hown (hw _ (List.mem_of_getElem? (i := 87) rfl)) (hw _ (List.mem_of_getElem? (i := 88) rfl)) (hw _ (List.mem_of_getElem? (i := 92) rfl)) (hw _ (List.mem_of_getElem? (i := 90) rfl)) (hw _ (List.mem_of_getElem? (i := 91) rfl)) (hw _ (List.mem_of_getElem? (i := 93) rfl)) e1 (Arv.arh (P2.ext O0.2)) (P3.ext O0.2) (g := (mkF m 3 #[] [(.ref va)])) rfl (by rw [hml]; rfl) rfl (hb hby d18_3) (by decide) (W := 0) (by show 2 * 0 + _ ≤ _; exact Nat.le_of_eq rfl) (by decide) (cap := 2) (by decide) (by decide) (by decide)
  obtain ⟨b2, g2⟩ : ∃ z, z = h0.size := ⟨_, rfl⟩
  rw [← g2] at V2 B2 st2
  refine Go.via st2 ?_
  have g3 : n0 ≤ b2 := Nat.le_trans Z0 (Nat.le_of_eq g2.symm)
  have sz4 : h0.size ≤ b2 := Nat.le_trans K0.1 (Nat.le_of_eq g2.symm)
  have Z5 : n0 ≤ h2.size := Nat.le_trans Z0 E2.1
  have K6 : Keep h0 h2 [] := K0.ext E2
  have O7 : Old Z n0 h2 := O0.ext E2
  have Vc2 : Arv Z h2 b2 kva (.object "com/example/numeric_planner/numericplanner/planner/Solution$Kind") (2 : Int32) [(.ref aV), (.ref aP)] .null := V2
  show Go p.tables e below P T2 (mkF m 6 #[] [(.ref b2)])
  obtain ⟨T8, X8, e8, st8⟩ := castY X2 hx hZ hown (hw _ (List.mem_of_getElem? (i := 97) rfl)) e2 (Ins.self B2) (g := (mkF m 6 #[] [(.ref b2)])) rfl rfl (hb hby d18_6)
  refine Go.via st8 ?_
  show Go p.tables e below P T8 (mkF m 9 #[] [(.ref b2)])
  obtain ⟨fs, hr, hrun, hended, hW, hsame⟩ := X8.leave (v := some (.ref b2)) (fun h => by rw [Bd.returns] at h; cases h)
  refine ⟨_, _, retA X8 hx Bd.returns rfl rfl rfl (hb hby d18_9) hr, hrun, hended, hP _ _ ⟨_, _, rfl, ?_, ⟨_, rfl⟩, hW, hsame.mono (by decide) (by decide)⟩⟩
  show Q18 Z va kva aV aP h0 n0 _ T8.heap _
  rw [e8]
  exact ⟨b2, rfl, N0, K6, sz4, Vc2, B2⟩
theorem own_pn6 : plainName "java/util/Objects" = true := by first | (simp [plainName, overriddenIn]; done) | decide +kernel
theorem d23_0 : decode jdk_31_method_10_code 0 = .ok (.aload_n 0, 1) := by decide +kernel
theorem d23_1 : decode jdk_31_method_10_code 1 = .ok (.ifnonnull 11, 3) := by decide +kernel
theorem d23_12 : decode jdk_31_method_10_code 12 = .ok (.aload_n 0, 1) := by decide +kernel
theorem d23_13 : decode jdk_31_method_10_code 13 = .ok (.areturn, 1) := by decide +kernel
theorem ef_23 (m : MethodId) (x0 : Addr) : entryFrame m #[(.ref x0)] 1 = mkF m 0 #[.val (.ref x0)] [] := by first | (simp [entryFrame, mkF, argsToLocals, Value.category]; done) | rfl
def Q23 (Z : State) (ob : Addr) (h0 : Heap) (n0 : Nat) (v : Option Value) (h : Heap) (L : List Loc) : Prop := v = some (.ref ob) ∧ Fr n0 L ∧ h = h0
set_option maxRecDepth 65536 in
set_option maxHeartbeats 40000000 in
theorem rm23 (l : Launch) (Z : State) (a0 : Array Value) (hw : ∀ d ∈ tables_1, d.before a0 Z = true) (ws : List Jvm.Cond) (ob : Addr) (h0 : Heap) (n0 : Nat) (Z0 : n0 ≤ h0.size) :
    MetFree l (⟨"java/util/Objects", "requireNonNull", "(Ljava/lang/Object;)Ljava/lang/Object;"⟩ : MethodName) (head1 (Jvm.Cond.code (⟨"java/util/Objects", "requireNonNull", "(Ljava/lang/Object;)Ljava/lang/Object;"⟩ : MethodName) jdk_31_method_10_code 1 (some (.object "java/lang/Object")) :: ws) ({ frames := 0, cells := 0, slots := 0, locals := 0 } : Room)) (fun a U => a = #[(.ref ob)] ∧ Z.Warmed39 U.vm ∧ U.heap = h0) (fun _ _ _ _ _ => True) (fun _ U o U' => ∃ v L, o = .returned v ∧ Q23 Z ob h0 n0 v U'.heap L ∧ FrameEnd U o U' L ({ frames := 0, cells := 0, slots := 0, locals := 0 } : Room).cells ({ frames := 0, cells := 0, slots := 0, locals := 0 } : Room).slots) := by
  refine MetFree.of_bodySF (plainFor_of_name own_pn6) hisR ?_
  intro p e s m args below meth c s₁ Bd hml0 hP hK
  obtain ⟨rfl, hZ, hh⟩ := hP
  have hx := Bd.exec
  have hby := Bd.bytes
  have hml : c.maxLocals = 1 := hml0
  have hown : s.vm.findClass "java/util/Objects" = some m.cls := findClass_of_methodNamed Bd.named
  have hnm := (name_of_methodNamed Bd.named Bd.method).1
  have X0 : Stand p l e ({ frames := 0, cells := 0, slots := 0, locals := 0 } : Room) s m #[(.ref ob)] below meth c s₁ [] 0 0 := Stand.of_body Bd
  have e0 : s₁.heap = h0 := by rw [← hh, Bd.state]; rfl
  have N0 := Fr.nil n0
  have K0 : Keep h0 h0 [] := Keep.refl _ _
  suffices GO : ∀ P : Outcome → State → Prop, (∀ o U', (∃ v L, o = .returned v ∧ Q23 Z ob h0 n0 v U'.heap L ∧ FrameEnd s o U' L ({ frames := 0, cells := 0, slots := 0, locals := 0 } : Room).cells ({ frames := 0, cells := 0, slots := 0, locals := 0 } : Room).slots) → P o U') → Go p.tables e below P s₁ (mkF m 0 #[.val (.ref ob)] []) by
    obtain ⟨s2, o, st, r⟩ := GO _ (fun _ _ q => q)
    exact ⟨s2, o, castTop (ef_23 m ob) st, r⟩
  clear hh
  intro P hP
  show Go p.tables e below P s₁ (mkF m 0 #[.val (.ref ob)] [])
  refine Go.via (fun t k => XS.aloadN X0.here hx rfl (hb hby d23_0) rfl rfl k) ?_
  show Go p.tables e below P s₁ (mkF m 1 #[.val (.ref ob)] [(.ref ob)])
  refine Go.via (fun t k => XS.ifnonnullYes X0.here hx rfl (pc0 := 1) (pc' := 12) rfl (hb hby d23_1) rfl (by decide) (by decide) k) ?_
  show Go p.tables e below P s₁ (mkF m 12 #[.val (.ref ob)] [])
  refine Go.via (fun t k => XS.aloadN X0.here hx rfl (hb hby d23_12) rfl rfl k) ?_
  show Go p.tables e below P s₁ (mkF m 13 #[.val (.ref ob)] [(.ref ob)])
  obtain ⟨fs, hr, hrun, hended, hW, hsame⟩ := X0.leave (v := some (.ref ob)) (fun h => by rw [Bd.returns] at h; cases h)
  refine ⟨_, _, retA X0 hx Bd.returns rfl rfl rfl (hb hby d23_13) hr, hrun, hended, hP _ _ ⟨_, _, rfl, ?_, ⟨_, rfl⟩, hW, hsame.mono (by decide) (by decide)⟩⟩
  show Q23 Z ob h0 n0 _ s₁.heap _
  rw [e0]
  exact ⟨rfl, N0, rfl⟩
theorem d24_0 : decode jdk_32_method_2_code 0 = .ok (.aload_n 0, 1) := by decide +kernel
theorem d24_1 : decode jdk_32_method_2_code 1 = .ok (.invokespecial 7, 3) := by decide +kernel
theorem d24_4 : decode jdk_32_method_2_code 4 = .ok (.aload_n 0, 1) := by decide +kernel
theorem d24_5 : decode jdk_32_method_2_code 5 = .ok (.aload_n 1, 1) := by decide +kernel
theorem d24_6 : decode jdk_32_method_2_code 6 = .ok (.putfield 13, 3) := by decide +kernel
theorem d24_9 : decode jdk_32_method_2_code 9 = .ok (.return_, 1) := by decide +kernel
theorem ef_24 (m : MethodId) (x0 : Addr) (x1 : Addr) : entryFrame m #[(.ref x0), (.ref x1)] 2 = mkF m 0 #[.val (.ref x0), .val (.ref x1)] [] := by first | (simp [entryFrame, mkF, argsToLocals, Value.category]; done) | rfl
def Q24 (Z : State) (oa : Addr) (ob : Addr) (h0 : Heap) (n0 : Nat) (v : Option Value) (h : Heap) (L : List Loc) : Prop := v = none ∧ Fr n0 L ∧ Keep h0 h [oa] ∧ Exa Z h oa "java/util/Optional" ∧ Fld Z h oa "java/util/Optional" "value" "Ljava/lang/Object;" (.ref ob)
set_option maxRecDepth 65536 in
set_option maxHeartbeats 40000000 in
theorem rm24 (l : Launch) (Z : State) (a0 : Array Value) (hw : ∀ d ∈ tables_1, d.before a0 Z = true) (ws : List Jvm.Cond) (oa : Addr) (ob : Addr) (h0 : Heap) (n0 : Nat) (Z0 : n0 ≤ h0.size) (P0 : Exa Z h0 oa "java/util/Optional") (P1 : Fld Z h0 oa "java/util/Optional" "value" "Ljava/lang/Object;" .null) (ga : n0 ≤ oa) :
    MetFree l (⟨"java/util/Optional", "<init>", "(Ljava/lang/Object;)V"⟩ : MethodName) (head1 (Jvm.Cond.code (⟨"java/util/Optional", "<init>", "(Ljava/lang/Object;)V"⟩ : MethodName) jdk_32_method_2_code 2 none :: ws) ({ frames := 1, cells := 0, slots := 0, locals := 12 } : Room)) (fun a U => a = #[(.ref oa), (.ref ob)] ∧ Z.Warmed39 U.vm ∧ U.heap = h0) (fun _ _ _ _ _ => True) (fun _ U o U' => ∃ v L, o = .returned v ∧ Q24 Z oa ob h0 n0 v U'.heap L ∧ FrameEnd U o U' L ({ frames := 1, cells := 0, slots := 0, locals := 12 } : Room).cells ({ frames := 1, cells := 0, slots := 0, locals := 12 } : Room).slots) := by
  refine MetFree.of_bodySF (plainFor_of_name own_pn4) hisR ?_
  intro p e s m args below meth c s₁ Bd hml0 hP hK
  obtain ⟨rfl, hZ, hh⟩ := hP
  have hx := Bd.exec
  have hby := Bd.bytes
  have hml : c.maxLocals = 2 := hml0
  have hown : s.vm.findClass "java/util/Optional" = some m.cls := findClass_of_methodNamed Bd.named
  have hnm := (name_of_methodNamed Bd.named Bd.method).1
  have X0 : Stand p l e ({ frames := 1, cells := 0, slots := 0, locals := 12 } : Room) s m #[(.ref oa), (.ref ob)] below meth c s₁ [] 0 0 := Stand.of_body Bd
  have e0 : s₁.heap = h0 := by rw [← hh, Bd.state]; rfl
  have N0 := Fr.nil n0
  have K0 : Keep h0 h0 [oa] := Keep.refl _ _
  suffices GO : ∀ P : Outcome → State → Prop, (∀ o U', (∃ v L, o = .returned v ∧ Q24 Z oa ob h0 n0 v U'.heap L ∧ FrameEnd s o U' L ({ frames := 1, cells := 0, slots := 0, locals := 12 } : Room).cells ({ frames := 1, cells := 0, slots := 0, locals := 12 } : Room).slots) → P o U') → Go p.tables e below P s₁ (mkF m 0 #[.val (.ref oa), .val (.ref ob)] []) by
    obtain ⟨s2, o, st, r⟩ := GO _ (fun _ _ q => q)
    exact ⟨s2, o, castTop (ef_24 m oa ob) st, r⟩
  clear hh
  intro P hP
  show Go p.tables e below P s₁ (mkF m 0 #[.val (.ref oa), .val (.ref ob)] [])
  refine Go.via (fun t k => XS.aloadN X0.here hx rfl (hb hby d24_0) rfl rfl k) ?_
  show Go p.tables e below P s₁ (mkF m 1 #[.val (.ref oa), .val (.ref ob)] [(.ref oa)])
  obtain ⟨T1, X1, e1, st1⟩ := initO X0 hx hZ hown (hw _ (List.mem_of_getElem? (i := 134) rfl)) (hw _ (List.mem_of_getElem? (i := 61) rfl)) (hw _ (List.mem_of_getElem? (i := 62) rfl)) e0 (g := (mkF m 1 #[.val (.ref oa), .val (.ref ob)] [(.ref oa)])) rfl (by rw [hml]; rfl) rfl (hb hby d24_1) (by decide) (W := 0) (by show 2 * 0 + _ ≤ _; exact Nat.le_of_eq rfl) (by decide)
  refine Go.via st1 ?_
  show Go p.tables e below P T1 (mkF m 4 #[.val (.ref oa), .val (.ref ob)] [])
  refine Go.via (fun t k => XS.aloadN X1.here hx rfl (hb hby d24_4) rfl rfl k) ?_
  show Go p.tables e below P T1 (mkF m 5 #[.val (.ref oa), .val (.ref ob)] [(.ref oa)])
  refine Go.via (fun t k => XS.aloadN X1.here hx rfl (hb hby d24_5) rfl rfl k) ?_
  show Go p.tables e below P T1 (mkF m 6 #[.val (.ref oa), .val (.ref ob)] [(.ref ob), (.ref oa)])
  obtain ⟨T2, h2, X2, e2, W2, st2⟩ := putF X1 hx hZ hown (host := "") (Or.inl (hw _ (List.mem_of_getElem? (i := 115) rfl))) Via.refl e1 P1 P0 (Or.inr ⟨(hw _ (List.mem_of_getElem? (i := 116) rfl)), rfl, hnm⟩) (hw _ (List.mem_of_getElem? (i := 125) rfl)) (ty := (.object "java/lang/Object")) (by decide) rfl rfl (g := (mkF m 6 #[.val (.ref oa), .val (.ref ob)] [(.ref ob), (.ref oa)])) rfl rfl (hb hby d24_6)
  refine Go.via st2 ?_
  have Z3 : n0 ≤ h2.size := Nat.le_trans Z0 (Nat.le_of_eq W2.size.symm)
  have K4 : Keep h0 h2 [oa] := K0.wr W2 (Or.inl (List.mem_of_getElem? (i := 0) rfl))
  obtain ⟨lc2, Xh2, N5⟩ := own_hide X2 (Fr.snoc X2 N0 ga)
  clear X2
  have Fw2 := P1.same W2
  show Go p.tables e below P T2 (mkF m 9 #[.val (.ref oa), .val (.ref ob)] [])
  obtain ⟨fs, hr, hrun, hended, hW, hsame⟩ := Xh2.leave (v := none) (fun _ => rfl)
  have F7 : Exa Z h2 oa "java/util/Optional" := (P0.wr W2)
  refine ⟨_, _, Xh2.returnOut hx Bd.returns (hb hby d24_9) hr, hrun, hended, hP _ _ ⟨_, _, rfl, ?_, ⟨_, rfl⟩, hW, hsame.mono (by decide) (by decide)⟩⟩
  show Q24 Z oa ob h0 n0 _ T2.heap _
  rw [e2]
  exact ⟨rfl, N5, K4, F7, Fw2⟩
theorem own_pd10 : parseMethodDescriptor "(Ljava/lang/Object;)Ljava/lang/Object;" = some ⟨[(.object "java/lang/Object")], some (.object "java/lang/Object")⟩ := by decide +kernel
theorem own_pd11 : parseMethodDescriptor "(Ljava/lang/Object;)V" = some ⟨[(.object "java/lang/Object")], none⟩ := by decide +kernel
theorem d22_0 : decode jdk_32_method_3_code 0 = .ok (.new 2, 3) := by decide +kernel
theorem d22_3 : decode jdk_32_method_3_code 3 = .ok (.dup, 1) := by decide +kernel
theorem d22_4 : decode jdk_32_method_3_code 4 = .ok (.aload_n 0, 1) := by decide +kernel
theorem d22_5 : decode jdk_32_method_3_code 5 = .ok (.invokestatic 17, 3) := by decide +kernel
theorem d22_8 : decode jdk_32_method_3_code 8 = .ok (.invokespecial 23, 3) := by decide +kernel
theorem d22_11 : decode jdk_32_method_3_code 11 = .ok (.areturn, 1) := by decide +kernel
theorem ef_22 (m : MethodId) (x0 : Addr) : entryFrame m #[(.ref x0)] 1 = mkF m 0 #[.val (.ref x0)] [] := by first | (simp [entryFrame, mkF, argsToLocals, Value.category]; done) | rfl
def Q22 (Z : State) (ob : Addr) (h0 : Heap) (n0 : Nat) (v : Option Value) (h : Heap) (L : List Loc) : Prop := ∃ (r : Addr), v = some (.ref r) ∧ Fr n0 L ∧ Keep h0 h [] ∧ h0.size ≤ r ∧ Exa Z h r "java/util/Optional" ∧ Fld Z h r "java/util/Optional" "value" "Ljava/lang/Object;" (.ref ob)
set_option maxRecDepth 65536 in
set_option maxHeartbeats 40000000 in
theorem rm22 (l : Launch) (Z : State) (a0 : Array Value) (hw : ∀ d ∈ tables_1, d.before a0 Z = true) (ws : List Jvm.Cond) (ob : Addr) (h0 : Heap) (n0 : Nat) (Z0 : n0 ≤ h0.size) :
    MetFree l (⟨"java/util/Optional", "of", "(Ljava/lang/Object;)Ljava/util/Optional;"⟩ : MethodName) (head1 (Jvm.Cond.code (⟨"java/util/Optional", "of", "(Ljava/lang/Object;)Ljava/util/Optional;"⟩ : MethodName) jdk_32_method_3_code 1 (some (.object "java/util/Optional")) :: ws) ({ frames := 2, cells := 1, slots := 1, locals := 26 } : Room)) (fun a U => a = #[(.ref ob)] ∧ Z.Warmed39 U.vm ∧ U.heap = h0) (fun _ _ _ _ _ => True) (fun _ U o U' => ∃ v L, o = .returned v ∧ Q22 Z ob h0 n0 v U'.heap L ∧ FrameEnd U o U' L ({ frames := 2, cells := 1, slots := 1, locals := 26 } : Room).cells ({ frames := 2, cells := 1, slots := 1, locals := 26 } : Room).slots) := by
  refine MetFree.of_bodySF (plainFor_of_name own_pn4) hisR ?_
  intro p e s m args below meth c s₁ Bd hml0 hP hK
  obtain ⟨rfl, hZ, hh⟩ := hP
  have hx := Bd.exec
  have hby := Bd.bytes
  have hml : c.maxLocals = 1 := hml0
  have hown : s.vm.findClass "java/util/Optional" = some m.cls := findClass_of_methodNamed Bd.named
  have hnm := (name_of_methodNamed Bd.named Bd.method).1
  have X0 : Stand p l e ({ frames := 2, cells := 1, slots := 1, locals := 26 } : Room) s m #[(.ref ob)] below meth c s₁ [] 0 0 := Stand.of_body Bd
  have e0 : s₁.heap = h0 := by rw [← hh, Bd.state]; rfl
  have N0 := Fr.nil n0
  have K0 : Keep h0 h0 [] := Keep.refl _ _
  suffices GO : ∀ P : Outcome → State → Prop, (∀ o U', (∃ v L, o = .returned v ∧ Q22 Z ob h0 n0 v U'.heap L ∧ FrameEnd s o U' L ({ frames := 2, cells := 1, slots := 1, locals := 26 } : Room).cells ({ frames := 2, cells := 1, slots := 1, locals := 26 } : Room).slots) → P o U') → Go p.tables e below P s₁ (mkF m 0 #[.val (.ref ob)] []) by
    obtain ⟨s2, o, st, r⟩ := GO _ (fun _ _ q => q)
    exact ⟨s2, o, castTop (ef_22 m ob) st, r⟩
  clear hh
  intro P hP
  show Go p.tables e below P s₁ (mkF m 0 #[.val (.ref ob)] [])
  obtain ⟨T1, h1, X1, e1, E1, A1, D1, -, st1⟩ := newO X0 hx hZ hown (hw _ (List.mem_of_getElem? (i := 124) rfl)) (hw _ (List.mem_of_getElem? (i := 125) rfl)) (hw _ (List.mem_of_getElem? (i := 79) rfl)) e0 (g := (mkF m 0 #[.val (.ref ob)] [])) rfl (hb hby d22_0) (by decide) (by decide)
  obtain ⟨b1, g1⟩ : ∃ z, z = h0.size := ⟨_, rfl⟩
  rw [← g1] at A1 D1 st1
  refine Go.via st1 ?_
  have g2 : n0 ≤ b1 := Nat.le_trans Z0 (Nat.le_of_eq g1.symm)
  have sz3 : h0.size ≤ b1 := Nat.le_trans K0.1 (Nat.le_of_eq g1.symm)
  have Z4 : n0 ≤ h1.size := Nat.le_trans Z0 E1.1
  have K5 : Keep h0 h1 [] := K0.ext E1
  show Go p.tables e below P T1 (mkF m 3 #[.val (.ref ob)] [(.ref b1)])
  refine Go.via (fun t k => XS.dup X1.here hx rfl (hb hby d22_3) rfl rfl k) ?_
  show Go p.tables e below P T1 (mkF m 4 #[.val (.ref ob)] [(.ref b1), (.ref b1)])
  refine Go.via (fun t k => XS.aloadN X1.here hx rfl (hb hby d22_4) rfl rfl k) ?_
  show Go p.tables e below P T1 (mkF m 5 #[.val (.ref ob)] [(.ref ob), (.ref b1), (.ref b1)])
  obtain ⟨_, _, ⟨T6, L6, k6, n6⟩, -, X6, ⟨Lc6, hQ6, l6, y6, z6⟩, st6⟩ := Jvm.LawKit.callS X1 hx (y := (⟨"java/util/Objects", "requireNonNull", "(Ljava/lang/Object;)Ljava/lang/Object;"⟩ : MethodName)) hown (mvT hZ (hw _ (List.mem_of_getElem? (i := 126) rfl))) (mvT hZ (hw _ (List.mem_of_getElem? (i := 127) rfl))) (mvT hZ (hw _ (List.mem_of_getElem? (i := 128) rfl))) (mvT hZ (hw _ (List.mem_of_getElem? (i := 129) rfl))) (by decide) (backOf (W := 2) (rm23 l Z a0 hw [] ob h1 n0 Z4 ) hZ (hw _ (List.mem_of_getElem? (i := 129) rfl)) (hw _ (List.mem_of_getElem? (i := 128) rfl)) (by decide) (by decide)) (g := (mkF m 5 #[.val (.ref ob)] [(.ref ob), (.ref b1), (.ref b1)])) rfl (by rw [hml]; rfl) (argsL := [(.ref ob)]) (rest := [(.ref b1), (.ref b1)]) (lenOf own_pd10 rfl) rfl (by show 2 * 0 + _ ≤ _; exact Nat.le_of_eq rfl) (hb hby d22_5) (fun _ _ => ⟨rfl, e1, (by decide : 1 + 0 ≤ _), (by decide : 1 + 0 ≤ _)⟩)
  dsimp only [Pt.U, Pt.locs, Pt.cells, Pt.slots] at X6 l6 y6 z6 st6 hQ6
  subst l6 y6 z6
  obtain ⟨rfl, Nq6, hh6⟩ := hQ6
  obtain ⟨lc6, Xh6, N6⟩ := own_hide X6 (Fr.app N0 Nq6)
  clear X6
  refine Go.via st6 ?_
  show Go p.tables e below P T6 (mkF m 8 #[.val (.ref ob)] [(.ref ob), (.ref b1), (.ref b1)])
  obtain ⟨_, _, ⟨T7, L7, k7, n7⟩, -, X7, ⟨Lc7, hQ7, l7, y7, z7⟩, st7⟩ := Xh6.specialBack hx (y := (⟨"java/util/Optional", "<init>", "(Ljava/lang/Object;)V"⟩ : MethodName)) rfl hown (mvT hZ (hw _ (List.mem_of_getElem? (i := 130) rfl))) (mvT hZ (hw _ (List.mem_of_getElem? (i := 131) rfl))) (mvT hZ (hw _ (List.mem_of_getElem? (i := 133) rfl))) (by decide) (backOf (W := 1) (rm24 l Z a0 hw [] b1 ob h1 n0 Z4 A1 (D1 (Or.inr (hw _ (List.mem_of_getElem? (i := 116) rfl))) (ty := (.object "java/lang/Object")) (by decide) : Fld Z h1 b1 "java/util/Optional" "value" "Ljava/lang/Object;" .null) g2) hZ (hw _ (List.mem_of_getElem? (i := 133) rfl)) (hw _ (List.mem_of_getElem? (i := 79) rfl)) (by decide) (by decide)) (g := (mkF m 8 #[.val (.ref ob)] [(.ref ob), (.ref b1), (.ref b1)])) rfl (by rw [hml]; rfl) (Steps.refl _) (a := b1) (argsL := [(.ref ob)]) (rest := [(.ref b1)]) (lenOf own_pd11 rfl) rfl (by show 2 * 0 + _ ≤ _; exact Nat.le_of_eq rfl) (hb hby d22_8) (fun _ _ => ⟨rfl, hh6, (by decide : 1 + 0 ≤ _), (by decide : 1 + 0 ≤ _)⟩)
  dsimp only [Pt.U, Pt.locs, Pt.cells, Pt.slots] at X7 l7 y7 z7 st7 hQ7
  subst l7 y7 z7
  obtain ⟨rfl, Nq7, K7, u7_0, u7_1⟩ := hQ7
  obtain ⟨lc7, Xh7, N7⟩ := own_hide X7 (Fr.app N6 Nq7)
  clear X7
  refine Go.hop st7 ?_
  have Z8 : n0 ≤ T7.heap.size := Nat.le_trans Z4 K7.1
  have K9 : Keep h0 T7.heap [] := K5.trans K7 (own_allC (Or.inr sz3) own_all0)
  show Go p.tables e below P T7 (mkF m 11 #[.val (.ref ob)] [(.ref b1)])
  obtain ⟨fs, hr, hrun, hended, hW, hsame⟩ := Xh7.leave (v := some (.ref b1)) (fun h => by rw [Bd.returns] at h; cases h)
  refine ⟨_, _, retA Xh7 hx Bd.returns rfl rfl rfl (hb hby d22_11) hr, hrun, hended, hP _ _ ⟨_, _, rfl, ?_, ⟨_, rfl⟩, hW, hsame.mono (by decide) (by decide)⟩⟩
  show Q22 Z ob h0 n0 _ T7.heap _
  exact ⟨b1, rfl, N7, K9, sz3, u7_0, u7_1⟩
theorem d21_0 : decode jdk_32_method_15_code 0 = .ok (.aload_n 0, 1) := by decide +kernel
theorem d21_1 : decode jdk_32_method_15_code 1 = .ok (.getfield 13, 3) := by decide +kernel
theorem d21_4 : decode jdk_32_method_15_code 4 = .ok (.ifnull 10, 3) := by decide +kernel
theorem d21_14 : decode jdk_32_method_15_code 14 = .ok (.aload_n 1, 1) := by decide +kernel
theorem d21_15 : decode jdk_32_method_15_code 15 = .ok (.areturn, 1) := by decide +kernel
theorem ef_21n (m : MethodId) (x0 : Addr) : entryFrame m #[(.ref x0), .null] 2 = mkF m 0 #[.val (.ref x0), .val .null] [] := by first | (simp [entryFrame, mkF, argsToLocals, Value.category]; done) | rfl
def Q21n (Z : State) (oa : Addr) (h0 : Heap) (n0 : Nat) (v : Option Value) (h : Heap) (L : List Loc) : Prop := v = some .null ∧ Fr n0 L ∧ h = h0
set_option maxRecDepth 65536 in
set_option maxHeartbeats 40000000 in
theorem rm21n (l : Launch) (Z : State) (a0 : Array Value) (hw : ∀ d ∈ tables_1, d.before a0 Z = true) (ws : List Jvm.Cond) (oa : Addr) (h0 : Heap) (n0 : Nat) (Z0 : n0 ≤ h0.size) (P0 : Fld Z h0 oa "java/util/Optional" "value" "Ljava/lang/Object;" .null) :
    MetFree l (⟨"java/util/Optional", "orElse", "(Ljava/lang/Object;)Ljava/lang/Object;"⟩ : MethodName) (head1 (Jvm.Cond.code (⟨"java/util/Optional", "orElse", "(Ljava/lang/Object;)Ljava/lang/Object;"⟩ : MethodName) jdk_32_method_15_code 2 (some (.object "java/lang/Object")) :: ws) ({ frames := 0, cells := 0, slots := 0, locals := 0 } : Room)) (fun a U => a = #[(.ref oa), .null] ∧ Z.Warmed39 U.vm ∧ U.heap = h0) (fun _ _ _ _ _ => True) (fun _ U o U' => ∃ v L, o = .returned v ∧ Q21n Z oa h0 n0 v U'.heap L ∧ FrameEnd U o U' L ({ frames := 0, cells := 0, slots := 0, locals := 0 } : Room).cells ({ frames := 0, cells := 0, slots := 0, locals := 0 } : Room).slots) := by
  refine MetFree.of_bodySF (plainFor_of_name own_pn4) hisR ?_
  intro p e s m args below meth c s₁ Bd hml0 hP hK
  obtain ⟨rfl, hZ, hh⟩ := hP
  have hx := Bd.exec
  have hby := Bd.bytes
  have hml : c.maxLocals = 2 := hml0
  have hown : s.vm.findClass "java/util/Optional" = some m.cls := findClass_of_methodNamed Bd.named
  have hnm := (name_of_methodNamed Bd.named Bd.method).1
  have X0 : Stand p l e ({ frames := 0, cells := 0, slots := 0, locals := 0 } : Room) s m #[(.ref oa), .null] below meth c s₁ [] 0 0 := Stand.of_body Bd
  have e0 : s₁.heap = h0 := by rw [← hh, Bd.state]; rfl
  have N0 := Fr.nil n0
  have K0 : Keep h0 h0 [] := Keep.refl _ _
  suffices GO : ∀ P : Outcome → State → Prop, (∀ o U', (∃ v L, o = .returned v ∧ Q21n Z oa h0 n0 v U'.heap L ∧ FrameEnd s o U' L ({ frames := 0, cells := 0, slots := 0, locals := 0 } : Room).cells ({ frames := 0, cells := 0, slots := 0, locals := 0 } : Room).slots) → P o U') → Go p.tables e below P s₁ (mkF m 0 #[.val (.ref oa), .val .null] []) by
    obtain ⟨s2, o, st, r⟩ := GO _ (fun _ _ q => q)
    exact ⟨s2, o, castTop (ef_21n m oa) st, r⟩
  clear hh
  intro P hP
  show Go p.tables e below P s₁ (mkF m 0 #[.val (.ref oa), .val .null] [])
  refine Go.via (fun t k => XS.aloadN X0.here hx rfl (hb hby d21_0) rfl rfl k) ?_
  show Go p.tables e below P s₁ (mkF m 1 #[.val (.ref oa), .val .null] [(.ref oa)])
  obtain ⟨T1, X1, e1, st1⟩ := getF X0 hx hZ hown (host := "") (Or.inl (hw _ (List.mem_of_getElem? (i := 115) rfl))) Via.refl e0 P0 (g := (mkF m 1 #[.val (.ref oa), .val .null] [(.ref oa)])) rfl rfl (hb hby d21_1)
  refine Go.via st1 ?_
  show Go p.tables e below P T1 (mkF m 4 #[.val (.ref oa), .val .null] [.null])
  refine Go.via (fun t k => XS.ifnullYes X1.here hx rfl (pc0 := 4) (pc' := 14) rfl (hb hby d21_4) rfl (by decide) (by decide) k) ?_
  show Go p.tables e below P T1 (mkF m 14 #[.val (.ref oa), .val .null] [])
  refine Go.via (fun t k => XS.aloadN X1.here hx rfl (hb hby d21_14) rfl rfl k) ?_
  show Go p.tables e below P T1 (mkF m 15 #[.val (.ref oa), .val .null] [.null])
  obtain ⟨fs, hr, hrun, hended, hW, hsame⟩ := X1.leave (v := some .null) (fun h => by rw [Bd.returns] at h; cases h)
  refine ⟨_, _, retA X1 hx Bd.returns rfl rfl rfl (hb hby d21_15) hr, hrun, hended, hP _ _ ⟨_, _, rfl, ?_, ⟨_, rfl⟩, hW, hsame.mono (by decide) (by decide)⟩⟩
  show Q21n Z oa h0 n0 _ T1.heap _
  rw [e1]
  exact ⟨rfl, N0, rfl⟩
theorem d21_7 : decode jdk_32_method_15_code 7 = .ok (.aload_n 0, 1) := by decide +kernel
theorem d21_8 : decode jdk_32_method_15_code 8 = .ok (.getfield 13, 3) := by decide +kernel
theorem d21_11 : decode jdk_32_method_15_code 11 = .ok (.goto 4, 3) := by decide +kernel
theorem ef_21r (m : MethodId) (x0 : Addr) : entryFrame m #[(.ref x0), .null] 2 = mkF m 0 #[.val (.ref x0), .val .null] [] := by first | (simp [entryFrame, mkF, argsToLocals, Value.category]; done) | rfl
def Q21r (Z : State) (oa : Addr) (ob : Addr) (h0 : Heap) (n0 : Nat) (v : Option Value) (h : Heap) (L : List Loc) : Prop := v = some (.ref ob) ∧ Fr n0 L ∧ h = h0
set_option maxRecDepth 65536 in
set_option maxHeartbeats 40000000 in
theorem rm21r (l : Launch) (Z : State) (a0 : Array Value) (hw : ∀ d ∈ tables_1, d.before a0 Z = true) (ws : List Jvm.Cond) (oa : Addr) (ob : Addr) (h0 : Heap) (n0 : Nat) (Z0 : n0 ≤ h0.size) (P0 : Fld Z h0 oa "java/util/Optional" "value" "Ljava/lang/Object;" (.ref ob)) :
    MetFree l (⟨"java/util/Optional", "orElse", "(Ljava/lang/Object;)Ljava/lang/Object;"⟩ : MethodName) (head1 (Jvm.Cond.code (⟨"java/util/Optional", "orElse", "(Ljava/lang/Object;)Ljava/lang/Object;"⟩ : MethodName) jdk_32_method_15_code 2 (some (.object "java/lang/Object")) :: ws) ({ frames := 0, cells := 0, slots := 0, locals := 0 } : Room)) (fun a U => a = #[(.ref oa), .null] ∧ Z.Warmed39 U.vm ∧ U.heap = h0) (fun _ _ _ _ _ => True) (fun _ U o U' => ∃ v L, o = .returned v ∧ Q21r Z oa ob h0 n0 v U'.heap L ∧ FrameEnd U o U' L ({ frames := 0, cells := 0, slots := 0, locals := 0 } : Room).cells ({ frames := 0, cells := 0, slots := 0, locals := 0 } : Room).slots) := by
  refine MetFree.of_bodySF (plainFor_of_name own_pn4) hisR ?_
  intro p e s m args below meth c s₁ Bd hml0 hP hK
  obtain ⟨rfl, hZ, hh⟩ := hP
  have hx := Bd.exec
  have hby := Bd.bytes
  have hml : c.maxLocals = 2 := hml0
  have hown : s.vm.findClass "java/util/Optional" = some m.cls := findClass_of_methodNamed Bd.named
  have hnm := (name_of_methodNamed Bd.named Bd.method).1
  have X0 : Stand p l e ({ frames := 0, cells := 0, slots := 0, locals := 0 } : Room) s m #[(.ref oa), .null] below meth c s₁ [] 0 0 := Stand.of_body Bd
  have e0 : s₁.heap = h0 := by rw [← hh, Bd.state]; rfl
  have N0 := Fr.nil n0
  have K0 : Keep h0 h0 [] := Keep.refl _ _
  suffices GO : ∀ P : Outcome → State → Prop, (∀ o U', (∃ v L, o = .returned v ∧ Q21r Z oa ob h0 n0 v U'.heap L ∧ FrameEnd s o U' L ({ frames := 0, cells := 0, slots := 0, locals := 0 } : Room).cells ({ frames := 0, cells := 0, slots := 0, locals := 0 } : Room).slots) → P o U') → Go p.tables e below P s₁ (mkF m 0 #[.val (.ref oa), .val .null] []) by
    obtain ⟨s2, o, st, r⟩ := GO _ (fun _ _ q => q)
    exact ⟨s2, o, castTop (ef_21r m oa) st, r⟩
  clear hh
  intro P hP
  show Go p.tables e below P s₁ (mkF m 0 #[.val (.ref oa), .val .null] [])
  refine Go.via (fun t k => XS.aloadN X0.here hx rfl (hb hby d21_0) rfl rfl k) ?_
  show Go p.tables e below P s₁ (mkF m 1 #[.val (.ref oa), .val .null] [(.ref oa)])
  obtain ⟨T1, X1, e1, st1⟩ := getF X0 hx hZ hown (host := "") (Or.inl (hw _ (List.mem_of_getElem? (i := 115) rfl))) Via.refl e0 P0 (g := (mkF m 1 #[.val (.ref oa), .val .null] [(.ref oa)])) rfl rfl (hb hby d21_1)
  refine Go.via st1 ?_
  show Go p.tables e below P T1 (mkF m 4 #[.val (.ref oa), .val .null] [(.ref ob)])
  refine Go.via (fun t k => XS.ifnullNo X1.here hx rfl (hb hby d21_4) rfl k) ?_
  show Go p.tables e below P T1 (mkF m 7 #[.val (.ref oa), .val .null] [])
  refine Go.via (fun t k => XS.aloadN X1.here hx rfl (hb hby d21_7) rfl rfl k) ?_
  show Go p.tables e below P T1 (mkF m 8 #[.val (.ref oa), .val .null] [(.ref oa)])
  obtain ⟨T2, X2, e2, st2⟩ := getF X1 hx hZ hown (host := "") (Or.inl (hw _ (List.mem_of_getElem? (i := 115) rfl))) Via.refl e1 P0 (g := (mkF m 8 #[.val (.ref oa), .val .null] [(.ref oa)])) rfl rfl (hb hby d21_8)
  refine Go.via st2 ?_
  show Go p.tables e below P T2 (mkF m 11 #[.val (.ref oa), .val .null] [(.ref ob)])
  refine Go.via (fun t k => XS.goto X2.here hx rfl (pc0 := 11) (pc' := 15) rfl (hb hby d21_11) (by decide) (by decide) k) ?_
  show Go p.tables e below P T2 (mkF m 15 #[.val (.ref oa), .val .null] [(.ref ob)])
  obtain ⟨fs, hr, hrun, hended, hW, hsame⟩ := X2.leave (v := some (.ref ob)) (fun h => by rw [Bd.returns] at h; cases h)
  refine ⟨_, _, retA X2 hx Bd.returns rfl rfl rfl (hb hby d21_15) hr, hrun, hended, hP _ _ ⟨_, _, rfl, ?_, ⟨_, rfl⟩, hW, hsame.mono (by decide) (by decide)⟩⟩
  show Q21r Z oa ob h0 n0 _ T2.heap _
  rw [e2]
  exact ⟨rfl, N0, rfl⟩
theorem own_pd12 : parseMethodDescriptor "()Ljava/util/Optional;" = some ⟨[], some (.object "java/util/Optional")⟩ := by decide +kernel
theorem own_pd13 : parseMethodDescriptor "()[Lcom/example/numeric_planner/numericplanner/planner/Solution$Kind;" = some ⟨[], some (.array (.object "com/example/numeric_planner/numericplanner/planner/Solution$Kind"))⟩ := by decide +kernel
theorem own_pd14 : parseMethodDescriptor "(Ljava/lang/Object;)Z" = some ⟨[(.object "java/lang/Object")], some .boolean⟩ := by decide +kernel
theorem own_pd15 : parseMethodDescriptor "(Ljava/lang/Object;)Ljava/util/Optional;" = some ⟨[(.object "java/lang/Object")], some (.object "java/util/Optional")⟩ := by decide +kernel
theorem d16_0 : decode prog_62_method_5_code 0 = .ok (.invokestatic 33, 3) := by decide +kernel
theorem d16_3 : decode prog_62_method_5_code 3 = .ok (.astore_n 1, 1) := by decide +kernel
theorem d16_4 : decode prog_62_method_5_code 4 = .ok (.invokestatic 39, 3) := by decide +kernel
theorem d16_7 : decode prog_62_method_5_code 7 = .ok (.astore_n 2, 1) := by decide +kernel
theorem d16_8 : decode prog_62_method_5_code 8 = .ok (.aload_n 2, 1) := by decide +kernel
theorem d16_9 : decode prog_62_method_5_code 9 = .ok (.arraylength, 1) := by decide +kernel
theorem d16_10 : decode prog_62_method_5_code 10 = .ok (.istore_n 3, 1) := by decide +kernel
theorem d16_11 : decode prog_62_method_5_code 11 = .ok (.iconst 0, 1) := by decide +kernel
theorem d16_12 : decode prog_62_method_5_code 12 = .ok (.istore 4, 2) := by decide +kernel
theorem d16_14 : decode prog_62_method_5_code 14 = .ok (.iload 4, 2) := by decide +kernel
theorem d16_16 : decode prog_62_method_5_code 16 = .ok (.iload_n 3, 1) := by decide +kernel
theorem d16_17 : decode prog_62_method_5_code 17 = .ok (.if_icmp .ge 33, 3) := by decide +kernel
theorem d16_20 : decode prog_62_method_5_code 20 = .ok (.aload_n 2, 1) := by decide +kernel
theorem d16_21 : decode prog_62_method_5_code 21 = .ok (.iload 4, 2) := by decide +kernel
theorem d16_23 : decode prog_62_method_5_code 23 = .ok (.aaload, 1) := by decide +kernel
theorem d16_24 : decode prog_62_method_5_code 24 = .ok (.astore 5, 2) := by decide +kernel
theorem d16_26 : decode prog_62_method_5_code 26 = .ok (.aload 5, 2) := by decide +kernel
theorem d16_28 : decode prog_62_method_5_code 28 = .ok (.getfield 29, 3) := by decide +kernel
theorem d16_31 : decode prog_62_method_5_code 31 = .ok (.aload_n 0, 1) := by decide +kernel
theorem d16_32 : decode prog_62_method_5_code 32 = .ok (.invokevirtual 43, 3) := by decide +kernel
theorem d16_35 : decode prog_62_method_5_code 35 = .ok (.ifCond .eq 9, 3) := by decide +kernel
theorem d16_38 : decode prog_62_method_5_code 38 = .ok (.aload 5, 2) := by decide +kernel
theorem d16_40 : decode prog_62_method_5_code 40 = .ok (.invokestatic 49, 3) := by decide +kernel
theorem d16_43 : decode prog_62_method_5_code 43 = .ok (.astore_n 1, 1) := by decide +kernel
theorem d16_44 : decode prog_62_method_5_code 44 = .ok (.iinc 4 1, 3) := by decide +kernel
theorem d16_47 : decode prog_62_method_5_code 47 = .ok (.goto (-33), 3) := by decide +kernel
theorem d16_50 : decode prog_62_method_5_code 50 = .ok (.aload_n 1, 1) := by decide +kernel
theorem d16_51 : decode prog_62_method_5_code 51 = .ok (.areturn, 1) := by decide +kernel
theorem ef_16 (m : MethodId) (x0 : Addr) : entryFrame m #[(.ref x0)] 6 = mkF m 0 #[.val (.ref x0), .unset, .unset, .unset, .unset, .unset] [] := by first | (simp [entryFrame, mkF, argsToLocals, Value.category]; done) | rfl
def Q16 (Z : State) (so : Addr) (cs : Int32) (tb : Addr) (kk : ClassId) (bx : List Int32) (em : Addr) (va : Addr) (kva : ClassId) (aV : Addr) (sV : Addr) (tV : Addr) (kV : ClassId) (aP : Addr) (sP : Addr) (tP : Addr) (kP : ClassId) (h0 : Heap) (n0 : Nat) (v : Option Value) (h : Heap) (L : List Loc) : Prop := ∃ (r : Addr) (vv : Value), v = some (.ref r) ∧ Fr n0 L ∧ Keep h0 h [] ∧ Exa Z h r "java/util/Optional" ∧ Fld Z h r "java/util/Optional" "value" "Ljava/lang/Object;" vv ∧ ((bx = ([(112 : Int32), (111 : Int32), (108 : Int32), (105 : Int32), (99 : Int32), (121 : Int32)] : List Int32) ∧ vv = .ref aP) ∨ (¬ bx = ([(112 : Int32), (111 : Int32), (108 : Int32), (105 : Int32), (99 : Int32), (121 : Int32)] : List Int32) ∧ bx = ([(118 : Int32), (97 : Int32), (108 : Int32), (117 : Int32), (101 : Int32)] : List Int32) ∧ vv = .ref aV) ∨ (¬ bx = ([(112 : Int32), (111 : Int32), (108 : Int32), (105 : Int32), (99 : Int32), (121 : Int32)] : List Int32) ∧ ¬ bx = ([(118 : Int32), (97 : Int32), (108 : Int32), (117 : Int32), (101 : Int32)] : List Int32) ∧ vv = .null))
set_option maxRecDepth 65536 in
set_option maxHeartbeats 40000000 in
theorem rm16 (l : Launch) (Z : State) (a0 : Array Value) (hw : ∀ d ∈ tables_1, d.before a0 Z = true) (ws : List Jvm.Cond) (so : Addr) (cs : Int32) (tb : Addr) (kk : ClassId) (bx : List Int32) (em : Addr) (va : Addr) (kva : ClassId) (aV : Addr) (sV : Addr) (tV : Addr) (kV : ClassId) (aP : Addr) (sP : Addr) (tP : Addr) (kP : ClassId) (h0 : Heap) (n0 : Nat) (Z0 : n0 ≤ h0.size) (O0 : Old Z n0 h0) (P1 : Sta Z Z.heap "java/lang/String" "COMPACT_STRINGS" "Z" (.int cs)) (hcs : ¬ cs = (0 : Int32)) (P3 : Sta Z Z.heap "java/util/Optional" "EMPTY" "Ljava/util/Optional;" (.ref em)) (P4 : Exa Z Z.heap em "java/util/Optional") (P5 : Fld Z Z.heap em "java/util/Optional" "value" "Ljava/lang/Object;" .null) (P6 : Sta Z Z.heap "com/example/numeric_planner/numericplanner/planner/Solution$Kind" "$VALUES" "[Lcom/example/numeric_planner/numericplanner/planner/Solution$Kind;" (.ref va)) (P7 : Arv Z Z.heap va kva (.object "com/example/numeric_planner/numericplanner/planner/Solution$Kind") (2 : Int32) [(.ref aV), (.ref aP)] .null) (P8 : Exa Z Z.heap va "[Lcom/example/numeric_planner/numericplanner/planner/Solution$Kind;") (P9 : Exa Z Z.heap aV "com/example/numeric_planner/numericplanner/planner/Solution$Kind") (P10 : Fld Z Z.heap aV "com/example/numeric_planner/numericplanner/planner/Solution$Kind" "keyword" "Ljava/lang/String;" (.ref sV)) (P11 : Exa Z Z.heap sV "java/lang/String") (P12 : Fld Z Z.heap sV "java/lang/String" "value" "[B" (.ref tV)) (P13 : Fld Z Z.heap sV "java/lang/String" "coder" "B" (.int (0 : Int32))) (P14 : Arv Z Z.heap tV kV .byte (own_lg ([(118 : Int32), (97 : Int32), (108 : Int32), (117 : Int32), (101 : Int32)] : List Int32)) (([(118 : Int32), (97 : Int32), (108 : Int32), (117 : Int32), (101 : Int32)] : List Int32).map Value.int) (.int (0 : Int32))) (P15 : Exa Z Z.heap aP "com/example/numeric_planner/numericplanner/planner/Solution$Kind") (P16 : Fld Z Z.heap aP "com/example/numeric_planner/numericplanner/planner/Solution$Kind" "keyword" "Ljava/lang/String;" (.ref sP)) (P17 : Exa Z Z.heap sP "java/lang/String") (P18 : Fld Z Z.heap sP "java/lang/String" "value" "[B" (.ref tP)) (P19 : Fld Z Z.heap sP "java/lang/String" "coder" "B" (.int (0 : Int32))) (P20 : Arv Z Z.heap tP kP .byte (own_lg ([(112 : Int32), (111 : Int32), (108 : Int32), (105 : Int32), (99 : Int32), (121 : Int32)] : List Int32)) (([(112 : Int32), (111 : Int32), (108 : Int32), (105 : Int32), (99 : Int32), (121 : Int32)] : List Int32).map Value.int) (.int (0 : Int32))) (P21 : Exa Z h0 so "java/lang/String") (P22 : Fld Z h0 so "java/lang/String" "value" "[B" (.ref tb)) (P23 : Fld Z h0 so "java/lang/String" "coder" "B" (.int (0 : Int32))) (P24 : Arv Z h0 tb kk .byte (own_lg bx) (bx.map Value.int) (.int (0 : Int32))) (smx : bx.length ≤ 1000) :
    MetFree l (⟨"com/example/numeric_planner/numericplanner/planner/Solution$Kind", "of", "(Ljava/lang/String;)Ljava/util/Optional;"⟩ : MethodName) (head1 (Jvm.Cond.code (⟨"com/example/numeric_planner/numericplanner/planner/Solution$Kind", "of", "(Ljava/lang/String;)Ljava/util/Optional;"⟩ : MethodName) prog_62_method_5_code 6 (some (.object "java/util/Optional")) :: ws) ({ frames := 3, cells := 3, slots := 4, locals := 38 } : Room)) (fun a U => a = #[(.ref so)] ∧ Z.Warmed39 U.vm ∧ U.heap = h0) (fun _ _ _ _ _ => True) (fun _ U o U' => ∃ v L, o = .returned v ∧ Q16 Z so cs tb kk bx em va kva aV sV tV kV aP sP tP kP h0 n0 v U'.heap L ∧ FrameEnd U o U' L ({ frames := 3, cells := 3, slots := 4, locals := 38 } : Room).cells ({ frames := 3, cells := 3, slots := 4, locals := 38 } : Room).slots) := by
  refine MetFree.of_bodySF (plainFor_of_name own_pn5) hisR ?_
  intro p e s m args below meth c s₁ Bd hml0 hP hK
  obtain ⟨rfl, hZ, hh⟩ := hP
  have hx := Bd.exec
  have hby := Bd.bytes
  have hml : c.maxLocals = 6 := hml0
  have hown : s.vm.findClass "com/example/numeric_planner/numericplanner/planner/Solution$Kind" = some m.cls := findClass_of_methodNamed Bd.named
  have hnm := (name_of_methodNamed Bd.named Bd.method).1
  have X0 : Stand p l e ({ frames := 3, cells := 3, slots := 4, locals := 38 } : Room) s m #[(.ref so)] below meth c s₁ [] 0 0 := Stand.of_body Bd
  have e0 : s₁.heap = h0 := by rw [← hh, Bd.state]; rfl
  have N0 := Fr.nil n0
  have K0 : Keep h0 h0 [] := Keep.refl _ _
  suffices GO : ∀ P : Outcome → State → Prop, (∀ o U', (∃ v L, o = .returned v ∧ Q16 Z so cs tb kk bx em va kva aV sV tV kV aP sP tP kP h0 n0 v U'.heap L ∧ FrameEnd s o U' L ({ frames := 3, cells := 3, slots := 4, locals := 38 } : Room).cells ({ frames := 3, cells := 3, slots := 4, locals := 38 } : Room).slots) → P o U') → Go p.tables e below P s₁ (mkF m 0 #[.val (.ref so), .unset, .unset, .unset, .unset, .unset] []) by
    obtain ⟨s2, o, st, r⟩ := GO _ (fun _ _ q => q)
    exact ⟨s2, o, castTop (ef_16 m so) st, r⟩
  clear hh
  intro P hP
  show Go p.tables e below P s₁ (mkF m 0 #[.val (.ref so), .unset, .unset, .unset, .unset, .unset] [])
  obtain ⟨_, _, ⟨T1, L1, k1, n1⟩, -, X1, ⟨Lc1, hQ1, l1, y1, z1⟩, st1⟩ := Jvm.LawKit.callS X0 hx (y := (⟨"java/util/Optional", "empty", "()Ljava/util/Optional;"⟩ : MethodName)) hown (mvT hZ (hw _ (List.mem_of_getElem? (i := 77) rfl))) (mvT hZ (hw _ (List.mem_of_getElem? (i := 78) rfl))) (mvT hZ (hw _ (List.mem_of_getElem? (i := 79) rfl))) (mvT hZ (hw _ (List.mem_of_getElem? (i := 80) rfl))) (by decide) (backOf (W := 0) (rm17 l Z a0 hw [] em h0 n0 Z0 O0 P3) hZ (hw _ (List.mem_of_getElem? (i := 80) rfl)) (hw _ (List.mem_of_getElem? (i := 79) rfl)) (by decide) (by decide)) (g := (mkF m 0 #[.val (.ref so), .unset, .unset, .unset, .unset, .unset] [])) rfl (by rw [hml]; rfl) (argsL := []) (rest := []) (lenOf own_pd12 rfl) rfl (by show 2 * 0 + _ ≤ _; exact Nat.le_of_eq rfl) (hb hby d16_0) (fun _ _ => ⟨rfl, e0, (by decide : 0 + 0 ≤ _), (by decide : 0 + 0 ≤ _)⟩)
  dsimp only [Pt.U, Pt.locs, Pt.cells, Pt.slots] at X1 l1 y1 z1 st1 hQ1
  subst l1 y1 z1
  obtain ⟨rfl, Nq1, hh1⟩ := hQ1
  obtain ⟨lc1, Xh1, N1⟩ := own_hide X1 (Fr.app N0 Nq1)
  clear X1
  refine Go.via st1 ?_
  show Go p.tables e below P T1 (mkF m 3 #[.val (.ref so), .unset, .unset, .unset, .unset, .unset] [(.ref em)])
  refine Go.via (fun t k => XS.astoreN Xh1.here hx rfl (hb hby d16_3) rfl rfl (l' := #[.val (.ref so), .val (.ref em), .unset, .unset, .unset, .unset]) rfl k) ?_
  show Go p.tables e below P T1 (mkF m 4 #[.val (.ref so), .val (.ref em), .unset, .unset, .unset, .unset] [])
  obtain ⟨_, _, ⟨T2, L2, k2, n2⟩, -, X2, ⟨Lc2, hQ2, l2, y2, z2⟩, st2⟩ := Jvm.LawKit.callS Xh1 hx (y := (⟨"com/example/numeric_planner/numericplanner/planner/Solution$Kind", "values", "()[Lcom/example/numeric_planner/numericplanner/planner/Solution$Kind;"⟩ : MethodName)) hown (mvT hZ (hw _ (List.mem_of_getElem? (i := 82) rfl))) (mvT hZ (hw _ (List.mem_of_getElem? (i := 83) rfl))) (mvT hZ (hw _ (List.mem_of_getElem? (i := 75) rfl))) (mvT hZ (hw _ (List.mem_of_getElem? (i := 84) rfl))) (by decide) (backOf (W := 0) (rm18 l Z a0 hw [] va kva aV aP h0 n0 Z0 O0 P6 P7 P8) hZ (hw _ (List.mem_of_getElem? (i := 84) rfl)) (hw _ (List.mem_of_getElem? (i := 75) rfl)) (by decide) (by decide)) (g := (mkF m 4 #[.val (.ref so), .val (.ref em), .unset, .unset, .unset, .unset] [])) rfl (by rw [hml]; rfl) (argsL := []) (rest := []) (lenOf own_pd13 rfl) rfl (by show 2 * 0 + _ ≤ _; exact Nat.le_of_eq rfl) (hb hby d16_4) (fun _ _ => ⟨rfl, hh1, (by decide : 0 + 1 ≤ _), (by decide : 0 + 2 ≤ _)⟩)
  dsimp only [Pt.U, Pt.locs, Pt.cells, Pt.slots] at X2 l2 y2 z2 st2 hQ2
  subst l2 y2 z2
  obtain ⟨r_2, rfl, Nq2, K2, fr2_r, u2_0, u2_1⟩ := hQ2
  obtain ⟨lc2, Xh2, N2⟩ := own_hide X2 (Fr.app N1 Nq2)
  clear X2
  refine Go.via st2 ?_
  have ne3 : so ≠ r_2 := Nat.ne_of_lt (Nat.lt_of_lt_of_le P21.lt fr2_r)
  have ne4 : tb ≠ r_2 := Nat.ne_of_lt (Nat.lt_of_lt_of_le P24.lt fr2_r)
  have g5 : n0 ≤ r_2 := Nat.le_trans Z0 fr2_r
  have sz6 : h0.size ≤ r_2 := Nat.le_trans K0.1 fr2_r
  have Z7 : n0 ≤ T2.heap.size := Nat.le_trans Z0 K2.1
  have K8 : Keep h0 T2.heap [] := K0.trans K2 own_all0
  have O9 : Old Z n0 T2.heap := O0.keep K2 own_all0
  show Go p.tables e below P T2 (mkF m 7 #[.val (.ref so), .val (.ref em), .unset, .unset, .unset, .unset] [(.ref r_2)])
  refine Go.via (fun t k => XS.astoreN Xh2.here hx rfl (hb hby d16_7) rfl rfl (l' := #[.val (.ref so), .val (.ref em), .val (.ref r_2), .unset, .unset, .unset]) rfl k) ?_
  show Go p.tables e below P T2 (mkF m 8 #[.val (.ref so), .val (.ref em), .val (.ref r_2), .unset, .unset, .unset] [])
  refine Go.via (fun t k => XS.aloadN Xh2.here hx rfl (hb hby d16_8) rfl rfl k) ?_
  show Go p.tables e below P T2 (mkF m 9 #[.val (.ref so), .val (.ref em), .val (.ref r_2), .unset, .unset, .unset] [(.ref r_2)])
  obtain ⟨c10, A10, -, S10, N10, -, -⟩ := id u2_0
  refine Go.via (fun t k => Xh2.arraylength hx (by exact A10.1) (State.isArrayOf_alike hZ.alike A10.2.1) (g := (mkF m 9 #[.val (.ref so), .val (.ref em), .val (.ref r_2), .unset, .unset, .unset] [(.ref r_2)])) rfl rfl (hb hby d16_9) t (by rw [len_of S10 N10]; exact k)) ?_
  show Go p.tables e below P T2 (mkF m 10 #[.val (.ref so), .val (.ref em), .val (.ref r_2), .unset, .unset, .unset] [(.int (2 : Int32))])
  refine Go.via (fun t k => XS.istoreN Xh2.here hx rfl (hb hby d16_10) rfl (l' := #[.val (.ref so), .val (.ref em), .val (.ref r_2), .val (.int (2 : Int32)), .unset, .unset]) rfl k) ?_
  show Go p.tables e below P T2 (mkF m 11 #[.val (.ref so), .val (.ref em), .val (.ref r_2), .val (.int (2 : Int32)), .unset, .unset] [])
  refine Go.via (fun t k => XS.iconst Xh2.here hx rfl (hb hby d16_11) k) ?_
  show Go p.tables e below P T2 (mkF m 12 #[.val (.ref so), .val (.ref em), .val (.ref r_2), .val (.int (2 : Int32)), .unset, .unset] [(.int (0 : Int32))])
  refine Go.via (fun t k => XS.istore Xh2.here hx rfl (hb hby d16_12) rfl (l' := #[.val (.ref so), .val (.ref em), .val (.ref r_2), .val (.int (2 : Int32)), .val (.int (0 : Int32)), .unset]) rfl k) ?_
  show Go p.tables e below P T2 (mkF m 14 #[.val (.ref so), .val (.ref em), .val (.ref r_2), .val (.int (2 : Int32)), .val (.int (0 : Int32)), .unset] [])
  refine Go.via (fun t k => XS.iload Xh2.here hx rfl (hb hby d16_14) rfl k) ?_
  show Go p.tables e below P T2 (mkF m 16 #[.val (.ref so), .val (.ref em), .val (.ref r_2), .val (.int (2 : Int32)), .val (.int (0 : Int32)), .unset] [(.int (0 : Int32))])
  refine Go.via (fun t k => XS.iloadN Xh2.here hx rfl (hb hby d16_16) rfl k) ?_
  show Go p.tables e below P T2 (mkF m 17 #[.val (.ref so), .val (.ref em), .val (.ref r_2), .val (.int (2 : Int32)), .val (.int (0 : Int32)), .unset] [(.int (2 : Int32)), (.int (0 : Int32))])
  refine Go.via (fun t k => XS.icmpNo Xh2.here hx rfl (hb hby d16_17) rfl (tlt (by decide : (0 : Int32) < (2 : Int32))).2.1 k) ?_
  show Go p.tables e below P T2 (mkF m 20 #[.val (.ref so), .val (.ref em), .val (.ref r_2), .val (.int (2 : Int32)), .val (.int (0 : Int32)), .unset] [])
  refine Go.via (fun t k => XS.aloadN Xh2.here hx rfl (hb hby d16_20) rfl rfl k) ?_
  show Go p.tables e below P T2 (mkF m 21 #[.val (.ref so), .val (.ref em), .val (.ref r_2), .val (.int (2 : Int32)), .val (.int (0 : Int32)), .unset] [(.ref r_2)])
  refine Go.via (fun t k => XS.iload Xh2.here hx rfl (hb hby d16_21) rfl k) ?_
  show Go p.tables e below P T2 (mkF m 23 #[.val (.ref so), .val (.ref em), .val (.ref r_2), .val (.int (2 : Int32)), .val (.int (0 : Int32)), .unset] [(.int (0 : Int32)), (.ref r_2)])
  obtain ⟨c11, A11, q11, S11, N11, H11, G11⟩ := id u2_0
  have hin11 : ¬ ((0 : Int32) < 0 ∨ c11.slots.size ≤ ((0 : Int32)).toNatClampNeg) := inb_of S11 ⟨by decide, by decide⟩
  have hat11 : c11.slots[((0 : Int32)).toNatClampNeg]? = some (.ref aV) := (H11 _ (Nat.lt_of_not_le fun q => hin11 (Or.inr q))).trans (congrArg some rfl)
  refine Go.via (fun t k => Xh2.aaload hx (j := (0 : Int32)) (v := (.ref aV)) (by exact A11.1) (State.isArrayOf_alike hZ.alike A11.2.1) rfl A11.2.2 hin11 hat11 (g := (mkF m 23 #[.val (.ref so), .val (.ref em), .val (.ref r_2), .val (.int (2 : Int32)), .val (.int (0 : Int32)), .unset] [(.int (0 : Int32)), (.ref r_2)])) rfl rfl (hb hby d16_23) t k) ?_
  show Go p.tables e below P T2 (mkF m 24 #[.val (.ref so), .val (.ref em), .val (.ref r_2), .val (.int (2 : Int32)), .val (.int (0 : Int32)), .unset] [(.ref aV)])
  refine Go.via (fun t k => XS.astore Xh2.here hx rfl (hb hby d16_24) rfl rfl (l' := #[.val (.ref so), .val (.ref em), .val (.ref r_2), .val (.int (2 : Int32)), .val (.int (0 : Int32)), .val (.ref aV)]) rfl k) ?_
  show Go p.tables e below P T2 (mkF m 26 #[.val (.ref so), .val (.ref em), .val (.ref r_2), .val (.int (2 : Int32)), .val (.int (0 : Int32)), .val (.ref aV)] [])
  refine Go.via (fun t k => XS.aload Xh2.here hx rfl (hb hby d16_26) rfl rfl k) ?_
  show Go p.tables e below P T2 (mkF m 28 #[.val (.ref so), .val (.ref em), .val (.ref r_2), .val (.int (2 : Int32)), .val (.int (0 : Int32)), .val (.ref aV)] [(.ref aV)])
  obtain ⟨T12, X12, e12, st12⟩ := getF Xh2 hx hZ hown (host := "") (Or.inl (hw _ (List.mem_of_getElem? (i := 99) rfl))) Via.refl rfl (P10.ext O9.2) (g := (mkF m 28 #[.val (.ref so), .val (.ref em), .val (.ref r_2), .val (.int (2 : Int32)), .val (.int (0 : Int32)), .val (.ref aV)] [(.ref aV)])) rfl rfl (hb hby d16_28)
  refine Go.via st12 ?_
  show Go p.tables e below P T12 (mkF m 31 #[.val (.ref so), .val (.ref em), .val (.ref r_2), .val (.int (2 : Int32)), .val (.int (0 : Int32)), .val (.ref aV)] [(.ref sV)])
  refine Go.via (fun t k => XS.aloadN X12.here hx rfl (hb hby d16_31) rfl rfl k) ?_
  show Go p.tables e below P T12 (mkF m 32 #[.val (.ref so), .val (.ref em), .val (.ref r_2), .val (.int (2 : Int32)), .val (.int (0 : Int32)), .val (.ref aV)] [(.ref so), (.ref sV)])
  have F13 : Exa Z T2.heap so "java/lang/String" := (P21.keep K2)
  have F14 : Fld Z T2.heap so "java/lang/String" "value" "[B" (.ref tb) := (P22.keep K2 own_nin0)
  have F15 : Fld Z T2.heap so "java/lang/String" "coder" "B" (.int (0 : Int32)) := (P23.keep K2 own_nin0)
  have F16 : Arv Z T2.heap tb kk .byte (own_lg bx) (bx.map Value.int) (.int (0 : Int32)) := (P24.keep K2 own_nin0)
  obtain ⟨cq17, kq17, q17a, q17b, q17c⟩ := isOf hZ e12 (P11.ext O9.2)
  obtain ⟨_, _, ⟨T17, L17, k17, n17⟩, -, X17, ⟨Lc17, hQ17, l17, y17, z17⟩, st17⟩ := X12.virtualBack hx (y := (⟨"java/lang/String", "equals", "(Ljava/lang/Object;)Z"⟩ : MethodName)) (z := (⟨"java/lang/String", "equals", "(Ljava/lang/Object;)Z"⟩ : MethodName)) hown (mvT hZ (hw _ (List.mem_of_getElem? (i := 101) rfl))) (mvT hZ (hw _ (List.mem_of_getElem? (i := 102) rfl))) (notFace_of_selects (args := #[]) (mvT hZ (hw _ (List.mem_of_getElem? (i := 104) rfl)))) (mvT hZ (hw _ (List.mem_of_getElem? (i := 104) rfl))) (mvT hZ (hw _ (List.mem_of_getElem? (i := 103) rfl))) (by decide) (backOf (W := 0) (rm19 l Z a0 hw [] sV so cs tV tb kV kk ([(118 : Int32), (97 : Int32), (108 : Int32), (117 : Int32), (101 : Int32)] : List Int32) bx T2.heap n0 Z7 O9 P1 (by first | assumption | decide | omega : ¬ cs = (0 : Int32)) (P11.ext O9.2) (P12.ext O9.2) (P13.ext O9.2) (P14.ext O9.2) F13 F14 F15 F16 (by decide) smx (own_sfun (P12.ext O9.2) F14 (P14.ext O9.2) F16 (by first | assumption | decide) (by first | assumption | decide))) hZ (hw _ (List.mem_of_getElem? (i := 105) rfl)) (hw _ (List.mem_of_getElem? (i := 1) rfl)) (by decide) (by decide)) q17a q17c (g := (mkF m 32 #[.val (.ref so), .val (.ref em), .val (.ref r_2), .val (.int (2 : Int32)), .val (.int (0 : Int32)), .val (.ref aV)] [(.ref so), (.ref sV)])) rfl (by rw [hml]; rfl) (Steps.refl _) (argsL := [(.ref so)]) (rest := []) (lenOf own_pd14 rfl) rfl (by show 2 * 0 + _ ≤ _; exact Nat.le_of_eq rfl) (hb hby d16_32) (fun _ _ => ⟨rfl, e12, (by decide : 1 + 0 ≤ _), (by decide : 2 + 0 ≤ _)⟩)
  dsimp only [Pt.U, Pt.locs, Pt.cells, Pt.slots] at X17 l17 y17 z17 st17 hQ17
  subst l17 y17 z17
  obtain ⟨rfl, Nq17, hh17⟩ := hQ17
  obtain ⟨lc17, Xh17, N17⟩ := own_hide X17 (Fr.app N2 Nq17)
  clear X17
  refine Go.hop st17 ?_
  show Go p.tables e below P T17 (mkF m 35 #[.val (.ref so), .val (.ref em), .val (.ref r_2), .val (.int (2 : Int32)), .val (.int (0 : Int32)), .val (.ref aV)] [(.int (if ([(118 : Int32), (97 : Int32), (108 : Int32), (117 : Int32), (101 : Int32)] : List Int32) = bx then (1 : Int32) else (0 : Int32)))])
  by_cases hc18 : (if ([(118 : Int32), (97 : Int32), (108 : Int32), (117 : Int32), (101 : Int32)] : List Int32) = bx then (1 : Int32) else (0 : Int32)) = (0 : Int32)
  · refine Go.via (fun t k => XS.ifYes Xh17.here hx rfl (pc0 := 35) (pc' := 44) rfl (hb hby d16_35) rfl ((if0 _ _).trans (teq hc18).1) (by decide) (by decide) k) ?_
    show Go p.tables e below P T17 (mkF m 44 #[.val (.ref so), .val (.ref em), .val (.ref r_2), .val (.int (2 : Int32)), .val (.int (0 : Int32)), .val (.ref aV)] [])
    refine Go.via (fun t k => XS.iinc Xh17.here hx rfl (hb hby d16_44) rfl (l' := #[.val (.ref so), .val (.ref em), .val (.ref r_2), .val (.int (2 : Int32)), .val (.int ((0 : Int32) + (1 : Int32))), .val (.ref aV)]) rfl k) ?_
    show Go p.tables e below P T17 (mkF m 47 #[.val (.ref so), .val (.ref em), .val (.ref r_2), .val (.int (2 : Int32)), .val (.int ((0 : Int32) + (1 : Int32))), .val (.ref aV)] [])
    refine Go.via (fun t k => XS.goto Xh17.here hx rfl (pc0 := 47) (pc' := 14) rfl (hb hby d16_47) (by decide) (by decide) k) ?_
    show Go p.tables e below P T17 (mkF m 14 #[.val (.ref so), .val (.ref em), .val (.ref r_2), .val (.int (2 : Int32)), .val (.int ((0 : Int32) + (1 : Int32))), .val (.ref aV)] [])
    refine Go.via (fun t k => XS.iload Xh17.here hx rfl (hb hby d16_14) rfl k) ?_
    show Go p.tables e below P T17 (mkF m 16 #[.val (.ref so), .val (.ref em), .val (.ref r_2), .val (.int (2 : Int32)), .val (.int ((0 : Int32) + (1 : Int32))), .val (.ref aV)] [(.int ((0 : Int32) + (1 : Int32)))])
    refine Go.via (fun t k => XS.iloadN Xh17.here hx rfl (hb hby d16_16) rfl k) ?_
    show Go p.tables e below P T17 (mkF m 17 #[.val (.ref so), .val (.ref em), .val (.ref r_2), .val (.int (2 : Int32)), .val (.int ((0 : Int32) + (1 : Int32))), .val (.ref aV)] [(.int (2 : Int32)), (.int ((0 : Int32) + (1 : Int32)))])
    refine Go.via (fun t k => XS.icmpNo Xh17.here hx rfl (hb hby d16_17) rfl (tlt (by decide : ((0 : Int32) + (1 : Int32)) < (2 : Int32))).2.1 k) ?_
    show Go p.tables e below P T17 (mkF m 20 #[.val (.ref so), .val (.ref em), .val (.ref r_2), .val (.int (2 : Int32)), .val (.int ((0 : Int32) + (1 : Int32))), .val (.ref aV)] [])
    refine Go.via (fun t k => XS.aloadN Xh17.here hx rfl (hb hby d16_20) rfl rfl k) ?_
    show Go p.tables e below P T17 (mkF m 21 #[.val (.ref so), .val (.ref em), .val (.ref r_2), .val (.int (2 : Int32)), .val (.int ((0 : Int32) + (1 : Int32))), .val (.ref aV)] [(.ref r_2)])
    refine Go.via (fun t k => XS.iload Xh17.here hx rfl (hb hby d16_21) rfl k) ?_
    show Go p.tables e below P T17 (mkF m 23 #[.val (.ref so), .val (.ref em), .val (.ref r_2), .val (.int (2 : Int32)), .val (.int ((0 : Int32) + (1 : Int32))), .val (.ref aV)] [(.int ((0 : Int32) + (1 : Int32))), (.ref r_2)])
    obtain ⟨c19, A19, q19, S19, N19, H19, G19⟩ := id u2_0
    have hin19 : ¬ (((0 : Int32) + (1 : Int32)) < 0 ∨ c19.slots.size ≤ (((0 : Int32) + (1 : Int32))).toNatClampNeg) := inb_of S19 ⟨by decide, by decide⟩
    have hat19 : c19.slots[(((0 : Int32) + (1 : Int32))).toNatClampNeg]? = some (.ref aP) := (H19 _ (Nat.lt_of_not_le fun q => hin19 (Or.inr q))).trans (congrArg some rfl)
    refine Go.via (fun t k => Xh17.aaload hx (j := ((0 : Int32) + (1 : Int32))) (v := (.ref aP)) (by rw [hh17]; exact A19.1) (State.isArrayOf_alike hZ.alike A19.2.1) rfl A19.2.2 hin19 hat19 (g := (mkF m 23 #[.val (.ref so), .val (.ref em), .val (.ref r_2), .val (.int (2 : Int32)), .val (.int ((0 : Int32) + (1 : Int32))), .val (.ref aV)] [(.int ((0 : Int32) + (1 : Int32))), (.ref r_2)])) rfl rfl (hb hby d16_23) t k) ?_
    show Go p.tables e below P T17 (mkF m 24 #[.val (.ref so), .val (.ref em), .val (.ref r_2), .val (.int (2 : Int32)), .val (.int ((0 : Int32) + (1 : Int32))), .val (.ref aV)] [(.ref aP)])
    refine Go.via (fun t k => XS.astore Xh17.here hx rfl (hb hby d16_24) rfl rfl (l' := #[.val (.ref so), .val (.ref em), .val (.ref r_2), .val (.int (2 : Int32)), .val (.int ((0 : Int32) + (1 : Int32))), .val (.ref aP)]) rfl k) ?_
    show Go p.tables e below P T17 (mkF m 26 #[.val (.ref so), .val (.ref em), .val (.ref r_2), .val (.int (2 : Int32)), .val (.int ((0 : Int32) + (1 : Int32))), .val (.ref aP)] [])
    refine Go.via (fun t k => XS.aload Xh17.here hx rfl (hb hby d16_26) rfl rfl k) ?_
    show Go p.tables e below P T17 (mkF m 28 #[.val (.ref so), .val (.ref em), .val (.ref r_2), .val (.int (2 : Int32)), .val (.int ((0 : Int32) + (1 : Int32))), .val (.ref aP)] [(.ref aP)])
    obtain ⟨T20, X20, e20, st20⟩ := getF Xh17 hx hZ hown (host := "") (Or.inl (hw _ (List.mem_of_getElem? (i := 99) rfl))) Via.refl hh17 (P16.ext O9.2) (g := (mkF m 28 #[.val (.ref so), .val (.ref em), .val (.ref r_2), .val (.int (2 : Int32)), .val (.int ((0 : Int32) + (1 : Int32))), .val (.ref aP)] [(.ref aP)])) rfl rfl (hb hby d16_28)
    refine Go.via st20 ?_
    show Go p.tables e below P T20 (mkF m 31 #[.val (.ref so), .val (.ref em), .val (.ref r_2), .val (.int (2 : Int32)), .val (.int ((0 : Int32) + (1 : Int32))), .val (.ref aP)] [(.ref sP)])
    refine Go.via (fun t k => XS.aloadN X20.here hx rfl (hb hby d16_31) rfl rfl k) ?_
    show Go p.tables e below P T20 (mkF m 32 #[.val (.ref so), .val (.ref em), .val (.ref r_2), .val (.int (2 : Int32)), .val (.int ((0 : Int32) + (1 : Int32))), .val (.ref aP)] [(.ref so), (.ref sP)])
    obtain ⟨cq21, kq21, q21a, q21b, q21c⟩ := isOf hZ e20 (P17.ext O9.2)
    obtain ⟨_, _, ⟨T21, L21, k21, n21⟩, -, X21, ⟨Lc21, hQ21, l21, y21, z21⟩, st21⟩ := X20.virtualBack hx (y := (⟨"java/lang/String", "equals", "(Ljava/lang/Object;)Z"⟩ : MethodName)) (z := (⟨"java/lang/String", "equals", "(Ljava/lang/Object;)Z"⟩ : MethodName)) hown (mvT hZ (hw _ (List.mem_of_getElem? (i := 101) rfl))) (mvT hZ (hw _ (List.mem_of_getElem? (i := 102) rfl))) (notFace_of_selects (args := #[]) (mvT hZ (hw _ (List.mem_of_getElem? (i := 104) rfl)))) (mvT hZ (hw _ (List.mem_of_getElem? (i := 104) rfl))) (mvT hZ (hw _ (List.mem_of_getElem? (i := 103) rfl))) (by decide) (backOf (W := 0) (rm19 l Z a0 hw [] sP so cs tP tb kP kk ([(112 : Int32), (111 : Int32), (108 : Int32), (105 : Int32), (99 : Int32), (121 : Int32)] : List Int32) bx T2.heap n0 Z7 O9 P1 (by first | assumption | decide | omega : ¬ cs = (0 : Int32)) (P17.ext O9.2) (P18.ext O9.2) (P19.ext O9.2) (P20.ext O9.2) F13 F14 F15 F16 (by decide) smx (own_sfun (P18.ext O9.2) F14 (P20.ext O9.2) F16 (by first | assumption | decide) (by first | assumption | decide))) hZ (hw _ (List.mem_of_getElem? (i := 105) rfl)) (hw _ (List.mem_of_getElem? (i := 1) rfl)) (by decide) (by decide)) q21a q21c (g := (mkF m 32 #[.val (.ref so), .val (.ref em), .val (.ref r_2), .val (.int (2 : Int32)), .val (.int ((0 : Int32) + (1 : Int32))), .val (.ref aP)] [(.ref so), (.ref sP)])) rfl (by rw [hml]; rfl) (Steps.refl _) (argsL := [(.ref so)]) (rest := []) (lenOf own_pd14 rfl) rfl (by show 2 * 0 + _ ≤ _; exact Nat.le_of_eq rfl) (hb hby d16_32) (fun _ _ => ⟨rfl, e20, (by decide : 1 + 0 ≤ _), (by decide : 2 + 0 ≤ _)⟩)
    dsimp only [Pt.U, Pt.locs, Pt.cells, Pt.slots] at X21 l21 y21 z21 st21 hQ21
    subst l21 y21 z21
    obtain ⟨rfl, Nq21, hh21⟩ := hQ21
    obtain ⟨lc21, Xh21, N21⟩ := own_hide X21 (Fr.app N17 Nq21)
    clear X21
    refine Go.hop st21 ?_
    show Go p.tables e below P T21 (mkF m 35 #[.val (.ref so), .val (.ref em), .val (.ref r_2), .val (.int (2 : Int32)), .val (.int ((0 : Int32) + (1 : Int32))), .val (.ref aP)] [(.int (if ([(112 : Int32), (111 : Int32), (108 : Int32), (105 : Int32), (99 : Int32), (121 : Int32)] : List Int32) = bx then (1 : Int32) else (0 : Int32)))])
    by_cases hc22 : (if ([(112 : Int32), (111 : Int32), (108 : Int32), (105 : Int32), (99 : Int32), (121 : Int32)] : List Int32) = bx then (1 : Int32) else (0 : Int32)) = (0 : Int32)
    · refine Go.via (fun t k => XS.ifYes Xh21.here hx rfl (pc0 := 35) (pc' := 44) rfl (hb hby d16_35) rfl ((if0 _ _).trans (teq hc22).1) (by decide) (by decide) k) ?_
      show Go p.tables e below P T21 (mkF m 44 #[.val (.ref so), .val (.ref em), .val (.ref r_2), .val (.int (2 : Int32)), .val (.int ((0 : Int32) + (1 : Int32))), .val (.ref aP)] [])
      refine Go.via (fun t k => XS.iinc Xh21.here hx rfl (hb hby d16_44) rfl (l' := #[.val (.ref so), .val (.ref em), .val (.ref r_2), .val (.int (2 : Int32)), .val (.int (((0 : Int32) + (1 : Int32)) + (1 : Int32))), .val (.ref aP)]) rfl k) ?_
      show Go p.tables e below P T21 (mkF m 47 #[.val (.ref so), .val (.ref em), .val (.ref r_2), .val (.int (2 : Int32)), .val (.int (((0 : Int32) + (1 : Int32)) + (1 : Int32))), .val (.ref aP)] [])
      refine Go.via (fun t k => XS.goto Xh21.here hx rfl (pc0 := 47) (pc' := 14) rfl (hb hby d16_47) (by decide) (by decide) k) ?_
      show Go p.tables e below P T21 (mkF m 14 #[.val (.ref so), .val (.ref em), .val (.ref r_2), .val (.int (2 : Int32)), .val (.int (((0 : Int32) + (1 : Int32)) + (1 : Int32))), .val (.ref aP)] [])
      refine Go.via (fun t k => XS.iload Xh21.here hx rfl (hb hby d16_14) rfl k) ?_
      show Go p.tables e below P T21 (mkF m 16 #[.val (.ref so), .val (.ref em), .val (.ref r_2), .val (.int (2 : Int32)), .val (.int (((0 : Int32) + (1 : Int32)) + (1 : Int32))), .val (.ref aP)] [(.int (((0 : Int32) + (1 : Int32)) + (1 : Int32)))])
      refine Go.via (fun t k => XS.iloadN Xh21.here hx rfl (hb hby d16_16) rfl k) ?_
      show Go p.tables e below P T21 (mkF m 17 #[.val (.ref so), .val (.ref em), .val (.ref r_2), .val (.int (2 : Int32)), .val (.int (((0 : Int32) + (1 : Int32)) + (1 : Int32))), .val (.ref aP)] [(.int (2 : Int32)), (.int (((0 : Int32) + (1 : Int32)) + (1 : Int32)))])
      refine Go.via (fun t k => XS.icmpYes Xh21.here hx rfl (pc0 := 17) (pc' := 50) rfl (hb hby d16_17) rfl (flt (by decide : ¬ ((((0 : Int32) + (1 : Int32)) + (1 : Int32)) < (2 : Int32)))).2.1 (by decide) (by decide) k) ?_
      show Go p.tables e below P T21 (mkF m 50 #[.val (.ref so), .val (.ref em), .val (.ref r_2), .val (.int (2 : Int32)), .val (.int (((0 : Int32) + (1 : Int32)) + (1 : Int32))), .val (.ref aP)] [])
      refine Go.via (fun t k => XS.aloadN Xh21.here hx rfl (hb hby d16_50) rfl rfl k) ?_
      show Go p.tables e below P T21 (mkF m 51 #[.val (.ref so), .val (.ref em), .val (.ref r_2), .val (.int (2 : Int32)), .val (.int (((0 : Int32) + (1 : Int32)) + (1 : Int32))), .val (.ref aP)] [(.ref em)])
      obtain ⟨fs, hr, hrun, hended, hW, hsame⟩ := Xh21.leave (v := some (.ref em)) (fun h => by rw [Bd.returns] at h; cases h)
      refine ⟨_, _, retA Xh21 hx Bd.returns rfl rfl rfl (hb hby d16_51) hr, hrun, hended, hP _ _ ⟨_, _, rfl, ?_, ⟨_, rfl⟩, hW, hsame.mono (by decide) (by decide)⟩⟩
      show Q16 Z so cs tb kk bx em va kva aV sV tV kV aP sP tP kP h0 n0 _ T21.heap _
      rw [hh21]
      exact ⟨em, .null, rfl, N21, K8, (P4.ext O9.2), (P5.ext O9.2), (Or.inr (Or.inr ⟨(fun q => own_i0 hc22 q.symm), (fun q => own_i0 hc18 q.symm), rfl⟩))⟩
    · refine Go.via (fun t k => XS.ifNo Xh21.here hx rfl (hb hby d16_35) rfl ((if0 _ _).trans (feq hc22).1) k) ?_
      show Go p.tables e below P T21 (mkF m 38 #[.val (.ref so), .val (.ref em), .val (.ref r_2), .val (.int (2 : Int32)), .val (.int ((0 : Int32) + (1 : Int32))), .val (.ref aP)] [])
      refine Go.via (fun t k => XS.aload Xh21.here hx rfl (hb hby d16_38) rfl rfl k) ?_
      show Go p.tables e below P T21 (mkF m 40 #[.val (.ref so), .val (.ref em), .val (.ref r_2), .val (.int (2 : Int32)), .val (.int ((0 : Int32) + (1 : Int32))), .val (.ref aP)] [(.ref aP)])
      obtain ⟨_, _, ⟨T24, L24, k24, n24⟩, -, X24, ⟨Lc24, hQ24, l24, y24, z24⟩, st24⟩ := Jvm.LawKit.callS Xh21 hx (y := (⟨"java/util/Optional", "of", "(Ljava/lang/Object;)Ljava/util/Optional;"⟩ : MethodName)) hown (mvT hZ (hw _ (List.mem_of_getElem? (i := 121) rfl))) (mvT hZ (hw _ (List.mem_of_getElem? (i := 122) rfl))) (mvT hZ (hw _ (List.mem_of_getElem? (i := 79) rfl))) (mvT hZ (hw _ (List.mem_of_getElem? (i := 123) rfl))) (by decide) (backOf (W := 0) (rm22 l Z a0 hw [] aP T2.heap n0 Z7 ) hZ (hw _ (List.mem_of_getElem? (i := 123) rfl)) (hw _ (List.mem_of_getElem? (i := 79) rfl)) (by decide) (by decide)) (g := (mkF m 40 #[.val (.ref so), .val (.ref em), .val (.ref r_2), .val (.int (2 : Int32)), .val (.int ((0 : Int32) + (1 : Int32))), .val (.ref aP)] [(.ref aP)])) rfl (by rw [hml]; rfl) (argsL := [(.ref aP)]) (rest := []) (lenOf own_pd15 rfl) rfl (by show 2 * 0 + _ ≤ _; exact Nat.le_of_eq rfl) (hb hby d16_40) (fun _ _ => ⟨rfl, hh21, (by decide : 1 + 1 ≤ _), (by decide : 2 + 1 ≤ _)⟩)
      dsimp only [Pt.U, Pt.locs, Pt.cells, Pt.slots] at X24 l24 y24 z24 st24 hQ24
      subst l24 y24 z24
      obtain ⟨r_24, rfl, Nq24, K24, fr24_r, u24_0, u24_1⟩ := hQ24
      obtain ⟨lc24, Xh24, N24⟩ := own_hide X24 (Fr.app N21 Nq24)
      clear X24
      refine Go.via st24 ?_
      have ne25 : so ≠ r_24 := Nat.ne_of_lt (Nat.lt_of_lt_of_le F13.lt fr24_r)
      have ne26 : tb ≠ r_24 := Nat.ne_of_lt (Nat.lt_of_lt_of_le F16.lt fr24_r)
      have ne27 : r_2 ≠ r_24 := Nat.ne_of_lt (Nat.lt_of_lt_of_le u2_0.lt fr24_r)
      have g28 : n0 ≤ r_24 := Nat.le_trans Z7 fr24_r
      have sz29 : h0.size ≤ r_24 := Nat.le_trans K8.1 fr24_r
      have Z30 : n0 ≤ T24.heap.size := Nat.le_trans Z7 K24.1
      have K31 : Keep h0 T24.heap [] := K8.trans K24 own_all0
      have O32 : Old Z n0 T24.heap := O9.keep K24 own_all0
      show Go p.tables e below P T24 (mkF m 43 #[.val (.ref so), .val (.ref em), .val (.ref r_2), .val (.int (2 : Int32)), .val (.int ((0 : Int32) + (1 : Int32))), .val (.ref aP)] [(.ref r_24)])
      refine Go.via (fun t k => XS.astoreN Xh24.here hx rfl (hb hby d16_43) rfl rfl (l' := #[.val (.ref so), .val (.ref r_24), .val (.ref r_2), .val (.int (2 : Int32)), .val (.int ((0 : Int32) + (1 : Int32))), .val (.ref aP)]) rfl k) ?_
      show Go p.tables e below P T24 (mkF m 44 #[.val (.ref so), .val (.ref r_24), .val (.ref r_2), .val (.int (2 : Int32)), .val (.int ((0 : Int32) + (1 : Int32))), .val (.ref aP)] [])
      refine Go.via (fun t k => XS.iinc Xh24.here hx rfl (hb hby d16_44) rfl (l' := #[.val (.ref so), .val (.ref r_24), .val (.ref r_2), .val (.int (2 : Int32)), .val (.int (((0 : Int32) + (1 : Int32)) + (1 : Int32))), .val (.ref aP)]) rfl k) ?_
      show Go p.tables e below P T24 (mkF m 47 #[.val (.ref so), .val (.ref r_24), .val (.ref r_2), .val (.int (2 : Int32)), .val (.int (((0 : Int32) + (1 : Int32)) + (1 : Int32))), .val (.ref aP)] [])
      refine Go.via (fun t k => XS.goto Xh24.here hx rfl (pc0 := 47) (pc' := 14) rfl (hb hby d16_47) (by decide) (by decide) k) ?_
      show Go p.tables e below P T24 (mkF m 14 #[.val (.ref so), .val (.ref r_24), .val (.ref r_2), .val (.int (2 : Int32)), .val (.int (((0 : Int32) + (1 : Int32)) + (1 : Int32))), .val (.ref aP)] [])
      refine Go.via (fun t k => XS.iload Xh24.here hx rfl (hb hby d16_14) rfl k) ?_
      show Go p.tables e below P T24 (mkF m 16 #[.val (.ref so), .val (.ref r_24), .val (.ref r_2), .val (.int (2 : Int32)), .val (.int (((0 : Int32) + (1 : Int32)) + (1 : Int32))), .val (.ref aP)] [(.int (((0 : Int32) + (1 : Int32)) + (1 : Int32)))])
      refine Go.via (fun t k => XS.iloadN Xh24.here hx rfl (hb hby d16_16) rfl k) ?_
      show Go p.tables e below P T24 (mkF m 17 #[.val (.ref so), .val (.ref r_24), .val (.ref r_2), .val (.int (2 : Int32)), .val (.int (((0 : Int32) + (1 : Int32)) + (1 : Int32))), .val (.ref aP)] [(.int (2 : Int32)), (.int (((0 : Int32) + (1 : Int32)) + (1 : Int32)))])
      refine Go.via (fun t k => XS.icmpYes Xh24.here hx rfl (pc0 := 17) (pc' := 50) rfl (hb hby d16_17) rfl (flt (by decide : ¬ ((((0 : Int32) + (1 : Int32)) + (1 : Int32)) < (2 : Int32)))).2.1 (by decide) (by decide) k) ?_
      show Go p.tables e below P T24 (mkF m 50 #[.val (.ref so), .val (.ref r_24), .val (.ref r_2), .val (.int (2 : Int32)), .val (.int (((0 : Int32) + (1 : Int32)) + (1 : Int32))), .val (.ref aP)] [])
      refine Go.via (fun t k => XS.aloadN Xh24.here hx rfl (hb hby d16_50) rfl rfl k) ?_
      show Go p.tables e below P T24 (mkF m 51 #[.val (.ref so), .val (.ref r_24), .val (.ref r_2), .val (.int (2 : Int32)), .val (.int (((0 : Int32) + (1 : Int32)) + (1 : Int32))), .val (.ref aP)] [(.ref r_24)])
      obtain ⟨fs, hr, hrun, hended, hW, hsame⟩ := Xh24.leave (v := some (.ref r_24)) (fun h => by rw [Bd.returns] at h; cases h)
      refine ⟨_, _, retA Xh24 hx Bd.returns rfl rfl rfl (hb hby d16_51) hr, hrun, hended, hP _ _ ⟨_, _, rfl, ?_, ⟨_, rfl⟩, hW, hsame.mono (by decide) (by decide)⟩⟩
      show Q16 Z so cs tb kk bx em va kva aV sV tV kV aP sP tP kP h0 n0 _ T24.heap _
      exact ⟨r_24, (.ref aP), rfl, N24, K31, u24_0, u24_1, (Or.inl ⟨(own_i1 hc22).symm, rfl⟩)⟩
  · refine Go.via (fun t k => XS.ifNo Xh17.here hx rfl (hb hby d16_35) rfl ((if0 _ _).trans (feq hc18).1) k) ?_
    show Go p.tables e below P T17 (mkF m 38 #[.val (.ref so), .val (.ref em), .val (.ref r_2), .val (.int (2 : Int32)), .val (.int (0 : Int32)), .val (.ref aV)] [])
    refine Go.via (fun t k => XS.aload Xh17.here hx rfl (hb hby d16_38) rfl rfl k) ?_
    show Go p.tables e below P T17 (mkF m 40 #[.val (.ref so), .val (.ref em), .val (.ref r_2), .val (.int (2 : Int32)), .val (.int (0 : Int32)), .val (.ref aV)] [(.ref aV)])
    obtain ⟨_, _, ⟨T34, L34, k34, n34⟩, -, X34, ⟨Lc34, hQ34, l34, y34, z34⟩, st34⟩ := Jvm.LawKit.callS Xh17 hx (y := (⟨"java/util/Optional", "of", "(Ljava/lang/Object;)Ljava/util/Optional;"⟩ : MethodName)) hown (mvT hZ (hw _ (List.mem_of_getElem? (i := 121) rfl))) (mvT hZ (hw _ (List.mem_of_getElem? (i := 122) rfl))) (mvT hZ (hw _ (List.mem_of_getElem? (i := 79) rfl))) (mvT hZ (hw _ (List.mem_of_getElem? (i := 123) rfl))) (by decide) (backOf (W := 0) (rm22 l Z a0 hw [] aV T2.heap n0 Z7 ) hZ (hw _ (List.mem_of_getElem? (i := 123) rfl)) (hw _ (List.mem_of_getElem? (i := 79) rfl)) (by decide) (by decide)) (g := (mkF m 40 #[.val (.ref so), .val (.ref em), .val (.ref r_2), .val (.int (2 : Int32)), .val (.int (0 : Int32)), .val (.ref aV)] [(.ref aV)])) rfl (by rw [hml]; rfl) (argsL := [(.ref aV)]) (rest := []) (lenOf own_pd15 rfl) rfl (by show 2 * 0 + _ ≤ _; exact Nat.le_of_eq rfl) (hb hby d16_40) (fun _ _ => ⟨rfl, hh17, (by decide : 1 + 1 ≤ _), (by decide : 2 + 1 ≤ _)⟩)
    dsimp only [Pt.U, Pt.locs, Pt.cells, Pt.slots] at X34 l34 y34 z34 st34 hQ34
    subst l34 y34 z34
    obtain ⟨r_34, rfl, Nq34, K34, fr34_r, u34_0, u34_1⟩ := hQ34
    obtain ⟨lc34, Xh34, N34⟩ := own_hide X34 (Fr.app N17 Nq34)
    clear X34
    refine Go.via st34 ?_
    have ne35 : so ≠ r_34 := Nat.ne_of_lt (Nat.lt_of_lt_of_le F13.lt fr34_r)
    have ne36 : tb ≠ r_34 := Nat.ne_of_lt (Nat.lt_of_lt_of_le F16.lt fr34_r)
    have ne37 : r_2 ≠ r_34 := Nat.ne_of_lt (Nat.lt_of_lt_of_le u2_0.lt fr34_r)
    have g38 : n0 ≤ r_34 := Nat.le_trans Z7 fr34_r
    have sz39 : h0.size ≤ r_34 := Nat.le_trans K8.1 fr34_r
    have Z40 : n0 ≤ T34.heap.size := Nat.le_trans Z7 K34.1
    have K41 : Keep h0 T34.heap [] := K8.trans K34 own_all0
    have O42 : Old Z n0 T34.heap := O9.keep K34 own_all0
    show Go p.tables e below P T34 (mkF m 43 #[.val (.ref so), .val (.ref em), .val (.ref r_2), .val (.int (2 : Int32)), .val (.int (0 : Int32)), .val (.ref aV)] [(.ref r_34)])
    refine Go.via (fun t k => XS.astoreN Xh34.here hx rfl (hb hby d16_43) rfl rfl (l' := #[.val (.ref so), .val (.ref r_34), .val (.ref r_2), .val (.int (2 : Int32)), .val (.int (0 : Int32)), .val (.ref aV)]) rfl k) ?_
    show Go p.tables e below P T34 (mkF m 44 #[.val (.ref so), .val (.ref r_34), .val (.ref r_2), .val (.int (2 : Int32)), .val (.int (0 : Int32)), .val (.ref aV)] [])
    refine Go.via (fun t k => XS.iinc Xh34.here hx rfl (hb hby d16_44) rfl (l' := #[.val (.ref so), .val (.ref r_34), .val (.ref r_2), .val (.int (2 : Int32)), .val (.int ((0 : Int32) + (1 : Int32))), .val (.ref aV)]) rfl k) ?_
    show Go p.tables e below P T34 (mkF m 47 #[.val (.ref so), .val (.ref r_34), .val (.ref r_2), .val (.int (2 : Int32)), .val (.int ((0 : Int32) + (1 : Int32))), .val (.ref aV)] [])
    refine Go.via (fun t k => XS.goto Xh34.here hx rfl (pc0 := 47) (pc' := 14) rfl (hb hby d16_47) (by decide) (by decide) k) ?_
    show Go p.tables e below P T34 (mkF m 14 #[.val (.ref so), .val (.ref r_34), .val (.ref r_2), .val (.int (2 : Int32)), .val (.int ((0 : Int32) + (1 : Int32))), .val (.ref aV)] [])
    refine Go.via (fun t k => XS.iload Xh34.here hx rfl (hb hby d16_14) rfl k) ?_
    show Go p.tables e below P T34 (mkF m 16 #[.val (.ref so), .val (.ref r_34), .val (.ref r_2), .val (.int (2 : Int32)), .val (.int ((0 : Int32) + (1 : Int32))), .val (.ref aV)] [(.int ((0 : Int32) + (1 : Int32)))])
    refine Go.via (fun t k => XS.iloadN Xh34.here hx rfl (hb hby d16_16) rfl k) ?_
    show Go p.tables e below P T34 (mkF m 17 #[.val (.ref so), .val (.ref r_34), .val (.ref r_2), .val (.int (2 : Int32)), .val (.int ((0 : Int32) + (1 : Int32))), .val (.ref aV)] [(.int (2 : Int32)), (.int ((0 : Int32) + (1 : Int32)))])
    refine Go.via (fun t k => XS.icmpNo Xh34.here hx rfl (hb hby d16_17) rfl (tlt (by decide : ((0 : Int32) + (1 : Int32)) < (2 : Int32))).2.1 k) ?_
    show Go p.tables e below P T34 (mkF m 20 #[.val (.ref so), .val (.ref r_34), .val (.ref r_2), .val (.int (2 : Int32)), .val (.int ((0 : Int32) + (1 : Int32))), .val (.ref aV)] [])
    refine Go.via (fun t k => XS.aloadN Xh34.here hx rfl (hb hby d16_20) rfl rfl k) ?_
    show Go p.tables e below P T34 (mkF m 21 #[.val (.ref so), .val (.ref r_34), .val (.ref r_2), .val (.int (2 : Int32)), .val (.int ((0 : Int32) + (1 : Int32))), .val (.ref aV)] [(.ref r_2)])
    refine Go.via (fun t k => XS.iload Xh34.here hx rfl (hb hby d16_21) rfl k) ?_
    show Go p.tables e below P T34 (mkF m 23 #[.val (.ref so), .val (.ref r_34), .val (.ref r_2), .val (.int (2 : Int32)), .val (.int ((0 : Int32) + (1 : Int32))), .val (.ref aV)] [(.int ((0 : Int32) + (1 : Int32))), (.ref r_2)])
    have F43 : Arv Z T34.heap r_2 kva (.object "com/example/numeric_planner/numericplanner/planner/Solution$Kind") (2 : Int32) [(.ref aV), (.ref aP)] .null := (u2_0.keep K34 own_nin0)
    obtain ⟨c44, A44, q44, S44, N44, H44, G44⟩ := id F43
    have hin44 : ¬ (((0 : Int32) + (1 : Int32)) < 0 ∨ c44.slots.size ≤ (((0 : Int32) + (1 : Int32))).toNatClampNeg) := inb_of S44 ⟨by decide, by decide⟩
    have hat44 : c44.slots[(((0 : Int32) + (1 : Int32))).toNatClampNeg]? = some (.ref aP) := (H44 _ (Nat.lt_of_not_le fun q => hin44 (Or.inr q))).trans (congrArg some rfl)
    refine Go.via (fun t k => Xh34.aaload hx (j := ((0 : Int32) + (1 : Int32))) (v := (.ref aP)) (by exact A44.1) (State.isArrayOf_alike hZ.alike A44.2.1) rfl A44.2.2 hin44 hat44 (g := (mkF m 23 #[.val (.ref so), .val (.ref r_34), .val (.ref r_2), .val (.int (2 : Int32)), .val (.int ((0 : Int32) + (1 : Int32))), .val (.ref aV)] [(.int ((0 : Int32) + (1 : Int32))), (.ref r_2)])) rfl rfl (hb hby d16_23) t k) ?_
    show Go p.tables e below P T34 (mkF m 24 #[.val (.ref so), .val (.ref r_34), .val (.ref r_2), .val (.int (2 : Int32)), .val (.int ((0 : Int32) + (1 : Int32))), .val (.ref aV)] [(.ref aP)])
    refine Go.via (fun t k => XS.astore Xh34.here hx rfl (hb hby d16_24) rfl rfl (l' := #[.val (.ref so), .val (.ref r_34), .val (.ref r_2), .val (.int (2 : Int32)), .val (.int ((0 : Int32) + (1 : Int32))), .val (.ref aP)]) rfl k) ?_
    show Go p.tables e below P T34 (mkF m 26 #[.val (.ref so), .val (.ref r_34), .val (.ref r_2), .val (.int (2 : Int32)), .val (.int ((0 : Int32) + (1 : Int32))), .val (.ref aP)] [])
    refine Go.via (fun t k => XS.aload Xh34.here hx rfl (hb hby d16_26) rfl rfl k) ?_
    show Go p.tables e below P T34 (mkF m 28 #[.val (.ref so), .val (.ref r_34), .val (.ref r_2), .val (.int (2 : Int32)), .val (.int ((0 : Int32) + (1 : Int32))), .val (.ref aP)] [(.ref aP)])
    obtain ⟨T45, X45, e45, st45⟩ := getF Xh34 hx hZ hown (host := "") (Or.inl (hw _ (List.mem_of_getElem? (i := 99) rfl))) Via.refl rfl (P16.ext O42.2) (g := (mkF m 28 #[.val (.ref so), .val (.ref r_34), .val (.ref r_2), .val (.int (2 : Int32)), .val (.int ((0 : Int32) + (1 : Int32))), .val (.ref aP)] [(.ref aP)])) rfl rfl (hb hby d16_28)
    refine Go.via st45 ?_
    show Go p.tables e below P T45 (mkF m 31 #[.val (.ref so), .val (.ref r_34), .val (.ref r_2), .val (.int (2 : Int32)), .val (.int ((0 : Int32) + (1 : Int32))), .val (.ref aP)] [(.ref sP)])
    refine Go.via (fun t k => XS.aloadN X45.here hx rfl (hb hby d16_31) rfl rfl k) ?_
    show Go p.tables e below P T45 (mkF m 32 #[.val (.ref so), .val (.ref r_34), .val (.ref r_2), .val (.int (2 : Int32)), .val (.int ((0 : Int32) + (1 : Int32))), .val (.ref aP)] [(.ref so), (.ref sP)])
    have F46 : Exa Z T34.heap so "java/lang/String" := (F13.keep K34)
    have F47 : Fld Z T34.heap so "java/lang/String" "value" "[B" (.ref tb) := (F14.keep K34 own_nin0)
    have F48 : Fld Z T34.heap so "java/lang/String" "coder" "B" (.int (0 : Int32)) := (F15.keep K34 own_nin0)
    have F49 : Arv Z T34.heap tb kk .byte (own_lg bx) (bx.map Value.int) (.int (0 : Int32)) := (F16.keep K34 own_nin0)
    have F50 : Exa Z T34.heap r_2 "[Lcom/example/numeric_planner/numericplanner/planner/Solution$Kind;" := (u2_1.keep K34)
    obtain ⟨cq51, kq51, q51a, q51b, q51c⟩ := isOf hZ e45 (P17.ext O42.2)
    obtain ⟨_, _, ⟨T51, L51, k51, n51⟩, -, X51, ⟨Lc51, hQ51, l51, y51, z51⟩, st51⟩ := X45.virtualBack hx (y := (⟨"java/lang/String", "equals", "(Ljava/lang/Object;)Z"⟩ : MethodName)) (z := (⟨"java/lang/String", "equals", "(Ljava/lang/Object;)Z"⟩ : MethodName)) hown (mvT hZ (hw _ (List.mem_of_getElem? (i := 101) rfl))) (mvT hZ (hw _ (List.mem_of_getElem? (i := 102) rfl))) (notFace_of_selects (args := #[]) (mvT hZ (hw _ (List.mem_of_getElem? (i := 104) rfl)))) (mvT hZ (hw _ (List.mem_of_getElem? (i := 104) rfl))) (mvT hZ (hw _ (List.mem_of_getElem? (i := 103) rfl))) (by decide) (backOf (W := 0) (rm19 l Z a0 hw [] sP so cs tP tb kP kk ([(112 : Int32), (111 : Int32), (108 : Int32), (105 : Int32), (99 : Int32), (121 : Int32)] : List Int32) bx T34.heap n0 Z40 O42 P1 (by first | assumption | decide | omega : ¬ cs = (0 : Int32)) (P17.ext O42.2) (P18.ext O42.2) (P19.ext O42.2) (P20.ext O42.2) F46 F47 F48 F49 (by decide) smx (own_sfun (P18.ext O42.2) F47 (P20.ext O42.2) F49 (by first | assumption | decide) (by first | assumption | decide))) hZ (hw _ (List.mem_of_getElem? (i := 105) rfl)) (hw _ (List.mem_of_getElem? (i := 1) rfl)) (by decide) (by decide)) q51a q51c (g := (mkF m 32 #[.val (.ref so), .val (.ref r_34), .val (.ref r_2), .val (.int (2 : Int32)), .val (.int ((0 : Int32) + (1 : Int32))), .val (.ref aP)] [(.ref so), (.ref sP)])) rfl (by rw [hml]; rfl) (Steps.refl _) (argsL := [(.ref so)]) (rest := []) (lenOf own_pd14 rfl) rfl (by show 2 * 0 + _ ≤ _; exact Nat.le_of_eq rfl) (hb hby d16_32) (fun _ _ => ⟨rfl, e45, (by decide : 2 + 0 ≤ _), (by decide : 3 + 0 ≤ _)⟩)
    dsimp only [Pt.U, Pt.locs, Pt.cells, Pt.slots] at X51 l51 y51 z51 st51 hQ51
    subst l51 y51 z51
    obtain ⟨rfl, Nq51, hh51⟩ := hQ51
    obtain ⟨lc51, Xh51, N51⟩ := own_hide X51 (Fr.app N34 Nq51)
    clear X51
    refine Go.hop st51 ?_
    show Go p.tables e below P T51 (mkF m 35 #[.val (.ref so), .val (.ref r_34), .val (.ref r_2), .val (.int (2 : Int32)), .val (.int ((0 : Int32) + (1 : Int32))), .val (.ref aP)] [(.int (if ([(112 : Int32), (111 : Int32), (108 : Int32), (105 : Int32), (99 : Int32), (121 : Int32)] : List Int32) = bx then (1 : Int32) else (0 : Int32)))])
    by_cases hc52 : (if ([(112 : Int32), (111 : Int32), (108 : Int32), (105 : Int32), (99 : Int32), (121 : Int32)] : List Int32) = bx then (1 : Int32) else (0 : Int32)) = (0 : Int32)
    · refine Go.via (fun t k => XS.ifYes Xh51.here hx rfl (pc0 := 35) (pc' := 44) rfl (hb hby d16_35) rfl ((if0 _ _).trans (teq hc52).1) (by decide) (by decide) k) ?_
      show Go p.tables e below P T51 (mkF m 44 #[.val (.ref so), .val (.ref r_34), .val (.ref r_2), .val (.int (2 : Int32)), .val (.int ((0 : Int32) + (1 : Int32))), .val (.ref aP)] [])
      refine Go.via (fun t k => XS.iinc Xh51.here hx rfl (hb hby d16_44) rfl (l' := #[.val (.ref so), .val (.ref r_34), .val (.ref r_2), .val (.int (2 : Int32)), .val (.int (((0 : Int32) + (1 : Int32)) + (1 : Int32))), .val (.ref aP)]) rfl k) ?_
      show Go p.tables e below P T51 (mkF m 47 #[.val (.ref so), .val (.ref r_34), .val (.ref r_2), .val (.int (2 : Int32)), .val (.int (((0 : Int32) + (1 : Int32)) + (1 : Int32))), .val (.ref aP)] [])
      refine Go.via (fun t k => XS.goto Xh51.here hx rfl (pc0 := 47) (pc' := 14) rfl (hb hby d16_47) (by decide) (by decide) k) ?_
      show Go p.tables e below P T51 (mkF m 14 #[.val (.ref so), .val (.ref r_34), .val (.ref r_2), .val (.int (2 : Int32)), .val (.int (((0 : Int32) + (1 : Int32)) + (1 : Int32))), .val (.ref aP)] [])
      refine Go.via (fun t k => XS.iload Xh51.here hx rfl (hb hby d16_14) rfl k) ?_
      show Go p.tables e below P T51 (mkF m 16 #[.val (.ref so), .val (.ref r_34), .val (.ref r_2), .val (.int (2 : Int32)), .val (.int (((0 : Int32) + (1 : Int32)) + (1 : Int32))), .val (.ref aP)] [(.int (((0 : Int32) + (1 : Int32)) + (1 : Int32)))])
      refine Go.via (fun t k => XS.iloadN Xh51.here hx rfl (hb hby d16_16) rfl k) ?_
      show Go p.tables e below P T51 (mkF m 17 #[.val (.ref so), .val (.ref r_34), .val (.ref r_2), .val (.int (2 : Int32)), .val (.int (((0 : Int32) + (1 : Int32)) + (1 : Int32))), .val (.ref aP)] [(.int (2 : Int32)), (.int (((0 : Int32) + (1 : Int32)) + (1 : Int32)))])
      refine Go.via (fun t k => XS.icmpYes Xh51.here hx rfl (pc0 := 17) (pc' := 50) rfl (hb hby d16_17) rfl (flt (by decide : ¬ ((((0 : Int32) + (1 : Int32)) + (1 : Int32)) < (2 : Int32)))).2.1 (by decide) (by decide) k) ?_
      show Go p.tables e below P T51 (mkF m 50 #[.val (.ref so), .val (.ref r_34), .val (.ref r_2), .val (.int (2 : Int32)), .val (.int (((0 : Int32) + (1 : Int32)) + (1 : Int32))), .val (.ref aP)] [])
      refine Go.via (fun t k => XS.aloadN Xh51.here hx rfl (hb hby d16_50) rfl rfl k) ?_
      show Go p.tables e below P T51 (mkF m 51 #[.val (.ref so), .val (.ref r_34), .val (.ref r_2), .val (.int (2 : Int32)), .val (.int (((0 : Int32) + (1 : Int32)) + (1 : Int32))), .val (.ref aP)] [(.ref r_34)])
      obtain ⟨fs, hr, hrun, hended, hW, hsame⟩ := Xh51.leave (v := some (.ref r_34)) (fun h => by rw [Bd.returns] at h; cases h)
      refine ⟨_, _, retA Xh51 hx Bd.returns rfl rfl rfl (hb hby d16_51) hr, hrun, hended, hP _ _ ⟨_, _, rfl, ?_, ⟨_, rfl⟩, hW, hsame.mono (by decide) (by decide)⟩⟩
      show Q16 Z so cs tb kk bx em va kva aV sV tV kV aP sP tP kP h0 n0 _ T51.heap _
      rw [hh51]
      exact ⟨r_34, (.ref aV), rfl, N51, K41, u34_0, u34_1, (Or.inr (Or.inl ⟨(fun q => own_i0 hc52 q.symm), (own_i1 hc18).symm, rfl⟩))⟩
    · refine Go.via (fun t k => XS.ifNo Xh51.here hx rfl (hb hby d16_35) rfl ((if0 _ _).trans (feq hc52).1) k) ?_
      show Go p.tables e below P T51 (mkF m 38 #[.val (.ref so), .val (.ref r_34), .val (.ref r_2), .val (.int (2 : Int32)), .val (.int ((0 : Int32) + (1 : Int32))), .val (.ref aP)] [])
      refine Go.via (fun t k => XS.aload Xh51.here hx rfl (hb hby d16_38) rfl rfl k) ?_
      show Go p.tables e below P T51 (mkF m 40 #[.val (.ref so), .val (.ref r_34), .val (.ref r_2), .val (.int (2 : Int32)), .val (.int ((0 : Int32) + (1 : Int32))), .val (.ref aP)] [(.ref aP)])
      obtain ⟨_, _, ⟨T54, L54, k54, n54⟩, -, X54, ⟨Lc54, hQ54, l54, y54, z54⟩, st54⟩ := Jvm.LawKit.callS Xh51 hx (y := (⟨"java/util/Optional", "of", "(Ljava/lang/Object;)Ljava/util/Optional;"⟩ : MethodName)) hown (mvT hZ (hw _ (List.mem_of_getElem? (i := 121) rfl))) (mvT hZ (hw _ (List.mem_of_getElem? (i := 122) rfl))) (mvT hZ (hw _ (List.mem_of_getElem? (i := 79) rfl))) (mvT hZ (hw _ (List.mem_of_getElem? (i := 123) rfl))) (by decide) (backOf (W := 0) (rm22 l Z a0 hw [] aP T34.heap n0 Z40 ) hZ (hw _ (List.mem_of_getElem? (i := 123) rfl)) (hw _ (List.mem_of_getElem? (i := 79) rfl)) (by decide) (by decide)) (g := (mkF m 40 #[.val (.ref so), .val (.ref r_34), .val (.ref r_2), .val (.int (2 : Int32)), .val (.int ((0 : Int32) + (1 : Int32))), .val (.ref aP)] [(.ref aP)])) rfl (by rw [hml]; rfl) (argsL := [(.ref aP)]) (rest := []) (lenOf own_pd15 rfl) rfl (by show 2 * 0 + _ ≤ _; exact Nat.le_of_eq rfl) (hb hby d16_40) (fun _ _ => ⟨rfl, hh51, (by decide : 2 + 1 ≤ _), (by decide : 3 + 1 ≤ _)⟩)
      dsimp only [Pt.U, Pt.locs, Pt.cells, Pt.slots] at X54 l54 y54 z54 st54 hQ54
      subst l54 y54 z54
      obtain ⟨r_54, rfl, Nq54, K54, fr54_r, u54_0, u54_1⟩ := hQ54
      obtain ⟨lc54, Xh54, N54⟩ := own_hide X54 (Fr.app N51 Nq54)
      clear X54
      refine Go.via st54 ?_
      have ne55 : so ≠ r_54 := Nat.ne_of_lt (Nat.lt_of_lt_of_le F46.lt fr54_r)
      have ne56 : tb ≠ r_54 := Nat.ne_of_lt (Nat.lt_of_lt_of_le F49.lt fr54_r)
      have ne57 : r_2 ≠ r_54 := Nat.ne_of_lt (Nat.lt_of_lt_of_le F43.lt fr54_r)
      have ne58 : r_34 ≠ r_54 := Nat.ne_of_lt (Nat.lt_of_lt_of_le u34_0.lt fr54_r)
      have g59 : n0 ≤ r_54 := Nat.le_trans Z40 fr54_r
      have sz60 : h0.size ≤ r_54 := Nat.le_trans K41.1 fr54_r
      have Z61 : n0 ≤ T54.heap.size := Nat.le_trans Z40 K54.1
      have K62 : Keep h0 T54.heap [] := K41.trans K54 own_all0
      have O63 : Old Z n0 T54.heap := O42.keep K54 own_all0
      show Go p.tables e below P T54 (mkF m 43 #[.val (.ref so), .val (.ref r_34), .val (.ref r_2), .val (.int (2 : Int32)), .val (.int ((0 : Int32) + (1 : Int32))), .val (.ref aP)] [(.ref r_54)])
      refine Go.via (fun t k => XS.astoreN Xh54.here hx rfl (hb hby d16_43) rfl rfl (l' := #[.val (.ref so), .val (.ref r_54), .val (.ref r_2), .val (.int (2 : Int32)), .val (.int ((0 : Int32) + (1 : Int32))), .val (.ref aP)]) rfl k) ?_
      show Go p.tables e below P T54 (mkF m 44 #[.val (.ref so), .val (.ref r_54), .val (.ref r_2), .val (.int (2 : Int32)), .val (.int ((0 : Int32) + (1 : Int32))), .val (.ref aP)] [])
      refine Go.via (fun t k => XS.iinc Xh54.here hx rfl (hb hby d16_44) rfl (l' := #[.val (.ref so), .val (.ref r_54), .val (.ref r_2), .val (.int (2 : Int32)), .val (.int (((0 : Int32) + (1 : Int32)) + (1 : Int32))), .val (.ref aP)]) rfl k) ?_
      show Go p.tables e below P T54 (mkF m 47 #[.val (.ref so), .val (.ref r_54), .val (.ref r_2), .val (.int (2 : Int32)), .val (.int (((0 : Int32) + (1 : Int32)) + (1 : Int32))), .val (.ref aP)] [])
      refine Go.via (fun t k => XS.goto Xh54.here hx rfl (pc0 := 47) (pc' := 14) rfl (hb hby d16_47) (by decide) (by decide) k) ?_
      show Go p.tables e below P T54 (mkF m 14 #[.val (.ref so), .val (.ref r_54), .val (.ref r_2), .val (.int (2 : Int32)), .val (.int (((0 : Int32) + (1 : Int32)) + (1 : Int32))), .val (.ref aP)] [])
      refine Go.via (fun t k => XS.iload Xh54.here hx rfl (hb hby d16_14) rfl k) ?_
      show Go p.tables e below P T54 (mkF m 16 #[.val (.ref so), .val (.ref r_54), .val (.ref r_2), .val (.int (2 : Int32)), .val (.int (((0 : Int32) + (1 : Int32)) + (1 : Int32))), .val (.ref aP)] [(.int (((0 : Int32) + (1 : Int32)) + (1 : Int32)))])
      refine Go.via (fun t k => XS.iloadN Xh54.here hx rfl (hb hby d16_16) rfl k) ?_
      show Go p.tables e below P T54 (mkF m 17 #[.val (.ref so), .val (.ref r_54), .val (.ref r_2), .val (.int (2 : Int32)), .val (.int (((0 : Int32) + (1 : Int32)) + (1 : Int32))), .val (.ref aP)] [(.int (2 : Int32)), (.int (((0 : Int32) + (1 : Int32)) + (1 : Int32)))])
      refine Go.via (fun t k => XS.icmpYes Xh54.here hx rfl (pc0 := 17) (pc' := 50) rfl (hb hby d16_17) rfl (flt (by decide : ¬ ((((0 : Int32) + (1 : Int32)) + (1 : Int32)) < (2 : Int32)))).2.1 (by decide) (by decide) k) ?_
      show Go p.tables e below P T54 (mkF m 50 #[.val (.ref so), .val (.ref r_54), .val (.ref r_2), .val (.int (2 : Int32)), .val (.int (((0 : Int32) + (1 : Int32)) + (1 : Int32))), .val (.ref aP)] [])
      refine Go.via (fun t k => XS.aloadN Xh54.here hx rfl (hb hby d16_50) rfl rfl k) ?_
      show Go p.tables e below P T54 (mkF m 51 #[.val (.ref so), .val (.ref r_54), .val (.ref r_2), .val (.int (2 : Int32)), .val (.int (((0 : Int32) + (1 : Int32)) + (1 : Int32))), .val (.ref aP)] [(.ref r_54)])
      obtain ⟨fs, hr, hrun, hended, hW, hsame⟩ := Xh54.leave (v := some (.ref r_54)) (fun h => by rw [Bd.returns] at h; cases h)
      refine ⟨_, _, retA Xh54 hx Bd.returns rfl rfl rfl (hb hby d16_51) hr, hrun, hended, hP _ _ ⟨_, _, rfl, ?_, ⟨_, rfl⟩, hW, hsame.mono (by decide) (by decide)⟩⟩
      show Q16 Z so cs tb kk bx em va kva aV sV tV kV aP sP tP kP h0 n0 _ T54.heap _
      exact ⟨r_54, (.ref aP), rfl, N54, K62, u54_0, u54_1, (Or.inl ⟨(own_i1 hc52).symm, rfl⟩)⟩
theorem own_pd16 : parseMethodDescriptor "(Ljava/lang/String;ZJI)C" = some ⟨[(.object "java/lang/String"), .boolean, .long, .int], some .char⟩ := by decide +kernel
theorem own_pd17 : parseMethodDescriptor "(ICCCCCCC)Ljava/lang/String;" = some ⟨[.int, .char, .char, .char, .char, .char, .char, .char], some (.object "java/lang/String")⟩ := by decide +kernel
theorem own_pd18 : parseMethodDescriptor "(Ljava/lang/String;)Ljava/util/Optional;" = some ⟨[(.object "java/lang/String")], some (.object "java/util/Optional")⟩ := by decide +kernel
theorem ef_0 (m : MethodId) (x0 : Int32) (x1 : Int32) (x2 : Int32) (x3 : Int32) (x4 : Int64) : entryFrame m #[(.int x0), (.int x1), (.int x2), (.int x3), (.long x4)] maxLocals = mkF m 0 #[.val (.int x0), .val (.int x1), .val (.int x2), .val (.int x3), .val (.long x4), .second, .unset, .unset, .unset, .unset, .unset, .unset, .unset, .unset, .unset, .unset, .unset, .unset, .unset, .unset, .unset] [] := by first | (simp [entryFrame, mkF, argsToLocals, Value.category, maxLocals]; done) | rfl
def Q0 (Z : State) (p1 : Int32) (p2 : Int32) (p3 : Int32) (p4 : Int32) (p5 : Int64) (cs : Int32) (fm : Value) (em : Addr) (va : Addr) (kva : ClassId) (aV : Addr) (sV : Addr) (tV : Addr) (kV : ClassId) (aP : Addr) (sP : Addr) (tP : Addr) (kP : ClassId) (h0 : Heap) (n0 : Nat) (v : Option Value) (h : Heap) (L : List Loc) : Prop := v = some (.int (1 : Int32)) ∧ Fr n0 L
set_option maxRecDepth 65536 in
set_option maxHeartbeats 40000000 in
theorem rm0 (l : Launch) (Z : State) (a0 : Array Value) (hw : ∀ d ∈ tables_1, d.before a0 Z = true) (ws : List Jvm.Cond) (p1 : Int32) (p2 : Int32) (p3 : Int32) (p4 : Int32) (p5 : Int64) (cs : Int32) (fm : Value) (em : Addr) (va : Addr) (kva : ClassId) (aV : Addr) (sV : Addr) (tV : Addr) (kV : ClassId) (aP : Addr) (sP : Addr) (tP : Addr) (kP : ClassId) (h0 : Heap) (n0 : Nat) (Z0 : n0 ≤ h0.size) (O0 : Old Z n0 h0) (P1 : Sta Z Z.heap "java/lang/String" "COMPACT_STRINGS" "Z" (.int cs)) (hcs : ¬ cs = (0 : Int32)) (P3 : Sta Z Z.heap "jdk/internal/util/Preconditions" "SIOOBE_FORMATTER" "Ljava/util/function/BiFunction;" fm) (rfm : fm.isRef = true) (P5 : Sta Z Z.heap "java/util/Optional" "EMPTY" "Ljava/util/Optional;" (.ref em)) (P6 : Exa Z Z.heap em "java/util/Optional") (P7 : Fld Z Z.heap em "java/util/Optional" "value" "Ljava/lang/Object;" .null) (P8 : Sta Z Z.heap "com/example/numeric_planner/numericplanner/planner/Solution$Kind" "$VALUES" "[Lcom/example/numeric_planner/numericplanner/planner/Solution$Kind;" (.ref va)) (P9 : Arv Z Z.heap va kva (.object "com/example/numeric_planner/numericplanner/planner/Solution$Kind") (2 : Int32) [(.ref aV), (.ref aP)] .null) (P10 : Exa Z Z.heap va "[Lcom/example/numeric_planner/numericplanner/planner/Solution$Kind;") (P11 : Exa Z Z.heap aV "com/example/numeric_planner/numericplanner/planner/Solution$Kind") (P12 : Fld Z Z.heap aV "com/example/numeric_planner/numericplanner/planner/Solution$Kind" "keyword" "Ljava/lang/String;" (.ref sV)) (P13 : Exa Z Z.heap sV "java/lang/String") (P14 : Fld Z Z.heap sV "java/lang/String" "value" "[B" (.ref tV)) (P15 : Fld Z Z.heap sV "java/lang/String" "coder" "B" (.int (0 : Int32))) (P16 : Arv Z Z.heap tV kV .byte (own_lg ([(118 : Int32), (97 : Int32), (108 : Int32), (117 : Int32), (101 : Int32)] : List Int32)) (([(118 : Int32), (97 : Int32), (108 : Int32), (117 : Int32), (101 : Int32)] : List Int32).map Value.int) (.int (0 : Int32))) (P17 : Exa Z Z.heap aP "com/example/numeric_planner/numericplanner/planner/Solution$Kind") (P18 : Fld Z Z.heap aP "com/example/numeric_planner/numericplanner/planner/Solution$Kind" "keyword" "Ljava/lang/String;" (.ref sP)) (P19 : Exa Z Z.heap sP "java/lang/String") (P20 : Fld Z Z.heap sP "java/lang/String" "value" "[B" (.ref tP)) (P21 : Fld Z Z.heap sP "java/lang/String" "coder" "B" (.int (0 : Int32))) (P22 : Arv Z Z.heap tP kP .byte (own_lg ([(112 : Int32), (111 : Int32), (108 : Int32), (105 : Int32), (99 : Int32), (121 : Int32)] : List Int32)) (([(112 : Int32), (111 : Int32), (108 : Int32), (105 : Int32), (99 : Int32), (121 : Int32)] : List Int32).map Value.int) (.int (0 : Int32))) (P23 : Sta Z Z.heap "com/example/numeric_planner/numericplanner/planner/Solution$Kind" "VALUE" "Lcom/example/numeric_planner/numericplanner/planner/Solution$Kind;" (.ref aV)) (P24 : Sta Z Z.heap "com/example/numeric_planner/numericplanner/planner/Solution$Kind" "POLICY" "Lcom/example/numeric_planner/numericplanner/planner/Solution$Kind;" (.ref aP)) :
    MetFree l x (head1 (Jvm.Cond.code x code maxLocals ret :: ws) room_1) (fun a U => a = #[(.int p1), (.int p2), (.int p3), (.int p4), (.long p5)] ∧ Z.Warmed39 U.vm ∧ U.heap = h0 ∧ CHv Z consts_1 U.vm h0) (fun _ _ _ _ _ => True) (fun _ U o U' => ∃ v L, o = .returned v ∧ Q0 Z p1 p2 p3 p4 p5 cs fm em va kva aV sV tV kV aP sP tP kP h0 n0 v U'.heap L ∧ CHr Z consts_1 U.vm U.heap U'.vm U'.heap ∧ ReturnedEndW U o U' L room_1.cells room_1.slots) := by
  refine MetFree.of_bodySF (plainFor_of_name own_pn3) hisR ?_
  intro p e s m args below meth c s₁ Bd hml0 hP hK
  obtain ⟨rfl, hZ, hh, hCH0⟩ := hP
  have hx := Bd.exec
  have hby := Bd.bytes
  have hml : c.maxLocals = 21 := hml0
  have hown : s.vm.findClass "com/example/numeric_planner/numericplanner/planner/KindOfPinLaw" = some m.cls := findClass_of_methodNamed Bd.named
  have hnm := (name_of_methodNamed Bd.named Bd.method).1
  have X0 : Stand p l e room_1 s m #[(.int p1), (.int p2), (.int p3), (.int p4), (.long p5)] below meth c s₁ [] 0 0 := Stand.of_body Bd
  have X0 : Stand p l e room_1 (s.setVm s.vm) m #[(.int p1), (.int p2), (.int p3), (.int p4), (.long p5)] below meth c s₁ [] 0 0 := X0
  have hZ : Z.Warmed39 (s.setVm s.vm).vm := hZ
  have hown : (s.setVm s.vm).vm.findClass "com/example/numeric_planner/numericplanner/planner/KindOfPinLaw" = some m.cls := hown
  have hS0 : s.Since s.vm 0 := State.WarmedH.since (State.WarmedH.refl s) 0
  have CR0 : CHr Z consts_1 s.vm h0 s.vm h0 := CHr.refl hCH0
  have e0 : s₁.heap = h0 := by rw [← hh, Bd.state]; rfl
  have N0 := Fr.nil n0
  have K0 : Keep h0 h0 [] := Keep.refl _ _
  suffices GO : ∀ P : Outcome → State → Prop, (∀ o U', (∃ v L, o = .returned v ∧ Q0 Z p1 p2 p3 p4 p5 cs fm em va kva aV sV tV kV aP sP tP kP h0 n0 v U'.heap L ∧ CHr Z consts_1 s.vm s.heap U'.vm U'.heap ∧ ReturnedEndW s o U' L room_1.cells room_1.slots) → P o U') → Go p.tables e below P s₁ (mkF m 0 #[.val (.int p1), .val (.int p2), .val (.int p3), .val (.int p4), .val (.long p5), .second, .unset, .unset, .unset, .unset, .unset, .unset, .unset, .unset, .unset, .unset, .unset, .unset, .unset, .unset, .unset] []) by
    obtain ⟨s2, o, st, r⟩ := GO _ (fun _ _ q => q)
    exact ⟨s2, o, castTop (ef_0 m p1 p2 p3 p4 p5) st, r⟩
  intro P hP
  show Go p.tables e below P s₁ (mkF m 0 #[.val (.int p1), .val (.int p2), .val (.int p3), .val (.int p4), .val (.long p5), .second, .unset, .unset, .unset, .unset, .unset, .unset, .unset, .unset, .unset, .unset, .unset, .unset, .unset, .unset, .unset] [])
  refine Go.via (fun t k => XS.iloadN X0.here hx rfl (hb hby at_0) rfl k) ?_
  show Go p.tables e below P s₁ (mkF m 1 #[.val (.int p1), .val (.int p2), .val (.int p3), .val (.int p4), .val (.long p5), .second, .unset, .unset, .unset, .unset, .unset, .unset, .unset, .unset, .unset, .unset, .unset, .unset, .unset, .unset, .unset] [(.int p1)])
  refine Go.via (fun t k => XS.iconst X0.here hx rfl (hb hby at_1) k) ?_
  show Go p.tables e below P s₁ (mkF m 2 #[.val (.int p1), .val (.int p2), .val (.int p3), .val (.int p4), .val (.long p5), .second, .unset, .unset, .unset, .unset, .unset, .unset, .unset, .unset, .unset, .unset, .unset, .unset, .unset, .unset, .unset] [(.int (1 : Int32)), (.int p1)])
  refine Go.via (fun t k => XS.iand X0.here hx rfl (hb hby at_2) rfl k) ?_
  show Go p.tables e below P s₁ (mkF m 3 #[.val (.int p1), .val (.int p2), .val (.int p3), .val (.int p4), .val (.long p5), .second, .unset, .unset, .unset, .unset, .unset, .unset, .unset, .unset, .unset, .unset, .unset, .unset, .unset, .unset, .unset] [(.int (p1 &&& (1 : Int32)))])
  have J2 : ∀ (T2 : State) (locs2 : List Loc) (v2_0 : Int32), Stand p l e room_1 (s.setVm s.vm) m #[(.int p1), (.int p2), (.int p3), (.int p4), (.long p5)] below meth c T2 locs2 0 0 → T2.heap = h0 → Fr n0 locs2 → v2_0 = (if (p1 &&& (1 : Int32)) = (0 : Int32) then (0 : Int32) else (1 : Int32)) → Go p.tables e below P T2 (mkF m 11 #[.val (.int p1), .val (.int p2), .val (.int p3), .val (.int p4), .val (.long p5), .second, .unset, .unset, .unset, .unset, .unset, .unset, .unset, .unset, .unset, .unset, .unset, .unset, .unset, .unset, .unset] [(.int v2_0)]) := by
    intro T2 locs2 v2_0 X2 e2 N2 hv2_0
    have hbv2_0 : v2_0 = 0 ∨ v2_0 = 1 := by (subst hv2_0; (repeat' split) <;> first | (left; rfl) | (right; rfl))
    show Go p.tables e below P T2 (mkF m 11 #[.val (.int p1), .val (.int p2), .val (.int p3), .val (.int p4), .val (.long p5), .second, .unset, .unset, .unset, .unset, .unset, .unset, .unset, .unset, .unset, .unset, .unset, .unset, .unset, .unset, .unset] [(.int v2_0)])
    refine Go.via (fun t k => XS.istore X2.here hx rfl (hb hby at_11) rfl (l' := #[.val (.int p1), .val (.int p2), .val (.int p3), .val (.int p4), .val (.long p5), .second, .val (.int v2_0), .unset, .unset, .unset, .unset, .unset, .unset, .unset, .unset, .unset, .unset, .unset, .unset, .unset, .unset]) rfl k) ?_
    show Go p.tables e below P T2 (mkF m 13 #[.val (.int p1), .val (.int p2), .val (.int p3), .val (.int p4), .val (.long p5), .second, .val (.int v2_0), .unset, .unset, .unset, .unset, .unset, .unset, .unset, .unset, .unset, .unset, .unset, .unset, .unset, .unset] [])
    refine Go.via (fun t k => XS.iloadN X2.here hx rfl (hb hby at_13) rfl k) ?_
    show Go p.tables e below P T2 (mkF m 14 #[.val (.int p1), .val (.int p2), .val (.int p3), .val (.int p4), .val (.long p5), .second, .val (.int v2_0), .unset, .unset, .unset, .unset, .unset, .unset, .unset, .unset, .unset, .unset, .unset, .unset, .unset, .unset] [(.int p1)])
    refine Go.via (fun t k => XS.iconst X2.here hx rfl (hb hby at_14) k) ?_
    show Go p.tables e below P T2 (mkF m 15 #[.val (.int p1), .val (.int p2), .val (.int p3), .val (.int p4), .val (.long p5), .second, .val (.int v2_0), .unset, .unset, .unset, .unset, .unset, .unset, .unset, .unset, .unset, .unset, .unset, .unset, .unset, .unset] [(.int (2 : Int32)), (.int p1)])
    refine Go.via (fun t k => XS.iand X2.here hx rfl (hb hby at_15) rfl k) ?_
    show Go p.tables e below P T2 (mkF m 16 #[.val (.int p1), .val (.int p2), .val (.int p3), .val (.int p4), .val (.long p5), .second, .val (.int v2_0), .unset, .unset, .unset, .unset, .unset, .unset, .unset, .unset, .unset, .unset, .unset, .unset, .unset, .unset] [(.int (p1 &&& (2 : Int32)))])
    have J4 : ∀ (T4 : State) (locs4 : List Loc) (v4_0 : Int32), Stand p l e room_1 (s.setVm s.vm) m #[(.int p1), (.int p2), (.int p3), (.int p4), (.long p5)] below meth c T4 locs4 0 0 → T4.heap = h0 → Fr n0 locs4 → v4_0 = (if (p1 &&& (2 : Int32)) = (0 : Int32) then (0 : Int32) else (1 : Int32)) → Go p.tables e below P T4 (mkF m 24 #[.val (.int p1), .val (.int p2), .val (.int p3), .val (.int p4), .val (.long p5), .second, .val (.int v2_0), .unset, .unset, .unset, .unset, .unset, .unset, .unset, .unset, .unset, .unset, .unset, .unset, .unset, .unset] [(.int v4_0)]) := by
      intro T4 locs4 v4_0 X4 e4 N4 hv4_0
      have hbv4_0 : v4_0 = 0 ∨ v4_0 = 1 := by (subst hv4_0; (repeat' split) <;> first | (left; rfl) | (right; rfl))
      show Go p.tables e below P T4 (mkF m 24 #[.val (.int p1), .val (.int p2), .val (.int p3), .val (.int p4), .val (.long p5), .second, .val (.int v2_0), .unset, .unset, .unset, .unset, .unset, .unset, .unset, .unset, .unset, .unset, .unset, .unset, .unset, .unset] [(.int v4_0)])
      refine Go.via (fun t k => XS.istore X4.here hx rfl (hb hby at_24) rfl (l' := #[.val (.int p1), .val (.int p2), .val (.int p3), .val (.int p4), .val (.long p5), .second, .val (.int v2_0), .val (.int v4_0), .unset, .unset, .unset, .unset, .unset, .unset, .unset, .unset, .unset, .unset, .unset, .unset, .unset]) rfl k) ?_
      show Go p.tables e below P T4 (mkF m 26 #[.val (.int p1), .val (.int p2), .val (.int p3), .val (.int p4), .val (.long p5), .second, .val (.int v2_0), .val (.int v4_0), .unset, .unset, .unset, .unset, .unset, .unset, .unset, .unset, .unset, .unset, .unset, .unset, .unset] [])
      refine Go.via (fun t k => XS.iloadN X4.here hx rfl (hb hby at_26) rfl k) ?_
      show Go p.tables e below P T4 (mkF m 27 #[.val (.int p1), .val (.int p2), .val (.int p3), .val (.int p4), .val (.long p5), .second, .val (.int v2_0), .val (.int v4_0), .unset, .unset, .unset, .unset, .unset, .unset, .unset, .unset, .unset, .unset, .unset, .unset, .unset] [(.int p1)])
      refine Go.via (fun t k => XS.iconst X4.here hx rfl (hb hby at_27) k) ?_
      show Go p.tables e below P T4 (mkF m 28 #[.val (.int p1), .val (.int p2), .val (.int p3), .val (.int p4), .val (.long p5), .second, .val (.int v2_0), .val (.int v4_0), .unset, .unset, .unset, .unset, .unset, .unset, .unset, .unset, .unset, .unset, .unset, .unset, .unset] [(.int (4 : Int32)), (.int p1)])
      refine Go.via (fun t k => XS.iand X4.here hx rfl (hb hby at_28) rfl k) ?_
      show Go p.tables e below P T4 (mkF m 29 #[.val (.int p1), .val (.int p2), .val (.int p3), .val (.int p4), .val (.long p5), .second, .val (.int v2_0), .val (.int v4_0), .unset, .unset, .unset, .unset, .unset, .unset, .unset, .unset, .unset, .unset, .unset, .unset, .unset] [(.int (p1 &&& (4 : Int32)))])
      have J6 : ∀ (T6 : State) (locs6 : List Loc) (v6_0 : Int32), Stand p l e room_1 (s.setVm s.vm) m #[(.int p1), (.int p2), (.int p3), (.int p4), (.long p5)] below meth c T6 locs6 0 0 → T6.heap = h0 → Fr n0 locs6 → v6_0 = (if (p1 &&& (4 : Int32)) = (0 : Int32) then (0 : Int32) else (1 : Int32)) → Go p.tables e below P T6 (mkF m 37 #[.val (.int p1), .val (.int p2), .val (.int p3), .val (.int p4), .val (.long p5), .second, .val (.int v2_0), .val (.int v4_0), .unset, .unset, .unset, .unset, .unset, .unset, .unset, .unset, .unset, .unset, .unset, .unset, .unset] [(.int v6_0)]) := by
        intro T6 locs6 v6_0 X6 e6 N6 hv6_0
        have hbv6_0 : v6_0 = 0 ∨ v6_0 = 1 := by (subst hv6_0; (repeat' split) <;> first | (left; rfl) | (right; rfl))
        show Go p.tables e below P T6 (mkF m 37 #[.val (.int p1), .val (.int p2), .val (.int p3), .val (.int p4), .val (.long p5), .second, .val (.int v2_0), .val (.int v4_0), .unset, .unset, .unset, .unset, .unset, .unset, .unset, .unset, .unset, .unset, .unset, .unset, .unset] [(.int v6_0)])
        refine Go.via (fun t k => XS.istore X6.here hx rfl (hb hby at_37) rfl (l' := #[.val (.int p1), .val (.int p2), .val (.int p3), .val (.int p4), .val (.long p5), .second, .val (.int v2_0), .val (.int v4_0), .val (.int v6_0), .unset, .unset, .unset, .unset, .unset, .unset, .unset, .unset, .unset, .unset, .unset, .unset]) rfl k) ?_
        show Go p.tables e below P T6 (mkF m 39 #[.val (.int p1), .val (.int p2), .val (.int p3), .val (.int p4), .val (.long p5), .second, .val (.int v2_0), .val (.int v4_0), .val (.int v6_0), .unset, .unset, .unset, .unset, .unset, .unset, .unset, .unset, .unset, .unset, .unset, .unset] [])
        refine Go.via (fun t k => XS.iloadN X6.here hx rfl (hb hby at_39) rfl k) ?_
        show Go p.tables e below P T6 (mkF m 40 #[.val (.int p1), .val (.int p2), .val (.int p3), .val (.int p4), .val (.long p5), .second, .val (.int v2_0), .val (.int v4_0), .val (.int v6_0), .unset, .unset, .unset, .unset, .unset, .unset, .unset, .unset, .unset, .unset, .unset, .unset] [(.int p2)])
        refine Go.via (fun t k => XS.bipush X6.here hx rfl (hb hby at_40) k) ?_
        show Go p.tables e below P T6 (mkF m 42 #[.val (.int p1), .val (.int p2), .val (.int p3), .val (.int p4), .val (.long p5), .second, .val (.int v2_0), .val (.int v4_0), .val (.int v6_0), .unset, .unset, .unset, .unset, .unset, .unset, .unset, .unset, .unset, .unset, .unset, .unset] [(.int (7 : Int32)), (.int p2)])
        refine Go.via (fun t k => XS.iand X6.here hx rfl (hb hby at_42) rfl k) ?_
        show Go p.tables e below P T6 (mkF m 43 #[.val (.int p1), .val (.int p2), .val (.int p3), .val (.int p4), .val (.long p5), .second, .val (.int v2_0), .val (.int v4_0), .val (.int v6_0), .unset, .unset, .unset, .unset, .unset, .unset, .unset, .unset, .unset, .unset, .unset, .unset] [(.int (p2 &&& (7 : Int32)))])
        refine Go.via (fun t k => XS.istore X6.here hx rfl (hb hby at_43) rfl (l' := #[.val (.int p1), .val (.int p2), .val (.int p3), .val (.int p4), .val (.long p5), .second, .val (.int v2_0), .val (.int v4_0), .val (.int v6_0), .val (.int (p2 &&& (7 : Int32))), .unset, .unset, .unset, .unset, .unset, .unset, .unset, .unset, .unset, .unset, .unset]) rfl k) ?_
        show Go p.tables e below P T6 (mkF m 45 #[.val (.int p1), .val (.int p2), .val (.int p3), .val (.int p4), .val (.long p5), .second, .val (.int v2_0), .val (.int v4_0), .val (.int v6_0), .val (.int (p2 &&& (7 : Int32))), .unset, .unset, .unset, .unset, .unset, .unset, .unset, .unset, .unset, .unset, .unset] [])
        refine Go.via (fun t k => XS.iload X6.here hx rfl (hb hby at_45) rfl k) ?_
        show Go p.tables e below P T6 (mkF m 47 #[.val (.int p1), .val (.int p2), .val (.int p3), .val (.int p4), .val (.long p5), .second, .val (.int v2_0), .val (.int v4_0), .val (.int v6_0), .val (.int (p2 &&& (7 : Int32))), .unset, .unset, .unset, .unset, .unset, .unset, .unset, .unset, .unset, .unset, .unset] [(.int v2_0)])
        have LP8 : ∀ (T8 : State) (locs8 : List Loc) (hp8 : Heap) (ra : Addr) (ta : Addr) (ka : ClassId) (ba : List Int32) (vm8 : Vm) (kn8 : Nat), Z.Warmed39 (s.setVm vm8).vm → (s.setVm vm8).vm.findClass "com/example/numeric_planner/numericplanner/planner/KindOfPinLaw" = some m.cls → s.Since vm8 kn8 → kn8 ≤ hp8.size → CHr Z consts_1 s.vm h0 vm8 hp8 → Stand p l e room_1 (s.setVm vm8) m #[(.int p1), (.int p2), (.int p3), (.int p4), (.long p5)] below meth c T8 locs8 2 28 → T8.heap = hp8 → Fr n0 locs8 → n0 ≤ hp8.size → Keep h0 hp8 [] → Old Z n0 hp8 → Exa Z hp8 ra "java/lang/String" → Fld Z hp8 ra "java/lang/String" "value" "[B" (.ref ta) → Fld Z hp8 ra "java/lang/String" "coder" "B" (.int (0 : Int32)) → Arv Z hp8 ta ka .byte (own_lg ba) (ba.map Value.int) (.int (0 : Int32)) → Go p.tables e below P T8 (mkF m 57 #[.val (.int p1), .val (.int p2), .val (.int p3), .val (.int p4), .val (.long p5), .second, .val (.int v2_0), .val (.int v4_0), .val (.int v6_0), .val (.int (p2 &&& (7 : Int32))), .unset, .unset, .unset, .unset, .unset, .unset, .unset, .unset, .unset, .unset, .unset] [(.ref ra)]) := by
          intro T8 locs8 hp8 ra ta ka ba vm8 kn8 hZ hown hS8 hk8 CR8 X8 e8 N8 Z8 K8 O8 F8_0 F8_1 F8_2 F8_3
          show Go p.tables e below P T8 (mkF m 57 #[.val (.int p1), .val (.int p2), .val (.int p3), .val (.int p4), .val (.long p5), .second, .val (.int v2_0), .val (.int v4_0), .val (.int v6_0), .val (.int (p2 &&& (7 : Int32))), .unset, .unset, .unset, .unset, .unset, .unset, .unset, .unset, .unset, .unset, .unset] [(.ref ra)])
          refine Go.via (fun t k => XS.astore X8.here hx rfl (hb hby at_57) rfl rfl (l' := #[.val (.int p1), .val (.int p2), .val (.int p3), .val (.int p4), .val (.long p5), .second, .val (.int v2_0), .val (.int v4_0), .val (.int v6_0), .val (.int (p2 &&& (7 : Int32))), .val (.ref ra), .unset, .unset, .unset, .unset, .unset, .unset, .unset, .unset, .unset, .unset]) rfl k) ?_
          show Go p.tables e below P T8 (mkF m 59 #[.val (.int p1), .val (.int p2), .val (.int p3), .val (.int p4), .val (.long p5), .second, .val (.int v2_0), .val (.int v4_0), .val (.int v6_0), .val (.int (p2 &&& (7 : Int32))), .val (.ref ra), .unset, .unset, .unset, .unset, .unset, .unset, .unset, .unset, .unset, .unset] [])
          refine Go.via (fun t k => XS.aload X8.here hx rfl (hb hby at_59) rfl rfl k) ?_
          show Go p.tables e below P T8 (mkF m 61 #[.val (.int p1), .val (.int p2), .val (.int p3), .val (.int p4), .val (.long p5), .second, .val (.int v2_0), .val (.int v4_0), .val (.int v6_0), .val (.int (p2 &&& (7 : Int32))), .val (.ref ra), .unset, .unset, .unset, .unset, .unset, .unset, .unset, .unset, .unset, .unset] [(.ref ra)])
          refine Go.via (fun t k => XS.iload X8.here hx rfl (hb hby at_61) rfl k) ?_
          show Go p.tables e below P T8 (mkF m 63 #[.val (.int p1), .val (.int p2), .val (.int p3), .val (.int p4), .val (.long p5), .second, .val (.int v2_0), .val (.int v4_0), .val (.int v6_0), .val (.int (p2 &&& (7 : Int32))), .val (.ref ra), .unset, .unset, .unset, .unset, .unset, .unset, .unset, .unset, .unset, .unset] [(.int v4_0), (.ref ra)])
          refine Go.via (fun t k => XS.lload X8.here hx rfl (hb hby at_63) rfl k) ?_
          show Go p.tables e below P T8 (mkF m 65 #[.val (.int p1), .val (.int p2), .val (.int p3), .val (.int p4), .val (.long p5), .second, .val (.int v2_0), .val (.int v4_0), .val (.int v6_0), .val (.int (p2 &&& (7 : Int32))), .val (.ref ra), .unset, .unset, .unset, .unset, .unset, .unset, .unset, .unset, .unset, .unset] [(.long p5), (.int v4_0), (.ref ra)])
          refine Go.via (fun t k => XS.iconst X8.here hx rfl (hb hby at_65) k) ?_
          show Go p.tables e below P T8 (mkF m 66 #[.val (.int p1), .val (.int p2), .val (.int p3), .val (.int p4), .val (.long p5), .second, .val (.int v2_0), .val (.int v4_0), .val (.int v6_0), .val (.int (p2 &&& (7 : Int32))), .val (.ref ra), .unset, .unset, .unset, .unset, .unset, .unset, .unset, .unset, .unset, .unset] [(.int (0 : Int32)), (.long p5), (.int v4_0), (.ref ra)])
          obtain ⟨_, _, ⟨T9, L9, k9, n9⟩, -, X9, ⟨Lc9, hQ9, l9, y9, z9⟩, st9⟩ := Jvm.LawKit.callS X8 hx (y := (⟨"com/example/numeric_planner/numericplanner/planner/KindOfPinLaw", "pick", "(Ljava/lang/String;ZJI)C"⟩ : MethodName)) hown (mvT hZ (hw _ (List.mem_of_getElem? (i := 8) rfl))) (mvT hZ (hw _ (List.mem_of_getElem? (i := 9) rfl))) (mvT hZ (hw _ (List.mem_of_getElem? (i := 10) rfl))) (mvT hZ (hw _ (List.mem_of_getElem? (i := 11) rfl))) (by decide) (backOf (W := 0) (rm1 l Z a0 hw [] ra v4_0 p5 (0 : Int32) cs fm ta ka ba hp8 n0 Z8 O8 P1 (by first | assumption | decide | omega : ¬ cs = (0 : Int32)) P3 (by first | assumption | decide | omega : fm.isRef = true) F8_0 F8_1 F8_2 F8_3 (by decide)) hZ (hw _ (List.mem_of_getElem? (i := 11) rfl)) (hw _ (List.mem_of_getElem? (i := 10) rfl)) (by decide) (by decide)) (g := (mkF m 66 #[.val (.int p1), .val (.int p2), .val (.int p3), .val (.int p4), .val (.long p5), .second, .val (.int v2_0), .val (.int v4_0), .val (.int v6_0), .val (.int (p2 &&& (7 : Int32))), .val (.ref ra), .unset, .unset, .unset, .unset, .unset, .unset, .unset, .unset, .unset, .unset] [(.int (0 : Int32)), (.long p5), (.int v4_0), (.ref ra)])) rfl (by rw [hml]; rfl) (argsL := [(.ref ra), (.int v4_0), (.long p5), (.int (0 : Int32))]) (rest := []) (lenOf own_pd16 rfl) rfl (by show 2 * 0 + _ ≤ _; exact Nat.le_of_eq rfl) (hb hby at_66) (fun _ _ => ⟨rfl, e8, (by decide : 2 + 0 ≤ _), (by decide : 28 + 0 ≤ _)⟩)
          dsimp only [Pt.U, Pt.locs, Pt.cells, Pt.slots] at X9 l9 y9 z9 st9 hQ9
          subst l9 y9 z9
          obtain ⟨cc_9, rfl, Nq9, hh9, u9_0⟩ := hQ9
          obtain ⟨lc9, Xh9, N9⟩ := own_hide X9 (Fr.app N8 Nq9)
          clear X9
          refine Go.via st9 ?_
          show Go p.tables e below P T9 (mkF m 69 #[.val (.int p1), .val (.int p2), .val (.int p3), .val (.int p4), .val (.long p5), .second, .val (.int v2_0), .val (.int v4_0), .val (.int v6_0), .val (.int (p2 &&& (7 : Int32))), .val (.ref ra), .unset, .unset, .unset, .unset, .unset, .unset, .unset, .unset, .unset, .unset] [(.int cc_9)])
          refine Go.via (fun t k => XS.istore Xh9.here hx rfl (hb hby at_69) rfl (l' := #[.val (.int p1), .val (.int p2), .val (.int p3), .val (.int p4), .val (.long p5), .second, .val (.int v2_0), .val (.int v4_0), .val (.int v6_0), .val (.int (p2 &&& (7 : Int32))), .val (.ref ra), .val (.int cc_9), .unset, .unset, .unset, .unset, .unset, .unset, .unset, .unset, .unset]) rfl k) ?_
          show Go p.tables e below P T9 (mkF m 71 #[.val (.int p1), .val (.int p2), .val (.int p3), .val (.int p4), .val (.long p5), .second, .val (.int v2_0), .val (.int v4_0), .val (.int v6_0), .val (.int (p2 &&& (7 : Int32))), .val (.ref ra), .val (.int cc_9), .unset, .unset, .unset, .unset, .unset, .unset, .unset, .unset, .unset] [])
          refine Go.via (fun t k => XS.aload Xh9.here hx rfl (hb hby at_71) rfl rfl k) ?_
          show Go p.tables e below P T9 (mkF m 73 #[.val (.int p1), .val (.int p2), .val (.int p3), .val (.int p4), .val (.long p5), .second, .val (.int v2_0), .val (.int v4_0), .val (.int v6_0), .val (.int (p2 &&& (7 : Int32))), .val (.ref ra), .val (.int cc_9), .unset, .unset, .unset, .unset, .unset, .unset, .unset, .unset, .unset] [(.ref ra)])
          refine Go.via (fun t k => XS.iload Xh9.here hx rfl (hb hby at_73) rfl k) ?_
          show Go p.tables e below P T9 (mkF m 75 #[.val (.int p1), .val (.int p2), .val (.int p3), .val (.int p4), .val (.long p5), .second, .val (.int v2_0), .val (.int v4_0), .val (.int v6_0), .val (.int (p2 &&& (7 : Int32))), .val (.ref ra), .val (.int cc_9), .unset, .unset, .unset, .unset, .unset, .unset, .unset, .unset, .unset] [(.int v4_0), (.ref ra)])
          refine Go.via (fun t k => XS.lload Xh9.here hx rfl (hb hby at_75) rfl k) ?_
          show Go p.tables e below P T9 (mkF m 77 #[.val (.int p1), .val (.int p2), .val (.int p3), .val (.int p4), .val (.long p5), .second, .val (.int v2_0), .val (.int v4_0), .val (.int v6_0), .val (.int (p2 &&& (7 : Int32))), .val (.ref ra), .val (.int cc_9), .unset, .unset, .unset, .unset, .unset, .unset, .unset, .unset, .unset] [(.long p5), (.int v4_0), (.ref ra)])
          refine Go.via (fun t k => XS.iconst Xh9.here hx rfl (hb hby at_77) k) ?_
          show Go p.tables e below P T9 (mkF m 78 #[.val (.int p1), .val (.int p2), .val (.int p3), .val (.int p4), .val (.long p5), .second, .val (.int v2_0), .val (.int v4_0), .val (.int v6_0), .val (.int (p2 &&& (7 : Int32))), .val (.ref ra), .val (.int cc_9), .unset, .unset, .unset, .unset, .unset, .unset, .unset, .unset, .unset] [(.int (1 : Int32)), (.long p5), (.int v4_0), (.ref ra)])
          obtain ⟨_, _, ⟨T10, L10, k10, n10⟩, -, X10, ⟨Lc10, hQ10, l10, y10, z10⟩, st10⟩ := Jvm.LawKit.callS Xh9 hx (y := (⟨"com/example/numeric_planner/numericplanner/planner/KindOfPinLaw", "pick", "(Ljava/lang/String;ZJI)C"⟩ : MethodName)) hown (mvT hZ (hw _ (List.mem_of_getElem? (i := 8) rfl))) (mvT hZ (hw _ (List.mem_of_getElem? (i := 9) rfl))) (mvT hZ (hw _ (List.mem_of_getElem? (i := 10) rfl))) (mvT hZ (hw _ (List.mem_of_getElem? (i := 11) rfl))) (by decide) (backOf (W := 0) (rm1 l Z a0 hw [] ra v4_0 p5 (1 : Int32) cs fm ta ka ba hp8 n0 Z8 O8 P1 (by first | assumption | decide | omega : ¬ cs = (0 : Int32)) P3 (by first | assumption | decide | omega : fm.isRef = true) F8_0 F8_1 F8_2 F8_3 (by decide)) hZ (hw _ (List.mem_of_getElem? (i := 11) rfl)) (hw _ (List.mem_of_getElem? (i := 10) rfl)) (by decide) (by decide)) (g := (mkF m 78 #[.val (.int p1), .val (.int p2), .val (.int p3), .val (.int p4), .val (.long p5), .second, .val (.int v2_0), .val (.int v4_0), .val (.int v6_0), .val (.int (p2 &&& (7 : Int32))), .val (.ref ra), .val (.int cc_9), .unset, .unset, .unset, .unset, .unset, .unset, .unset, .unset, .unset] [(.int (1 : Int32)), (.long p5), (.int v4_0), (.ref ra)])) rfl (by rw [hml]; rfl) (argsL := [(.ref ra), (.int v4_0), (.long p5), (.int (1 : Int32))]) (rest := []) (lenOf own_pd16 rfl) rfl (by show 2 * 0 + _ ≤ _; exact Nat.le_of_eq rfl) (hb hby at_78) (fun _ _ => ⟨rfl, hh9, (by decide : 2 + 0 ≤ _), (by decide : 28 + 0 ≤ _)⟩)
          dsimp only [Pt.U, Pt.locs, Pt.cells, Pt.slots] at X10 l10 y10 z10 st10 hQ10
          subst l10 y10 z10
          obtain ⟨cc_10, rfl, Nq10, hh10, u10_0⟩ := hQ10
          obtain ⟨lc10, Xh10, N10⟩ := own_hide X10 (Fr.app N9 Nq10)
          clear X10
          refine Go.via st10 ?_
          show Go p.tables e below P T10 (mkF m 81 #[.val (.int p1), .val (.int p2), .val (.int p3), .val (.int p4), .val (.long p5), .second, .val (.int v2_0), .val (.int v4_0), .val (.int v6_0), .val (.int (p2 &&& (7 : Int32))), .val (.ref ra), .val (.int cc_9), .unset, .unset, .unset, .unset, .unset, .unset, .unset, .unset, .unset] [(.int cc_10)])
          refine Go.via (fun t k => XS.istore Xh10.here hx rfl (hb hby at_81) rfl (l' := #[.val (.int p1), .val (.int p2), .val (.int p3), .val (.int p4), .val (.long p5), .second, .val (.int v2_0), .val (.int v4_0), .val (.int v6_0), .val (.int (p2 &&& (7 : Int32))), .val (.ref ra), .val (.int cc_9), .val (.int cc_10), .unset, .unset, .unset, .unset, .unset, .unset, .unset, .unset]) rfl k) ?_
          show Go p.tables e below P T10 (mkF m 83 #[.val (.int p1), .val (.int p2), .val (.int p3), .val (.int p4), .val (.long p5), .second, .val (.int v2_0), .val (.int v4_0), .val (.int v6_0), .val (.int (p2 &&& (7 : Int32))), .val (.ref ra), .val (.int cc_9), .val (.int cc_10), .unset, .unset, .unset, .unset, .unset, .unset, .unset, .unset] [])
          refine Go.via (fun t k => XS.aload Xh10.here hx rfl (hb hby at_83) rfl rfl k) ?_
          show Go p.tables e below P T10 (mkF m 85 #[.val (.int p1), .val (.int p2), .val (.int p3), .val (.int p4), .val (.long p5), .second, .val (.int v2_0), .val (.int v4_0), .val (.int v6_0), .val (.int (p2 &&& (7 : Int32))), .val (.ref ra), .val (.int cc_9), .val (.int cc_10), .unset, .unset, .unset, .unset, .unset, .unset, .unset, .unset] [(.ref ra)])
          refine Go.via (fun t k => XS.iload Xh10.here hx rfl (hb hby at_85) rfl k) ?_
          show Go p.tables e below P T10 (mkF m 87 #[.val (.int p1), .val (.int p2), .val (.int p3), .val (.int p4), .val (.long p5), .second, .val (.int v2_0), .val (.int v4_0), .val (.int v6_0), .val (.int (p2 &&& (7 : Int32))), .val (.ref ra), .val (.int cc_9), .val (.int cc_10), .unset, .unset, .unset, .unset, .unset, .unset, .unset, .unset] [(.int v4_0), (.ref ra)])
          refine Go.via (fun t k => XS.lload Xh10.here hx rfl (hb hby at_87) rfl k) ?_
          show Go p.tables e below P T10 (mkF m 89 #[.val (.int p1), .val (.int p2), .val (.int p3), .val (.int p4), .val (.long p5), .second, .val (.int v2_0), .val (.int v4_0), .val (.int v6_0), .val (.int (p2 &&& (7 : Int32))), .val (.ref ra), .val (.int cc_9), .val (.int cc_10), .unset, .unset, .unset, .unset, .unset, .unset, .unset, .unset] [(.long p5), (.int v4_0), (.ref ra)])
          refine Go.via (fun t k => XS.iconst Xh10.here hx rfl (hb hby at_89) k) ?_
          show Go p.tables e below P T10 (mkF m 90 #[.val (.int p1), .val (.int p2), .val (.int p3), .val (.int p4), .val (.long p5), .second, .val (.int v2_0), .val (.int v4_0), .val (.int v6_0), .val (.int (p2 &&& (7 : Int32))), .val (.ref ra), .val (.int cc_9), .val (.int cc_10), .unset, .unset, .unset, .unset, .unset, .unset, .unset, .unset] [(.int (2 : Int32)), (.long p5), (.int v4_0), (.ref ra)])
          obtain ⟨_, _, ⟨T11, L11, k11, n11⟩, -, X11, ⟨Lc11, hQ11, l11, y11, z11⟩, st11⟩ := Jvm.LawKit.callS Xh10 hx (y := (⟨"com/example/numeric_planner/numericplanner/planner/KindOfPinLaw", "pick", "(Ljava/lang/String;ZJI)C"⟩ : MethodName)) hown (mvT hZ (hw _ (List.mem_of_getElem? (i := 8) rfl))) (mvT hZ (hw _ (List.mem_of_getElem? (i := 9) rfl))) (mvT hZ (hw _ (List.mem_of_getElem? (i := 10) rfl))) (mvT hZ (hw _ (List.mem_of_getElem? (i := 11) rfl))) (by decide) (backOf (W := 0) (rm1 l Z a0 hw [] ra v4_0 p5 (2 : Int32) cs fm ta ka ba hp8 n0 Z8 O8 P1 (by first | assumption | decide | omega : ¬ cs = (0 : Int32)) P3 (by first | assumption | decide | omega : fm.isRef = true) F8_0 F8_1 F8_2 F8_3 (by decide)) hZ (hw _ (List.mem_of_getElem? (i := 11) rfl)) (hw _ (List.mem_of_getElem? (i := 10) rfl)) (by decide) (by decide)) (g := (mkF m 90 #[.val (.int p1), .val (.int p2), .val (.int p3), .val (.int p4), .val (.long p5), .second, .val (.int v2_0), .val (.int v4_0), .val (.int v6_0), .val (.int (p2 &&& (7 : Int32))), .val (.ref ra), .val (.int cc_9), .val (.int cc_10), .unset, .unset, .unset, .unset, .unset, .unset, .unset, .unset] [(.int (2 : Int32)), (.long p5), (.int v4_0), (.ref ra)])) rfl (by rw [hml]; rfl) (argsL := [(.ref ra), (.int v4_0), (.long p5), (.int (2 : Int32))]) (rest := []) (lenOf own_pd16 rfl) rfl (by show 2 * 0 + _ ≤ _; exact Nat.le_of_eq rfl) (hb hby at_90) (fun _ _ => ⟨rfl, hh10, (by decide : 2 + 0 ≤ _), (by decide : 28 + 0 ≤ _)⟩)
          dsimp only [Pt.U, Pt.locs, Pt.cells, Pt.slots] at X11 l11 y11 z11 st11 hQ11
          subst l11 y11 z11
          obtain ⟨cc_11, rfl, Nq11, hh11, u11_0⟩ := hQ11
          obtain ⟨lc11, Xh11, N11⟩ := own_hide X11 (Fr.app N10 Nq11)
          clear X11
          refine Go.via st11 ?_
          show Go p.tables e below P T11 (mkF m 93 #[.val (.int p1), .val (.int p2), .val (.int p3), .val (.int p4), .val (.long p5), .second, .val (.int v2_0), .val (.int v4_0), .val (.int v6_0), .val (.int (p2 &&& (7 : Int32))), .val (.ref ra), .val (.int cc_9), .val (.int cc_10), .unset, .unset, .unset, .unset, .unset, .unset, .unset, .unset] [(.int cc_11)])
          refine Go.via (fun t k => XS.istore Xh11.here hx rfl (hb hby at_93) rfl (l' := #[.val (.int p1), .val (.int p2), .val (.int p3), .val (.int p4), .val (.long p5), .second, .val (.int v2_0), .val (.int v4_0), .val (.int v6_0), .val (.int (p2 &&& (7 : Int32))), .val (.ref ra), .val (.int cc_9), .val (.int cc_10), .val (.int cc_11), .unset, .unset, .unset, .unset, .unset, .unset, .unset]) rfl k) ?_
          show Go p.tables e below P T11 (mkF m 95 #[.val (.int p1), .val (.int p2), .val (.int p3), .val (.int p4), .val (.long p5), .second, .val (.int v2_0), .val (.int v4_0), .val (.int v6_0), .val (.int (p2 &&& (7 : Int32))), .val (.ref ra), .val (.int cc_9), .val (.int cc_10), .val (.int cc_11), .unset, .unset, .unset, .unset, .unset, .unset, .unset] [])
          refine Go.via (fun t k => XS.aload Xh11.here hx rfl (hb hby at_95) rfl rfl k) ?_
          show Go p.tables e below P T11 (mkF m 97 #[.val (.int p1), .val (.int p2), .val (.int p3), .val (.int p4), .val (.long p5), .second, .val (.int v2_0), .val (.int v4_0), .val (.int v6_0), .val (.int (p2 &&& (7 : Int32))), .val (.ref ra), .val (.int cc_9), .val (.int cc_10), .val (.int cc_11), .unset, .unset, .unset, .unset, .unset, .unset, .unset] [(.ref ra)])
          refine Go.via (fun t k => XS.iload Xh11.here hx rfl (hb hby at_97) rfl k) ?_
          show Go p.tables e below P T11 (mkF m 99 #[.val (.int p1), .val (.int p2), .val (.int p3), .val (.int p4), .val (.long p5), .second, .val (.int v2_0), .val (.int v4_0), .val (.int v6_0), .val (.int (p2 &&& (7 : Int32))), .val (.ref ra), .val (.int cc_9), .val (.int cc_10), .val (.int cc_11), .unset, .unset, .unset, .unset, .unset, .unset, .unset] [(.int v4_0), (.ref ra)])
          refine Go.via (fun t k => XS.lload Xh11.here hx rfl (hb hby at_99) rfl k) ?_
          show Go p.tables e below P T11 (mkF m 101 #[.val (.int p1), .val (.int p2), .val (.int p3), .val (.int p4), .val (.long p5), .second, .val (.int v2_0), .val (.int v4_0), .val (.int v6_0), .val (.int (p2 &&& (7 : Int32))), .val (.ref ra), .val (.int cc_9), .val (.int cc_10), .val (.int cc_11), .unset, .unset, .unset, .unset, .unset, .unset, .unset] [(.long p5), (.int v4_0), (.ref ra)])
          refine Go.via (fun t k => XS.iconst Xh11.here hx rfl (hb hby at_101) k) ?_
          show Go p.tables e below P T11 (mkF m 102 #[.val (.int p1), .val (.int p2), .val (.int p3), .val (.int p4), .val (.long p5), .second, .val (.int v2_0), .val (.int v4_0), .val (.int v6_0), .val (.int (p2 &&& (7 : Int32))), .val (.ref ra), .val (.int cc_9), .val (.int cc_10), .val (.int cc_11), .unset, .unset, .unset, .unset, .unset, .unset, .unset] [(.int (3 : Int32)), (.long p5), (.int v4_0), (.ref ra)])
          obtain ⟨_, _, ⟨T12, L12, k12, n12⟩, -, X12, ⟨Lc12, hQ12, l12, y12, z12⟩, st12⟩ := Jvm.LawKit.callS Xh11 hx (y := (⟨"com/example/numeric_planner/numericplanner/planner/KindOfPinLaw", "pick", "(Ljava/lang/String;ZJI)C"⟩ : MethodName)) hown (mvT hZ (hw _ (List.mem_of_getElem? (i := 8) rfl))) (mvT hZ (hw _ (List.mem_of_getElem? (i := 9) rfl))) (mvT hZ (hw _ (List.mem_of_getElem? (i := 10) rfl))) (mvT hZ (hw _ (List.mem_of_getElem? (i := 11) rfl))) (by decide) (backOf (W := 0) (rm1 l Z a0 hw [] ra v4_0 p5 (3 : Int32) cs fm ta ka ba hp8 n0 Z8 O8 P1 (by first | assumption | decide | omega : ¬ cs = (0 : Int32)) P3 (by first | assumption | decide | omega : fm.isRef = true) F8_0 F8_1 F8_2 F8_3 (by decide)) hZ (hw _ (List.mem_of_getElem? (i := 11) rfl)) (hw _ (List.mem_of_getElem? (i := 10) rfl)) (by decide) (by decide)) (g := (mkF m 102 #[.val (.int p1), .val (.int p2), .val (.int p3), .val (.int p4), .val (.long p5), .second, .val (.int v2_0), .val (.int v4_0), .val (.int v6_0), .val (.int (p2 &&& (7 : Int32))), .val (.ref ra), .val (.int cc_9), .val (.int cc_10), .val (.int cc_11), .unset, .unset, .unset, .unset, .unset, .unset, .unset] [(.int (3 : Int32)), (.long p5), (.int v4_0), (.ref ra)])) rfl (by rw [hml]; rfl) (argsL := [(.ref ra), (.int v4_0), (.long p5), (.int (3 : Int32))]) (rest := []) (lenOf own_pd16 rfl) rfl (by show 2 * 0 + _ ≤ _; exact Nat.le_of_eq rfl) (hb hby at_102) (fun _ _ => ⟨rfl, hh11, (by decide : 2 + 0 ≤ _), (by decide : 28 + 0 ≤ _)⟩)
          dsimp only [Pt.U, Pt.locs, Pt.cells, Pt.slots] at X12 l12 y12 z12 st12 hQ12
          subst l12 y12 z12
          obtain ⟨cc_12, rfl, Nq12, hh12, u12_0⟩ := hQ12
          obtain ⟨lc12, Xh12, N12⟩ := own_hide X12 (Fr.app N11 Nq12)
          clear X12
          refine Go.via st12 ?_
          show Go p.tables e below P T12 (mkF m 105 #[.val (.int p1), .val (.int p2), .val (.int p3), .val (.int p4), .val (.long p5), .second, .val (.int v2_0), .val (.int v4_0), .val (.int v6_0), .val (.int (p2 &&& (7 : Int32))), .val (.ref ra), .val (.int cc_9), .val (.int cc_10), .val (.int cc_11), .unset, .unset, .unset, .unset, .unset, .unset, .unset] [(.int cc_12)])
          refine Go.via (fun t k => XS.istore Xh12.here hx rfl (hb hby at_105) rfl (l' := #[.val (.int p1), .val (.int p2), .val (.int p3), .val (.int p4), .val (.long p5), .second, .val (.int v2_0), .val (.int v4_0), .val (.int v6_0), .val (.int (p2 &&& (7 : Int32))), .val (.ref ra), .val (.int cc_9), .val (.int cc_10), .val (.int cc_11), .val (.int cc_12), .unset, .unset, .unset, .unset, .unset, .unset]) rfl k) ?_
          show Go p.tables e below P T12 (mkF m 107 #[.val (.int p1), .val (.int p2), .val (.int p3), .val (.int p4), .val (.long p5), .second, .val (.int v2_0), .val (.int v4_0), .val (.int v6_0), .val (.int (p2 &&& (7 : Int32))), .val (.ref ra), .val (.int cc_9), .val (.int cc_10), .val (.int cc_11), .val (.int cc_12), .unset, .unset, .unset, .unset, .unset, .unset] [])
          refine Go.via (fun t k => XS.aload Xh12.here hx rfl (hb hby at_107) rfl rfl k) ?_
          show Go p.tables e below P T12 (mkF m 109 #[.val (.int p1), .val (.int p2), .val (.int p3), .val (.int p4), .val (.long p5), .second, .val (.int v2_0), .val (.int v4_0), .val (.int v6_0), .val (.int (p2 &&& (7 : Int32))), .val (.ref ra), .val (.int cc_9), .val (.int cc_10), .val (.int cc_11), .val (.int cc_12), .unset, .unset, .unset, .unset, .unset, .unset] [(.ref ra)])
          refine Go.via (fun t k => XS.iload Xh12.here hx rfl (hb hby at_109) rfl k) ?_
          show Go p.tables e below P T12 (mkF m 111 #[.val (.int p1), .val (.int p2), .val (.int p3), .val (.int p4), .val (.long p5), .second, .val (.int v2_0), .val (.int v4_0), .val (.int v6_0), .val (.int (p2 &&& (7 : Int32))), .val (.ref ra), .val (.int cc_9), .val (.int cc_10), .val (.int cc_11), .val (.int cc_12), .unset, .unset, .unset, .unset, .unset, .unset] [(.int v4_0), (.ref ra)])
          refine Go.via (fun t k => XS.lload Xh12.here hx rfl (hb hby at_111) rfl k) ?_
          show Go p.tables e below P T12 (mkF m 113 #[.val (.int p1), .val (.int p2), .val (.int p3), .val (.int p4), .val (.long p5), .second, .val (.int v2_0), .val (.int v4_0), .val (.int v6_0), .val (.int (p2 &&& (7 : Int32))), .val (.ref ra), .val (.int cc_9), .val (.int cc_10), .val (.int cc_11), .val (.int cc_12), .unset, .unset, .unset, .unset, .unset, .unset] [(.long p5), (.int v4_0), (.ref ra)])
          refine Go.via (fun t k => XS.iconst Xh12.here hx rfl (hb hby at_113) k) ?_
          show Go p.tables e below P T12 (mkF m 114 #[.val (.int p1), .val (.int p2), .val (.int p3), .val (.int p4), .val (.long p5), .second, .val (.int v2_0), .val (.int v4_0), .val (.int v6_0), .val (.int (p2 &&& (7 : Int32))), .val (.ref ra), .val (.int cc_9), .val (.int cc_10), .val (.int cc_11), .val (.int cc_12), .unset, .unset, .unset, .unset, .unset, .unset] [(.int (4 : Int32)), (.long p5), (.int v4_0), (.ref ra)])
          obtain ⟨_, _, ⟨T13, L13, k13, n13⟩, -, X13, ⟨Lc13, hQ13, l13, y13, z13⟩, st13⟩ := Jvm.LawKit.callS Xh12 hx (y := (⟨"com/example/numeric_planner/numericplanner/planner/KindOfPinLaw", "pick", "(Ljava/lang/String;ZJI)C"⟩ : MethodName)) hown (mvT hZ (hw _ (List.mem_of_getElem? (i := 8) rfl))) (mvT hZ (hw _ (List.mem_of_getElem? (i := 9) rfl))) (mvT hZ (hw _ (List.mem_of_getElem? (i := 10) rfl))) (mvT hZ (hw _ (List.mem_of_getElem? (i := 11) rfl))) (by decide) (backOf (W := 0) (rm1 l Z a0 hw [] ra v4_0 p5 (4 : Int32) cs fm ta ka ba hp8 n0 Z8 O8 P1 (by first | assumption | decide | omega : ¬ cs = (0 : Int32)) P3 (by first | assumption | decide | omega : fm.isRef = true) F8_0 F8_1 F8_2 F8_3 (by decide)) hZ (hw _ (List.mem_of_getElem? (i := 11) rfl)) (hw _ (List.mem_of_getElem? (i := 10) rfl)) (by decide) (by decide)) (g := (mkF m 114 #[.val (.int p1), .val (.int p2), .val (.int p3), .val (.int p4), .val (.long p5), .second, .val (.int v2_0), .val (.int v4_0), .val (.int v6_0), .val (.int (p2 &&& (7 : Int32))), .val (.ref ra), .val (.int cc_9), .val (.int cc_10), .val (.int cc_11), .val (.int cc_12), .unset, .unset, .unset, .unset, .unset, .unset] [(.int (4 : Int32)), (.long p5), (.int v4_0), (.ref ra)])) rfl (by rw [hml]; rfl) (argsL := [(.ref ra), (.int v4_0), (.long p5), (.int (4 : Int32))]) (rest := []) (lenOf own_pd16 rfl) rfl (by show 2 * 0 + _ ≤ _; exact Nat.le_of_eq rfl) (hb hby at_114) (fun _ _ => ⟨rfl, hh12, (by decide : 2 + 0 ≤ _), (by decide : 28 + 0 ≤ _)⟩)
          dsimp only [Pt.U, Pt.locs, Pt.cells, Pt.slots] at X13 l13 y13 z13 st13 hQ13
          subst l13 y13 z13
          obtain ⟨cc_13, rfl, Nq13, hh13, u13_0⟩ := hQ13
          obtain ⟨lc13, Xh13, N13⟩ := own_hide X13 (Fr.app N12 Nq13)
          clear X13
          refine Go.via st13 ?_
          show Go p.tables e below P T13 (mkF m 117 #[.val (.int p1), .val (.int p2), .val (.int p3), .val (.int p4), .val (.long p5), .second, .val (.int v2_0), .val (.int v4_0), .val (.int v6_0), .val (.int (p2 &&& (7 : Int32))), .val (.ref ra), .val (.int cc_9), .val (.int cc_10), .val (.int cc_11), .val (.int cc_12), .unset, .unset, .unset, .unset, .unset, .unset] [(.int cc_13)])
          refine Go.via (fun t k => XS.istore Xh13.here hx rfl (hb hby at_117) rfl (l' := #[.val (.int p1), .val (.int p2), .val (.int p3), .val (.int p4), .val (.long p5), .second, .val (.int v2_0), .val (.int v4_0), .val (.int v6_0), .val (.int (p2 &&& (7 : Int32))), .val (.ref ra), .val (.int cc_9), .val (.int cc_10), .val (.int cc_11), .val (.int cc_12), .val (.int cc_13), .unset, .unset, .unset, .unset, .unset]) rfl k) ?_
          show Go p.tables e below P T13 (mkF m 119 #[.val (.int p1), .val (.int p2), .val (.int p3), .val (.int p4), .val (.long p5), .second, .val (.int v2_0), .val (.int v4_0), .val (.int v6_0), .val (.int (p2 &&& (7 : Int32))), .val (.ref ra), .val (.int cc_9), .val (.int cc_10), .val (.int cc_11), .val (.int cc_12), .val (.int cc_13), .unset, .unset, .unset, .unset, .unset] [])
          refine Go.via (fun t k => XS.aload Xh13.here hx rfl (hb hby at_119) rfl rfl k) ?_
          show Go p.tables e below P T13 (mkF m 121 #[.val (.int p1), .val (.int p2), .val (.int p3), .val (.int p4), .val (.long p5), .second, .val (.int v2_0), .val (.int v4_0), .val (.int v6_0), .val (.int (p2 &&& (7 : Int32))), .val (.ref ra), .val (.int cc_9), .val (.int cc_10), .val (.int cc_11), .val (.int cc_12), .val (.int cc_13), .unset, .unset, .unset, .unset, .unset] [(.ref ra)])
          refine Go.via (fun t k => XS.iload Xh13.here hx rfl (hb hby at_121) rfl k) ?_
          show Go p.tables e below P T13 (mkF m 123 #[.val (.int p1), .val (.int p2), .val (.int p3), .val (.int p4), .val (.long p5), .second, .val (.int v2_0), .val (.int v4_0), .val (.int v6_0), .val (.int (p2 &&& (7 : Int32))), .val (.ref ra), .val (.int cc_9), .val (.int cc_10), .val (.int cc_11), .val (.int cc_12), .val (.int cc_13), .unset, .unset, .unset, .unset, .unset] [(.int v4_0), (.ref ra)])
          refine Go.via (fun t k => XS.lload Xh13.here hx rfl (hb hby at_123) rfl k) ?_
          show Go p.tables e below P T13 (mkF m 125 #[.val (.int p1), .val (.int p2), .val (.int p3), .val (.int p4), .val (.long p5), .second, .val (.int v2_0), .val (.int v4_0), .val (.int v6_0), .val (.int (p2 &&& (7 : Int32))), .val (.ref ra), .val (.int cc_9), .val (.int cc_10), .val (.int cc_11), .val (.int cc_12), .val (.int cc_13), .unset, .unset, .unset, .unset, .unset] [(.long p5), (.int v4_0), (.ref ra)])
          refine Go.via (fun t k => XS.iconst Xh13.here hx rfl (hb hby at_125) k) ?_
          show Go p.tables e below P T13 (mkF m 126 #[.val (.int p1), .val (.int p2), .val (.int p3), .val (.int p4), .val (.long p5), .second, .val (.int v2_0), .val (.int v4_0), .val (.int v6_0), .val (.int (p2 &&& (7 : Int32))), .val (.ref ra), .val (.int cc_9), .val (.int cc_10), .val (.int cc_11), .val (.int cc_12), .val (.int cc_13), .unset, .unset, .unset, .unset, .unset] [(.int (5 : Int32)), (.long p5), (.int v4_0), (.ref ra)])
          obtain ⟨_, _, ⟨T14, L14, k14, n14⟩, -, X14, ⟨Lc14, hQ14, l14, y14, z14⟩, st14⟩ := Jvm.LawKit.callS Xh13 hx (y := (⟨"com/example/numeric_planner/numericplanner/planner/KindOfPinLaw", "pick", "(Ljava/lang/String;ZJI)C"⟩ : MethodName)) hown (mvT hZ (hw _ (List.mem_of_getElem? (i := 8) rfl))) (mvT hZ (hw _ (List.mem_of_getElem? (i := 9) rfl))) (mvT hZ (hw _ (List.mem_of_getElem? (i := 10) rfl))) (mvT hZ (hw _ (List.mem_of_getElem? (i := 11) rfl))) (by decide) (backOf (W := 0) (rm1 l Z a0 hw [] ra v4_0 p5 (5 : Int32) cs fm ta ka ba hp8 n0 Z8 O8 P1 (by first | assumption | decide | omega : ¬ cs = (0 : Int32)) P3 (by first | assumption | decide | omega : fm.isRef = true) F8_0 F8_1 F8_2 F8_3 (by decide)) hZ (hw _ (List.mem_of_getElem? (i := 11) rfl)) (hw _ (List.mem_of_getElem? (i := 10) rfl)) (by decide) (by decide)) (g := (mkF m 126 #[.val (.int p1), .val (.int p2), .val (.int p3), .val (.int p4), .val (.long p5), .second, .val (.int v2_0), .val (.int v4_0), .val (.int v6_0), .val (.int (p2 &&& (7 : Int32))), .val (.ref ra), .val (.int cc_9), .val (.int cc_10), .val (.int cc_11), .val (.int cc_12), .val (.int cc_13), .unset, .unset, .unset, .unset, .unset] [(.int (5 : Int32)), (.long p5), (.int v4_0), (.ref ra)])) rfl (by rw [hml]; rfl) (argsL := [(.ref ra), (.int v4_0), (.long p5), (.int (5 : Int32))]) (rest := []) (lenOf own_pd16 rfl) rfl (by show 2 * 0 + _ ≤ _; exact Nat.le_of_eq rfl) (hb hby at_126) (fun _ _ => ⟨rfl, hh13, (by decide : 2 + 0 ≤ _), (by decide : 28 + 0 ≤ _)⟩)
          dsimp only [Pt.U, Pt.locs, Pt.cells, Pt.slots] at X14 l14 y14 z14 st14 hQ14
          subst l14 y14 z14
          obtain ⟨cc_14, rfl, Nq14, hh14, u14_0⟩ := hQ14
          obtain ⟨lc14, Xh14, N14⟩ := own_hide X14 (Fr.app N13 Nq14)
          clear X14
          refine Go.via st14 ?_
          show Go p.tables e below P T14 (mkF m 129 #[.val (.int p1), .val (.int p2), .val (.int p3), .val (.int p4), .val (.long p5), .second, .val (.int v2_0), .val (.int v4_0), .val (.int v6_0), .val (.int (p2 &&& (7 : Int32))), .val (.ref ra), .val (.int cc_9), .val (.int cc_10), .val (.int cc_11), .val (.int cc_12), .val (.int cc_13), .unset, .unset, .unset, .unset, .unset] [(.int cc_14)])
          refine Go.via (fun t k => XS.istore Xh14.here hx rfl (hb hby at_129) rfl (l' := #[.val (.int p1), .val (.int p2), .val (.int p3), .val (.int p4), .val (.long p5), .second, .val (.int v2_0), .val (.int v4_0), .val (.int v6_0), .val (.int (p2 &&& (7 : Int32))), .val (.ref ra), .val (.int cc_9), .val (.int cc_10), .val (.int cc_11), .val (.int cc_12), .val (.int cc_13), .val (.int cc_14), .unset, .unset, .unset, .unset]) rfl k) ?_
          show Go p.tables e below P T14 (mkF m 131 #[.val (.int p1), .val (.int p2), .val (.int p3), .val (.int p4), .val (.long p5), .second, .val (.int v2_0), .val (.int v4_0), .val (.int v6_0), .val (.int (p2 &&& (7 : Int32))), .val (.ref ra), .val (.int cc_9), .val (.int cc_10), .val (.int cc_11), .val (.int cc_12), .val (.int cc_13), .val (.int cc_14), .unset, .unset, .unset, .unset] [])
          refine Go.via (fun t k => XS.aload Xh14.here hx rfl (hb hby at_131) rfl rfl k) ?_
          show Go p.tables e below P T14 (mkF m 133 #[.val (.int p1), .val (.int p2), .val (.int p3), .val (.int p4), .val (.long p5), .second, .val (.int v2_0), .val (.int v4_0), .val (.int v6_0), .val (.int (p2 &&& (7 : Int32))), .val (.ref ra), .val (.int cc_9), .val (.int cc_10), .val (.int cc_11), .val (.int cc_12), .val (.int cc_13), .val (.int cc_14), .unset, .unset, .unset, .unset] [(.ref ra)])
          refine Go.via (fun t k => XS.iload Xh14.here hx rfl (hb hby at_133) rfl k) ?_
          show Go p.tables e below P T14 (mkF m 135 #[.val (.int p1), .val (.int p2), .val (.int p3), .val (.int p4), .val (.long p5), .second, .val (.int v2_0), .val (.int v4_0), .val (.int v6_0), .val (.int (p2 &&& (7 : Int32))), .val (.ref ra), .val (.int cc_9), .val (.int cc_10), .val (.int cc_11), .val (.int cc_12), .val (.int cc_13), .val (.int cc_14), .unset, .unset, .unset, .unset] [(.int v4_0), (.ref ra)])
          refine Go.via (fun t k => XS.lload Xh14.here hx rfl (hb hby at_135) rfl k) ?_
          show Go p.tables e below P T14 (mkF m 137 #[.val (.int p1), .val (.int p2), .val (.int p3), .val (.int p4), .val (.long p5), .second, .val (.int v2_0), .val (.int v4_0), .val (.int v6_0), .val (.int (p2 &&& (7 : Int32))), .val (.ref ra), .val (.int cc_9), .val (.int cc_10), .val (.int cc_11), .val (.int cc_12), .val (.int cc_13), .val (.int cc_14), .unset, .unset, .unset, .unset] [(.long p5), (.int v4_0), (.ref ra)])
          refine Go.via (fun t k => XS.bipush Xh14.here hx rfl (hb hby at_137) k) ?_
          show Go p.tables e below P T14 (mkF m 139 #[.val (.int p1), .val (.int p2), .val (.int p3), .val (.int p4), .val (.long p5), .second, .val (.int v2_0), .val (.int v4_0), .val (.int v6_0), .val (.int (p2 &&& (7 : Int32))), .val (.ref ra), .val (.int cc_9), .val (.int cc_10), .val (.int cc_11), .val (.int cc_12), .val (.int cc_13), .val (.int cc_14), .unset, .unset, .unset, .unset] [(.int (6 : Int32)), (.long p5), (.int v4_0), (.ref ra)])
          obtain ⟨_, _, ⟨T15, L15, k15, n15⟩, -, X15, ⟨Lc15, hQ15, l15, y15, z15⟩, st15⟩ := Jvm.LawKit.callS Xh14 hx (y := (⟨"com/example/numeric_planner/numericplanner/planner/KindOfPinLaw", "pick", "(Ljava/lang/String;ZJI)C"⟩ : MethodName)) hown (mvT hZ (hw _ (List.mem_of_getElem? (i := 8) rfl))) (mvT hZ (hw _ (List.mem_of_getElem? (i := 9) rfl))) (mvT hZ (hw _ (List.mem_of_getElem? (i := 10) rfl))) (mvT hZ (hw _ (List.mem_of_getElem? (i := 11) rfl))) (by decide) (backOf (W := 0) (rm1 l Z a0 hw [] ra v4_0 p5 (6 : Int32) cs fm ta ka ba hp8 n0 Z8 O8 P1 (by first | assumption | decide | omega : ¬ cs = (0 : Int32)) P3 (by first | assumption | decide | omega : fm.isRef = true) F8_0 F8_1 F8_2 F8_3 (by decide)) hZ (hw _ (List.mem_of_getElem? (i := 11) rfl)) (hw _ (List.mem_of_getElem? (i := 10) rfl)) (by decide) (by decide)) (g := (mkF m 139 #[.val (.int p1), .val (.int p2), .val (.int p3), .val (.int p4), .val (.long p5), .second, .val (.int v2_0), .val (.int v4_0), .val (.int v6_0), .val (.int (p2 &&& (7 : Int32))), .val (.ref ra), .val (.int cc_9), .val (.int cc_10), .val (.int cc_11), .val (.int cc_12), .val (.int cc_13), .val (.int cc_14), .unset, .unset, .unset, .unset] [(.int (6 : Int32)), (.long p5), (.int v4_0), (.ref ra)])) rfl (by rw [hml]; rfl) (argsL := [(.ref ra), (.int v4_0), (.long p5), (.int (6 : Int32))]) (rest := []) (lenOf own_pd16 rfl) rfl (by show 2 * 0 + _ ≤ _; exact Nat.le_of_eq rfl) (hb hby at_139) (fun _ _ => ⟨rfl, hh14, (by decide : 2 + 0 ≤ _), (by decide : 28 + 0 ≤ _)⟩)
          dsimp only [Pt.U, Pt.locs, Pt.cells, Pt.slots] at X15 l15 y15 z15 st15 hQ15
          subst l15 y15 z15
          obtain ⟨cc_15, rfl, Nq15, hh15, u15_0⟩ := hQ15
          obtain ⟨lc15, Xh15, N15⟩ := own_hide X15 (Fr.app N14 Nq15)
          clear X15
          refine Go.via st15 ?_
          show Go p.tables e below P T15 (mkF m 142 #[.val (.int p1), .val (.int p2), .val (.int p3), .val (.int p4), .val (.long p5), .second, .val (.int v2_0), .val (.int v4_0), .val (.int v6_0), .val (.int (p2 &&& (7 : Int32))), .val (.ref ra), .val (.int cc_9), .val (.int cc_10), .val (.int cc_11), .val (.int cc_12), .val (.int cc_13), .val (.int cc_14), .unset, .unset, .unset, .unset] [(.int cc_15)])
          refine Go.via (fun t k => XS.istore Xh15.here hx rfl (hb hby at_142) rfl (l' := #[.val (.int p1), .val (.int p2), .val (.int p3), .val (.int p4), .val (.long p5), .second, .val (.int v2_0), .val (.int v4_0), .val (.int v6_0), .val (.int (p2 &&& (7 : Int32))), .val (.ref ra), .val (.int cc_9), .val (.int cc_10), .val (.int cc_11), .val (.int cc_12), .val (.int cc_13), .val (.int cc_14), .val (.int cc_15), .unset, .unset, .unset]) rfl k) ?_
          show Go p.tables e below P T15 (mkF m 144 #[.val (.int p1), .val (.int p2), .val (.int p3), .val (.int p4), .val (.long p5), .second, .val (.int v2_0), .val (.int v4_0), .val (.int v6_0), .val (.int (p2 &&& (7 : Int32))), .val (.ref ra), .val (.int cc_9), .val (.int cc_10), .val (.int cc_11), .val (.int cc_12), .val (.int cc_13), .val (.int cc_14), .val (.int cc_15), .unset, .unset, .unset] [])
          refine Go.via (fun t k => XS.iload Xh15.here hx rfl (hb hby at_144) rfl k) ?_
          show Go p.tables e below P T15 (mkF m 146 #[.val (.int p1), .val (.int p2), .val (.int p3), .val (.int p4), .val (.long p5), .second, .val (.int v2_0), .val (.int v4_0), .val (.int v6_0), .val (.int (p2 &&& (7 : Int32))), .val (.ref ra), .val (.int cc_9), .val (.int cc_10), .val (.int cc_11), .val (.int cc_12), .val (.int cc_13), .val (.int cc_14), .val (.int cc_15), .unset, .unset, .unset] [(.int v6_0)])
          have LP17 : ∀ (T17 : State) (locs17 : List Loc) (c0 : Int32) (c1 : Int32) (c2 : Int32) (c3 : Int32) (c4 : Int32) (c5 : Int32) (c6 : Int32) (s17_18 : Slot) (s17_19 : Slot), Stand p l e room_1 (s.setVm vm8) m #[(.int p1), (.int p2), (.int p3), (.int p4), (.long p5)] below meth c T17 locs17 2 28 → T17.heap = hp8 → Fr n0 locs17 → own_by c0 → own_by c1 → own_by c2 → own_by c3 → own_by c4 → own_by c5 → own_by c6 → (s17_18 = .unset ∨ ∃ w, s17_18 = .val w ∧ w.category = 1) → (s17_19 = .unset ∨ ∃ w, s17_19 = .val w ∧ w.category = 1) → Go p.tables e below P T17 (mkF m 252 #[.val (.int p1), .val (.int p2), .val (.int p3), .val (.int p4), .val (.long p5), .second, .val (.int v2_0), .val (.int v4_0), .val (.int v6_0), .val (.int (p2 &&& (7 : Int32))), .val (.ref ra), .val (.int c0), .val (.int c1), .val (.int c2), .val (.int c3), .val (.int c4), .val (.int c5), .val (.int c6), s17_18, s17_19, .unset] []) := by
            intro T17 locs17 c0 c1 c2 c3 c4 c5 c6 s17_18 s17_19 X17 e17 N17 yc0 yc1 yc2 yc3 yc4 yc5 yc6 hos17_18 hos17_19
            show Go p.tables e below P T17 (mkF m 252 #[.val (.int p1), .val (.int p2), .val (.int p3), .val (.int p4), .val (.long p5), .second, .val (.int v2_0), .val (.int v4_0), .val (.int v6_0), .val (.int (p2 &&& (7 : Int32))), .val (.ref ra), .val (.int c0), .val (.int c1), .val (.int c2), .val (.int c3), .val (.int c4), .val (.int c5), .val (.int c6), s17_18, s17_19, .unset] [])
            refine Go.via (fun t k => XS.iload X17.here hx rfl (hb hby at_252) rfl k) ?_
            show Go p.tables e below P T17 (mkF m 254 #[.val (.int p1), .val (.int p2), .val (.int p3), .val (.int p4), .val (.long p5), .second, .val (.int v2_0), .val (.int v4_0), .val (.int v6_0), .val (.int (p2 &&& (7 : Int32))), .val (.ref ra), .val (.int c0), .val (.int c1), .val (.int c2), .val (.int c3), .val (.int c4), .val (.int c5), .val (.int c6), s17_18, s17_19, .unset] [(.int (p2 &&& (7 : Int32)))])
            refine Go.via (fun t k => XS.iload X17.here hx rfl (hb hby at_254) rfl k) ?_
            show Go p.tables e below P T17 (mkF m 256 #[.val (.int p1), .val (.int p2), .val (.int p3), .val (.int p4), .val (.long p5), .second, .val (.int v2_0), .val (.int v4_0), .val (.int v6_0), .val (.int (p2 &&& (7 : Int32))), .val (.ref ra), .val (.int c0), .val (.int c1), .val (.int c2), .val (.int c3), .val (.int c4), .val (.int c5), .val (.int c6), s17_18, s17_19, .unset] [(.int c0), (.int (p2 &&& (7 : Int32)))])
            refine Go.via (fun t k => XS.iload X17.here hx rfl (hb hby at_256) rfl k) ?_
            show Go p.tables e below P T17 (mkF m 258 #[.val (.int p1), .val (.int p2), .val (.int p3), .val (.int p4), .val (.long p5), .second, .val (.int v2_0), .val (.int v4_0), .val (.int v6_0), .val (.int (p2 &&& (7 : Int32))), .val (.ref ra), .val (.int c0), .val (.int c1), .val (.int c2), .val (.int c3), .val (.int c4), .val (.int c5), .val (.int c6), s17_18, s17_19, .unset] [(.int c1), (.int c0), (.int (p2 &&& (7 : Int32)))])
            refine Go.via (fun t k => XS.iload X17.here hx rfl (hb hby at_258) rfl k) ?_
            show Go p.tables e below P T17 (mkF m 260 #[.val (.int p1), .val (.int p2), .val (.int p3), .val (.int p4), .val (.long p5), .second, .val (.int v2_0), .val (.int v4_0), .val (.int v6_0), .val (.int (p2 &&& (7 : Int32))), .val (.ref ra), .val (.int c0), .val (.int c1), .val (.int c2), .val (.int c3), .val (.int c4), .val (.int c5), .val (.int c6), s17_18, s17_19, .unset] [(.int c2), (.int c1), (.int c0), (.int (p2 &&& (7 : Int32)))])
            refine Go.via (fun t k => XS.iload X17.here hx rfl (hb hby at_260) rfl k) ?_
            show Go p.tables e below P T17 (mkF m 262 #[.val (.int p1), .val (.int p2), .val (.int p3), .val (.int p4), .val (.long p5), .second, .val (.int v2_0), .val (.int v4_0), .val (.int v6_0), .val (.int (p2 &&& (7 : Int32))), .val (.ref ra), .val (.int c0), .val (.int c1), .val (.int c2), .val (.int c3), .val (.int c4), .val (.int c5), .val (.int c6), s17_18, s17_19, .unset] [(.int c3), (.int c2), (.int c1), (.int c0), (.int (p2 &&& (7 : Int32)))])
            refine Go.via (fun t k => XS.iload X17.here hx rfl (hb hby at_262) rfl k) ?_
            show Go p.tables e below P T17 (mkF m 264 #[.val (.int p1), .val (.int p2), .val (.int p3), .val (.int p4), .val (.long p5), .second, .val (.int v2_0), .val (.int v4_0), .val (.int v6_0), .val (.int (p2 &&& (7 : Int32))), .val (.ref ra), .val (.int c0), .val (.int c1), .val (.int c2), .val (.int c3), .val (.int c4), .val (.int c5), .val (.int c6), s17_18, s17_19, .unset] [(.int c4), (.int c3), (.int c2), (.int c1), (.int c0), (.int (p2 &&& (7 : Int32)))])
            refine Go.via (fun t k => XS.iload X17.here hx rfl (hb hby at_264) rfl k) ?_
            show Go p.tables e below P T17 (mkF m 266 #[.val (.int p1), .val (.int p2), .val (.int p3), .val (.int p4), .val (.long p5), .second, .val (.int v2_0), .val (.int v4_0), .val (.int v6_0), .val (.int (p2 &&& (7 : Int32))), .val (.ref ra), .val (.int c0), .val (.int c1), .val (.int c2), .val (.int c3), .val (.int c4), .val (.int c5), .val (.int c6), s17_18, s17_19, .unset] [(.int c5), (.int c4), (.int c3), (.int c2), (.int c1), (.int c0), (.int (p2 &&& (7 : Int32)))])
            refine Go.via (fun t k => XS.iload X17.here hx rfl (hb hby at_266) rfl k) ?_
            show Go p.tables e below P T17 (mkF m 268 #[.val (.int p1), .val (.int p2), .val (.int p3), .val (.int p4), .val (.long p5), .second, .val (.int v2_0), .val (.int v4_0), .val (.int v6_0), .val (.int (p2 &&& (7 : Int32))), .val (.ref ra), .val (.int c0), .val (.int c1), .val (.int c2), .val (.int c3), .val (.int c4), .val (.int c5), .val (.int c6), s17_18, s17_19, .unset] [(.int c6), (.int c5), (.int c4), (.int c3), (.int c2), (.int c1), (.int c0), (.int (p2 &&& (7 : Int32)))])
            obtain ⟨_, _, ⟨T18, L18, k18, n18⟩, -, X18, hSn18, hgn18, ⟨Lc18, hQ18, l18, y18, z18, hC18⟩, st18⟩ := callSS X17 hx (y := (⟨"com/example/numeric_planner/numericplanner/planner/KindOfPinLaw", "make", "(ICCCCCCC)Ljava/lang/String;"⟩ : MethodName)) hown (mvT hZ (hw _ (List.mem_of_getElem? (i := 48) rfl))) (mvT hZ (hw _ (List.mem_of_getElem? (i := 49) rfl))) (mvT hZ (hw _ (List.mem_of_getElem? (i := 10) rfl))) (mvT hZ (hw _ (List.mem_of_getElem? (i := 50) rfl))) (by decide) (backOfSH (W := 0) (rm9 l Z a0 hw [] (p2 &&& (7 : Int32)) c0 c1 c2 c3 c4 c5 c6 cs hp8 n0 Z8 O8 P1 (by first | assumption | decide | omega : ¬ cs = (0 : Int32)) yc0 yc1 yc2 yc3 yc4 yc5 yc6) hZ (hw _ (List.mem_of_getElem? (i := 50) rfl)) (hw _ (List.mem_of_getElem? (i := 10) rfl)) (by decide) (by decide) (own_EW hw) CR8.1) (g := (mkF m 268 #[.val (.int p1), .val (.int p2), .val (.int p3), .val (.int p4), .val (.long p5), .second, .val (.int v2_0), .val (.int v4_0), .val (.int v6_0), .val (.int (p2 &&& (7 : Int32))), .val (.ref ra), .val (.int c0), .val (.int c1), .val (.int c2), .val (.int c3), .val (.int c4), .val (.int c5), .val (.int c6), s17_18, s17_19, .unset] [(.int c6), (.int c5), (.int c4), (.int c3), (.int c2), (.int c1), (.int c0), (.int (p2 &&& (7 : Int32)))])) rfl (by rw [hml]; rfl) (argsL := [(.int (p2 &&& (7 : Int32))), (.int c0), (.int c1), (.int c2), (.int c3), (.int c4), (.int c5), (.int c6)]) (rest := []) (lenOf own_pd17 rfl) rfl (by show 2 * 0 + _ ≤ _; exact Nat.le_of_eq rfl) (hb hby at_268) (fun _ _ => ⟨rfl, e17, (by decide : 2 + 6 ≤ _), (by decide : 28 + 18 ≤ _)⟩)
            dsimp only [Pt.U, Pt.locs, Pt.cells, Pt.slots] at X18 l18 y18 z18 st18 hQ18 hSn18 hgn18 hC18
            subst l18 y18 z18
            have hS18 : s.Since T18.vm T18.heap.size := foldS hS8 (by rw [e17]; exact hk8) hSn18 hgn18
            have X18 : Stand p l e room_1 (s.setVm T18.vm) m #[(.int p1), (.int p2), (.int p3), (.int p4), (.long p5)] below meth c T18 _ _ _ := X18
            have hown : (s.setVm T18.vm).vm.findClass "com/example/numeric_planner/numericplanner/planner/KindOfPinLaw" = some m.cls := by rw [show (s.setVm T18.vm).vm = T18.vm from rfl, hSn18.1.alike.findClass]; exact hown
            have hZ : Z.Warmed39 (s.setVm T18.vm).vm := State.Warmed39.trans (t := s.setVm vm8) hZ hSn18.1
            obtain ⟨r_18, tb_18, kk_18, bl_18, rfl, Nq18, K18, fr18_r, u18_0, u18_1, u18_2, u18_3, u18_4, u18_5, u18_6⟩ := hQ18
            obtain ⟨lc18, Xh18, N18⟩ := own_hide X18 (Fr.app N17 Nq18)
            clear X18
            refine Go.hop st18 ?_
            have CR19 := CHr.trans CR8 hC18
            have ne20 : ra ≠ r_18 := Nat.ne_of_lt (Nat.lt_of_lt_of_le F8_0.lt fr18_r)
            have ne21 : ta ≠ r_18 := Nat.ne_of_lt (Nat.lt_of_lt_of_le F8_3.lt fr18_r)
            have g22 : n0 ≤ r_18 := Nat.le_trans Z8 fr18_r
            have sz23 : h0.size ≤ r_18 := Nat.le_trans K8.1 fr18_r
            have Z24 : n0 ≤ T18.heap.size := Nat.le_trans Z8 K18.1
            have K25 : Keep h0 T18.heap [] := K8.trans K18 own_all0
            have O26 : Old Z n0 T18.heap := O8.keep K18 own_all0
            have hk27 : T18.heap.size ≤ T18.heap.size := Nat.le_refl _
            show Go p.tables e below P T18 (mkF m 271 #[.val (.int p1), .val (.int p2), .val (.int p3), .val (.int p4), .val (.long p5), .second, .val (.int v2_0), .val (.int v4_0), .val (.int v6_0), .val (.int (p2 &&& (7 : Int32))), .val (.ref ra), .val (.int c0), .val (.int c1), .val (.int c2), .val (.int c3), .val (.int c4), .val (.int c5), .val (.int c6), s17_18, s17_19, .unset] [(.ref r_18)])
            refine Go.via (fun t k => XS.astore Xh18.here hx rfl (hb hby at_271) rfl rfl (XS.store1 rfl hos17_18 rfl) k) ?_
            show Go p.tables e below P T18 (mkF m 273 #[.val (.int p1), .val (.int p2), .val (.int p3), .val (.int p4), .val (.long p5), .second, .val (.int v2_0), .val (.int v4_0), .val (.int v6_0), .val (.int (p2 &&& (7 : Int32))), .val (.ref ra), .val (.int c0), .val (.int c1), .val (.int c2), .val (.int c3), .val (.int c4), .val (.int c5), .val (.int c6), .val (.ref r_18), s17_19, .unset] [])
            refine Go.via (fun t k => XS.aload Xh18.here hx rfl (hb hby at_273) rfl rfl k) ?_
            show Go p.tables e below P T18 (mkF m 275 #[.val (.int p1), .val (.int p2), .val (.int p3), .val (.int p4), .val (.long p5), .second, .val (.int v2_0), .val (.int v4_0), .val (.int v6_0), .val (.int (p2 &&& (7 : Int32))), .val (.ref ra), .val (.int c0), .val (.int c1), .val (.int c2), .val (.int c3), .val (.int c4), .val (.int c5), .val (.int c6), .val (.ref r_18), s17_19, .unset] [(.ref r_18)])
            have F28 : Exa Z T18.heap ra "java/lang/String" := (F8_0.keep K18)
            have F29 : Fld Z T18.heap ra "java/lang/String" "value" "[B" (.ref ta) := (F8_1.keep K18 own_nin0)
            have F30 : Fld Z T18.heap ra "java/lang/String" "coder" "B" (.int (0 : Int32)) := (F8_2.keep K18 own_nin0)
            have F31 : Arv Z T18.heap ta ka .byte (own_lg ba) (ba.map Value.int) (.int (0 : Int32)) := (F8_3.keep K18 own_nin0)
            obtain ⟨_, _, ⟨T32, L32, k32, n32⟩, -, X32, ⟨Lc32, hQ32, l32, y32, z32⟩, st32⟩ := Jvm.LawKit.callS Xh18 hx (y := (⟨"com/example/numeric_planner/numericplanner/planner/Solution$Kind", "of", "(Ljava/lang/String;)Ljava/util/Optional;"⟩ : MethodName)) hown (mvT hZ (hw _ (List.mem_of_getElem? (i := 73) rfl))) (mvT hZ (hw _ (List.mem_of_getElem? (i := 74) rfl))) (mvT hZ (hw _ (List.mem_of_getElem? (i := 75) rfl))) (mvT hZ (hw _ (List.mem_of_getElem? (i := 76) rfl))) (by decide) (backOf (W := 0) (rm16 l Z a0 hw [] r_18 cs tb_18 kk_18 bl_18 em va kva aV sV tV kV aP sP tP kP T18.heap n0 Z24 O26 P1 (by first | assumption | decide | omega : ¬ cs = (0 : Int32)) P5 P6 P7 P8 P9 P10 P11 P12 P13 P14 P15 P16 P17 P18 P19 P20 P21 P22 u18_0 u18_1 u18_2 u18_3 u18_4) hZ (hw _ (List.mem_of_getElem? (i := 76) rfl)) (hw _ (List.mem_of_getElem? (i := 75) rfl)) (by decide) (by decide)) (g := (mkF m 275 #[.val (.int p1), .val (.int p2), .val (.int p3), .val (.int p4), .val (.long p5), .second, .val (.int v2_0), .val (.int v4_0), .val (.int v6_0), .val (.int (p2 &&& (7 : Int32))), .val (.ref ra), .val (.int c0), .val (.int c1), .val (.int c2), .val (.int c3), .val (.int c4), .val (.int c5), .val (.int c6), .val (.ref r_18), s17_19, .unset] [(.ref r_18)])) rfl (by rw [hml]; rfl) (argsL := [(.ref r_18)]) (rest := []) (lenOf own_pd18 rfl) rfl (by show 2 * 0 + _ ≤ _; exact Nat.le_of_eq rfl) (hb hby at_275) (fun _ _ => ⟨rfl, rfl, (by decide : 8 + 3 ≤ _), (by decide : 46 + 4 ≤ _)⟩)
            dsimp only [Pt.U, Pt.locs, Pt.cells, Pt.slots] at X32 l32 y32 z32 st32 hQ32
            subst l32 y32 z32
            obtain ⟨r_32, vv_32, rfl, Nq32, K32, u32_0, u32_1, u32_2⟩ := hQ32
            obtain ⟨lc32, Xh32, N32⟩ := own_hide X32 (Fr.app N18 Nq32)
            clear X32
            refine Go.via st32 ?_
            have Z33 : n0 ≤ T32.heap.size := Nat.le_trans Z24 K32.1
            have K34 : Keep h0 T32.heap [] := K25.trans K32 own_all0
            have CR35 := CHr.trans CR19 (CHr.keep K32 sf0 CR19.1)
            have hk36 := Nat.le_trans hk27 K32.1
            have O37 : Old Z n0 T32.heap := O26.keep K32 own_all0
            show Go p.tables e below P T32 (mkF m 278 #[.val (.int p1), .val (.int p2), .val (.int p3), .val (.int p4), .val (.long p5), .second, .val (.int v2_0), .val (.int v4_0), .val (.int v6_0), .val (.int (p2 &&& (7 : Int32))), .val (.ref ra), .val (.int c0), .val (.int c1), .val (.int c2), .val (.int c3), .val (.int c4), .val (.int c5), .val (.int c6), .val (.ref r_18), s17_19, .unset] [(.ref r_32)])
            rcases u32_2 with ⟨cP, q0⟩ | ⟨nP, cV, q0⟩ | ⟨nP, nV, q0⟩
            · have Fq : Fld Z T32.heap r_32 "java/util/Optional" "value" "Ljava/lang/Object;" (.ref aP) := q0 ▸ u32_1
              show Go p.tables e below P T32 (mkF m 278 #[.val (.int p1), .val (.int p2), .val (.int p3), .val (.int p4), .val (.long p5), .second, .val (.int v2_0), .val (.int v4_0), .val (.int v6_0), .val (.int (p2 &&& (7 : Int32))), .val (.ref ra), .val (.int c0), .val (.int c1), .val (.int c2), .val (.int c3), .val (.int c4), .val (.int c5), .val (.int c6), .val (.ref r_18), s17_19, .unset] [(.ref r_32)])
              refine Go.via (fun t k => XS.aconstNull Xh32.here hx rfl (hb hby at_278) k) ?_
              show Go p.tables e below P T32 (mkF m 279 #[.val (.int p1), .val (.int p2), .val (.int p3), .val (.int p4), .val (.long p5), .second, .val (.int v2_0), .val (.int v4_0), .val (.int v6_0), .val (.int (p2 &&& (7 : Int32))), .val (.ref ra), .val (.int c0), .val (.int c1), .val (.int c2), .val (.int c3), .val (.int c4), .val (.int c5), .val (.int c6), .val (.ref r_18), s17_19, .unset] [.null, (.ref r_32)])
              have F38 : Exa Z T32.heap ra "java/lang/String" := (F28.keep K32)
              have F39 : Fld Z T32.heap ra "java/lang/String" "value" "[B" (.ref ta) := (F29.keep K32 own_nin0)
              have F40 : Fld Z T32.heap ra "java/lang/String" "coder" "B" (.int (0 : Int32)) := (F30.keep K32 own_nin0)
              have F41 : Arv Z T32.heap ta ka .byte (own_lg ba) (ba.map Value.int) (.int (0 : Int32)) := (F31.keep K32 own_nin0)
              have F42 : Exa Z T32.heap r_18 "java/lang/String" := (u18_0.keep K32)
              have F43 : Fld Z T32.heap r_18 "java/lang/String" "value" "[B" (.ref tb_18) := (u18_1.keep K32 own_nin0)
              have F44 : Fld Z T32.heap r_18 "java/lang/String" "coder" "B" (.int (0 : Int32)) := (u18_2.keep K32 own_nin0)
              have F45 : Arv Z T32.heap tb_18 kk_18 .byte (own_lg bl_18) (bl_18.map Value.int) (.int (0 : Int32)) := (u18_3.keep K32 own_nin0)
              obtain ⟨cq46, kq46, q46a, q46b, q46c⟩ := isOf hZ rfl u32_0
              obtain ⟨_, _, ⟨T46, L46, k46, n46⟩, -, X46, ⟨Lc46, hQ46, l46, y46, z46⟩, st46⟩ := Xh32.virtualBack hx (y := (⟨"java/util/Optional", "orElse", "(Ljava/lang/Object;)Ljava/lang/Object;"⟩ : MethodName)) (z := (⟨"java/util/Optional", "orElse", "(Ljava/lang/Object;)Ljava/lang/Object;"⟩ : MethodName)) hown (mvT hZ (hw _ (List.mem_of_getElem? (i := 110) rfl))) (mvT hZ (hw _ (List.mem_of_getElem? (i := 111) rfl))) (notFace_of_selects (args := #[]) (mvT hZ (hw _ (List.mem_of_getElem? (i := 113) rfl)))) (mvT hZ (hw _ (List.mem_of_getElem? (i := 113) rfl))) (mvT hZ (hw _ (List.mem_of_getElem? (i := 112) rfl))) (by decide) (backOf (W := 0) (rm21r l Z a0 hw [] r_32 aP T32.heap n0 Z33 Fq) hZ (hw _ (List.mem_of_getElem? (i := 114) rfl)) (hw _ (List.mem_of_getElem? (i := 79) rfl)) (by decide) (by decide)) q46a q46c (g := (mkF m 279 #[.val (.int p1), .val (.int p2), .val (.int p3), .val (.int p4), .val (.long p5), .second, .val (.int v2_0), .val (.int v4_0), .val (.int v6_0), .val (.int (p2 &&& (7 : Int32))), .val (.ref ra), .val (.int c0), .val (.int c1), .val (.int c2), .val (.int c3), .val (.int c4), .val (.int c5), .val (.int c6), .val (.ref r_18), s17_19, .unset] [.null, (.ref r_32)])) rfl (by rw [hml]; rfl) (Steps.refl _) (argsL := [.null]) (rest := []) (lenOf own_pd10 rfl) rfl (by show 2 * 0 + _ ≤ _; exact Nat.le_of_eq rfl) (hb hby at_279) (fun _ _ => ⟨rfl, rfl, (by decide : 11 + 0 ≤ _), (by decide : 50 + 0 ≤ _)⟩)
              dsimp only [Pt.U, Pt.locs, Pt.cells, Pt.slots] at X46 l46 y46 z46 st46 hQ46
              subst l46 y46 z46
              obtain ⟨rfl, Nq46, hh46⟩ := hQ46
              obtain ⟨lc46, Xh46, N46⟩ := own_hide X46 (Fr.app N32 Nq46)
              clear X46
              refine Go.hop st46 ?_
              show Go p.tables e below P T46 (mkF m 282 #[.val (.int p1), .val (.int p2), .val (.int p3), .val (.int p4), .val (.long p5), .second, .val (.int v2_0), .val (.int v4_0), .val (.int v6_0), .val (.int (p2 &&& (7 : Int32))), .val (.ref ra), .val (.int c0), .val (.int c1), .val (.int c2), .val (.int c3), .val (.int c4), .val (.int c5), .val (.int c6), .val (.ref r_18), s17_19, .unset] [(.ref aP)])
              obtain ⟨T47, X47, e47, st47⟩ := castY Xh46 hx hZ hown (hw _ (List.mem_of_getElem? (i := 135) rfl)) hh46 (Ins.self (P17.ext O37.2)) (g := (mkF m 282 #[.val (.int p1), .val (.int p2), .val (.int p3), .val (.int p4), .val (.long p5), .second, .val (.int v2_0), .val (.int v4_0), .val (.int v6_0), .val (.int (p2 &&& (7 : Int32))), .val (.ref ra), .val (.int c0), .val (.int c1), .val (.int c2), .val (.int c3), .val (.int c4), .val (.int c5), .val (.int c6), .val (.ref r_18), s17_19, .unset] [(.ref aP)])) rfl rfl (hb hby at_282)
              refine Go.via st47 ?_
              show Go p.tables e below P T47 (mkF m 285 #[.val (.int p1), .val (.int p2), .val (.int p3), .val (.int p4), .val (.long p5), .second, .val (.int v2_0), .val (.int v4_0), .val (.int v6_0), .val (.int (p2 &&& (7 : Int32))), .val (.ref ra), .val (.int c0), .val (.int c1), .val (.int c2), .val (.int c3), .val (.int c4), .val (.int c5), .val (.int c6), .val (.ref r_18), s17_19, .unset] [(.ref aP)])
              refine Go.via (fun t k => XS.astore X47.here hx rfl (hb hby at_285) rfl rfl (XS.store1 rfl hos17_19 rfl) k) ?_
              show Go p.tables e below P T47 (mkF m 287 #[.val (.int p1), .val (.int p2), .val (.int p3), .val (.int p4), .val (.long p5), .second, .val (.int v2_0), .val (.int v4_0), .val (.int v6_0), .val (.int (p2 &&& (7 : Int32))), .val (.ref ra), .val (.int c0), .val (.int c1), .val (.int c2), .val (.int c3), .val (.int c4), .val (.int c5), .val (.int c6), .val (.ref r_18), .val (.ref aP), .unset] [])
              refine Go.via (fun t k => XS.aload X47.here hx rfl (hb hby at_287) rfl rfl k) ?_
              show Go p.tables e below P T47 (mkF m 289 #[.val (.int p1), .val (.int p2), .val (.int p3), .val (.int p4), .val (.long p5), .second, .val (.int v2_0), .val (.int v4_0), .val (.int v6_0), .val (.int (p2 &&& (7 : Int32))), .val (.ref ra), .val (.int c0), .val (.int c1), .val (.int c2), .val (.int c3), .val (.int c4), .val (.int c5), .val (.int c6), .val (.ref r_18), .val (.ref aP), .unset] [(.ref r_18)])
              obtain ⟨a48, T48, h48, kn48, b48, kb48, X48, e48, E48, hS48, hk48, hZ, hown, Ex48, Fc48, Fv48, Va48, lta48, ltb48, hC48, -, ne48, st48⟩ := ldcCH X47 hx hZ hown (hw _ (List.mem_of_getElem? (i := 0) rfl)) (own_sa hw) e47 hS18 hk36 (own_EW hw) (by decide : (("com/example/numeric_planner/numericplanner/planner/KindOfPinLaw", 9) : String × Nat) ∈ consts_1) CR35.1 (vs := [(.int (118 : Int32)), (.int (97 : Int32)), (.int (108 : Int32)), (.int (117 : Int32)), (.int (101 : Int32))]) (z := (5 : Int32)) ⟨by decide, rfl⟩ (by decide) rfl (g := (mkF m 289 #[.val (.int p1), .val (.int p2), .val (.int p3), .val (.int p4), .val (.long p5), .second, .val (.int v2_0), .val (.int v4_0), .val (.int v6_0), .val (.int (p2 &&& (7 : Int32))), .val (.ref ra), .val (.int c0), .val (.int c1), .val (.int c2), .val (.int c3), .val (.int c4), .val (.int c5), .val (.int c6), .val (.ref r_18), .val (.ref aP), .unset] [(.ref r_18)])) rfl (hb hby at_289) (n := 20) (by decide) (by decide) (by decide) (by decide)
              refine Go.via st48 ?_
              have CR49 := CHr.trans CR35 hC48
              have Z50 : n0 ≤ h48.size := Nat.le_trans Z33 E48.1
              have K51 : Keep h0 h48 [] := K34.ext E48
              have O52 : Old Z n0 h48 := O37.ext E48
              have Vb48 : Arv Z h48 b48 kb48 .byte (own_lg ([(118 : Int32), (97 : Int32), (108 : Int32), (117 : Int32), (101 : Int32)] : List Int32)) (([(118 : Int32), (97 : Int32), (108 : Int32), (117 : Int32), (101 : Int32)] : List Int32).map Value.int) (.int (0 : Int32)) := by
                rw [show own_lg ([(118 : Int32), (97 : Int32), (108 : Int32), (117 : Int32), (101 : Int32)] : List Int32) = (5 : Int32) from rfl]; exact Va48
              have F53 : Exa Z h48 r_32 "java/util/Optional" := (u32_0.ext E48)
              have nq54 := (ne48 _ (Safe.exa hZ.alike F53 (by decide) (by decide))).1
              have nq55 := (ne48 _ (Safe.exa hZ.alike F53 (by decide) (by decide))).2
              show Go p.tables e below P T48 (mkF m 291 #[.val (.int p1), .val (.int p2), .val (.int p3), .val (.int p4), .val (.long p5), .second, .val (.int v2_0), .val (.int v4_0), .val (.int v6_0), .val (.int (p2 &&& (7 : Int32))), .val (.ref ra), .val (.int c0), .val (.int c1), .val (.int c2), .val (.int c3), .val (.int c4), .val (.int c5), .val (.int c6), .val (.ref r_18), .val (.ref aP), .unset] [(.ref a48), (.ref r_18)])
              have F56 : Exa Z h48 r_18 "java/lang/String" := (F42.ext E48)
              have F57 : Fld Z h48 r_18 "java/lang/String" "value" "[B" (.ref tb_18) := (F43.ext E48)
              have F58 : Fld Z h48 r_18 "java/lang/String" "coder" "B" (.int (0 : Int32)) := (F44.ext E48)
              have F59 : Arv Z h48 tb_18 kk_18 .byte (own_lg bl_18) (bl_18.map Value.int) (.int (0 : Int32)) := (F45.ext E48)
              have F60 : Exa Z h48 ra "java/lang/String" := (F38.ext E48)
              have F61 : Fld Z h48 ra "java/lang/String" "value" "[B" (.ref ta) := (F39.ext E48)
              have F62 : Fld Z h48 ra "java/lang/String" "coder" "B" (.int (0 : Int32)) := (F40.ext E48)
              have F63 : Arv Z h48 ta ka .byte (own_lg ba) (ba.map Value.int) (.int (0 : Int32)) := (F41.ext E48)
              have F64 : Fld Z h48 r_32 "java/util/Optional" "value" "Ljava/lang/Object;" (.ref aP) := (Fq.ext E48)
              obtain ⟨cq65, kq65, q65a, q65b, q65c⟩ := isOf hZ e48 F56
              obtain ⟨_, _, ⟨T65, L65, k65, n65⟩, -, X65, ⟨Lc65, hQ65, l65, y65, z65⟩, st65⟩ := X48.virtualBack hx (y := (⟨"java/lang/String", "equals", "(Ljava/lang/Object;)Z"⟩ : MethodName)) (z := (⟨"java/lang/String", "equals", "(Ljava/lang/Object;)Z"⟩ : MethodName)) hown (mvT hZ (hw _ (List.mem_of_getElem? (i := 117) rfl))) (mvT hZ (hw _ (List.mem_of_getElem? (i := 102) rfl))) (notFace_of_selects (args := #[]) (mvT hZ (hw _ (List.mem_of_getElem? (i := 104) rfl)))) (mvT hZ (hw _ (List.mem_of_getElem? (i := 104) rfl))) (mvT hZ (hw _ (List.mem_of_getElem? (i := 103) rfl))) (by decide) (backOf (W := 0) (rm19 l Z a0 hw [] r_18 a48 cs tb_18 b48 kk_18 kb48 bl_18 ([(118 : Int32), (97 : Int32), (108 : Int32), (117 : Int32), (101 : Int32)] : List Int32) h48 n0 Z50 O52 P1 (by first | assumption | decide | omega : ¬ cs = (0 : Int32)) F56 F57 F58 F59 Ex48 Fv48 Fc48 Vb48 u18_4 (by decide) (own_sfun F57 Fv48 F59 Vb48 (by first | assumption | decide) (by first | assumption | decide))) hZ (hw _ (List.mem_of_getElem? (i := 105) rfl)) (hw _ (List.mem_of_getElem? (i := 1) rfl)) (by decide) (by decide)) q65a q65c (g := (mkF m 291 #[.val (.int p1), .val (.int p2), .val (.int p3), .val (.int p4), .val (.long p5), .second, .val (.int v2_0), .val (.int v4_0), .val (.int v6_0), .val (.int (p2 &&& (7 : Int32))), .val (.ref ra), .val (.int c0), .val (.int c1), .val (.int c2), .val (.int c3), .val (.int c4), .val (.int c5), .val (.int c6), .val (.ref r_18), .val (.ref aP), .unset] [(.ref a48), (.ref r_18)])) rfl (by rw [hml]; rfl) (Steps.refl _) (argsL := [(.ref a48)]) (rest := []) (lenOf own_pd14 rfl) rfl (by show 2 * 0 + _ ≤ _; exact Nat.le_of_eq rfl) (hb hby at_291) (fun _ _ => ⟨rfl, e48, (by decide : 13 + 0 ≤ _), (by decide : 74 + 0 ≤ _)⟩)
              dsimp only [Pt.U, Pt.locs, Pt.cells, Pt.slots] at X65 l65 y65 z65 st65 hQ65
              subst l65 y65 z65
              obtain ⟨rfl, Nq65, hh65⟩ := hQ65
              obtain ⟨lc65, Xh65, N65⟩ := own_hide X65 (Fr.app N46 Nq65)
              clear X65
              refine Go.hop st65 ?_
              show Go p.tables e below P T65 (mkF m 294 #[.val (.int p1), .val (.int p2), .val (.int p3), .val (.int p4), .val (.long p5), .second, .val (.int v2_0), .val (.int v4_0), .val (.int v6_0), .val (.int (p2 &&& (7 : Int32))), .val (.ref ra), .val (.int c0), .val (.int c1), .val (.int c2), .val (.int c3), .val (.int c4), .val (.int c5), .val (.int c6), .val (.ref r_18), .val (.ref aP), .unset] [(.int (if bl_18 = ([(118 : Int32), (97 : Int32), (108 : Int32), (117 : Int32), (101 : Int32)] : List Int32) then (1 : Int32) else (0 : Int32)))])
              refine Go.via (fun t k => XS.ifYes Xh65.here hx rfl (pc0 := 294) (pc' := 305) rfl (hb hby at_294) rfl ((if0 _ _).trans (teq (if_neg (fun q => absurd (q.symm.trans cP) (by decide)))).1) (by decide) (by decide) k) ?_
              show Go p.tables e below P T65 (mkF m 305 #[.val (.int p1), .val (.int p2), .val (.int p3), .val (.int p4), .val (.long p5), .second, .val (.int v2_0), .val (.int v4_0), .val (.int v6_0), .val (.int (p2 &&& (7 : Int32))), .val (.ref ra), .val (.int c0), .val (.int c1), .val (.int c2), .val (.int c3), .val (.int c4), .val (.int c5), .val (.int c6), .val (.ref r_18), .val (.ref aP), .unset] [])
              refine Go.via (fun t k => XS.aload Xh65.here hx rfl (hb hby at_305) rfl rfl k) ?_
              show Go p.tables e below P T65 (mkF m 307 #[.val (.int p1), .val (.int p2), .val (.int p3), .val (.int p4), .val (.long p5), .second, .val (.int v2_0), .val (.int v4_0), .val (.int v6_0), .val (.int (p2 &&& (7 : Int32))), .val (.ref ra), .val (.int c0), .val (.int c1), .val (.int c2), .val (.int c3), .val (.int c4), .val (.int c5), .val (.int c6), .val (.ref r_18), .val (.ref aP), .unset] [(.ref r_18)])
              obtain ⟨a66, T66, h66, kn66, b66, kb66, X66, e66, E66, hS66, hk66, hZ, hown, Ex66, Fc66, Fv66, Va66, lta66, ltb66, hC66, -, ne66, st66⟩ := ldcCH Xh65 hx hZ hown (hw _ (List.mem_of_getElem? (i := 118) rfl)) (own_sa hw) hh65 hS48 hk48 (own_EW hw) (by decide : (("com/example/numeric_planner/numericplanner/planner/KindOfPinLaw", 7) : String × Nat) ∈ consts_1) CR49.1 (vs := [(.int (112 : Int32)), (.int (111 : Int32)), (.int (108 : Int32)), (.int (105 : Int32)), (.int (99 : Int32)), (.int (121 : Int32))]) (z := (6 : Int32)) ⟨by decide, rfl⟩ (by decide) rfl (g := (mkF m 307 #[.val (.int p1), .val (.int p2), .val (.int p3), .val (.int p4), .val (.long p5), .second, .val (.int v2_0), .val (.int v4_0), .val (.int v6_0), .val (.int (p2 &&& (7 : Int32))), .val (.ref ra), .val (.int c0), .val (.int c1), .val (.int c2), .val (.int c3), .val (.int c4), .val (.int c5), .val (.int c6), .val (.ref r_18), .val (.ref aP), .unset] [(.ref r_18)])) rfl (hb hby at_307) (n := 24) (by decide) (by decide) (by decide) (by decide)
              refine Go.via st66 ?_
              have CR67 := CHr.trans CR49 hC66
              have Z68 : n0 ≤ h66.size := Nat.le_trans Z50 E66.1
              have K69 : Keep h0 h66 [] := K51.ext E66
              have O70 : Old Z n0 h66 := O52.ext E66
              have Vb66 : Arv Z h66 b66 kb66 .byte (own_lg ([(112 : Int32), (111 : Int32), (108 : Int32), (105 : Int32), (99 : Int32), (121 : Int32)] : List Int32)) (([(112 : Int32), (111 : Int32), (108 : Int32), (105 : Int32), (99 : Int32), (121 : Int32)] : List Int32).map Value.int) (.int (0 : Int32)) := by
                rw [show own_lg ([(112 : Int32), (111 : Int32), (108 : Int32), (105 : Int32), (99 : Int32), (121 : Int32)] : List Int32) = (6 : Int32) from rfl]; exact Va66
              have F71 : Exa Z h66 r_32 "java/util/Optional" := (F53.ext E66)
              have nq72 := (ne66 _ (Safe.exa hZ.alike F71 (by decide) (by decide))).1
              have nq73 := (ne66 _ (Safe.exa hZ.alike F71 (by decide) (by decide))).2
              show Go p.tables e below P T66 (mkF m 309 #[.val (.int p1), .val (.int p2), .val (.int p3), .val (.int p4), .val (.long p5), .second, .val (.int v2_0), .val (.int v4_0), .val (.int v6_0), .val (.int (p2 &&& (7 : Int32))), .val (.ref ra), .val (.int c0), .val (.int c1), .val (.int c2), .val (.int c3), .val (.int c4), .val (.int c5), .val (.int c6), .val (.ref r_18), .val (.ref aP), .unset] [(.ref a66), (.ref r_18)])
              have F74 : Exa Z h66 r_18 "java/lang/String" := (F56.ext E66)
              have F75 : Fld Z h66 r_18 "java/lang/String" "value" "[B" (.ref tb_18) := (F57.ext E66)
              have F76 : Fld Z h66 r_18 "java/lang/String" "coder" "B" (.int (0 : Int32)) := (F58.ext E66)
              have F77 : Arv Z h66 tb_18 kk_18 .byte (own_lg bl_18) (bl_18.map Value.int) (.int (0 : Int32)) := (F59.ext E66)
              have F78 : Exa Z h66 ra "java/lang/String" := (F60.ext E66)
              have F79 : Fld Z h66 ra "java/lang/String" "value" "[B" (.ref ta) := (F61.ext E66)
              have F80 : Fld Z h66 ra "java/lang/String" "coder" "B" (.int (0 : Int32)) := (F62.ext E66)
              have F81 : Arv Z h66 ta ka .byte (own_lg ba) (ba.map Value.int) (.int (0 : Int32)) := (F63.ext E66)
              have F82 : Fld Z h66 r_32 "java/util/Optional" "value" "Ljava/lang/Object;" (.ref aP) := (F64.ext E66)
              have F83 : Exa Z h66 a48 "java/lang/String" := (Ex48.ext E66)
              have F84 : Fld Z h66 a48 "java/lang/String" "coder" "B" (.int (0 : Int32)) := (Fc48.ext E66)
              have F85 : Fld Z h66 a48 "java/lang/String" "value" "[B" (.ref b48) := (Fv48.ext E66)
              have F86 : Arv Z h66 b48 kb48 .byte (own_lg ([(118 : Int32), (97 : Int32), (108 : Int32), (117 : Int32), (101 : Int32)] : List Int32)) (([(118 : Int32), (97 : Int32), (108 : Int32), (117 : Int32), (101 : Int32)] : List Int32).map Value.int) (.int (0 : Int32)) := (Vb48.ext E66)
              obtain ⟨cq87, kq87, q87a, q87b, q87c⟩ := isOf hZ e66 F74
              obtain ⟨_, _, ⟨T87, L87, k87, n87⟩, -, X87, ⟨Lc87, hQ87, l87, y87, z87⟩, st87⟩ := X66.virtualBack hx (y := (⟨"java/lang/String", "equals", "(Ljava/lang/Object;)Z"⟩ : MethodName)) (z := (⟨"java/lang/String", "equals", "(Ljava/lang/Object;)Z"⟩ : MethodName)) hown (mvT hZ (hw _ (List.mem_of_getElem? (i := 117) rfl))) (mvT hZ (hw _ (List.mem_of_getElem? (i := 102) rfl))) (notFace_of_selects (args := #[]) (mvT hZ (hw _ (List.mem_of_getElem? (i := 104) rfl)))) (mvT hZ (hw _ (List.mem_of_getElem? (i := 104) rfl))) (mvT hZ (hw _ (List.mem_of_getElem? (i := 103) rfl))) (by decide) (backOf (W := 0) (rm19 l Z a0 hw [] r_18 a66 cs tb_18 b66 kk_18 kb66 bl_18 ([(112 : Int32), (111 : Int32), (108 : Int32), (105 : Int32), (99 : Int32), (121 : Int32)] : List Int32) h66 n0 Z68 O70 P1 (by first | assumption | decide | omega : ¬ cs = (0 : Int32)) F74 F75 F76 F77 Ex66 Fv66 Fc66 Vb66 u18_4 (by decide) (own_sfun F75 Fv66 F77 Vb66 (by first | assumption | decide) (by first | assumption | decide))) hZ (hw _ (List.mem_of_getElem? (i := 105) rfl)) (hw _ (List.mem_of_getElem? (i := 1) rfl)) (by decide) (by decide)) q87a q87c (g := (mkF m 309 #[.val (.int p1), .val (.int p2), .val (.int p3), .val (.int p4), .val (.long p5), .second, .val (.int v2_0), .val (.int v4_0), .val (.int v6_0), .val (.int (p2 &&& (7 : Int32))), .val (.ref ra), .val (.int c0), .val (.int c1), .val (.int c2), .val (.int c3), .val (.int c4), .val (.int c5), .val (.int c6), .val (.ref r_18), .val (.ref aP), .unset] [(.ref a66), (.ref r_18)])) rfl (by rw [hml]; rfl) (Steps.refl _) (argsL := [(.ref a66)]) (rest := []) (lenOf own_pd14 rfl) rfl (by show 2 * 0 + _ ≤ _; exact Nat.le_of_eq rfl) (hb hby at_309) (fun _ _ => ⟨rfl, e66, (by decide : 15 + 0 ≤ _), (by decide : 102 + 0 ≤ _)⟩)
              dsimp only [Pt.U, Pt.locs, Pt.cells, Pt.slots] at X87 l87 y87 z87 st87 hQ87
              subst l87 y87 z87
              obtain ⟨rfl, Nq87, hh87⟩ := hQ87
              obtain ⟨lc87, Xh87, N87⟩ := own_hide X87 (Fr.app N65 Nq87)
              clear X87
              refine Go.hop st87 ?_
              show Go p.tables e below P T87 (mkF m 312 #[.val (.int p1), .val (.int p2), .val (.int p3), .val (.int p4), .val (.long p5), .second, .val (.int v2_0), .val (.int v4_0), .val (.int v6_0), .val (.int (p2 &&& (7 : Int32))), .val (.ref ra), .val (.int c0), .val (.int c1), .val (.int c2), .val (.int c3), .val (.int c4), .val (.int c5), .val (.int c6), .val (.ref r_18), .val (.ref aP), .unset] [(.int (if bl_18 = ([(112 : Int32), (111 : Int32), (108 : Int32), (105 : Int32), (99 : Int32), (121 : Int32)] : List Int32) then (1 : Int32) else (0 : Int32)))])
              refine Go.via (fun t k => XS.ifNo Xh87.here hx rfl (hb hby at_312) rfl ((if0 _ _).trans (feq (fun q => own_i0 q cP)).1) k) ?_
              show Go p.tables e below P T87 (mkF m 315 #[.val (.int p1), .val (.int p2), .val (.int p3), .val (.int p4), .val (.long p5), .second, .val (.int v2_0), .val (.int v4_0), .val (.int v6_0), .val (.int (p2 &&& (7 : Int32))), .val (.ref ra), .val (.int c0), .val (.int c1), .val (.int c2), .val (.int c3), .val (.int c4), .val (.int c5), .val (.int c6), .val (.ref r_18), .val (.ref aP), .unset] [])
              obtain ⟨T88, X88, e88, st88⟩ := getS2 Xh87 hx hZ hown (host := "") (Or.inl (hw _ (List.mem_of_getElem? (i := 137) rfl))) Via.refl hh87 (P24.ext O70.2) (g := (mkF m 315 #[.val (.int p1), .val (.int p2), .val (.int p3), .val (.int p4), .val (.long p5), .second, .val (.int v2_0), .val (.int v4_0), .val (.int v6_0), .val (.int (p2 &&& (7 : Int32))), .val (.ref ra), .val (.int c0), .val (.int c1), .val (.int c2), .val (.int c3), .val (.int c4), .val (.int c5), .val (.int c6), .val (.ref r_18), .val (.ref aP), .unset] [])) rfl (hb hby at_315)
              refine Go.via st88 ?_
              show Go p.tables e below P T88 (mkF m 318 #[.val (.int p1), .val (.int p2), .val (.int p3), .val (.int p4), .val (.long p5), .second, .val (.int v2_0), .val (.int v4_0), .val (.int v6_0), .val (.int (p2 &&& (7 : Int32))), .val (.ref ra), .val (.int c0), .val (.int c1), .val (.int c2), .val (.int c3), .val (.int c4), .val (.int c5), .val (.int c6), .val (.ref r_18), .val (.ref aP), .unset] [(.ref aP)])
              refine Go.via (fun t k => XS.astore X88.here hx rfl (hb hby at_318) rfl rfl (l' := #[.val (.int p1), .val (.int p2), .val (.int p3), .val (.int p4), .val (.long p5), .second, .val (.int v2_0), .val (.int v4_0), .val (.int v6_0), .val (.int (p2 &&& (7 : Int32))), .val (.ref ra), .val (.int c0), .val (.int c1), .val (.int c2), .val (.int c3), .val (.int c4), .val (.int c5), .val (.int c6), .val (.ref r_18), .val (.ref aP), .val (.ref aP)]) rfl k) ?_
              show Go p.tables e below P T88 (mkF m 320 #[.val (.int p1), .val (.int p2), .val (.int p3), .val (.int p4), .val (.long p5), .second, .val (.int v2_0), .val (.int v4_0), .val (.int v6_0), .val (.int (p2 &&& (7 : Int32))), .val (.ref ra), .val (.int c0), .val (.int c1), .val (.int c2), .val (.int c3), .val (.int c4), .val (.int c5), .val (.int c6), .val (.ref r_18), .val (.ref aP), .val (.ref aP)] [])
              refine Go.via (fun t k => XS.goto X88.here hx rfl (pc0 := 320) (pc' := 326) rfl (hb hby at_320) (by decide) (by decide) k) ?_
              show Go p.tables e below P T88 (mkF m 326 #[.val (.int p1), .val (.int p2), .val (.int p3), .val (.int p4), .val (.long p5), .second, .val (.int v2_0), .val (.int v4_0), .val (.int v6_0), .val (.int (p2 &&& (7 : Int32))), .val (.ref ra), .val (.int c0), .val (.int c1), .val (.int c2), .val (.int c3), .val (.int c4), .val (.int c5), .val (.int c6), .val (.ref r_18), .val (.ref aP), .val (.ref aP)] [])
              refine Go.via (fun t k => XS.aload X88.here hx rfl (hb hby at_326) rfl rfl k) ?_
              show Go p.tables e below P T88 (mkF m 328 #[.val (.int p1), .val (.int p2), .val (.int p3), .val (.int p4), .val (.long p5), .second, .val (.int v2_0), .val (.int v4_0), .val (.int v6_0), .val (.int (p2 &&& (7 : Int32))), .val (.ref ra), .val (.int c0), .val (.int c1), .val (.int c2), .val (.int c3), .val (.int c4), .val (.int c5), .val (.int c6), .val (.ref r_18), .val (.ref aP), .val (.ref aP)] [(.ref aP)])
              refine Go.via (fun t k => XS.aload X88.here hx rfl (hb hby at_328) rfl rfl k) ?_
              show Go p.tables e below P T88 (mkF m 330 #[.val (.int p1), .val (.int p2), .val (.int p3), .val (.int p4), .val (.long p5), .second, .val (.int v2_0), .val (.int v4_0), .val (.int v6_0), .val (.int (p2 &&& (7 : Int32))), .val (.ref ra), .val (.int c0), .val (.int c1), .val (.int c2), .val (.int c3), .val (.int c4), .val (.int c5), .val (.int c6), .val (.ref r_18), .val (.ref aP), .val (.ref aP)] [(.ref aP), (.ref aP)])
              refine Go.via (fun t k => Jvm.RoadKit.acmp (g := (mkF m 330 #[.val (.int p1), .val (.int p2), .val (.int p3), .val (.int p4), .val (.long p5), .second, .val (.int v2_0), .val (.int v4_0), .val (.int v6_0), .val (.int (p2 &&& (7 : Int32))), .val (.ref ra), .val (.int c0), .val (.int c1), .val (.int c2), .val (.int c3), .val (.int c4), .val (.int c5), .val (.int c6), .val (.ref r_18), .val (.ref aP), .val (.ref aP)] [(.ref aP), (.ref aP)])) X88 hx rfl rfl rfl (pc0 := 330) (pc' := 333) (same := true) rfl (hb hby at_330) rfl (decide_eq_true rfl) (by decide) (by decide) k) ?_
              show Go p.tables e below P T88 (mkF m 333 #[.val (.int p1), .val (.int p2), .val (.int p3), .val (.int p4), .val (.long p5), .second, .val (.int v2_0), .val (.int v4_0), .val (.int v6_0), .val (.int (p2 &&& (7 : Int32))), .val (.ref ra), .val (.int c0), .val (.int c1), .val (.int c2), .val (.int c3), .val (.int c4), .val (.int c5), .val (.int c6), .val (.ref r_18), .val (.ref aP), .val (.ref aP)] [])
              refine Go.via (fun t k => XS.iconst X88.here hx rfl (hb hby at_333) k) ?_
              show Go p.tables e below P T88 (mkF m 334 #[.val (.int p1), .val (.int p2), .val (.int p3), .val (.int p4), .val (.long p5), .second, .val (.int v2_0), .val (.int v4_0), .val (.int v6_0), .val (.int (p2 &&& (7 : Int32))), .val (.ref ra), .val (.int c0), .val (.int c1), .val (.int c2), .val (.int c3), .val (.int c4), .val (.int c5), .val (.int c6), .val (.ref r_18), .val (.ref aP), .val (.ref aP)] [(.int (1 : Int32))])
              refine Go.via (fun t k => XS.goto X88.here hx rfl (pc0 := 334) (pc' := 338) rfl (hb hby at_334) (by decide) (by decide) k) ?_
              show Go p.tables e below P T88 (mkF m 338 #[.val (.int p1), .val (.int p2), .val (.int p3), .val (.int p4), .val (.long p5), .second, .val (.int v2_0), .val (.int v4_0), .val (.int v6_0), .val (.int (p2 &&& (7 : Int32))), .val (.ref ra), .val (.int c0), .val (.int c1), .val (.int c2), .val (.int c3), .val (.int c4), .val (.int c5), .val (.int c6), .val (.ref r_18), .val (.ref aP), .val (.ref aP)] [(.int (1 : Int32))])
              obtain ⟨fs, hr, hrun, hended, hend⟩ := X88.leaveW hS66 (by rw [e88]; exact hk66) (v := some (.int (1 : Int32))) (fun h => by rw [Bd.returns] at h; cases h)
              have hCf : CHr Z consts_1 s.vm s.heap (T88.setFrames fs).vm (T88.setFrames fs).heap := by
                rw [hh]
                show CHr Z consts_1 s.vm h0 T88.vm T88.heap
                rw [e88]
                exact CHr.trans CR67 (CHv.at X88 hZ (own_EW hw) CR67.1)
              refine ⟨_, _, retZ X88 hx (t := .boolean) Bd.returns (by simp) (hb hby at_338) rfl hr, hrun, hended, hP _ _ ⟨_, _, rfl, ?_, hCf, own_rew hend (by decide) (by decide)⟩⟩
              show Q0 Z p1 p2 p3 p4 p5 cs fm em va kva aV sV tV kV aP sP tP kP h0 n0 _ T88.heap _
              rw [e88]
              exact ⟨rfl, N87⟩
            · have Fq : Fld Z T32.heap r_32 "java/util/Optional" "value" "Ljava/lang/Object;" (.ref aV) := q0 ▸ u32_1
              show Go p.tables e below P T32 (mkF m 278 #[.val (.int p1), .val (.int p2), .val (.int p3), .val (.int p4), .val (.long p5), .second, .val (.int v2_0), .val (.int v4_0), .val (.int v6_0), .val (.int (p2 &&& (7 : Int32))), .val (.ref ra), .val (.int c0), .val (.int c1), .val (.int c2), .val (.int c3), .val (.int c4), .val (.int c5), .val (.int c6), .val (.ref r_18), s17_19, .unset] [(.ref r_32)])
              refine Go.via (fun t k => XS.aconstNull Xh32.here hx rfl (hb hby at_278) k) ?_
              show Go p.tables e below P T32 (mkF m 279 #[.val (.int p1), .val (.int p2), .val (.int p3), .val (.int p4), .val (.long p5), .second, .val (.int v2_0), .val (.int v4_0), .val (.int v6_0), .val (.int (p2 &&& (7 : Int32))), .val (.ref ra), .val (.int c0), .val (.int c1), .val (.int c2), .val (.int c3), .val (.int c4), .val (.int c5), .val (.int c6), .val (.ref r_18), s17_19, .unset] [.null, (.ref r_32)])
              have F90 : Exa Z T32.heap ra "java/lang/String" := (F28.keep K32)
              have F91 : Fld Z T32.heap ra "java/lang/String" "value" "[B" (.ref ta) := (F29.keep K32 own_nin0)
              have F92 : Fld Z T32.heap ra "java/lang/String" "coder" "B" (.int (0 : Int32)) := (F30.keep K32 own_nin0)
              have F93 : Arv Z T32.heap ta ka .byte (own_lg ba) (ba.map Value.int) (.int (0 : Int32)) := (F31.keep K32 own_nin0)
              have F94 : Exa Z T32.heap r_18 "java/lang/String" := (u18_0.keep K32)
              have F95 : Fld Z T32.heap r_18 "java/lang/String" "value" "[B" (.ref tb_18) := (u18_1.keep K32 own_nin0)
              have F96 : Fld Z T32.heap r_18 "java/lang/String" "coder" "B" (.int (0 : Int32)) := (u18_2.keep K32 own_nin0)
              have F97 : Arv Z T32.heap tb_18 kk_18 .byte (own_lg bl_18) (bl_18.map Value.int) (.int (0 : Int32)) := (u18_3.keep K32 own_nin0)
              obtain ⟨cq98, kq98, q98a, q98b, q98c⟩ := isOf hZ rfl u32_0
              obtain ⟨_, _, ⟨T98, L98, k98, n98⟩, -, X98, ⟨Lc98, hQ98, l98, y98, z98⟩, st98⟩ := Xh32.virtualBack hx (y := (⟨"java/util/Optional", "orElse", "(Ljava/lang/Object;)Ljava/lang/Object;"⟩ : MethodName)) (z := (⟨"java/util/Optional", "orElse", "(Ljava/lang/Object;)Ljava/lang/Object;"⟩ : MethodName)) hown (mvT hZ (hw _ (List.mem_of_getElem? (i := 110) rfl))) (mvT hZ (hw _ (List.mem_of_getElem? (i := 111) rfl))) (notFace_of_selects (args := #[]) (mvT hZ (hw _ (List.mem_of_getElem? (i := 113) rfl)))) (mvT hZ (hw _ (List.mem_of_getElem? (i := 113) rfl))) (mvT hZ (hw _ (List.mem_of_getElem? (i := 112) rfl))) (by decide) (backOf (W := 0) (rm21r l Z a0 hw [] r_32 aV T32.heap n0 Z33 Fq) hZ (hw _ (List.mem_of_getElem? (i := 114) rfl)) (hw _ (List.mem_of_getElem? (i := 79) rfl)) (by decide) (by decide)) q98a q98c (g := (mkF m 279 #[.val (.int p1), .val (.int p2), .val (.int p3), .val (.int p4), .val (.long p5), .second, .val (.int v2_0), .val (.int v4_0), .val (.int v6_0), .val (.int (p2 &&& (7 : Int32))), .val (.ref ra), .val (.int c0), .val (.int c1), .val (.int c2), .val (.int c3), .val (.int c4), .val (.int c5), .val (.int c6), .val (.ref r_18), s17_19, .unset] [.null, (.ref r_32)])) rfl (by rw [hml]; rfl) (Steps.refl _) (argsL := [.null]) (rest := []) (lenOf own_pd10 rfl) rfl (by show 2 * 0 + _ ≤ _; exact Nat.le_of_eq rfl) (hb hby at_279) (fun _ _ => ⟨rfl, rfl, (by decide : 11 + 0 ≤ _), (by decide : 50 + 0 ≤ _)⟩)
              dsimp only [Pt.U, Pt.locs, Pt.cells, Pt.slots] at X98 l98 y98 z98 st98 hQ98
              subst l98 y98 z98
              obtain ⟨rfl, Nq98, hh98⟩ := hQ98
              obtain ⟨lc98, Xh98, N98⟩ := own_hide X98 (Fr.app N32 Nq98)
              clear X98
              refine Go.hop st98 ?_
              show Go p.tables e below P T98 (mkF m 282 #[.val (.int p1), .val (.int p2), .val (.int p3), .val (.int p4), .val (.long p5), .second, .val (.int v2_0), .val (.int v4_0), .val (.int v6_0), .val (.int (p2 &&& (7 : Int32))), .val (.ref ra), .val (.int c0), .val (.int c1), .val (.int c2), .val (.int c3), .val (.int c4), .val (.int c5), .val (.int c6), .val (.ref r_18), s17_19, .unset] [(.ref aV)])
              obtain ⟨T99, X99, e99, st99⟩ := castY Xh98 hx hZ hown (hw _ (List.mem_of_getElem? (i := 135) rfl)) hh98 (Ins.self (P11.ext O37.2)) (g := (mkF m 282 #[.val (.int p1), .val (.int p2), .val (.int p3), .val (.int p4), .val (.long p5), .second, .val (.int v2_0), .val (.int v4_0), .val (.int v6_0), .val (.int (p2 &&& (7 : Int32))), .val (.ref ra), .val (.int c0), .val (.int c1), .val (.int c2), .val (.int c3), .val (.int c4), .val (.int c5), .val (.int c6), .val (.ref r_18), s17_19, .unset] [(.ref aV)])) rfl rfl (hb hby at_282)
              refine Go.via st99 ?_
              show Go p.tables e below P T99 (mkF m 285 #[.val (.int p1), .val (.int p2), .val (.int p3), .val (.int p4), .val (.long p5), .second, .val (.int v2_0), .val (.int v4_0), .val (.int v6_0), .val (.int (p2 &&& (7 : Int32))), .val (.ref ra), .val (.int c0), .val (.int c1), .val (.int c2), .val (.int c3), .val (.int c4), .val (.int c5), .val (.int c6), .val (.ref r_18), s17_19, .unset] [(.ref aV)])
              refine Go.via (fun t k => XS.astore X99.here hx rfl (hb hby at_285) rfl rfl (XS.store1 rfl hos17_19 rfl) k) ?_
              show Go p.tables e below P T99 (mkF m 287 #[.val (.int p1), .val (.int p2), .val (.int p3), .val (.int p4), .val (.long p5), .second, .val (.int v2_0), .val (.int v4_0), .val (.int v6_0), .val (.int (p2 &&& (7 : Int32))), .val (.ref ra), .val (.int c0), .val (.int c1), .val (.int c2), .val (.int c3), .val (.int c4), .val (.int c5), .val (.int c6), .val (.ref r_18), .val (.ref aV), .unset] [])
              refine Go.via (fun t k => XS.aload X99.here hx rfl (hb hby at_287) rfl rfl k) ?_
              show Go p.tables e below P T99 (mkF m 289 #[.val (.int p1), .val (.int p2), .val (.int p3), .val (.int p4), .val (.long p5), .second, .val (.int v2_0), .val (.int v4_0), .val (.int v6_0), .val (.int (p2 &&& (7 : Int32))), .val (.ref ra), .val (.int c0), .val (.int c1), .val (.int c2), .val (.int c3), .val (.int c4), .val (.int c5), .val (.int c6), .val (.ref r_18), .val (.ref aV), .unset] [(.ref r_18)])
              obtain ⟨a100, T100, h100, kn100, b100, kb100, X100, e100, E100, hS100, hk100, hZ, hown, Ex100, Fc100, Fv100, Va100, lta100, ltb100, hC100, -, ne100, st100⟩ := ldcCH X99 hx hZ hown (hw _ (List.mem_of_getElem? (i := 0) rfl)) (own_sa hw) e99 hS18 hk36 (own_EW hw) (by decide : (("com/example/numeric_planner/numericplanner/planner/KindOfPinLaw", 9) : String × Nat) ∈ consts_1) CR35.1 (vs := [(.int (118 : Int32)), (.int (97 : Int32)), (.int (108 : Int32)), (.int (117 : Int32)), (.int (101 : Int32))]) (z := (5 : Int32)) ⟨by decide, rfl⟩ (by decide) rfl (g := (mkF m 289 #[.val (.int p1), .val (.int p2), .val (.int p3), .val (.int p4), .val (.long p5), .second, .val (.int v2_0), .val (.int v4_0), .val (.int v6_0), .val (.int (p2 &&& (7 : Int32))), .val (.ref ra), .val (.int c0), .val (.int c1), .val (.int c2), .val (.int c3), .val (.int c4), .val (.int c5), .val (.int c6), .val (.ref r_18), .val (.ref aV), .unset] [(.ref r_18)])) rfl (hb hby at_289) (n := 20) (by decide) (by decide) (by decide) (by decide)
              refine Go.via st100 ?_
              have CR101 := CHr.trans CR35 hC100
              have Z102 : n0 ≤ h100.size := Nat.le_trans Z33 E100.1
              have K103 : Keep h0 h100 [] := K34.ext E100
              have O104 : Old Z n0 h100 := O37.ext E100
              have Vb100 : Arv Z h100 b100 kb100 .byte (own_lg ([(118 : Int32), (97 : Int32), (108 : Int32), (117 : Int32), (101 : Int32)] : List Int32)) (([(118 : Int32), (97 : Int32), (108 : Int32), (117 : Int32), (101 : Int32)] : List Int32).map Value.int) (.int (0 : Int32)) := by
                rw [show own_lg ([(118 : Int32), (97 : Int32), (108 : Int32), (117 : Int32), (101 : Int32)] : List Int32) = (5 : Int32) from rfl]; exact Va100
              have F105 : Exa Z h100 r_32 "java/util/Optional" := (u32_0.ext E100)
              have nq106 := (ne100 _ (Safe.exa hZ.alike F105 (by decide) (by decide))).1
              have nq107 := (ne100 _ (Safe.exa hZ.alike F105 (by decide) (by decide))).2
              show Go p.tables e below P T100 (mkF m 291 #[.val (.int p1), .val (.int p2), .val (.int p3), .val (.int p4), .val (.long p5), .second, .val (.int v2_0), .val (.int v4_0), .val (.int v6_0), .val (.int (p2 &&& (7 : Int32))), .val (.ref ra), .val (.int c0), .val (.int c1), .val (.int c2), .val (.int c3), .val (.int c4), .val (.int c5), .val (.int c6), .val (.ref r_18), .val (.ref aV), .unset] [(.ref a100), (.ref r_18)])
              have F108 : Exa Z h100 r_18 "java/lang/String" := (F94.ext E100)
              have F109 : Fld Z h100 r_18 "java/lang/String" "value" "[B" (.ref tb_18) := (F95.ext E100)
              have F110 : Fld Z h100 r_18 "java/lang/String" "coder" "B" (.int (0 : Int32)) := (F96.ext E100)
              have F111 : Arv Z h100 tb_18 kk_18 .byte (own_lg bl_18) (bl_18.map Value.int) (.int (0 : Int32)) := (F97.ext E100)
              have F112 : Exa Z h100 ra "java/lang/String" := (F90.ext E100)
              have F113 : Fld Z h100 ra "java/lang/String" "value" "[B" (.ref ta) := (F91.ext E100)
              have F114 : Fld Z h100 ra "java/lang/String" "coder" "B" (.int (0 : Int32)) := (F92.ext E100)
              have F115 : Arv Z h100 ta ka .byte (own_lg ba) (ba.map Value.int) (.int (0 : Int32)) := (F93.ext E100)
              have F116 : Fld Z h100 r_32 "java/util/Optional" "value" "Ljava/lang/Object;" (.ref aV) := (Fq.ext E100)
              obtain ⟨cq117, kq117, q117a, q117b, q117c⟩ := isOf hZ e100 F108
              obtain ⟨_, _, ⟨T117, L117, k117, n117⟩, -, X117, ⟨Lc117, hQ117, l117, y117, z117⟩, st117⟩ := X100.virtualBack hx (y := (⟨"java/lang/String", "equals", "(Ljava/lang/Object;)Z"⟩ : MethodName)) (z := (⟨"java/lang/String", "equals", "(Ljava/lang/Object;)Z"⟩ : MethodName)) hown (mvT hZ (hw _ (List.mem_of_getElem? (i := 117) rfl))) (mvT hZ (hw _ (List.mem_of_getElem? (i := 102) rfl))) (notFace_of_selects (args := #[]) (mvT hZ (hw _ (List.mem_of_getElem? (i := 104) rfl)))) (mvT hZ (hw _ (List.mem_of_getElem? (i := 104) rfl))) (mvT hZ (hw _ (List.mem_of_getElem? (i := 103) rfl))) (by decide) (backOf (W := 0) (rm19 l Z a0 hw [] r_18 a100 cs tb_18 b100 kk_18 kb100 bl_18 ([(118 : Int32), (97 : Int32), (108 : Int32), (117 : Int32), (101 : Int32)] : List Int32) h100 n0 Z102 O104 P1 (by first | assumption | decide | omega : ¬ cs = (0 : Int32)) F108 F109 F110 F111 Ex100 Fv100 Fc100 Vb100 u18_4 (by decide) (own_sfun F109 Fv100 F111 Vb100 (by first | assumption | decide) (by first | assumption | decide))) hZ (hw _ (List.mem_of_getElem? (i := 105) rfl)) (hw _ (List.mem_of_getElem? (i := 1) rfl)) (by decide) (by decide)) q117a q117c (g := (mkF m 291 #[.val (.int p1), .val (.int p2), .val (.int p3), .val (.int p4), .val (.long p5), .second, .val (.int v2_0), .val (.int v4_0), .val (.int v6_0), .val (.int (p2 &&& (7 : Int32))), .val (.ref ra), .val (.int c0), .val (.int c1), .val (.int c2), .val (.int c3), .val (.int c4), .val (.int c5), .val (.int c6), .val (.ref r_18), .val (.ref aV), .unset] [(.ref a100), (.ref r_18)])) rfl (by rw [hml]; rfl) (Steps.refl _) (argsL := [(.ref a100)]) (rest := []) (lenOf own_pd14 rfl) rfl (by show 2 * 0 + _ ≤ _; exact Nat.le_of_eq rfl) (hb hby at_291) (fun _ _ => ⟨rfl, e100, (by decide : 13 + 0 ≤ _), (by decide : 74 + 0 ≤ _)⟩)
              dsimp only [Pt.U, Pt.locs, Pt.cells, Pt.slots] at X117 l117 y117 z117 st117 hQ117
              subst l117 y117 z117
              obtain ⟨rfl, Nq117, hh117⟩ := hQ117
              obtain ⟨lc117, Xh117, N117⟩ := own_hide X117 (Fr.app N98 Nq117)
              clear X117
              refine Go.hop st117 ?_
              show Go p.tables e below P T117 (mkF m 294 #[.val (.int p1), .val (.int p2), .val (.int p3), .val (.int p4), .val (.long p5), .second, .val (.int v2_0), .val (.int v4_0), .val (.int v6_0), .val (.int (p2 &&& (7 : Int32))), .val (.ref ra), .val (.int c0), .val (.int c1), .val (.int c2), .val (.int c3), .val (.int c4), .val (.int c5), .val (.int c6), .val (.ref r_18), .val (.ref aV), .unset] [(.int (if bl_18 = ([(118 : Int32), (97 : Int32), (108 : Int32), (117 : Int32), (101 : Int32)] : List Int32) then (1 : Int32) else (0 : Int32)))])
              refine Go.via (fun t k => XS.ifNo Xh117.here hx rfl (hb hby at_294) rfl ((if0 _ _).trans (feq (fun q => own_i0 q cV)).1) k) ?_
              show Go p.tables e below P T117 (mkF m 297 #[.val (.int p1), .val (.int p2), .val (.int p3), .val (.int p4), .val (.long p5), .second, .val (.int v2_0), .val (.int v4_0), .val (.int v6_0), .val (.int (p2 &&& (7 : Int32))), .val (.ref ra), .val (.int c0), .val (.int c1), .val (.int c2), .val (.int c3), .val (.int c4), .val (.int c5), .val (.int c6), .val (.ref r_18), .val (.ref aV), .unset] [])
              obtain ⟨T118, X118, e118, st118⟩ := getS2 Xh117 hx hZ hown (host := "") (Or.inl (hw _ (List.mem_of_getElem? (i := 138) rfl))) Via.refl hh117 (P23.ext O104.2) (g := (mkF m 297 #[.val (.int p1), .val (.int p2), .val (.int p3), .val (.int p4), .val (.long p5), .second, .val (.int v2_0), .val (.int v4_0), .val (.int v6_0), .val (.int (p2 &&& (7 : Int32))), .val (.ref ra), .val (.int c0), .val (.int c1), .val (.int c2), .val (.int c3), .val (.int c4), .val (.int c5), .val (.int c6), .val (.ref r_18), .val (.ref aV), .unset] [])) rfl (hb hby at_297)
              refine Go.via st118 ?_
              show Go p.tables e below P T118 (mkF m 300 #[.val (.int p1), .val (.int p2), .val (.int p3), .val (.int p4), .val (.long p5), .second, .val (.int v2_0), .val (.int v4_0), .val (.int v6_0), .val (.int (p2 &&& (7 : Int32))), .val (.ref ra), .val (.int c0), .val (.int c1), .val (.int c2), .val (.int c3), .val (.int c4), .val (.int c5), .val (.int c6), .val (.ref r_18), .val (.ref aV), .unset] [(.ref aV)])
              refine Go.via (fun t k => XS.astore X118.here hx rfl (hb hby at_300) rfl rfl (l' := #[.val (.int p1), .val (.int p2), .val (.int p3), .val (.int p4), .val (.long p5), .second, .val (.int v2_0), .val (.int v4_0), .val (.int v6_0), .val (.int (p2 &&& (7 : Int32))), .val (.ref ra), .val (.int c0), .val (.int c1), .val (.int c2), .val (.int c3), .val (.int c4), .val (.int c5), .val (.int c6), .val (.ref r_18), .val (.ref aV), .val (.ref aV)]) rfl k) ?_
              show Go p.tables e below P T118 (mkF m 302 #[.val (.int p1), .val (.int p2), .val (.int p3), .val (.int p4), .val (.long p5), .second, .val (.int v2_0), .val (.int v4_0), .val (.int v6_0), .val (.int (p2 &&& (7 : Int32))), .val (.ref ra), .val (.int c0), .val (.int c1), .val (.int c2), .val (.int c3), .val (.int c4), .val (.int c5), .val (.int c6), .val (.ref r_18), .val (.ref aV), .val (.ref aV)] [])
              refine Go.via (fun t k => XS.goto X118.here hx rfl (pc0 := 302) (pc' := 326) rfl (hb hby at_302) (by decide) (by decide) k) ?_
              show Go p.tables e below P T118 (mkF m 326 #[.val (.int p1), .val (.int p2), .val (.int p3), .val (.int p4), .val (.long p5), .second, .val (.int v2_0), .val (.int v4_0), .val (.int v6_0), .val (.int (p2 &&& (7 : Int32))), .val (.ref ra), .val (.int c0), .val (.int c1), .val (.int c2), .val (.int c3), .val (.int c4), .val (.int c5), .val (.int c6), .val (.ref r_18), .val (.ref aV), .val (.ref aV)] [])
              refine Go.via (fun t k => XS.aload X118.here hx rfl (hb hby at_326) rfl rfl k) ?_
              show Go p.tables e below P T118 (mkF m 328 #[.val (.int p1), .val (.int p2), .val (.int p3), .val (.int p4), .val (.long p5), .second, .val (.int v2_0), .val (.int v4_0), .val (.int v6_0), .val (.int (p2 &&& (7 : Int32))), .val (.ref ra), .val (.int c0), .val (.int c1), .val (.int c2), .val (.int c3), .val (.int c4), .val (.int c5), .val (.int c6), .val (.ref r_18), .val (.ref aV), .val (.ref aV)] [(.ref aV)])
              refine Go.via (fun t k => XS.aload X118.here hx rfl (hb hby at_328) rfl rfl k) ?_
              show Go p.tables e below P T118 (mkF m 330 #[.val (.int p1), .val (.int p2), .val (.int p3), .val (.int p4), .val (.long p5), .second, .val (.int v2_0), .val (.int v4_0), .val (.int v6_0), .val (.int (p2 &&& (7 : Int32))), .val (.ref ra), .val (.int c0), .val (.int c1), .val (.int c2), .val (.int c3), .val (.int c4), .val (.int c5), .val (.int c6), .val (.ref r_18), .val (.ref aV), .val (.ref aV)] [(.ref aV), (.ref aV)])
              refine Go.via (fun t k => Jvm.RoadKit.acmp (g := (mkF m 330 #[.val (.int p1), .val (.int p2), .val (.int p3), .val (.int p4), .val (.long p5), .second, .val (.int v2_0), .val (.int v4_0), .val (.int v6_0), .val (.int (p2 &&& (7 : Int32))), .val (.ref ra), .val (.int c0), .val (.int c1), .val (.int c2), .val (.int c3), .val (.int c4), .val (.int c5), .val (.int c6), .val (.ref r_18), .val (.ref aV), .val (.ref aV)] [(.ref aV), (.ref aV)])) X118 hx rfl rfl rfl (pc0 := 330) (pc' := 333) (same := true) rfl (hb hby at_330) rfl (decide_eq_true rfl) (by decide) (by decide) k) ?_
              show Go p.tables e below P T118 (mkF m 333 #[.val (.int p1), .val (.int p2), .val (.int p3), .val (.int p4), .val (.long p5), .second, .val (.int v2_0), .val (.int v4_0), .val (.int v6_0), .val (.int (p2 &&& (7 : Int32))), .val (.ref ra), .val (.int c0), .val (.int c1), .val (.int c2), .val (.int c3), .val (.int c4), .val (.int c5), .val (.int c6), .val (.ref r_18), .val (.ref aV), .val (.ref aV)] [])
              refine Go.via (fun t k => XS.iconst X118.here hx rfl (hb hby at_333) k) ?_
              show Go p.tables e below P T118 (mkF m 334 #[.val (.int p1), .val (.int p2), .val (.int p3), .val (.int p4), .val (.long p5), .second, .val (.int v2_0), .val (.int v4_0), .val (.int v6_0), .val (.int (p2 &&& (7 : Int32))), .val (.ref ra), .val (.int c0), .val (.int c1), .val (.int c2), .val (.int c3), .val (.int c4), .val (.int c5), .val (.int c6), .val (.ref r_18), .val (.ref aV), .val (.ref aV)] [(.int (1 : Int32))])
              refine Go.via (fun t k => XS.goto X118.here hx rfl (pc0 := 334) (pc' := 338) rfl (hb hby at_334) (by decide) (by decide) k) ?_
              show Go p.tables e below P T118 (mkF m 338 #[.val (.int p1), .val (.int p2), .val (.int p3), .val (.int p4), .val (.long p5), .second, .val (.int v2_0), .val (.int v4_0), .val (.int v6_0), .val (.int (p2 &&& (7 : Int32))), .val (.ref ra), .val (.int c0), .val (.int c1), .val (.int c2), .val (.int c3), .val (.int c4), .val (.int c5), .val (.int c6), .val (.ref r_18), .val (.ref aV), .val (.ref aV)] [(.int (1 : Int32))])
              obtain ⟨fs, hr, hrun, hended, hend⟩ := X118.leaveW hS100 (by rw [e118]; exact hk100) (v := some (.int (1 : Int32))) (fun h => by rw [Bd.returns] at h; cases h)
              have hCf : CHr Z consts_1 s.vm s.heap (T118.setFrames fs).vm (T118.setFrames fs).heap := by
                rw [hh]
                show CHr Z consts_1 s.vm h0 T118.vm T118.heap
                rw [e118]
                exact CHr.trans CR101 (CHv.at X118 hZ (own_EW hw) CR101.1)
              refine ⟨_, _, retZ X118 hx (t := .boolean) Bd.returns (by simp) (hb hby at_338) rfl hr, hrun, hended, hP _ _ ⟨_, _, rfl, ?_, hCf, own_rew hend (by decide) (by decide)⟩⟩
              show Q0 Z p1 p2 p3 p4 p5 cs fm em va kva aV sV tV kV aP sP tP kP h0 n0 _ T118.heap _
              rw [e118]
              exact ⟨rfl, N117⟩
            · have Fq : Fld Z T32.heap r_32 "java/util/Optional" "value" "Ljava/lang/Object;" .null := q0 ▸ u32_1
              show Go p.tables e below P T32 (mkF m 278 #[.val (.int p1), .val (.int p2), .val (.int p3), .val (.int p4), .val (.long p5), .second, .val (.int v2_0), .val (.int v4_0), .val (.int v6_0), .val (.int (p2 &&& (7 : Int32))), .val (.ref ra), .val (.int c0), .val (.int c1), .val (.int c2), .val (.int c3), .val (.int c4), .val (.int c5), .val (.int c6), .val (.ref r_18), s17_19, .unset] [(.ref r_32)])
              refine Go.via (fun t k => XS.aconstNull Xh32.here hx rfl (hb hby at_278) k) ?_
              show Go p.tables e below P T32 (mkF m 279 #[.val (.int p1), .val (.int p2), .val (.int p3), .val (.int p4), .val (.long p5), .second, .val (.int v2_0), .val (.int v4_0), .val (.int v6_0), .val (.int (p2 &&& (7 : Int32))), .val (.ref ra), .val (.int c0), .val (.int c1), .val (.int c2), .val (.int c3), .val (.int c4), .val (.int c5), .val (.int c6), .val (.ref r_18), s17_19, .unset] [.null, (.ref r_32)])
              have F120 : Exa Z T32.heap ra "java/lang/String" := (F28.keep K32)
              have F121 : Fld Z T32.heap ra "java/lang/String" "value" "[B" (.ref ta) := (F29.keep K32 own_nin0)
              have F122 : Fld Z T32.heap ra "java/lang/String" "coder" "B" (.int (0 : Int32)) := (F30.keep K32 own_nin0)
              have F123 : Arv Z T32.heap ta ka .byte (own_lg ba) (ba.map Value.int) (.int (0 : Int32)) := (F31.keep K32 own_nin0)
              have F124 : Exa Z T32.heap r_18 "java/lang/String" := (u18_0.keep K32)
              have F125 : Fld Z T32.heap r_18 "java/lang/String" "value" "[B" (.ref tb_18) := (u18_1.keep K32 own_nin0)
              have F126 : Fld Z T32.heap r_18 "java/lang/String" "coder" "B" (.int (0 : Int32)) := (u18_2.keep K32 own_nin0)
              have F127 : Arv Z T32.heap tb_18 kk_18 .byte (own_lg bl_18) (bl_18.map Value.int) (.int (0 : Int32)) := (u18_3.keep K32 own_nin0)
              obtain ⟨cq128, kq128, q128a, q128b, q128c⟩ := isOf hZ rfl u32_0
              obtain ⟨_, _, ⟨T128, L128, k128, n128⟩, -, X128, ⟨Lc128, hQ128, l128, y128, z128⟩, st128⟩ := Xh32.virtualBack hx (y := (⟨"java/util/Optional", "orElse", "(Ljava/lang/Object;)Ljava/lang/Object;"⟩ : MethodName)) (z := (⟨"java/util/Optional", "orElse", "(Ljava/lang/Object;)Ljava/lang/Object;"⟩ : MethodName)) hown (mvT hZ (hw _ (List.mem_of_getElem? (i := 110) rfl))) (mvT hZ (hw _ (List.mem_of_getElem? (i := 111) rfl))) (notFace_of_selects (args := #[]) (mvT hZ (hw _ (List.mem_of_getElem? (i := 113) rfl)))) (mvT hZ (hw _ (List.mem_of_getElem? (i := 113) rfl))) (mvT hZ (hw _ (List.mem_of_getElem? (i := 112) rfl))) (by decide) (backOf (W := 0) (rm21n l Z a0 hw [] r_32 T32.heap n0 Z33 Fq) hZ (hw _ (List.mem_of_getElem? (i := 114) rfl)) (hw _ (List.mem_of_getElem? (i := 79) rfl)) (by decide) (by decide)) q128a q128c (g := (mkF m 279 #[.val (.int p1), .val (.int p2), .val (.int p3), .val (.int p4), .val (.long p5), .second, .val (.int v2_0), .val (.int v4_0), .val (.int v6_0), .val (.int (p2 &&& (7 : Int32))), .val (.ref ra), .val (.int c0), .val (.int c1), .val (.int c2), .val (.int c3), .val (.int c4), .val (.int c5), .val (.int c6), .val (.ref r_18), s17_19, .unset] [.null, (.ref r_32)])) rfl (by rw [hml]; rfl) (Steps.refl _) (argsL := [.null]) (rest := []) (lenOf own_pd10 rfl) rfl (by show 2 * 0 + _ ≤ _; exact Nat.le_of_eq rfl) (hb hby at_279) (fun _ _ => ⟨rfl, rfl, (by decide : 11 + 0 ≤ _), (by decide : 50 + 0 ≤ _)⟩)
              dsimp only [Pt.U, Pt.locs, Pt.cells, Pt.slots] at X128 l128 y128 z128 st128 hQ128
              subst l128 y128 z128
              obtain ⟨rfl, Nq128, hh128⟩ := hQ128
              obtain ⟨lc128, Xh128, N128⟩ := own_hide X128 (Fr.app N32 Nq128)
              clear X128
              refine Go.hop st128 ?_
              show Go p.tables e below P T128 (mkF m 282 #[.val (.int p1), .val (.int p2), .val (.int p3), .val (.int p4), .val (.long p5), .second, .val (.int v2_0), .val (.int v4_0), .val (.int v6_0), .val (.int (p2 &&& (7 : Int32))), .val (.ref ra), .val (.int c0), .val (.int c1), .val (.int c2), .val (.int c3), .val (.int c4), .val (.int c5), .val (.int c6), .val (.ref r_18), s17_19, .unset] [.null])
              refine Go.via (fun t k => Xh128.checkcastNull hx (g := (mkF m 282 #[.val (.int p1), .val (.int p2), .val (.int p3), .val (.int p4), .val (.long p5), .second, .val (.int v2_0), .val (.int v4_0), .val (.int v6_0), .val (.int (p2 &&& (7 : Int32))), .val (.ref ra), .val (.int c0), .val (.int c1), .val (.int c2), .val (.int c3), .val (.int c4), .val (.int c5), .val (.int c6), .val (.ref r_18), s17_19, .unset] [.null])) rfl rfl (hb hby at_282) t k) ?_
              show Go p.tables e below P T128 (mkF m 285 #[.val (.int p1), .val (.int p2), .val (.int p3), .val (.int p4), .val (.long p5), .second, .val (.int v2_0), .val (.int v4_0), .val (.int v6_0), .val (.int (p2 &&& (7 : Int32))), .val (.ref ra), .val (.int c0), .val (.int c1), .val (.int c2), .val (.int c3), .val (.int c4), .val (.int c5), .val (.int c6), .val (.ref r_18), s17_19, .unset] [.null])
              refine Go.via (fun t k => XS.astore Xh128.here hx rfl (hb hby at_285) rfl rfl (XS.store1 rfl hos17_19 rfl) k) ?_
              show Go p.tables e below P T128 (mkF m 287 #[.val (.int p1), .val (.int p2), .val (.int p3), .val (.int p4), .val (.long p5), .second, .val (.int v2_0), .val (.int v4_0), .val (.int v6_0), .val (.int (p2 &&& (7 : Int32))), .val (.ref ra), .val (.int c0), .val (.int c1), .val (.int c2), .val (.int c3), .val (.int c4), .val (.int c5), .val (.int c6), .val (.ref r_18), .val .null, .unset] [])
              refine Go.via (fun t k => XS.aload Xh128.here hx rfl (hb hby at_287) rfl rfl k) ?_
              show Go p.tables e below P T128 (mkF m 289 #[.val (.int p1), .val (.int p2), .val (.int p3), .val (.int p4), .val (.long p5), .second, .val (.int v2_0), .val (.int v4_0), .val (.int v6_0), .val (.int (p2 &&& (7 : Int32))), .val (.ref ra), .val (.int c0), .val (.int c1), .val (.int c2), .val (.int c3), .val (.int c4), .val (.int c5), .val (.int c6), .val (.ref r_18), .val .null, .unset] [(.ref r_18)])
              obtain ⟨a130, T130, h130, kn130, b130, kb130, X130, e130, E130, hS130, hk130, hZ, hown, Ex130, Fc130, Fv130, Va130, lta130, ltb130, hC130, -, ne130, st130⟩ := ldcCH Xh128 hx hZ hown (hw _ (List.mem_of_getElem? (i := 0) rfl)) (own_sa hw) hh128 hS18 hk36 (own_EW hw) (by decide : (("com/example/numeric_planner/numericplanner/planner/KindOfPinLaw", 9) : String × Nat) ∈ consts_1) CR35.1 (vs := [(.int (118 : Int32)), (.int (97 : Int32)), (.int (108 : Int32)), (.int (117 : Int32)), (.int (101 : Int32))]) (z := (5 : Int32)) ⟨by decide, rfl⟩ (by decide) rfl (g := (mkF m 289 #[.val (.int p1), .val (.int p2), .val (.int p3), .val (.int p4), .val (.long p5), .second, .val (.int v2_0), .val (.int v4_0), .val (.int v6_0), .val (.int (p2 &&& (7 : Int32))), .val (.ref ra), .val (.int c0), .val (.int c1), .val (.int c2), .val (.int c3), .val (.int c4), .val (.int c5), .val (.int c6), .val (.ref r_18), .val .null, .unset] [(.ref r_18)])) rfl (hb hby at_289) (n := 20) (by decide) (by decide) (by decide) (by decide)
              refine Go.via st130 ?_
              have CR131 := CHr.trans CR35 hC130
              have Z132 : n0 ≤ h130.size := Nat.le_trans Z33 E130.1
              have K133 : Keep h0 h130 [] := K34.ext E130
              have O134 : Old Z n0 h130 := O37.ext E130
              have Vb130 : Arv Z h130 b130 kb130 .byte (own_lg ([(118 : Int32), (97 : Int32), (108 : Int32), (117 : Int32), (101 : Int32)] : List Int32)) (([(118 : Int32), (97 : Int32), (108 : Int32), (117 : Int32), (101 : Int32)] : List Int32).map Value.int) (.int (0 : Int32)) := by
                rw [show own_lg ([(118 : Int32), (97 : Int32), (108 : Int32), (117 : Int32), (101 : Int32)] : List Int32) = (5 : Int32) from rfl]; exact Va130
              have F135 : Exa Z h130 r_32 "java/util/Optional" := (u32_0.ext E130)
              have nq136 := (ne130 _ (Safe.exa hZ.alike F135 (by decide) (by decide))).1
              have nq137 := (ne130 _ (Safe.exa hZ.alike F135 (by decide) (by decide))).2
              show Go p.tables e below P T130 (mkF m 291 #[.val (.int p1), .val (.int p2), .val (.int p3), .val (.int p4), .val (.long p5), .second, .val (.int v2_0), .val (.int v4_0), .val (.int v6_0), .val (.int (p2 &&& (7 : Int32))), .val (.ref ra), .val (.int c0), .val (.int c1), .val (.int c2), .val (.int c3), .val (.int c4), .val (.int c5), .val (.int c6), .val (.ref r_18), .val .null, .unset] [(.ref a130), (.ref r_18)])
              have F138 : Exa Z h130 r_18 "java/lang/String" := (F124.ext E130)
              have F139 : Fld Z h130 r_18 "java/lang/String" "value" "[B" (.ref tb_18) := (F125.ext E130)
              have F140 : Fld Z h130 r_18 "java/lang/String" "coder" "B" (.int (0 : Int32)) := (F126.ext E130)
              have F141 : Arv Z h130 tb_18 kk_18 .byte (own_lg bl_18) (bl_18.map Value.int) (.int (0 : Int32)) := (F127.ext E130)
              have F142 : Exa Z h130 ra "java/lang/String" := (F120.ext E130)
              have F143 : Fld Z h130 ra "java/lang/String" "value" "[B" (.ref ta) := (F121.ext E130)
              have F144 : Fld Z h130 ra "java/lang/String" "coder" "B" (.int (0 : Int32)) := (F122.ext E130)
              have F145 : Arv Z h130 ta ka .byte (own_lg ba) (ba.map Value.int) (.int (0 : Int32)) := (F123.ext E130)
              have F146 : Fld Z h130 r_32 "java/util/Optional" "value" "Ljava/lang/Object;" .null := (Fq.ext E130)
              obtain ⟨cq147, kq147, q147a, q147b, q147c⟩ := isOf hZ e130 F138
              obtain ⟨_, _, ⟨T147, L147, k147, n147⟩, -, X147, ⟨Lc147, hQ147, l147, y147, z147⟩, st147⟩ := X130.virtualBack hx (y := (⟨"java/lang/String", "equals", "(Ljava/lang/Object;)Z"⟩ : MethodName)) (z := (⟨"java/lang/String", "equals", "(Ljava/lang/Object;)Z"⟩ : MethodName)) hown (mvT hZ (hw _ (List.mem_of_getElem? (i := 117) rfl))) (mvT hZ (hw _ (List.mem_of_getElem? (i := 102) rfl))) (notFace_of_selects (args := #[]) (mvT hZ (hw _ (List.mem_of_getElem? (i := 104) rfl)))) (mvT hZ (hw _ (List.mem_of_getElem? (i := 104) rfl))) (mvT hZ (hw _ (List.mem_of_getElem? (i := 103) rfl))) (by decide) (backOf (W := 0) (rm19 l Z a0 hw [] r_18 a130 cs tb_18 b130 kk_18 kb130 bl_18 ([(118 : Int32), (97 : Int32), (108 : Int32), (117 : Int32), (101 : Int32)] : List Int32) h130 n0 Z132 O134 P1 (by first | assumption | decide | omega : ¬ cs = (0 : Int32)) F138 F139 F140 F141 Ex130 Fv130 Fc130 Vb130 u18_4 (by decide) (own_sfun F139 Fv130 F141 Vb130 (by first | assumption | decide) (by first | assumption | decide))) hZ (hw _ (List.mem_of_getElem? (i := 105) rfl)) (hw _ (List.mem_of_getElem? (i := 1) rfl)) (by decide) (by decide)) q147a q147c (g := (mkF m 291 #[.val (.int p1), .val (.int p2), .val (.int p3), .val (.int p4), .val (.long p5), .second, .val (.int v2_0), .val (.int v4_0), .val (.int v6_0), .val (.int (p2 &&& (7 : Int32))), .val (.ref ra), .val (.int c0), .val (.int c1), .val (.int c2), .val (.int c3), .val (.int c4), .val (.int c5), .val (.int c6), .val (.ref r_18), .val .null, .unset] [(.ref a130), (.ref r_18)])) rfl (by rw [hml]; rfl) (Steps.refl _) (argsL := [(.ref a130)]) (rest := []) (lenOf own_pd14 rfl) rfl (by show 2 * 0 + _ ≤ _; exact Nat.le_of_eq rfl) (hb hby at_291) (fun _ _ => ⟨rfl, e130, (by decide : 13 + 0 ≤ _), (by decide : 74 + 0 ≤ _)⟩)
              dsimp only [Pt.U, Pt.locs, Pt.cells, Pt.slots] at X147 l147 y147 z147 st147 hQ147
              subst l147 y147 z147
              obtain ⟨rfl, Nq147, hh147⟩ := hQ147
              obtain ⟨lc147, Xh147, N147⟩ := own_hide X147 (Fr.app N128 Nq147)
              clear X147
              refine Go.hop st147 ?_
              show Go p.tables e below P T147 (mkF m 294 #[.val (.int p1), .val (.int p2), .val (.int p3), .val (.int p4), .val (.long p5), .second, .val (.int v2_0), .val (.int v4_0), .val (.int v6_0), .val (.int (p2 &&& (7 : Int32))), .val (.ref ra), .val (.int c0), .val (.int c1), .val (.int c2), .val (.int c3), .val (.int c4), .val (.int c5), .val (.int c6), .val (.ref r_18), .val .null, .unset] [(.int (if bl_18 = ([(118 : Int32), (97 : Int32), (108 : Int32), (117 : Int32), (101 : Int32)] : List Int32) then (1 : Int32) else (0 : Int32)))])
              refine Go.via (fun t k => XS.ifYes Xh147.here hx rfl (pc0 := 294) (pc' := 305) rfl (hb hby at_294) rfl ((if0 _ _).trans (teq (if_neg nV)).1) (by decide) (by decide) k) ?_
              show Go p.tables e below P T147 (mkF m 305 #[.val (.int p1), .val (.int p2), .val (.int p3), .val (.int p4), .val (.long p5), .second, .val (.int v2_0), .val (.int v4_0), .val (.int v6_0), .val (.int (p2 &&& (7 : Int32))), .val (.ref ra), .val (.int c0), .val (.int c1), .val (.int c2), .val (.int c3), .val (.int c4), .val (.int c5), .val (.int c6), .val (.ref r_18), .val .null, .unset] [])
              refine Go.via (fun t k => XS.aload Xh147.here hx rfl (hb hby at_305) rfl rfl k) ?_
              show Go p.tables e below P T147 (mkF m 307 #[.val (.int p1), .val (.int p2), .val (.int p3), .val (.int p4), .val (.long p5), .second, .val (.int v2_0), .val (.int v4_0), .val (.int v6_0), .val (.int (p2 &&& (7 : Int32))), .val (.ref ra), .val (.int c0), .val (.int c1), .val (.int c2), .val (.int c3), .val (.int c4), .val (.int c5), .val (.int c6), .val (.ref r_18), .val .null, .unset] [(.ref r_18)])
              obtain ⟨a148, T148, h148, kn148, b148, kb148, X148, e148, E148, hS148, hk148, hZ, hown, Ex148, Fc148, Fv148, Va148, lta148, ltb148, hC148, -, ne148, st148⟩ := ldcCH Xh147 hx hZ hown (hw _ (List.mem_of_getElem? (i := 118) rfl)) (own_sa hw) hh147 hS130 hk130 (own_EW hw) (by decide : (("com/example/numeric_planner/numericplanner/planner/KindOfPinLaw", 7) : String × Nat) ∈ consts_1) CR131.1 (vs := [(.int (112 : Int32)), (.int (111 : Int32)), (.int (108 : Int32)), (.int (105 : Int32)), (.int (99 : Int32)), (.int (121 : Int32))]) (z := (6 : Int32)) ⟨by decide, rfl⟩ (by decide) rfl (g := (mkF m 307 #[.val (.int p1), .val (.int p2), .val (.int p3), .val (.int p4), .val (.long p5), .second, .val (.int v2_0), .val (.int v4_0), .val (.int v6_0), .val (.int (p2 &&& (7 : Int32))), .val (.ref ra), .val (.int c0), .val (.int c1), .val (.int c2), .val (.int c3), .val (.int c4), .val (.int c5), .val (.int c6), .val (.ref r_18), .val .null, .unset] [(.ref r_18)])) rfl (hb hby at_307) (n := 24) (by decide) (by decide) (by decide) (by decide)
              refine Go.via st148 ?_
              have CR149 := CHr.trans CR131 hC148
              have Z150 : n0 ≤ h148.size := Nat.le_trans Z132 E148.1
              have K151 : Keep h0 h148 [] := K133.ext E148
              have O152 : Old Z n0 h148 := O134.ext E148
              have Vb148 : Arv Z h148 b148 kb148 .byte (own_lg ([(112 : Int32), (111 : Int32), (108 : Int32), (105 : Int32), (99 : Int32), (121 : Int32)] : List Int32)) (([(112 : Int32), (111 : Int32), (108 : Int32), (105 : Int32), (99 : Int32), (121 : Int32)] : List Int32).map Value.int) (.int (0 : Int32)) := by
                rw [show own_lg ([(112 : Int32), (111 : Int32), (108 : Int32), (105 : Int32), (99 : Int32), (121 : Int32)] : List Int32) = (6 : Int32) from rfl]; exact Va148
              have F153 : Exa Z h148 r_32 "java/util/Optional" := (F135.ext E148)
              have nq154 := (ne148 _ (Safe.exa hZ.alike F153 (by decide) (by decide))).1
              have nq155 := (ne148 _ (Safe.exa hZ.alike F153 (by decide) (by decide))).2
              show Go p.tables e below P T148 (mkF m 309 #[.val (.int p1), .val (.int p2), .val (.int p3), .val (.int p4), .val (.long p5), .second, .val (.int v2_0), .val (.int v4_0), .val (.int v6_0), .val (.int (p2 &&& (7 : Int32))), .val (.ref ra), .val (.int c0), .val (.int c1), .val (.int c2), .val (.int c3), .val (.int c4), .val (.int c5), .val (.int c6), .val (.ref r_18), .val .null, .unset] [(.ref a148), (.ref r_18)])
              have F156 : Exa Z h148 r_18 "java/lang/String" := (F138.ext E148)
              have F157 : Fld Z h148 r_18 "java/lang/String" "value" "[B" (.ref tb_18) := (F139.ext E148)
              have F158 : Fld Z h148 r_18 "java/lang/String" "coder" "B" (.int (0 : Int32)) := (F140.ext E148)
              have F159 : Arv Z h148 tb_18 kk_18 .byte (own_lg bl_18) (bl_18.map Value.int) (.int (0 : Int32)) := (F141.ext E148)
              have F160 : Exa Z h148 ra "java/lang/String" := (F142.ext E148)
              have F161 : Fld Z h148 ra "java/lang/String" "value" "[B" (.ref ta) := (F143.ext E148)
              have F162 : Fld Z h148 ra "java/lang/String" "coder" "B" (.int (0 : Int32)) := (F144.ext E148)
              have F163 : Arv Z h148 ta ka .byte (own_lg ba) (ba.map Value.int) (.int (0 : Int32)) := (F145.ext E148)
              have F164 : Fld Z h148 r_32 "java/util/Optional" "value" "Ljava/lang/Object;" .null := (F146.ext E148)
              have F165 : Exa Z h148 a130 "java/lang/String" := (Ex130.ext E148)
              have F166 : Fld Z h148 a130 "java/lang/String" "coder" "B" (.int (0 : Int32)) := (Fc130.ext E148)
              have F167 : Fld Z h148 a130 "java/lang/String" "value" "[B" (.ref b130) := (Fv130.ext E148)
              have F168 : Arv Z h148 b130 kb130 .byte (own_lg ([(118 : Int32), (97 : Int32), (108 : Int32), (117 : Int32), (101 : Int32)] : List Int32)) (([(118 : Int32), (97 : Int32), (108 : Int32), (117 : Int32), (101 : Int32)] : List Int32).map Value.int) (.int (0 : Int32)) := (Vb130.ext E148)
              obtain ⟨cq169, kq169, q169a, q169b, q169c⟩ := isOf hZ e148 F156
              obtain ⟨_, _, ⟨T169, L169, k169, n169⟩, -, X169, ⟨Lc169, hQ169, l169, y169, z169⟩, st169⟩ := X148.virtualBack hx (y := (⟨"java/lang/String", "equals", "(Ljava/lang/Object;)Z"⟩ : MethodName)) (z := (⟨"java/lang/String", "equals", "(Ljava/lang/Object;)Z"⟩ : MethodName)) hown (mvT hZ (hw _ (List.mem_of_getElem? (i := 117) rfl))) (mvT hZ (hw _ (List.mem_of_getElem? (i := 102) rfl))) (notFace_of_selects (args := #[]) (mvT hZ (hw _ (List.mem_of_getElem? (i := 104) rfl)))) (mvT hZ (hw _ (List.mem_of_getElem? (i := 104) rfl))) (mvT hZ (hw _ (List.mem_of_getElem? (i := 103) rfl))) (by decide) (backOf (W := 0) (rm19 l Z a0 hw [] r_18 a148 cs tb_18 b148 kk_18 kb148 bl_18 ([(112 : Int32), (111 : Int32), (108 : Int32), (105 : Int32), (99 : Int32), (121 : Int32)] : List Int32) h148 n0 Z150 O152 P1 (by first | assumption | decide | omega : ¬ cs = (0 : Int32)) F156 F157 F158 F159 Ex148 Fv148 Fc148 Vb148 u18_4 (by decide) (own_sfun F157 Fv148 F159 Vb148 (by first | assumption | decide) (by first | assumption | decide))) hZ (hw _ (List.mem_of_getElem? (i := 105) rfl)) (hw _ (List.mem_of_getElem? (i := 1) rfl)) (by decide) (by decide)) q169a q169c (g := (mkF m 309 #[.val (.int p1), .val (.int p2), .val (.int p3), .val (.int p4), .val (.long p5), .second, .val (.int v2_0), .val (.int v4_0), .val (.int v6_0), .val (.int (p2 &&& (7 : Int32))), .val (.ref ra), .val (.int c0), .val (.int c1), .val (.int c2), .val (.int c3), .val (.int c4), .val (.int c5), .val (.int c6), .val (.ref r_18), .val .null, .unset] [(.ref a148), (.ref r_18)])) rfl (by rw [hml]; rfl) (Steps.refl _) (argsL := [(.ref a148)]) (rest := []) (lenOf own_pd14 rfl) rfl (by show 2 * 0 + _ ≤ _; exact Nat.le_of_eq rfl) (hb hby at_309) (fun _ _ => ⟨rfl, e148, (by decide : 15 + 0 ≤ _), (by decide : 102 + 0 ≤ _)⟩)
              dsimp only [Pt.U, Pt.locs, Pt.cells, Pt.slots] at X169 l169 y169 z169 st169 hQ169
              subst l169 y169 z169
              obtain ⟨rfl, Nq169, hh169⟩ := hQ169
              obtain ⟨lc169, Xh169, N169⟩ := own_hide X169 (Fr.app N147 Nq169)
              clear X169
              refine Go.hop st169 ?_
              show Go p.tables e below P T169 (mkF m 312 #[.val (.int p1), .val (.int p2), .val (.int p3), .val (.int p4), .val (.long p5), .second, .val (.int v2_0), .val (.int v4_0), .val (.int v6_0), .val (.int (p2 &&& (7 : Int32))), .val (.ref ra), .val (.int c0), .val (.int c1), .val (.int c2), .val (.int c3), .val (.int c4), .val (.int c5), .val (.int c6), .val (.ref r_18), .val .null, .unset] [(.int (if bl_18 = ([(112 : Int32), (111 : Int32), (108 : Int32), (105 : Int32), (99 : Int32), (121 : Int32)] : List Int32) then (1 : Int32) else (0 : Int32)))])
              refine Go.via (fun t k => XS.ifYes Xh169.here hx rfl (pc0 := 312) (pc' := 323) rfl (hb hby at_312) rfl ((if0 _ _).trans (teq (if_neg nP)).1) (by decide) (by decide) k) ?_
              show Go p.tables e below P T169 (mkF m 323 #[.val (.int p1), .val (.int p2), .val (.int p3), .val (.int p4), .val (.long p5), .second, .val (.int v2_0), .val (.int v4_0), .val (.int v6_0), .val (.int (p2 &&& (7 : Int32))), .val (.ref ra), .val (.int c0), .val (.int c1), .val (.int c2), .val (.int c3), .val (.int c4), .val (.int c5), .val (.int c6), .val (.ref r_18), .val .null, .unset] [])
              refine Go.via (fun t k => XS.aconstNull Xh169.here hx rfl (hb hby at_323) k) ?_
              show Go p.tables e below P T169 (mkF m 324 #[.val (.int p1), .val (.int p2), .val (.int p3), .val (.int p4), .val (.long p5), .second, .val (.int v2_0), .val (.int v4_0), .val (.int v6_0), .val (.int (p2 &&& (7 : Int32))), .val (.ref ra), .val (.int c0), .val (.int c1), .val (.int c2), .val (.int c3), .val (.int c4), .val (.int c5), .val (.int c6), .val (.ref r_18), .val .null, .unset] [.null])
              refine Go.via (fun t k => XS.astore Xh169.here hx rfl (hb hby at_324) rfl rfl (l' := #[.val (.int p1), .val (.int p2), .val (.int p3), .val (.int p4), .val (.long p5), .second, .val (.int v2_0), .val (.int v4_0), .val (.int v6_0), .val (.int (p2 &&& (7 : Int32))), .val (.ref ra), .val (.int c0), .val (.int c1), .val (.int c2), .val (.int c3), .val (.int c4), .val (.int c5), .val (.int c6), .val (.ref r_18), .val .null, .val .null]) rfl k) ?_
              show Go p.tables e below P T169 (mkF m 326 #[.val (.int p1), .val (.int p2), .val (.int p3), .val (.int p4), .val (.long p5), .second, .val (.int v2_0), .val (.int v4_0), .val (.int v6_0), .val (.int (p2 &&& (7 : Int32))), .val (.ref ra), .val (.int c0), .val (.int c1), .val (.int c2), .val (.int c3), .val (.int c4), .val (.int c5), .val (.int c6), .val (.ref r_18), .val .null, .val .null] [])
              refine Go.via (fun t k => XS.aload Xh169.here hx rfl (hb hby at_326) rfl rfl k) ?_
              show Go p.tables e below P T169 (mkF m 328 #[.val (.int p1), .val (.int p2), .val (.int p3), .val (.int p4), .val (.long p5), .second, .val (.int v2_0), .val (.int v4_0), .val (.int v6_0), .val (.int (p2 &&& (7 : Int32))), .val (.ref ra), .val (.int c0), .val (.int c1), .val (.int c2), .val (.int c3), .val (.int c4), .val (.int c5), .val (.int c6), .val (.ref r_18), .val .null, .val .null] [.null])
              refine Go.via (fun t k => XS.aload Xh169.here hx rfl (hb hby at_328) rfl rfl k) ?_
              show Go p.tables e below P T169 (mkF m 330 #[.val (.int p1), .val (.int p2), .val (.int p3), .val (.int p4), .val (.long p5), .second, .val (.int v2_0), .val (.int v4_0), .val (.int v6_0), .val (.int (p2 &&& (7 : Int32))), .val (.ref ra), .val (.int c0), .val (.int c1), .val (.int c2), .val (.int c3), .val (.int c4), .val (.int c5), .val (.int c6), .val (.ref r_18), .val .null, .val .null] [.null, .null])
              refine Go.via (fun t k => Jvm.RoadKit.acmp (g := (mkF m 330 #[.val (.int p1), .val (.int p2), .val (.int p3), .val (.int p4), .val (.long p5), .second, .val (.int v2_0), .val (.int v4_0), .val (.int v6_0), .val (.int (p2 &&& (7 : Int32))), .val (.ref ra), .val (.int c0), .val (.int c1), .val (.int c2), .val (.int c3), .val (.int c4), .val (.int c5), .val (.int c6), .val (.ref r_18), .val .null, .val .null] [.null, .null])) Xh169 hx rfl rfl rfl (pc0 := 330) (pc' := 333) (same := true) rfl (hb hby at_330) rfl (decide_eq_true rfl) (by decide) (by decide) k) ?_
              show Go p.tables e below P T169 (mkF m 333 #[.val (.int p1), .val (.int p2), .val (.int p3), .val (.int p4), .val (.long p5), .second, .val (.int v2_0), .val (.int v4_0), .val (.int v6_0), .val (.int (p2 &&& (7 : Int32))), .val (.ref ra), .val (.int c0), .val (.int c1), .val (.int c2), .val (.int c3), .val (.int c4), .val (.int c5), .val (.int c6), .val (.ref r_18), .val .null, .val .null] [])
              refine Go.via (fun t k => XS.iconst Xh169.here hx rfl (hb hby at_333) k) ?_
              show Go p.tables e below P T169 (mkF m 334 #[.val (.int p1), .val (.int p2), .val (.int p3), .val (.int p4), .val (.long p5), .second, .val (.int v2_0), .val (.int v4_0), .val (.int v6_0), .val (.int (p2 &&& (7 : Int32))), .val (.ref ra), .val (.int c0), .val (.int c1), .val (.int c2), .val (.int c3), .val (.int c4), .val (.int c5), .val (.int c6), .val (.ref r_18), .val .null, .val .null] [(.int (1 : Int32))])
              refine Go.via (fun t k => XS.goto Xh169.here hx rfl (pc0 := 334) (pc' := 338) rfl (hb hby at_334) (by decide) (by decide) k) ?_
              show Go p.tables e below P T169 (mkF m 338 #[.val (.int p1), .val (.int p2), .val (.int p3), .val (.int p4), .val (.long p5), .second, .val (.int v2_0), .val (.int v4_0), .val (.int v6_0), .val (.int (p2 &&& (7 : Int32))), .val (.ref ra), .val (.int c0), .val (.int c1), .val (.int c2), .val (.int c3), .val (.int c4), .val (.int c5), .val (.int c6), .val (.ref r_18), .val .null, .val .null] [(.int (1 : Int32))])
              obtain ⟨fs, hr, hrun, hended, hend⟩ := Xh169.leaveW hS148 (by rw [hh169]; exact hk148) (v := some (.int (1 : Int32))) (fun h => by rw [Bd.returns] at h; cases h)
              have hCf : CHr Z consts_1 s.vm s.heap (T169.setFrames fs).vm (T169.setFrames fs).heap := by
                rw [hh]
                show CHr Z consts_1 s.vm h0 T169.vm T169.heap
                rw [hh169]
                exact CHr.trans CR149 (CHv.at Xh169 hZ (own_EW hw) CR149.1)
              refine ⟨_, _, retZ Xh169 hx (t := .boolean) Bd.returns (by simp) (hb hby at_338) rfl hr, hrun, hended, hP _ _ ⟨_, _, rfl, ?_, hCf, own_rew hend (by decide) (by decide)⟩⟩
              show Q0 Z p1 p2 p3 p4 p5 cs fm em va kva aV sV tV kV aP sP tP kP h0 n0 _ T169.heap _
              rw [hh169]
              exact ⟨rfl, N169⟩
          by_cases hc16 : v6_0 = (0 : Int32)
          · refine Go.via (fun t k => XS.ifYes Xh15.here hx rfl (pc0 := 146) (pc' := 252) rfl (hb hby at_146) rfl ((if0 _ _).trans (teq hc16).1) (by decide) (by decide) k) ?_
            exact LP17 T15 _ cc_9 cc_10 cc_11 cc_12 cc_13 cc_14 cc_15 .unset .unset Xh15 hh15 N15 u9_0 u10_0 u11_0 u12_0 u13_0 u14_0 u15_0 (Or.inl rfl) (Or.inl rfl)
          · refine Go.via (fun t k => XS.ifNo Xh15.here hx rfl (hb hby at_146) rfl ((if0 _ _).trans (feq hc16).1) k) ?_
            show Go p.tables e below P T15 (mkF m 149 #[.val (.int p1), .val (.int p2), .val (.int p3), .val (.int p4), .val (.long p5), .second, .val (.int v2_0), .val (.int v4_0), .val (.int v6_0), .val (.int (p2 &&& (7 : Int32))), .val (.ref ra), .val (.int cc_9), .val (.int cc_10), .val (.int cc_11), .val (.int cc_12), .val (.int cc_13), .val (.int cc_14), .val (.int cc_15), .unset, .unset, .unset] [])
            refine Go.via (fun t k => XS.iload Xh15.here hx rfl (hb hby at_149) rfl k) ?_
            show Go p.tables e below P T15 (mkF m 151 #[.val (.int p1), .val (.int p2), .val (.int p3), .val (.int p4), .val (.long p5), .second, .val (.int v2_0), .val (.int v4_0), .val (.int v6_0), .val (.int (p2 &&& (7 : Int32))), .val (.ref ra), .val (.int cc_9), .val (.int cc_10), .val (.int cc_11), .val (.int cc_12), .val (.int cc_13), .val (.int cc_14), .val (.int cc_15), .unset, .unset, .unset] [(.int (p2 &&& (7 : Int32)))])
            by_cases hc171 : (0 : Int32) < (p2 &&& (7 : Int32))
            · refine Go.via (fun t k => XS.ifNo Xh15.here hx rfl (hb hby at_151) rfl ((if0 _ _).trans (tlt hc171).2.2.2) k) ?_
              show Go p.tables e below P T15 (mkF m 154 #[.val (.int p1), .val (.int p2), .val (.int p3), .val (.int p4), .val (.long p5), .second, .val (.int v2_0), .val (.int v4_0), .val (.int v6_0), .val (.int (p2 &&& (7 : Int32))), .val (.ref ra), .val (.int cc_9), .val (.int cc_10), .val (.int cc_11), .val (.int cc_12), .val (.int cc_13), .val (.int cc_14), .val (.int cc_15), .unset, .unset, .unset] [])
              refine Go.via (fun t k => XS.iloadN Xh15.here hx rfl (hb hby at_154) rfl k) ?_
              show Go p.tables e below P T15 (mkF m 155 #[.val (.int p1), .val (.int p2), .val (.int p3), .val (.int p4), .val (.long p5), .second, .val (.int v2_0), .val (.int v4_0), .val (.int v6_0), .val (.int (p2 &&& (7 : Int32))), .val (.ref ra), .val (.int cc_9), .val (.int cc_10), .val (.int cc_11), .val (.int cc_12), .val (.int cc_13), .val (.int cc_14), .val (.int cc_15), .unset, .unset, .unset] [(.int p3)])
              refine Go.via (fun t k => Xh15.ldcInt hx hown (mvT hZ (hw _ (List.mem_of_getElem? (i := 120) rfl))) (g := (mkF m 155 #[.val (.int p1), .val (.int p2), .val (.int p3), .val (.int p4), .val (.long p5), .second, .val (.int v2_0), .val (.int v4_0), .val (.int v6_0), .val (.int (p2 &&& (7 : Int32))), .val (.ref ra), .val (.int cc_9), .val (.int cc_10), .val (.int cc_11), .val (.int cc_12), .val (.int cc_13), .val (.int cc_14), .val (.int cc_15), .unset, .unset, .unset] [(.int p3)])) rfl (hb hby at_155) t k) ?_
              show Go p.tables e below P T15 (mkF m 157 #[.val (.int p1), .val (.int p2), .val (.int p3), .val (.int p4), .val (.long p5), .second, .val (.int v2_0), .val (.int v4_0), .val (.int v6_0), .val (.int (p2 &&& (7 : Int32))), .val (.ref ra), .val (.int cc_9), .val (.int cc_10), .val (.int cc_11), .val (.int cc_12), .val (.int cc_13), .val (.int cc_14), .val (.int cc_15), .unset, .unset, .unset] [(.int (2147483647 : Int32)), (.int p3)])
              refine Go.via (fun t k => XS.iand Xh15.here hx rfl (hb hby at_157) rfl k) ?_
              show Go p.tables e below P T15 (mkF m 158 #[.val (.int p1), .val (.int p2), .val (.int p3), .val (.int p4), .val (.long p5), .second, .val (.int v2_0), .val (.int v4_0), .val (.int v6_0), .val (.int (p2 &&& (7 : Int32))), .val (.ref ra), .val (.int cc_9), .val (.int cc_10), .val (.int cc_11), .val (.int cc_12), .val (.int cc_13), .val (.int cc_14), .val (.int cc_15), .unset, .unset, .unset] [(.int (p3 &&& (2147483647 : Int32)))])
              refine Go.via (fun t k => XS.iload Xh15.here hx rfl (hb hby at_158) rfl k) ?_
              show Go p.tables e below P T15 (mkF m 160 #[.val (.int p1), .val (.int p2), .val (.int p3), .val (.int p4), .val (.long p5), .second, .val (.int v2_0), .val (.int v4_0), .val (.int v6_0), .val (.int (p2 &&& (7 : Int32))), .val (.ref ra), .val (.int cc_9), .val (.int cc_10), .val (.int cc_11), .val (.int cc_12), .val (.int cc_13), .val (.int cc_14), .val (.int cc_15), .unset, .unset, .unset] [(.int (p2 &&& (7 : Int32))), (.int (p3 &&& (2147483647 : Int32)))])
              refine Go.via (fun t k => iremM Xh15 hx rfl (hb hby at_160) rfl (fun q => absurd (q ▸ hc171) (by decide)) k) ?_
              show Go p.tables e below P T15 (mkF m 161 #[.val (.int p1), .val (.int p2), .val (.int p3), .val (.int p4), .val (.long p5), .second, .val (.int v2_0), .val (.int v4_0), .val (.int v6_0), .val (.int (p2 &&& (7 : Int32))), .val (.ref ra), .val (.int cc_9), .val (.int cc_10), .val (.int cc_11), .val (.int cc_12), .val (.int cc_13), .val (.int cc_14), .val (.int cc_15), .unset, .unset, .unset] [(.int ((p3 &&& (2147483647 : Int32)) % (p2 &&& (7 : Int32))))])
              refine Go.via (fun t k => XS.istore Xh15.here hx rfl (hb hby at_161) rfl (l' := #[.val (.int p1), .val (.int p2), .val (.int p3), .val (.int p4), .val (.long p5), .second, .val (.int v2_0), .val (.int v4_0), .val (.int v6_0), .val (.int (p2 &&& (7 : Int32))), .val (.ref ra), .val (.int cc_9), .val (.int cc_10), .val (.int cc_11), .val (.int cc_12), .val (.int cc_13), .val (.int cc_14), .val (.int cc_15), .val (.int ((p3 &&& (2147483647 : Int32)) % (p2 &&& (7 : Int32)))), .unset, .unset]) rfl k) ?_
              show Go p.tables e below P T15 (mkF m 163 #[.val (.int p1), .val (.int p2), .val (.int p3), .val (.int p4), .val (.long p5), .second, .val (.int v2_0), .val (.int v4_0), .val (.int v6_0), .val (.int (p2 &&& (7 : Int32))), .val (.ref ra), .val (.int cc_9), .val (.int cc_10), .val (.int cc_11), .val (.int cc_12), .val (.int cc_13), .val (.int cc_14), .val (.int cc_15), .val (.int ((p3 &&& (2147483647 : Int32)) % (p2 &&& (7 : Int32)))), .unset, .unset] [])
              refine Go.via (fun t k => XS.iloadN Xh15.here hx rfl (hb hby at_163) rfl k) ?_
              show Go p.tables e below P T15 (mkF m 164 #[.val (.int p1), .val (.int p2), .val (.int p3), .val (.int p4), .val (.long p5), .second, .val (.int v2_0), .val (.int v4_0), .val (.int v6_0), .val (.int (p2 &&& (7 : Int32))), .val (.ref ra), .val (.int cc_9), .val (.int cc_10), .val (.int cc_11), .val (.int cc_12), .val (.int cc_13), .val (.int cc_14), .val (.int cc_15), .val (.int ((p3 &&& (2147483647 : Int32)) % (p2 &&& (7 : Int32)))), .unset, .unset] [(.int p4)])
              refine Go.via (fun t k => XS.sipush Xh15.here hx rfl (hb hby at_164) k) ?_
              show Go p.tables e below P T15 (mkF m 167 #[.val (.int p1), .val (.int p2), .val (.int p3), .val (.int p4), .val (.long p5), .second, .val (.int v2_0), .val (.int v4_0), .val (.int v6_0), .val (.int (p2 &&& (7 : Int32))), .val (.ref ra), .val (.int cc_9), .val (.int cc_10), .val (.int cc_11), .val (.int cc_12), .val (.int cc_13), .val (.int cc_14), .val (.int cc_15), .val (.int ((p3 &&& (2147483647 : Int32)) % (p2 &&& (7 : Int32)))), .unset, .unset] [(.int (255 : Int32)), (.int p4)])
              refine Go.via (fun t k => XS.iand Xh15.here hx rfl (hb hby at_167) rfl k) ?_
              show Go p.tables e below P T15 (mkF m 168 #[.val (.int p1), .val (.int p2), .val (.int p3), .val (.int p4), .val (.long p5), .second, .val (.int v2_0), .val (.int v4_0), .val (.int v6_0), .val (.int (p2 &&& (7 : Int32))), .val (.ref ra), .val (.int cc_9), .val (.int cc_10), .val (.int cc_11), .val (.int cc_12), .val (.int cc_13), .val (.int cc_14), .val (.int cc_15), .val (.int ((p3 &&& (2147483647 : Int32)) % (p2 &&& (7 : Int32)))), .unset, .unset] [(.int (p4 &&& (255 : Int32)))])
              refine Go.via (fun t k => XS.i2c Xh15.here hx rfl (hb hby at_168) rfl k) ?_
              show Go p.tables e below P T15 (mkF m 169 #[.val (.int p1), .val (.int p2), .val (.int p3), .val (.int p4), .val (.long p5), .second, .val (.int v2_0), .val (.int v4_0), .val (.int v6_0), .val (.int (p2 &&& (7 : Int32))), .val (.ref ra), .val (.int cc_9), .val (.int cc_10), .val (.int cc_11), .val (.int cc_12), .val (.int cc_13), .val (.int cc_14), .val (.int cc_15), .val (.int ((p3 &&& (2147483647 : Int32)) % (p2 &&& (7 : Int32)))), .unset, .unset] [(.int ((p4 &&& (255 : Int32)).toUInt32.toUInt16.toUInt32.toInt32))])
              refine Go.via (fun t k => XS.istore Xh15.here hx rfl (hb hby at_169) rfl (l' := #[.val (.int p1), .val (.int p2), .val (.int p3), .val (.int p4), .val (.long p5), .second, .val (.int v2_0), .val (.int v4_0), .val (.int v6_0), .val (.int (p2 &&& (7 : Int32))), .val (.ref ra), .val (.int cc_9), .val (.int cc_10), .val (.int cc_11), .val (.int cc_12), .val (.int cc_13), .val (.int cc_14), .val (.int cc_15), .val (.int ((p3 &&& (2147483647 : Int32)) % (p2 &&& (7 : Int32)))), .val (.int ((p4 &&& (255 : Int32)).toUInt32.toUInt16.toUInt32.toInt32)), .unset]) rfl k) ?_
              show Go p.tables e below P T15 (mkF m 171 #[.val (.int p1), .val (.int p2), .val (.int p3), .val (.int p4), .val (.long p5), .second, .val (.int v2_0), .val (.int v4_0), .val (.int v6_0), .val (.int (p2 &&& (7 : Int32))), .val (.ref ra), .val (.int cc_9), .val (.int cc_10), .val (.int cc_11), .val (.int cc_12), .val (.int cc_13), .val (.int cc_14), .val (.int cc_15), .val (.int ((p3 &&& (2147483647 : Int32)) % (p2 &&& (7 : Int32)))), .val (.int ((p4 &&& (255 : Int32)).toUInt32.toUInt16.toUInt32.toInt32)), .unset] [])
              refine Go.via (fun t k => XS.iload Xh15.here hx rfl (hb hby at_171) rfl k) ?_
              show Go p.tables e below P T15 (mkF m 173 #[.val (.int p1), .val (.int p2), .val (.int p3), .val (.int p4), .val (.long p5), .second, .val (.int v2_0), .val (.int v4_0), .val (.int v6_0), .val (.int (p2 &&& (7 : Int32))), .val (.ref ra), .val (.int cc_9), .val (.int cc_10), .val (.int cc_11), .val (.int cc_12), .val (.int cc_13), .val (.int cc_14), .val (.int cc_15), .val (.int ((p3 &&& (2147483647 : Int32)) % (p2 &&& (7 : Int32)))), .val (.int ((p4 &&& (255 : Int32)).toUInt32.toUInt16.toUInt32.toInt32)), .unset] [(.int ((p3 &&& (2147483647 : Int32)) % (p2 &&& (7 : Int32))))])
              by_cases hc172 : ((p3 &&& (2147483647 : Int32)) % (p2 &&& (7 : Int32))) = (0 : Int32)
              · refine Go.via (fun t k => XS.ifNo Xh15.here hx rfl (hb hby at_173) rfl ((if0 _ _).trans (teq hc172).2) k) ?_
                show Go p.tables e below P T15 (mkF m 176 #[.val (.int p1), .val (.int p2), .val (.int p3), .val (.int p4), .val (.long p5), .second, .val (.int v2_0), .val (.int v4_0), .val (.int v6_0), .val (.int (p2 &&& (7 : Int32))), .val (.ref ra), .val (.int cc_9), .val (.int cc_10), .val (.int cc_11), .val (.int cc_12), .val (.int cc_13), .val (.int cc_14), .val (.int cc_15), .val (.int ((p3 &&& (2147483647 : Int32)) % (p2 &&& (7 : Int32)))), .val (.int ((p4 &&& (255 : Int32)).toUInt32.toUInt16.toUInt32.toInt32)), .unset] [])
                refine Go.via (fun t k => XS.iload Xh15.here hx rfl (hb hby at_176) rfl k) ?_
                show Go p.tables e below P T15 (mkF m 178 #[.val (.int p1), .val (.int p2), .val (.int p3), .val (.int p4), .val (.long p5), .second, .val (.int v2_0), .val (.int v4_0), .val (.int v6_0), .val (.int (p2 &&& (7 : Int32))), .val (.ref ra), .val (.int cc_9), .val (.int cc_10), .val (.int cc_11), .val (.int cc_12), .val (.int cc_13), .val (.int cc_14), .val (.int cc_15), .val (.int ((p3 &&& (2147483647 : Int32)) % (p2 &&& (7 : Int32)))), .val (.int ((p4 &&& (255 : Int32)).toUInt32.toUInt16.toUInt32.toInt32)), .unset] [(.int ((p4 &&& (255 : Int32)).toUInt32.toUInt16.toUInt32.toInt32))])
                refine Go.via (fun t k => XS.istore Xh15.here hx rfl (hb hby at_178) rfl (l' := #[.val (.int p1), .val (.int p2), .val (.int p3), .val (.int p4), .val (.long p5), .second, .val (.int v2_0), .val (.int v4_0), .val (.int v6_0), .val (.int (p2 &&& (7 : Int32))), .val (.ref ra), .val (.int ((p4 &&& (255 : Int32)).toUInt32.toUInt16.toUInt32.toInt32)), .val (.int cc_10), .val (.int cc_11), .val (.int cc_12), .val (.int cc_13), .val (.int cc_14), .val (.int cc_15), .val (.int ((p3 &&& (2147483647 : Int32)) % (p2 &&& (7 : Int32)))), .val (.int ((p4 &&& (255 : Int32)).toUInt32.toUInt16.toUInt32.toInt32)), .unset]) rfl k) ?_
                show Go p.tables e below P T15 (mkF m 180 #[.val (.int p1), .val (.int p2), .val (.int p3), .val (.int p4), .val (.long p5), .second, .val (.int v2_0), .val (.int v4_0), .val (.int v6_0), .val (.int (p2 &&& (7 : Int32))), .val (.ref ra), .val (.int ((p4 &&& (255 : Int32)).toUInt32.toUInt16.toUInt32.toInt32)), .val (.int cc_10), .val (.int cc_11), .val (.int cc_12), .val (.int cc_13), .val (.int cc_14), .val (.int cc_15), .val (.int ((p3 &&& (2147483647 : Int32)) % (p2 &&& (7 : Int32)))), .val (.int ((p4 &&& (255 : Int32)).toUInt32.toUInt16.toUInt32.toInt32)), .unset] [])
                refine Go.via (fun t k => XS.goto Xh15.here hx rfl (pc0 := 180) (pc' := 252) rfl (hb hby at_180) (by decide) (by decide) k) ?_
                exact LP17 T15 _ ((p4 &&& (255 : Int32)).toUInt32.toUInt16.toUInt32.toInt32) cc_10 cc_11 cc_12 cc_13 cc_14 cc_15 (.val (.int ((p3 &&& (2147483647 : Int32)) % (p2 &&& (7 : Int32))))) (.val (.int ((p4 &&& (255 : Int32)).toUInt32.toUInt16.toUInt32.toInt32))) Xh15 hh15 N15 (own_byc _) u10_0 u11_0 u12_0 u13_0 u14_0 u15_0 (Or.inr ⟨_, rfl, rfl⟩) (Or.inr ⟨_, rfl, rfl⟩)
              · refine Go.via (fun t k => XS.ifYes Xh15.here hx rfl (pc0 := 173) (pc' := 183) rfl (hb hby at_173) rfl ((if0 _ _).trans (feq hc172).2) (by decide) (by decide) k) ?_
                show Go p.tables e below P T15 (mkF m 183 #[.val (.int p1), .val (.int p2), .val (.int p3), .val (.int p4), .val (.long p5), .second, .val (.int v2_0), .val (.int v4_0), .val (.int v6_0), .val (.int (p2 &&& (7 : Int32))), .val (.ref ra), .val (.int cc_9), .val (.int cc_10), .val (.int cc_11), .val (.int cc_12), .val (.int cc_13), .val (.int cc_14), .val (.int cc_15), .val (.int ((p3 &&& (2147483647 : Int32)) % (p2 &&& (7 : Int32)))), .val (.int ((p4 &&& (255 : Int32)).toUInt32.toUInt16.toUInt32.toInt32)), .unset] [])
                refine Go.via (fun t k => XS.iload Xh15.here hx rfl (hb hby at_183) rfl k) ?_
                show Go p.tables e below P T15 (mkF m 185 #[.val (.int p1), .val (.int p2), .val (.int p3), .val (.int p4), .val (.long p5), .second, .val (.int v2_0), .val (.int v4_0), .val (.int v6_0), .val (.int (p2 &&& (7 : Int32))), .val (.ref ra), .val (.int cc_9), .val (.int cc_10), .val (.int cc_11), .val (.int cc_12), .val (.int cc_13), .val (.int cc_14), .val (.int cc_15), .val (.int ((p3 &&& (2147483647 : Int32)) % (p2 &&& (7 : Int32)))), .val (.int ((p4 &&& (255 : Int32)).toUInt32.toUInt16.toUInt32.toInt32)), .unset] [(.int ((p3 &&& (2147483647 : Int32)) % (p2 &&& (7 : Int32))))])
                refine Go.via (fun t k => XS.iconst Xh15.here hx rfl (hb hby at_185) k) ?_
                show Go p.tables e below P T15 (mkF m 186 #[.val (.int p1), .val (.int p2), .val (.int p3), .val (.int p4), .val (.long p5), .second, .val (.int v2_0), .val (.int v4_0), .val (.int v6_0), .val (.int (p2 &&& (7 : Int32))), .val (.ref ra), .val (.int cc_9), .val (.int cc_10), .val (.int cc_11), .val (.int cc_12), .val (.int cc_13), .val (.int cc_14), .val (.int cc_15), .val (.int ((p3 &&& (2147483647 : Int32)) % (p2 &&& (7 : Int32)))), .val (.int ((p4 &&& (255 : Int32)).toUInt32.toUInt16.toUInt32.toInt32)), .unset] [(.int (1 : Int32)), (.int ((p3 &&& (2147483647 : Int32)) % (p2 &&& (7 : Int32))))])
                by_cases hc173 : ((p3 &&& (2147483647 : Int32)) % (p2 &&& (7 : Int32))) = (1 : Int32)
                · refine Go.via (fun t k => XS.icmpNo Xh15.here hx rfl (hb hby at_186) rfl (teq hc173).2 k) ?_
                  show Go p.tables e below P T15 (mkF m 189 #[.val (.int p1), .val (.int p2), .val (.int p3), .val (.int p4), .val (.long p5), .second, .val (.int v2_0), .val (.int v4_0), .val (.int v6_0), .val (.int (p2 &&& (7 : Int32))), .val (.ref ra), .val (.int cc_9), .val (.int cc_10), .val (.int cc_11), .val (.int cc_12), .val (.int cc_13), .val (.int cc_14), .val (.int cc_15), .val (.int ((p3 &&& (2147483647 : Int32)) % (p2 &&& (7 : Int32)))), .val (.int ((p4 &&& (255 : Int32)).toUInt32.toUInt16.toUInt32.toInt32)), .unset] [])
                  refine Go.via (fun t k => XS.iload Xh15.here hx rfl (hb hby at_189) rfl k) ?_
                  show Go p.tables e below P T15 (mkF m 191 #[.val (.int p1), .val (.int p2), .val (.int p3), .val (.int p4), .val (.long p5), .second, .val (.int v2_0), .val (.int v4_0), .val (.int v6_0), .val (.int (p2 &&& (7 : Int32))), .val (.ref ra), .val (.int cc_9), .val (.int cc_10), .val (.int cc_11), .val (.int cc_12), .val (.int cc_13), .val (.int cc_14), .val (.int cc_15), .val (.int ((p3 &&& (2147483647 : Int32)) % (p2 &&& (7 : Int32)))), .val (.int ((p4 &&& (255 : Int32)).toUInt32.toUInt16.toUInt32.toInt32)), .unset] [(.int ((p4 &&& (255 : Int32)).toUInt32.toUInt16.toUInt32.toInt32))])
                  refine Go.via (fun t k => XS.istore Xh15.here hx rfl (hb hby at_191) rfl (l' := #[.val (.int p1), .val (.int p2), .val (.int p3), .val (.int p4), .val (.long p5), .second, .val (.int v2_0), .val (.int v4_0), .val (.int v6_0), .val (.int (p2 &&& (7 : Int32))), .val (.ref ra), .val (.int cc_9), .val (.int ((p4 &&& (255 : Int32)).toUInt32.toUInt16.toUInt32.toInt32)), .val (.int cc_11), .val (.int cc_12), .val (.int cc_13), .val (.int cc_14), .val (.int cc_15), .val (.int ((p3 &&& (2147483647 : Int32)) % (p2 &&& (7 : Int32)))), .val (.int ((p4 &&& (255 : Int32)).toUInt32.toUInt16.toUInt32.toInt32)), .unset]) rfl k) ?_
                  show Go p.tables e below P T15 (mkF m 193 #[.val (.int p1), .val (.int p2), .val (.int p3), .val (.int p4), .val (.long p5), .second, .val (.int v2_0), .val (.int v4_0), .val (.int v6_0), .val (.int (p2 &&& (7 : Int32))), .val (.ref ra), .val (.int cc_9), .val (.int ((p4 &&& (255 : Int32)).toUInt32.toUInt16.toUInt32.toInt32)), .val (.int cc_11), .val (.int cc_12), .val (.int cc_13), .val (.int cc_14), .val (.int cc_15), .val (.int ((p3 &&& (2147483647 : Int32)) % (p2 &&& (7 : Int32)))), .val (.int ((p4 &&& (255 : Int32)).toUInt32.toUInt16.toUInt32.toInt32)), .unset] [])
                  refine Go.via (fun t k => XS.goto Xh15.here hx rfl (pc0 := 193) (pc' := 252) rfl (hb hby at_193) (by decide) (by decide) k) ?_
                  exact LP17 T15 _ cc_9 ((p4 &&& (255 : Int32)).toUInt32.toUInt16.toUInt32.toInt32) cc_11 cc_12 cc_13 cc_14 cc_15 (.val (.int ((p3 &&& (2147483647 : Int32)) % (p2 &&& (7 : Int32))))) (.val (.int ((p4 &&& (255 : Int32)).toUInt32.toUInt16.toUInt32.toInt32))) Xh15 hh15 N15 u9_0 (own_byc _) u11_0 u12_0 u13_0 u14_0 u15_0 (Or.inr ⟨_, rfl, rfl⟩) (Or.inr ⟨_, rfl, rfl⟩)
                · refine Go.via (fun t k => XS.icmpYes Xh15.here hx rfl (pc0 := 186) (pc' := 196) rfl (hb hby at_186) rfl (feq hc173).2 (by decide) (by decide) k) ?_
                  show Go p.tables e below P T15 (mkF m 196 #[.val (.int p1), .val (.int p2), .val (.int p3), .val (.int p4), .val (.long p5), .second, .val (.int v2_0), .val (.int v4_0), .val (.int v6_0), .val (.int (p2 &&& (7 : Int32))), .val (.ref ra), .val (.int cc_9), .val (.int cc_10), .val (.int cc_11), .val (.int cc_12), .val (.int cc_13), .val (.int cc_14), .val (.int cc_15), .val (.int ((p3 &&& (2147483647 : Int32)) % (p2 &&& (7 : Int32)))), .val (.int ((p4 &&& (255 : Int32)).toUInt32.toUInt16.toUInt32.toInt32)), .unset] [])
                  refine Go.via (fun t k => XS.iload Xh15.here hx rfl (hb hby at_196) rfl k) ?_
                  show Go p.tables e below P T15 (mkF m 198 #[.val (.int p1), .val (.int p2), .val (.int p3), .val (.int p4), .val (.long p5), .second, .val (.int v2_0), .val (.int v4_0), .val (.int v6_0), .val (.int (p2 &&& (7 : Int32))), .val (.ref ra), .val (.int cc_9), .val (.int cc_10), .val (.int cc_11), .val (.int cc_12), .val (.int cc_13), .val (.int cc_14), .val (.int cc_15), .val (.int ((p3 &&& (2147483647 : Int32)) % (p2 &&& (7 : Int32)))), .val (.int ((p4 &&& (255 : Int32)).toUInt32.toUInt16.toUInt32.toInt32)), .unset] [(.int ((p3 &&& (2147483647 : Int32)) % (p2 &&& (7 : Int32))))])
                  refine Go.via (fun t k => XS.iconst Xh15.here hx rfl (hb hby at_198) k) ?_
                  show Go p.tables e below P T15 (mkF m 199 #[.val (.int p1), .val (.int p2), .val (.int p3), .val (.int p4), .val (.long p5), .second, .val (.int v2_0), .val (.int v4_0), .val (.int v6_0), .val (.int (p2 &&& (7 : Int32))), .val (.ref ra), .val (.int cc_9), .val (.int cc_10), .val (.int cc_11), .val (.int cc_12), .val (.int cc_13), .val (.int cc_14), .val (.int cc_15), .val (.int ((p3 &&& (2147483647 : Int32)) % (p2 &&& (7 : Int32)))), .val (.int ((p4 &&& (255 : Int32)).toUInt32.toUInt16.toUInt32.toInt32)), .unset] [(.int (2 : Int32)), (.int ((p3 &&& (2147483647 : Int32)) % (p2 &&& (7 : Int32))))])
                  by_cases hc174 : ((p3 &&& (2147483647 : Int32)) % (p2 &&& (7 : Int32))) = (2 : Int32)
                  · refine Go.via (fun t k => XS.icmpNo Xh15.here hx rfl (hb hby at_199) rfl (teq hc174).2 k) ?_
                    show Go p.tables e below P T15 (mkF m 202 #[.val (.int p1), .val (.int p2), .val (.int p3), .val (.int p4), .val (.long p5), .second, .val (.int v2_0), .val (.int v4_0), .val (.int v6_0), .val (.int (p2 &&& (7 : Int32))), .val (.ref ra), .val (.int cc_9), .val (.int cc_10), .val (.int cc_11), .val (.int cc_12), .val (.int cc_13), .val (.int cc_14), .val (.int cc_15), .val (.int ((p3 &&& (2147483647 : Int32)) % (p2 &&& (7 : Int32)))), .val (.int ((p4 &&& (255 : Int32)).toUInt32.toUInt16.toUInt32.toInt32)), .unset] [])
                    refine Go.via (fun t k => XS.iload Xh15.here hx rfl (hb hby at_202) rfl k) ?_
                    show Go p.tables e below P T15 (mkF m 204 #[.val (.int p1), .val (.int p2), .val (.int p3), .val (.int p4), .val (.long p5), .second, .val (.int v2_0), .val (.int v4_0), .val (.int v6_0), .val (.int (p2 &&& (7 : Int32))), .val (.ref ra), .val (.int cc_9), .val (.int cc_10), .val (.int cc_11), .val (.int cc_12), .val (.int cc_13), .val (.int cc_14), .val (.int cc_15), .val (.int ((p3 &&& (2147483647 : Int32)) % (p2 &&& (7 : Int32)))), .val (.int ((p4 &&& (255 : Int32)).toUInt32.toUInt16.toUInt32.toInt32)), .unset] [(.int ((p4 &&& (255 : Int32)).toUInt32.toUInt16.toUInt32.toInt32))])
                    refine Go.via (fun t k => XS.istore Xh15.here hx rfl (hb hby at_204) rfl (l' := #[.val (.int p1), .val (.int p2), .val (.int p3), .val (.int p4), .val (.long p5), .second, .val (.int v2_0), .val (.int v4_0), .val (.int v6_0), .val (.int (p2 &&& (7 : Int32))), .val (.ref ra), .val (.int cc_9), .val (.int cc_10), .val (.int ((p4 &&& (255 : Int32)).toUInt32.toUInt16.toUInt32.toInt32)), .val (.int cc_12), .val (.int cc_13), .val (.int cc_14), .val (.int cc_15), .val (.int ((p3 &&& (2147483647 : Int32)) % (p2 &&& (7 : Int32)))), .val (.int ((p4 &&& (255 : Int32)).toUInt32.toUInt16.toUInt32.toInt32)), .unset]) rfl k) ?_
                    show Go p.tables e below P T15 (mkF m 206 #[.val (.int p1), .val (.int p2), .val (.int p3), .val (.int p4), .val (.long p5), .second, .val (.int v2_0), .val (.int v4_0), .val (.int v6_0), .val (.int (p2 &&& (7 : Int32))), .val (.ref ra), .val (.int cc_9), .val (.int cc_10), .val (.int ((p4 &&& (255 : Int32)).toUInt32.toUInt16.toUInt32.toInt32)), .val (.int cc_12), .val (.int cc_13), .val (.int cc_14), .val (.int cc_15), .val (.int ((p3 &&& (2147483647 : Int32)) % (p2 &&& (7 : Int32)))), .val (.int ((p4 &&& (255 : Int32)).toUInt32.toUInt16.toUInt32.toInt32)), .unset] [])
                    refine Go.via (fun t k => XS.goto Xh15.here hx rfl (pc0 := 206) (pc' := 252) rfl (hb hby at_206) (by decide) (by decide) k) ?_
                    exact LP17 T15 _ cc_9 cc_10 ((p4 &&& (255 : Int32)).toUInt32.toUInt16.toUInt32.toInt32) cc_12 cc_13 cc_14 cc_15 (.val (.int ((p3 &&& (2147483647 : Int32)) % (p2 &&& (7 : Int32))))) (.val (.int ((p4 &&& (255 : Int32)).toUInt32.toUInt16.toUInt32.toInt32))) Xh15 hh15 N15 u9_0 u10_0 (own_byc _) u12_0 u13_0 u14_0 u15_0 (Or.inr ⟨_, rfl, rfl⟩) (Or.inr ⟨_, rfl, rfl⟩)
                  · refine Go.via (fun t k => XS.icmpYes Xh15.here hx rfl (pc0 := 199) (pc' := 209) rfl (hb hby at_199) rfl (feq hc174).2 (by decide) (by decide) k) ?_
                    show Go p.tables e below P T15 (mkF m 209 #[.val (.int p1), .val (.int p2), .val (.int p3), .val (.int p4), .val (.long p5), .second, .val (.int v2_0), .val (.int v4_0), .val (.int v6_0), .val (.int (p2 &&& (7 : Int32))), .val (.ref ra), .val (.int cc_9), .val (.int cc_10), .val (.int cc_11), .val (.int cc_12), .val (.int cc_13), .val (.int cc_14), .val (.int cc_15), .val (.int ((p3 &&& (2147483647 : Int32)) % (p2 &&& (7 : Int32)))), .val (.int ((p4 &&& (255 : Int32)).toUInt32.toUInt16.toUInt32.toInt32)), .unset] [])
                    refine Go.via (fun t k => XS.iload Xh15.here hx rfl (hb hby at_209) rfl k) ?_
                    show Go p.tables e below P T15 (mkF m 211 #[.val (.int p1), .val (.int p2), .val (.int p3), .val (.int p4), .val (.long p5), .second, .val (.int v2_0), .val (.int v4_0), .val (.int v6_0), .val (.int (p2 &&& (7 : Int32))), .val (.ref ra), .val (.int cc_9), .val (.int cc_10), .val (.int cc_11), .val (.int cc_12), .val (.int cc_13), .val (.int cc_14), .val (.int cc_15), .val (.int ((p3 &&& (2147483647 : Int32)) % (p2 &&& (7 : Int32)))), .val (.int ((p4 &&& (255 : Int32)).toUInt32.toUInt16.toUInt32.toInt32)), .unset] [(.int ((p3 &&& (2147483647 : Int32)) % (p2 &&& (7 : Int32))))])
                    refine Go.via (fun t k => XS.iconst Xh15.here hx rfl (hb hby at_211) k) ?_
                    show Go p.tables e below P T15 (mkF m 212 #[.val (.int p1), .val (.int p2), .val (.int p3), .val (.int p4), .val (.long p5), .second, .val (.int v2_0), .val (.int v4_0), .val (.int v6_0), .val (.int (p2 &&& (7 : Int32))), .val (.ref ra), .val (.int cc_9), .val (.int cc_10), .val (.int cc_11), .val (.int cc_12), .val (.int cc_13), .val (.int cc_14), .val (.int cc_15), .val (.int ((p3 &&& (2147483647 : Int32)) % (p2 &&& (7 : Int32)))), .val (.int ((p4 &&& (255 : Int32)).toUInt32.toUInt16.toUInt32.toInt32)), .unset] [(.int (3 : Int32)), (.int ((p3 &&& (2147483647 : Int32)) % (p2 &&& (7 : Int32))))])
                    by_cases hc175 : ((p3 &&& (2147483647 : Int32)) % (p2 &&& (7 : Int32))) = (3 : Int32)
                    · refine Go.via (fun t k => XS.icmpNo Xh15.here hx rfl (hb hby at_212) rfl (teq hc175).2 k) ?_
                      show Go p.tables e below P T15 (mkF m 215 #[.val (.int p1), .val (.int p2), .val (.int p3), .val (.int p4), .val (.long p5), .second, .val (.int v2_0), .val (.int v4_0), .val (.int v6_0), .val (.int (p2 &&& (7 : Int32))), .val (.ref ra), .val (.int cc_9), .val (.int cc_10), .val (.int cc_11), .val (.int cc_12), .val (.int cc_13), .val (.int cc_14), .val (.int cc_15), .val (.int ((p3 &&& (2147483647 : Int32)) % (p2 &&& (7 : Int32)))), .val (.int ((p4 &&& (255 : Int32)).toUInt32.toUInt16.toUInt32.toInt32)), .unset] [])
                      refine Go.via (fun t k => XS.iload Xh15.here hx rfl (hb hby at_215) rfl k) ?_
                      show Go p.tables e below P T15 (mkF m 217 #[.val (.int p1), .val (.int p2), .val (.int p3), .val (.int p4), .val (.long p5), .second, .val (.int v2_0), .val (.int v4_0), .val (.int v6_0), .val (.int (p2 &&& (7 : Int32))), .val (.ref ra), .val (.int cc_9), .val (.int cc_10), .val (.int cc_11), .val (.int cc_12), .val (.int cc_13), .val (.int cc_14), .val (.int cc_15), .val (.int ((p3 &&& (2147483647 : Int32)) % (p2 &&& (7 : Int32)))), .val (.int ((p4 &&& (255 : Int32)).toUInt32.toUInt16.toUInt32.toInt32)), .unset] [(.int ((p4 &&& (255 : Int32)).toUInt32.toUInt16.toUInt32.toInt32))])
                      refine Go.via (fun t k => XS.istore Xh15.here hx rfl (hb hby at_217) rfl (l' := #[.val (.int p1), .val (.int p2), .val (.int p3), .val (.int p4), .val (.long p5), .second, .val (.int v2_0), .val (.int v4_0), .val (.int v6_0), .val (.int (p2 &&& (7 : Int32))), .val (.ref ra), .val (.int cc_9), .val (.int cc_10), .val (.int cc_11), .val (.int ((p4 &&& (255 : Int32)).toUInt32.toUInt16.toUInt32.toInt32)), .val (.int cc_13), .val (.int cc_14), .val (.int cc_15), .val (.int ((p3 &&& (2147483647 : Int32)) % (p2 &&& (7 : Int32)))), .val (.int ((p4 &&& (255 : Int32)).toUInt32.toUInt16.toUInt32.toInt32)), .unset]) rfl k) ?_
                      show Go p.tables e below P T15 (mkF m 219 #[.val (.int p1), .val (.int p2), .val (.int p3), .val (.int p4), .val (.long p5), .second, .val (.int v2_0), .val (.int v4_0), .val (.int v6_0), .val (.int (p2 &&& (7 : Int32))), .val (.ref ra), .val (.int cc_9), .val (.int cc_10), .val (.int cc_11), .val (.int ((p4 &&& (255 : Int32)).toUInt32.toUInt16.toUInt32.toInt32)), .val (.int cc_13), .val (.int cc_14), .val (.int cc_15), .val (.int ((p3 &&& (2147483647 : Int32)) % (p2 &&& (7 : Int32)))), .val (.int ((p4 &&& (255 : Int32)).toUInt32.toUInt16.toUInt32.toInt32)), .unset] [])
                      refine Go.via (fun t k => XS.goto Xh15.here hx rfl (pc0 := 219) (pc' := 252) rfl (hb hby at_219) (by decide) (by decide) k) ?_
                      exact LP17 T15 _ cc_9 cc_10 cc_11 ((p4 &&& (255 : Int32)).toUInt32.toUInt16.toUInt32.toInt32) cc_13 cc_14 cc_15 (.val (.int ((p3 &&& (2147483647 : Int32)) % (p2 &&& (7 : Int32))))) (.val (.int ((p4 &&& (255 : Int32)).toUInt32.toUInt16.toUInt32.toInt32))) Xh15 hh15 N15 u9_0 u10_0 u11_0 (own_byc _) u13_0 u14_0 u15_0 (Or.inr ⟨_, rfl, rfl⟩) (Or.inr ⟨_, rfl, rfl⟩)
                    · refine Go.via (fun t k => XS.icmpYes Xh15.here hx rfl (pc0 := 212) (pc' := 222) rfl (hb hby at_212) rfl (feq hc175).2 (by decide) (by decide) k) ?_
                      show Go p.tables e below P T15 (mkF m 222 #[.val (.int p1), .val (.int p2), .val (.int p3), .val (.int p4), .val (.long p5), .second, .val (.int v2_0), .val (.int v4_0), .val (.int v6_0), .val (.int (p2 &&& (7 : Int32))), .val (.ref ra), .val (.int cc_9), .val (.int cc_10), .val (.int cc_11), .val (.int cc_12), .val (.int cc_13), .val (.int cc_14), .val (.int cc_15), .val (.int ((p3 &&& (2147483647 : Int32)) % (p2 &&& (7 : Int32)))), .val (.int ((p4 &&& (255 : Int32)).toUInt32.toUInt16.toUInt32.toInt32)), .unset] [])
                      refine Go.via (fun t k => XS.iload Xh15.here hx rfl (hb hby at_222) rfl k) ?_
                      show Go p.tables e below P T15 (mkF m 224 #[.val (.int p1), .val (.int p2), .val (.int p3), .val (.int p4), .val (.long p5), .second, .val (.int v2_0), .val (.int v4_0), .val (.int v6_0), .val (.int (p2 &&& (7 : Int32))), .val (.ref ra), .val (.int cc_9), .val (.int cc_10), .val (.int cc_11), .val (.int cc_12), .val (.int cc_13), .val (.int cc_14), .val (.int cc_15), .val (.int ((p3 &&& (2147483647 : Int32)) % (p2 &&& (7 : Int32)))), .val (.int ((p4 &&& (255 : Int32)).toUInt32.toUInt16.toUInt32.toInt32)), .unset] [(.int ((p3 &&& (2147483647 : Int32)) % (p2 &&& (7 : Int32))))])
                      refine Go.via (fun t k => XS.iconst Xh15.here hx rfl (hb hby at_224) k) ?_
                      show Go p.tables e below P T15 (mkF m 225 #[.val (.int p1), .val (.int p2), .val (.int p3), .val (.int p4), .val (.long p5), .second, .val (.int v2_0), .val (.int v4_0), .val (.int v6_0), .val (.int (p2 &&& (7 : Int32))), .val (.ref ra), .val (.int cc_9), .val (.int cc_10), .val (.int cc_11), .val (.int cc_12), .val (.int cc_13), .val (.int cc_14), .val (.int cc_15), .val (.int ((p3 &&& (2147483647 : Int32)) % (p2 &&& (7 : Int32)))), .val (.int ((p4 &&& (255 : Int32)).toUInt32.toUInt16.toUInt32.toInt32)), .unset] [(.int (4 : Int32)), (.int ((p3 &&& (2147483647 : Int32)) % (p2 &&& (7 : Int32))))])
                      by_cases hc176 : ((p3 &&& (2147483647 : Int32)) % (p2 &&& (7 : Int32))) = (4 : Int32)
                      · refine Go.via (fun t k => XS.icmpNo Xh15.here hx rfl (hb hby at_225) rfl (teq hc176).2 k) ?_
                        show Go p.tables e below P T15 (mkF m 228 #[.val (.int p1), .val (.int p2), .val (.int p3), .val (.int p4), .val (.long p5), .second, .val (.int v2_0), .val (.int v4_0), .val (.int v6_0), .val (.int (p2 &&& (7 : Int32))), .val (.ref ra), .val (.int cc_9), .val (.int cc_10), .val (.int cc_11), .val (.int cc_12), .val (.int cc_13), .val (.int cc_14), .val (.int cc_15), .val (.int ((p3 &&& (2147483647 : Int32)) % (p2 &&& (7 : Int32)))), .val (.int ((p4 &&& (255 : Int32)).toUInt32.toUInt16.toUInt32.toInt32)), .unset] [])
                        refine Go.via (fun t k => XS.iload Xh15.here hx rfl (hb hby at_228) rfl k) ?_
                        show Go p.tables e below P T15 (mkF m 230 #[.val (.int p1), .val (.int p2), .val (.int p3), .val (.int p4), .val (.long p5), .second, .val (.int v2_0), .val (.int v4_0), .val (.int v6_0), .val (.int (p2 &&& (7 : Int32))), .val (.ref ra), .val (.int cc_9), .val (.int cc_10), .val (.int cc_11), .val (.int cc_12), .val (.int cc_13), .val (.int cc_14), .val (.int cc_15), .val (.int ((p3 &&& (2147483647 : Int32)) % (p2 &&& (7 : Int32)))), .val (.int ((p4 &&& (255 : Int32)).toUInt32.toUInt16.toUInt32.toInt32)), .unset] [(.int ((p4 &&& (255 : Int32)).toUInt32.toUInt16.toUInt32.toInt32))])
                        refine Go.via (fun t k => XS.istore Xh15.here hx rfl (hb hby at_230) rfl (l' := #[.val (.int p1), .val (.int p2), .val (.int p3), .val (.int p4), .val (.long p5), .second, .val (.int v2_0), .val (.int v4_0), .val (.int v6_0), .val (.int (p2 &&& (7 : Int32))), .val (.ref ra), .val (.int cc_9), .val (.int cc_10), .val (.int cc_11), .val (.int cc_12), .val (.int ((p4 &&& (255 : Int32)).toUInt32.toUInt16.toUInt32.toInt32)), .val (.int cc_14), .val (.int cc_15), .val (.int ((p3 &&& (2147483647 : Int32)) % (p2 &&& (7 : Int32)))), .val (.int ((p4 &&& (255 : Int32)).toUInt32.toUInt16.toUInt32.toInt32)), .unset]) rfl k) ?_
                        show Go p.tables e below P T15 (mkF m 232 #[.val (.int p1), .val (.int p2), .val (.int p3), .val (.int p4), .val (.long p5), .second, .val (.int v2_0), .val (.int v4_0), .val (.int v6_0), .val (.int (p2 &&& (7 : Int32))), .val (.ref ra), .val (.int cc_9), .val (.int cc_10), .val (.int cc_11), .val (.int cc_12), .val (.int ((p4 &&& (255 : Int32)).toUInt32.toUInt16.toUInt32.toInt32)), .val (.int cc_14), .val (.int cc_15), .val (.int ((p3 &&& (2147483647 : Int32)) % (p2 &&& (7 : Int32)))), .val (.int ((p4 &&& (255 : Int32)).toUInt32.toUInt16.toUInt32.toInt32)), .unset] [])
                        refine Go.via (fun t k => XS.goto Xh15.here hx rfl (pc0 := 232) (pc' := 252) rfl (hb hby at_232) (by decide) (by decide) k) ?_
                        exact LP17 T15 _ cc_9 cc_10 cc_11 cc_12 ((p4 &&& (255 : Int32)).toUInt32.toUInt16.toUInt32.toInt32) cc_14 cc_15 (.val (.int ((p3 &&& (2147483647 : Int32)) % (p2 &&& (7 : Int32))))) (.val (.int ((p4 &&& (255 : Int32)).toUInt32.toUInt16.toUInt32.toInt32))) Xh15 hh15 N15 u9_0 u10_0 u11_0 u12_0 (own_byc _) u14_0 u15_0 (Or.inr ⟨_, rfl, rfl⟩) (Or.inr ⟨_, rfl, rfl⟩)
                      · refine Go.via (fun t k => XS.icmpYes Xh15.here hx rfl (pc0 := 225) (pc' := 235) rfl (hb hby at_225) rfl (feq hc176).2 (by decide) (by decide) k) ?_
                        show Go p.tables e below P T15 (mkF m 235 #[.val (.int p1), .val (.int p2), .val (.int p3), .val (.int p4), .val (.long p5), .second, .val (.int v2_0), .val (.int v4_0), .val (.int v6_0), .val (.int (p2 &&& (7 : Int32))), .val (.ref ra), .val (.int cc_9), .val (.int cc_10), .val (.int cc_11), .val (.int cc_12), .val (.int cc_13), .val (.int cc_14), .val (.int cc_15), .val (.int ((p3 &&& (2147483647 : Int32)) % (p2 &&& (7 : Int32)))), .val (.int ((p4 &&& (255 : Int32)).toUInt32.toUInt16.toUInt32.toInt32)), .unset] [])
                        refine Go.via (fun t k => XS.iload Xh15.here hx rfl (hb hby at_235) rfl k) ?_
                        show Go p.tables e below P T15 (mkF m 237 #[.val (.int p1), .val (.int p2), .val (.int p3), .val (.int p4), .val (.long p5), .second, .val (.int v2_0), .val (.int v4_0), .val (.int v6_0), .val (.int (p2 &&& (7 : Int32))), .val (.ref ra), .val (.int cc_9), .val (.int cc_10), .val (.int cc_11), .val (.int cc_12), .val (.int cc_13), .val (.int cc_14), .val (.int cc_15), .val (.int ((p3 &&& (2147483647 : Int32)) % (p2 &&& (7 : Int32)))), .val (.int ((p4 &&& (255 : Int32)).toUInt32.toUInt16.toUInt32.toInt32)), .unset] [(.int ((p3 &&& (2147483647 : Int32)) % (p2 &&& (7 : Int32))))])
                        refine Go.via (fun t k => XS.iconst Xh15.here hx rfl (hb hby at_237) k) ?_
                        show Go p.tables e below P T15 (mkF m 238 #[.val (.int p1), .val (.int p2), .val (.int p3), .val (.int p4), .val (.long p5), .second, .val (.int v2_0), .val (.int v4_0), .val (.int v6_0), .val (.int (p2 &&& (7 : Int32))), .val (.ref ra), .val (.int cc_9), .val (.int cc_10), .val (.int cc_11), .val (.int cc_12), .val (.int cc_13), .val (.int cc_14), .val (.int cc_15), .val (.int ((p3 &&& (2147483647 : Int32)) % (p2 &&& (7 : Int32)))), .val (.int ((p4 &&& (255 : Int32)).toUInt32.toUInt16.toUInt32.toInt32)), .unset] [(.int (5 : Int32)), (.int ((p3 &&& (2147483647 : Int32)) % (p2 &&& (7 : Int32))))])
                        by_cases hc177 : ((p3 &&& (2147483647 : Int32)) % (p2 &&& (7 : Int32))) = (5 : Int32)
                        · refine Go.via (fun t k => XS.icmpNo Xh15.here hx rfl (hb hby at_238) rfl (teq hc177).2 k) ?_
                          show Go p.tables e below P T15 (mkF m 241 #[.val (.int p1), .val (.int p2), .val (.int p3), .val (.int p4), .val (.long p5), .second, .val (.int v2_0), .val (.int v4_0), .val (.int v6_0), .val (.int (p2 &&& (7 : Int32))), .val (.ref ra), .val (.int cc_9), .val (.int cc_10), .val (.int cc_11), .val (.int cc_12), .val (.int cc_13), .val (.int cc_14), .val (.int cc_15), .val (.int ((p3 &&& (2147483647 : Int32)) % (p2 &&& (7 : Int32)))), .val (.int ((p4 &&& (255 : Int32)).toUInt32.toUInt16.toUInt32.toInt32)), .unset] [])
                          refine Go.via (fun t k => XS.iload Xh15.here hx rfl (hb hby at_241) rfl k) ?_
                          show Go p.tables e below P T15 (mkF m 243 #[.val (.int p1), .val (.int p2), .val (.int p3), .val (.int p4), .val (.long p5), .second, .val (.int v2_0), .val (.int v4_0), .val (.int v6_0), .val (.int (p2 &&& (7 : Int32))), .val (.ref ra), .val (.int cc_9), .val (.int cc_10), .val (.int cc_11), .val (.int cc_12), .val (.int cc_13), .val (.int cc_14), .val (.int cc_15), .val (.int ((p3 &&& (2147483647 : Int32)) % (p2 &&& (7 : Int32)))), .val (.int ((p4 &&& (255 : Int32)).toUInt32.toUInt16.toUInt32.toInt32)), .unset] [(.int ((p4 &&& (255 : Int32)).toUInt32.toUInt16.toUInt32.toInt32))])
                          refine Go.via (fun t k => XS.istore Xh15.here hx rfl (hb hby at_243) rfl (l' := #[.val (.int p1), .val (.int p2), .val (.int p3), .val (.int p4), .val (.long p5), .second, .val (.int v2_0), .val (.int v4_0), .val (.int v6_0), .val (.int (p2 &&& (7 : Int32))), .val (.ref ra), .val (.int cc_9), .val (.int cc_10), .val (.int cc_11), .val (.int cc_12), .val (.int cc_13), .val (.int ((p4 &&& (255 : Int32)).toUInt32.toUInt16.toUInt32.toInt32)), .val (.int cc_15), .val (.int ((p3 &&& (2147483647 : Int32)) % (p2 &&& (7 : Int32)))), .val (.int ((p4 &&& (255 : Int32)).toUInt32.toUInt16.toUInt32.toInt32)), .unset]) rfl k) ?_
                          show Go p.tables e below P T15 (mkF m 245 #[.val (.int p1), .val (.int p2), .val (.int p3), .val (.int p4), .val (.long p5), .second, .val (.int v2_0), .val (.int v4_0), .val (.int v6_0), .val (.int (p2 &&& (7 : Int32))), .val (.ref ra), .val (.int cc_9), .val (.int cc_10), .val (.int cc_11), .val (.int cc_12), .val (.int cc_13), .val (.int ((p4 &&& (255 : Int32)).toUInt32.toUInt16.toUInt32.toInt32)), .val (.int cc_15), .val (.int ((p3 &&& (2147483647 : Int32)) % (p2 &&& (7 : Int32)))), .val (.int ((p4 &&& (255 : Int32)).toUInt32.toUInt16.toUInt32.toInt32)), .unset] [])
                          refine Go.via (fun t k => XS.goto Xh15.here hx rfl (pc0 := 245) (pc' := 252) rfl (hb hby at_245) (by decide) (by decide) k) ?_
                          exact LP17 T15 _ cc_9 cc_10 cc_11 cc_12 cc_13 ((p4 &&& (255 : Int32)).toUInt32.toUInt16.toUInt32.toInt32) cc_15 (.val (.int ((p3 &&& (2147483647 : Int32)) % (p2 &&& (7 : Int32))))) (.val (.int ((p4 &&& (255 : Int32)).toUInt32.toUInt16.toUInt32.toInt32))) Xh15 hh15 N15 u9_0 u10_0 u11_0 u12_0 u13_0 (own_byc _) u15_0 (Or.inr ⟨_, rfl, rfl⟩) (Or.inr ⟨_, rfl, rfl⟩)
                        · refine Go.via (fun t k => XS.icmpYes Xh15.here hx rfl (pc0 := 238) (pc' := 248) rfl (hb hby at_238) rfl (feq hc177).2 (by decide) (by decide) k) ?_
                          show Go p.tables e below P T15 (mkF m 248 #[.val (.int p1), .val (.int p2), .val (.int p3), .val (.int p4), .val (.long p5), .second, .val (.int v2_0), .val (.int v4_0), .val (.int v6_0), .val (.int (p2 &&& (7 : Int32))), .val (.ref ra), .val (.int cc_9), .val (.int cc_10), .val (.int cc_11), .val (.int cc_12), .val (.int cc_13), .val (.int cc_14), .val (.int cc_15), .val (.int ((p3 &&& (2147483647 : Int32)) % (p2 &&& (7 : Int32)))), .val (.int ((p4 &&& (255 : Int32)).toUInt32.toUInt16.toUInt32.toInt32)), .unset] [])
                          refine Go.via (fun t k => XS.iload Xh15.here hx rfl (hb hby at_248) rfl k) ?_
                          show Go p.tables e below P T15 (mkF m 250 #[.val (.int p1), .val (.int p2), .val (.int p3), .val (.int p4), .val (.long p5), .second, .val (.int v2_0), .val (.int v4_0), .val (.int v6_0), .val (.int (p2 &&& (7 : Int32))), .val (.ref ra), .val (.int cc_9), .val (.int cc_10), .val (.int cc_11), .val (.int cc_12), .val (.int cc_13), .val (.int cc_14), .val (.int cc_15), .val (.int ((p3 &&& (2147483647 : Int32)) % (p2 &&& (7 : Int32)))), .val (.int ((p4 &&& (255 : Int32)).toUInt32.toUInt16.toUInt32.toInt32)), .unset] [(.int ((p4 &&& (255 : Int32)).toUInt32.toUInt16.toUInt32.toInt32))])
                          refine Go.via (fun t k => XS.istore Xh15.here hx rfl (hb hby at_250) rfl (l' := #[.val (.int p1), .val (.int p2), .val (.int p3), .val (.int p4), .val (.long p5), .second, .val (.int v2_0), .val (.int v4_0), .val (.int v6_0), .val (.int (p2 &&& (7 : Int32))), .val (.ref ra), .val (.int cc_9), .val (.int cc_10), .val (.int cc_11), .val (.int cc_12), .val (.int cc_13), .val (.int cc_14), .val (.int ((p4 &&& (255 : Int32)).toUInt32.toUInt16.toUInt32.toInt32)), .val (.int ((p3 &&& (2147483647 : Int32)) % (p2 &&& (7 : Int32)))), .val (.int ((p4 &&& (255 : Int32)).toUInt32.toUInt16.toUInt32.toInt32)), .unset]) rfl k) ?_
                          exact LP17 T15 _ cc_9 cc_10 cc_11 cc_12 cc_13 cc_14 ((p4 &&& (255 : Int32)).toUInt32.toUInt16.toUInt32.toInt32) (.val (.int ((p3 &&& (2147483647 : Int32)) % (p2 &&& (7 : Int32))))) (.val (.int ((p4 &&& (255 : Int32)).toUInt32.toUInt16.toUInt32.toInt32))) Xh15 hh15 N15 u9_0 u10_0 u11_0 u12_0 u13_0 u14_0 (own_byc _) (Or.inr ⟨_, rfl, rfl⟩) (Or.inr ⟨_, rfl, rfl⟩)
            · refine Go.via (fun t k => XS.ifYes Xh15.here hx rfl (pc0 := 151) (pc' := 252) rfl (hb hby at_151) rfl ((if0 _ _).trans (flt hc171).2.2.2) (by decide) (by decide) k) ?_
              exact LP17 T15 _ cc_9 cc_10 cc_11 cc_12 cc_13 cc_14 cc_15 .unset .unset Xh15 hh15 N15 u9_0 u10_0 u11_0 u12_0 u13_0 u14_0 u15_0 (Or.inl rfl) (Or.inl rfl)
        by_cases hc7 : v2_0 = (0 : Int32)
        · refine Go.via (fun t k => XS.ifYes X6.here hx rfl (pc0 := 47) (pc' := 55) rfl (hb hby at_47) rfl ((if0 _ _).trans (teq hc7).1) (by decide) (by decide) k) ?_
          show Go p.tables e below P T6 (mkF m 55 #[.val (.int p1), .val (.int p2), .val (.int p3), .val (.int p4), .val (.long p5), .second, .val (.int v2_0), .val (.int v4_0), .val (.int v6_0), .val (.int (p2 &&& (7 : Int32))), .unset, .unset, .unset, .unset, .unset, .unset, .unset, .unset, .unset, .unset, .unset] [])
          obtain ⟨a178, T178, h178, kn178, b178, kb178, X178, e178, E178, hS178, hk178, hZ, hown, Ex178, Fc178, Fv178, Va178, lta178, ltb178, hC178, -, ne178, st178⟩ := ldcCH X6 hx hZ hown (hw _ (List.mem_of_getElem? (i := 0) rfl)) (own_sa hw) e6 hS0 (Nat.zero_le _) (own_EW hw) (by decide : (("com/example/numeric_planner/numericplanner/planner/KindOfPinLaw", 9) : String × Nat) ∈ consts_1) CR0.1 (vs := [(.int (118 : Int32)), (.int (97 : Int32)), (.int (108 : Int32)), (.int (117 : Int32)), (.int (101 : Int32))]) (z := (5 : Int32)) ⟨by decide, rfl⟩ (by decide) rfl (g := (mkF m 55 #[.val (.int p1), .val (.int p2), .val (.int p3), .val (.int p4), .val (.long p5), .second, .val (.int v2_0), .val (.int v4_0), .val (.int v6_0), .val (.int (p2 &&& (7 : Int32))), .unset, .unset, .unset, .unset, .unset, .unset, .unset, .unset, .unset, .unset, .unset] [])) rfl (hb hby at_55) (n := 20) (by decide) (by decide) (by decide) (by decide)
          refine Go.via st178 ?_
          have CR179 := CHr.trans CR0 hC178
          have Z180 : n0 ≤ h178.size := Nat.le_trans Z0 E178.1
          have K181 : Keep h0 h178 [] := K0.ext E178
          have O182 : Old Z n0 h178 := O0.ext E178
          have Vb178 : Arv Z h178 b178 kb178 .byte (own_lg ([(118 : Int32), (97 : Int32), (108 : Int32), (117 : Int32), (101 : Int32)] : List Int32)) (([(118 : Int32), (97 : Int32), (108 : Int32), (117 : Int32), (101 : Int32)] : List Int32).map Value.int) (.int (0 : Int32)) := by
            rw [show own_lg ([(118 : Int32), (97 : Int32), (108 : Int32), (117 : Int32), (101 : Int32)] : List Int32) = (5 : Int32) from rfl]; exact Va178
          exact LP8 T178 _ h178 a178 b178 kb178 ([(118 : Int32), (97 : Int32), (108 : Int32), (117 : Int32), (101 : Int32)] : List Int32) T178.vm _ hZ hown hS178 hk178 CR179 (ownUp X178 (by decide) (by decide)) e178 N6 Z180 K181 O182 Ex178 Fv178 Fc178 Vb178
        · refine Go.via (fun t k => XS.ifNo X6.here hx rfl (hb hby at_47) rfl ((if0 _ _).trans (feq hc7).1) k) ?_
          show Go p.tables e below P T6 (mkF m 50 #[.val (.int p1), .val (.int p2), .val (.int p3), .val (.int p4), .val (.long p5), .second, .val (.int v2_0), .val (.int v4_0), .val (.int v6_0), .val (.int (p2 &&& (7 : Int32))), .unset, .unset, .unset, .unset, .unset, .unset, .unset, .unset, .unset, .unset, .unset] [])
          obtain ⟨a183, T183, h183, kn183, b183, kb183, X183, e183, E183, hS183, hk183, hZ, hown, Ex183, Fc183, Fv183, Va183, lta183, ltb183, hC183, -, ne183, st183⟩ := ldcCH X6 hx hZ hown (hw _ (List.mem_of_getElem? (i := 118) rfl)) (own_sa hw) e6 hS0 (Nat.zero_le _) (own_EW hw) (by decide : (("com/example/numeric_planner/numericplanner/planner/KindOfPinLaw", 7) : String × Nat) ∈ consts_1) CR0.1 (vs := [(.int (112 : Int32)), (.int (111 : Int32)), (.int (108 : Int32)), (.int (105 : Int32)), (.int (99 : Int32)), (.int (121 : Int32))]) (z := (6 : Int32)) ⟨by decide, rfl⟩ (by decide) rfl (g := (mkF m 50 #[.val (.int p1), .val (.int p2), .val (.int p3), .val (.int p4), .val (.long p5), .second, .val (.int v2_0), .val (.int v4_0), .val (.int v6_0), .val (.int (p2 &&& (7 : Int32))), .unset, .unset, .unset, .unset, .unset, .unset, .unset, .unset, .unset, .unset, .unset] [])) rfl (hb hby at_50) (n := 24) (by decide) (by decide) (by decide) (by decide)
          refine Go.via st183 ?_
          have CR184 := CHr.trans CR0 hC183
          have Z185 : n0 ≤ h183.size := Nat.le_trans Z0 E183.1
          have K186 : Keep h0 h183 [] := K0.ext E183
          have O187 : Old Z n0 h183 := O0.ext E183
          have Vb183 : Arv Z h183 b183 kb183 .byte (own_lg ([(112 : Int32), (111 : Int32), (108 : Int32), (105 : Int32), (99 : Int32), (121 : Int32)] : List Int32)) (([(112 : Int32), (111 : Int32), (108 : Int32), (105 : Int32), (99 : Int32), (121 : Int32)] : List Int32).map Value.int) (.int (0 : Int32)) := by
            rw [show own_lg ([(112 : Int32), (111 : Int32), (108 : Int32), (105 : Int32), (99 : Int32), (121 : Int32)] : List Int32) = (6 : Int32) from rfl]; exact Va183
          show Go p.tables e below P T183 (mkF m 52 #[.val (.int p1), .val (.int p2), .val (.int p3), .val (.int p4), .val (.long p5), .second, .val (.int v2_0), .val (.int v4_0), .val (.int v6_0), .val (.int (p2 &&& (7 : Int32))), .unset, .unset, .unset, .unset, .unset, .unset, .unset, .unset, .unset, .unset, .unset] [(.ref a183)])
          refine Go.via (fun t k => XS.goto X183.here hx rfl (pc0 := 52) (pc' := 57) rfl (hb hby at_52) (by decide) (by decide) k) ?_
          exact LP8 T183 _ h183 a183 b183 kb183 ([(112 : Int32), (111 : Int32), (108 : Int32), (105 : Int32), (99 : Int32), (121 : Int32)] : List Int32) T183.vm _ hZ hown hS183 hk183 CR184 X183 e183 N6 Z185 K186 O187 Ex183 Fv183 Fc183 Vb183
      by_cases hc5 : (p1 &&& (4 : Int32)) = (0 : Int32)
      · refine Go.via (fun t k => XS.ifYes X4.here hx rfl (pc0 := 29) (pc' := 36) rfl (hb hby at_29) rfl ((if0 _ _).trans (teq hc5).1) (by decide) (by decide) k) ?_
        show Go p.tables e below P T4 (mkF m 36 #[.val (.int p1), .val (.int p2), .val (.int p3), .val (.int p4), .val (.long p5), .second, .val (.int v2_0), .val (.int v4_0), .unset, .unset, .unset, .unset, .unset, .unset, .unset, .unset, .unset, .unset, .unset, .unset, .unset] [])
        refine Go.via (fun t k => XS.iconst X4.here hx rfl (hb hby at_36) k) ?_
        exact J6 T4 _ (0 : Int32) X4 e4 N4 (if_pos hc5).symm
      · refine Go.via (fun t k => XS.ifNo X4.here hx rfl (hb hby at_29) rfl ((if0 _ _).trans (feq hc5).1) k) ?_
        show Go p.tables e below P T4 (mkF m 32 #[.val (.int p1), .val (.int p2), .val (.int p3), .val (.int p4), .val (.long p5), .second, .val (.int v2_0), .val (.int v4_0), .unset, .unset, .unset, .unset, .unset, .unset, .unset, .unset, .unset, .unset, .unset, .unset, .unset] [])
        refine Go.via (fun t k => XS.iconst X4.here hx rfl (hb hby at_32) k) ?_
        show Go p.tables e below P T4 (mkF m 33 #[.val (.int p1), .val (.int p2), .val (.int p3), .val (.int p4), .val (.long p5), .second, .val (.int v2_0), .val (.int v4_0), .unset, .unset, .unset, .unset, .unset, .unset, .unset, .unset, .unset, .unset, .unset, .unset, .unset] [(.int (1 : Int32))])
        refine Go.via (fun t k => XS.goto X4.here hx rfl (pc0 := 33) (pc' := 37) rfl (hb hby at_33) (by decide) (by decide) k) ?_
        exact J6 T4 _ (1 : Int32) X4 e4 N4 (if_neg hc5).symm
    by_cases hc3 : (p1 &&& (2 : Int32)) = (0 : Int32)
    · refine Go.via (fun t k => XS.ifYes X2.here hx rfl (pc0 := 16) (pc' := 23) rfl (hb hby at_16) rfl ((if0 _ _).trans (teq hc3).1) (by decide) (by decide) k) ?_
      show Go p.tables e below P T2 (mkF m 23 #[.val (.int p1), .val (.int p2), .val (.int p3), .val (.int p4), .val (.long p5), .second, .val (.int v2_0), .unset, .unset, .unset, .unset, .unset, .unset, .unset, .unset, .unset, .unset, .unset, .unset, .unset, .unset] [])
      refine Go.via (fun t k => XS.iconst X2.here hx rfl (hb hby at_23) k) ?_
      exact J4 T2 _ (0 : Int32) X2 e2 N2 (if_pos hc3).symm
    · refine Go.via (fun t k => XS.ifNo X2.here hx rfl (hb hby at_16) rfl ((if0 _ _).trans (feq hc3).1) k) ?_
      show Go p.tables e below P T2 (mkF m 19 #[.val (.int p1), .val (.int p2), .val (.int p3), .val (.int p4), .val (.long p5), .second, .val (.int v2_0), .unset, .unset, .unset, .unset, .unset, .unset, .unset, .unset, .unset, .unset, .unset, .unset, .unset, .unset] [])
      refine Go.via (fun t k => XS.iconst X2.here hx rfl (hb hby at_19) k) ?_
      show Go p.tables e below P T2 (mkF m 20 #[.val (.int p1), .val (.int p2), .val (.int p3), .val (.int p4), .val (.long p5), .second, .val (.int v2_0), .unset, .unset, .unset, .unset, .unset, .unset, .unset, .unset, .unset, .unset, .unset, .unset, .unset, .unset] [(.int (1 : Int32))])
      refine Go.via (fun t k => XS.goto X2.here hx rfl (pc0 := 20) (pc' := 24) rfl (hb hby at_20) (by decide) (by decide) k) ?_
      exact J4 T2 _ (1 : Int32) X2 e2 N2 (if_neg hc3).symm
  by_cases hc1 : (p1 &&& (1 : Int32)) = (0 : Int32)
  · refine Go.via (fun t k => XS.ifYes X0.here hx rfl (pc0 := 3) (pc' := 10) rfl (hb hby at_3) rfl ((if0 _ _).trans (teq hc1).1) (by decide) (by decide) k) ?_
    show Go p.tables e below P s₁ (mkF m 10 #[.val (.int p1), .val (.int p2), .val (.int p3), .val (.int p4), .val (.long p5), .second, .unset, .unset, .unset, .unset, .unset, .unset, .unset, .unset, .unset, .unset, .unset, .unset, .unset, .unset, .unset] [])
    refine Go.via (fun t k => XS.iconst X0.here hx rfl (hb hby at_10) k) ?_
    exact J2 s₁ _ (0 : Int32) X0 e0 N0 (if_pos hc1).symm
  · refine Go.via (fun t k => XS.ifNo X0.here hx rfl (hb hby at_3) rfl ((if0 _ _).trans (feq hc1).1) k) ?_
    show Go p.tables e below P s₁ (mkF m 6 #[.val (.int p1), .val (.int p2), .val (.int p3), .val (.int p4), .val (.long p5), .second, .unset, .unset, .unset, .unset, .unset, .unset, .unset, .unset, .unset, .unset, .unset, .unset, .unset, .unset, .unset] [])
    refine Go.via (fun t k => XS.iconst X0.here hx rfl (hb hby at_6) k) ?_
    show Go p.tables e below P s₁ (mkF m 7 #[.val (.int p1), .val (.int p2), .val (.int p3), .val (.int p4), .val (.long p5), .second, .unset, .unset, .unset, .unset, .unset, .unset, .unset, .unset, .unset, .unset, .unset, .unset, .unset, .unset, .unset] [(.int (1 : Int32))])
    refine Go.via (fun t k => XS.goto X0.here hx rfl (pc0 := 7) (pc' := 11) rfl (hb hby at_7) (by decide) (by decide) k) ?_
    exact J2 s₁ _ (1 : Int32) X0 e0 N0 (if_neg hc1).symm
set_option maxRecDepth 65536 in
set_option maxHeartbeats 40000000 in
theorem comes_1 {Post : Tables → Env → Array Value → State → Outcome → State → Prop} (hpost : ∀ tb e args s v u, (limb_1_1.after args s (.returned v) u = true ∧ limb_1_2.after args s (.returned v) u = true ∧ True) → ReturnedEndW s (.returned v) u (Jvm.fieldLocs frame_1_writes args s ++ Jvm.arrayLocs frame_1_arrays args s ++ Jvm.staticLocs frame_1_statics s) 24 3200 → Post tb e args s (.returned v) u) :
    ArmFor flags0 classFile x code maxLocals ret World_1 tables_1 room_1 Calls_1 rest_1 Pre_1 Post := by
  intro l hfl _ _ p e ha hc hk s m args below hf hA hF happ hP
  obtain ⟨hcalls, hrest, hpre⟩ := hP
  obtain ⟨-, -, -, hnamed, -, -, -, hat⟩ := (Spec.applies_iff hf).mp happ
  obtain ⟨hg, hn⟩ := and_e (Cond.before_iff.mp (show (Jvm.Cond.and given_1 narrow_1).before args s = true from hpre))
  obtain ⟨hv0, hr0⟩ := and_e hg
  obtain ⟨hv1, hr1⟩ := and_e hr0
  obtain ⟨hv2, hr2⟩ := and_e hr1
  obtain ⟨hv3, hr3⟩ := and_e hr2
  obtain ⟨hv4, hr4⟩ := and_e hr3
  obtain ⟨w0, w1, w2, w3, w4, rfl⟩ : ∃ w0 w1 w2 w3 w4 : Value, args = #[w0, w1, w2, w3, w4] := by
    have hs : args.size = 5 := by simpa [Cond.value, given_1] using hv0
    obtain ⟨L⟩ := args
    match L, hs with
    | [w0, w1, w2, w3, w4], _ => exact ⟨w0, w1, w2, w3, w4, rfl⟩
  have hw := fun d (hd : d ∈ tables_1) => atoms_spec (ws := Jvm.Cond.code x code maxLocals ret :: tables_1) hat d (List.mem_cons_of_mem _ hd)
  have hfit : Fit s := fun {y c} hc i hi => by
    obtain ⟨ha, rfl⟩ := Array.getElem?_eq_some_iff.mp hc
    have q := List.all_eq_true.mp ((Array.all_eq_true_iff_forall_mem.mp hF) _ (Array.getElem_mem ha)) i (List.mem_range.mpr hi)
    simpa [Array.getElem?_eq_getElem hi] using q
  obtain ⟨hsets, hown0⟩ := atoms_of _ (rest_1_c_eq ▸ (show rest_1_c.before _ s = true from hrest))
  have hr00 := Cond.before_iff.mp hown0
  obtain ⟨i0, ei0⟩ := is_v hv1
  obtain rfl : w0 = (.int i0) := Option.some.inj ei0
  obtain ⟨i1, ei1⟩ := is_v hv2
  obtain rfl : w1 = (.int i1) := Option.some.inj ei1
  obtain ⟨i2, ei2⟩ := is_v hv3
  obtain rfl : w2 = (.int i2) := Option.some.inj ei2
  obtain ⟨i3, ei3⟩ := is_v hv4
  obtain rfl : w3 = (.int i3) := Option.some.inj ei3
  obtain ⟨i4, ei4⟩ := isL_v hr4
  obtain rfl : w4 = (.long i4) := Option.some.inj ei4
  have ncs := not_v (Cond.before_iff.mp (hsets _ (List.mem_of_getElem? (i := 2) rfl)))
  obtain ⟨cs, ecs⟩ := is_v (Cond.before_iff.mp (hsets _ (List.mem_of_getElem? (i := 1) rfl)))
  have Scs : Sta s s.heap "java/lang/String" "COMPACT_STRINGS" "Z" (.int cs) := Sta.start ecs (Or.inl (hsets _ (List.mem_of_getElem? (i := 0) rfl)))
  have hcs : ¬ (cs = (0 : Int32)) := gotF (Cond.eq_ints ecs (Term.int_eval (0))) ncs
  obtain ⟨fm, efm, rfm⟩ := isR_v (Cond.before_iff.mp (hsets _ (List.mem_of_getElem? (i := 8) rfl)))
  have Sfm : Sta s s.heap "jdk/internal/util/Preconditions" "SIOOBE_FORMATTER" "Ljava/util/function/BiFunction;" fm := Sta.start efm (Or.inl (hsets _ (List.mem_of_getElem? (i := 7) rfl)))
  obtain ⟨hn1, hn2⟩ := and_e hn
  obtain ⟨hn3, hn4⟩ := and_e hn2
  obtain ⟨hn5, hn6⟩ := and_e hn4
  obtain ⟨hn7, hn8⟩ := and_e hn6
  obtain ⟨hn9, hn10⟩ := and_e hn8
  obtain ⟨hn11, hn12⟩ := and_e hn10
  obtain ⟨hn13, hn14⟩ := and_e hn12
  obtain ⟨hn15, hn16⟩ := and_e hn14
  obtain ⟨hn17, hn18⟩ := and_e hn16
  obtain ⟨hn19, hn20⟩ := and_e hn18
  obtain ⟨hn21, hn22⟩ := and_e hn20
  obtain ⟨hn23, hn24⟩ := and_e hn22
  obtain ⟨hn25, hn26⟩ := and_e hn24
  obtain ⟨hn27, hn28⟩ := and_e hn26
  obtain ⟨hn29, hn30⟩ := and_e hn28
  obtain ⟨hn31, hn32⟩ := and_e hn30
  obtain ⟨hn33, hn34⟩ := and_e hn32
  obtain ⟨hn35, hn36⟩ := and_e hn34
  obtain ⟨hn37, hn38⟩ := and_e hn36
  obtain ⟨hn39, hn40⟩ := and_e hn38
  obtain ⟨hn41, hn42⟩ := and_e hn40
  obtain ⟨hn43, hn44⟩ := and_e hn42
  obtain ⟨hn45, hn46⟩ := and_e hn44
  obtain ⟨hn47, hn48⟩ := and_e hn46
  obtain ⟨hn49, hn50⟩ := and_e hn48
  obtain ⟨va, e_va⟩ := arr_v hn1
  have Sta_va : Sta s s.heap "com/example/numeric_planner/numericplanner/planner/Solution$Kind" "$VALUES" "[Lcom/example/numeric_planner/numericplanner/planner/Solution$Kind;" (.ref va) := Sta.start e_va (Or.inr ⟨(hw _ (List.mem_of_getElem? (i := 75) rfl)), (hw _ (List.mem_of_getElem? (i := 86) rfl))⟩)
  obtain ⟨cl_va, Ar_va⟩ := Arr.start e_va hn1
  have Ex_va : Exa s s.heap va "[Lcom/example/numeric_planner/numericplanner/planner/Solution$Kind;" := Exa.start e_va hn3
  obtain ⟨qln51, rln51⟩ := own_len e_va Ar_va hn5
  obtain ⟨aV, e_aV⟩ := exa_v hn7
  have Sta_aV : Sta s s.heap "com/example/numeric_planner/numericplanner/planner/Solution$Kind" "VALUE" "Lcom/example/numeric_planner/numericplanner/planner/Solution$Kind;" (.ref aV) := Sta.start e_aV (Or.inr ⟨(hw _ (List.mem_of_getElem? (i := 75) rfl)), (hw _ (List.mem_of_getElem? (i := 94) rfl))⟩)
  have Ex_aV : Exa s s.heap aV "com/example/numeric_planner/numericplanner/planner/Solution$Kind" := Exa.start e_aV hn7
  have el52 := own_elr e_va Ar_va hn9 e_aV
  obtain ⟨aP, e_aP⟩ := exa_v hn11
  have Sta_aP : Sta s s.heap "com/example/numeric_planner/numericplanner/planner/Solution$Kind" "POLICY" "Lcom/example/numeric_planner/numericplanner/planner/Solution$Kind;" (.ref aP) := Sta.start e_aP (Or.inr ⟨(hw _ (List.mem_of_getElem? (i := 75) rfl)), (hw _ (List.mem_of_getElem? (i := 95) rfl))⟩)
  have Ex_aP : Exa s s.heap aP "com/example/numeric_planner/numericplanner/planner/Solution$Kind" := Exa.start e_aP hn11
  have el53 := own_elr e_va Ar_va hn13 e_aP
  obtain ⟨sV, e_sV⟩ := exa_v hn15
  have Fd_sV : Fld s s.heap aV "com/example/numeric_planner/numericplanner/planner/Solution$Kind" "keyword" "Ljava/lang/String;" (.ref sV) := Fld.start ((fld_at e_aV).symm.trans e_sV)
  have Ex_sV : Exa s s.heap sV "java/lang/String" := Exa.start e_sV hn15
  have fi54 : Fld s s.heap sV "java/lang/String" "coder" "B" (.int (0 : Int32)) := Fld.start ((fld_at e_sV).symm.trans (own_ieq hn17))
  obtain ⟨tV, e_tV⟩ := arr_v hn19
  have Fd_tV : Fld s s.heap sV "java/lang/String" "value" "[B" (.ref tV) := Fld.start ((fld_at e_sV).symm.trans e_tV)
  obtain ⟨cl_tV, Ar_tV⟩ := Arr.start e_tV hn19
  obtain ⟨qln55, rln55⟩ := own_len e_tV Ar_tV hn21
  obtain ⟨sP, e_sP⟩ := exa_v hn23
  have Fd_sP : Fld s s.heap aP "com/example/numeric_planner/numericplanner/planner/Solution$Kind" "keyword" "Ljava/lang/String;" (.ref sP) := Fld.start ((fld_at e_aP).symm.trans e_sP)
  have Ex_sP : Exa s s.heap sP "java/lang/String" := Exa.start e_sP hn23
  have fi56 : Fld s s.heap sP "java/lang/String" "coder" "B" (.int (0 : Int32)) := Fld.start ((fld_at e_sP).symm.trans (own_ieq hn25))
  obtain ⟨tP, e_tP⟩ := arr_v hn27
  have Fd_tP : Fld s s.heap sP "java/lang/String" "value" "[B" (.ref tP) := Fld.start ((fld_at e_sP).symm.trans e_tP)
  obtain ⟨cl_tP, Ar_tP⟩ := Arr.start e_tP hn27
  obtain ⟨qln57, rln57⟩ := own_len e_tP Ar_tP hn29
  have el58 := own_el e_tV Ar_tV hn31
  have el59 := own_el e_tV Ar_tV hn33
  have el60 := own_el e_tV Ar_tV hn35
  have el61 := own_el e_tV Ar_tV hn37
  have el62 := own_el e_tV Ar_tV hn39
  have el63 := own_el e_tP Ar_tP hn41
  have el64 := own_el e_tP Ar_tP hn43
  have el65 := own_el e_tP Ar_tP hn45
  have el66 := own_el e_tP Ar_tP hn47
  have el67 := own_el e_tP Ar_tP hn49
  have el68 := own_el e_tP Ar_tP hn50
  have Av_va : Arv s s.heap va cl_va.cls (.object "com/example/numeric_planner/numericplanner/planner/Solution$Kind") (2 : Int32) [(.ref aV), (.ref aP)] .null := Arv.start hfit Ar_va qln51 rln51 (by decide) rfl ⟨el52, ⟨el53, trivial⟩⟩
  have Av_tV : Arv s s.heap tV cl_tV.cls .byte (5 : Int32) [(.int (118 : Int32)), (.int (97 : Int32)), (.int (108 : Int32)), (.int (117 : Int32)), (.int (101 : Int32))] (.int (0 : Int32)) := Arv.start hfit Ar_tV qln55 rln55 (by decide) rfl ⟨el58, ⟨el59, ⟨el60, ⟨el61, ⟨el62, trivial⟩⟩⟩⟩⟩
  have Av_tP : Arv s s.heap tP cl_tP.cls .byte (6 : Int32) [(.int (112 : Int32)), (.int (111 : Int32)), (.int (108 : Int32)), (.int (105 : Int32)), (.int (99 : Int32)), (.int (121 : Int32))] (.int (0 : Int32)) := Arv.start hfit Ar_tP qln57 rln57 (by decide) rfl ⟨el63, ⟨el64, ⟨el65, ⟨el66, ⟨el67, ⟨el68, trivial⟩⟩⟩⟩⟩⟩
  obtain ⟨em, e_em⟩ := exa_v (Cond.before_iff.mp (hsets _ (List.mem_of_getElem? (i := 11) rfl)))
  have Sta_em : Sta s s.heap "java/util/Optional" "EMPTY" "Ljava/util/Optional;" (.ref em) := Sta.start e_em (Or.inl (hsets _ (List.mem_of_getElem? (i := 10) rfl)))
  have Ex_em : Exa s s.heap em "java/util/Optional" := Exa.start e_em (Cond.before_iff.mp (hsets _ (List.mem_of_getElem? (i := 11) rfl)))
  have Fd_em : Fld s s.heap em "java/util/Optional" "value" "Ljava/lang/Object;" .null := Fld.start ((fld_at e_em).symm.trans (Cond.eq_refs (hsets _ (List.mem_of_getElem? (i := 12) rfl)) rfl rfl))
  have Ab_tV : Arv s s.heap tV cl_tV.cls .byte (own_lg ([(118 : Int32), (97 : Int32), (108 : Int32), (117 : Int32), (101 : Int32)] : List Int32)) (([(118 : Int32), (97 : Int32), (108 : Int32), (117 : Int32), (101 : Int32)] : List Int32).map Value.int) (.int (0 : Int32)) := by
    rw [show own_lg ([(118 : Int32), (97 : Int32), (108 : Int32), (117 : Int32), (101 : Int32)] : List Int32) = (5 : Int32) from rfl]; exact Av_tV
  have Ab_tP : Arv s s.heap tP cl_tP.cls .byte (own_lg ([(112 : Int32), (111 : Int32), (108 : Int32), (105 : Int32), (99 : Int32), (121 : Int32)] : List Int32)) (([(112 : Int32), (111 : Int32), (108 : Int32), (105 : Int32), (99 : Int32), (121 : Int32)] : List Int32).map Value.int) (.int (0 : Int32)) := by
    rw [show own_lg ([(112 : Int32), (111 : Int32), (108 : Int32), (105 : Int32), (99 : Int32), (121 : Int32)] : List Int32) = (6 : Int32) from rfl]; exact Av_tP
  have hCH : CHv s consts_1 s.vm s.heap := CHv.start (own_EW hw) (fun p hp => hcalls.1 p hp) (hsets _ (List.mem_of_getElem? (i := 2) rfl)) (hw _ (List.mem_of_getElem? (i := 3) rfl)) (hw _ (List.mem_of_getElem? (i := 2) rfl))
  obtain ⟨n, o, h1, h2, h3, _, L, rfl, ⟨rfl, N⟩, -, hq⟩ := rm0 l s _ hw tables_1 i0 i1 i2 i3 i4 cs fm em va cl_va.cls aV sV tV cl_tV.cls aP sP tP cl_tP.cls s.heap s.heap.size (Nat.le_refl _) (Old.start s) Scs hcs Sfm rfm Sta_em Ex_em Fd_em Sta_va Av_va Ex_va Ex_aV Fd_sV Ex_sV Fd_tV fi54 Ab_tV Ex_aP Fd_sP Ex_sP Fd_tP fi56 Ab_tP Sta_aV Sta_aP p e ha hc hk s m _ below hf ((Spec.applies_iff_loose hf).mp happ).1 ⟨rfl, State.Warmed39.refl s, rfl, hCH⟩ trivial
  refine ⟨n, _, h1, h2, h3, hpost _ _ _ _ _ _ ⟨Cond.after_iff.mpr rfl, Cond.after_iff.mpr (eq_i res_at (Term.int_eval (1)) rfl), trivial⟩ ⟨hq.1, hq.2.1, hq.2.2.1, (hq.2.2.2.sift fun y hy => Or.inr (N y hy)).mono (by decide) (by decide)⟩⟩
theorem main_1_1 : Claimed_1_1 := comes_1 fun _ _ _ _ _ _ h hF => ⟨h.1, hF⟩
theorem main_1_2 : Claimed_1_2 := comes_1 fun _ _ _ _ _ _ h hF => ⟨h.2.1, hF⟩
end Jvm.Pilot.@@N@@
namespace Jvm.Pilot.@@N@@
open Jvm Jvm.ClassFile Sem Op Lib Jvm.Free Jvm.Stand Jvm.Pilot.@@N@@.Jvm.D
/-! MADE BY PROGRAM (witnessworld.py) out of the Statement's table words and the real class files: 24 classes; the members and pool entries that the words name. The judged class is class 1, her method 1. -/
namespace start1
open Jvm.ClassFile
def u (s : String) : CpInfo := .utf8 (stringToUtf16 s)
/-- a pool by its gaps: so many unusable entries, then the entry; so many at the end -/
def gap : Nat → List CpInfo → List CpInfo
  | 0, r => r
  | n + 1, r => .unusable :: gap n r
def poolList (es : List (Nat × CpInfo)) (last : Nat) : List CpInfo := es.foldr (fun e r => gap e.1 (e.2 :: r)) (gap last [])
def pool (es : List (Nat × CpInfo)) (last : Nat) : Array CpInfo := ⟨poolList es last⟩
def fileOf (pool : Array CpInfo) (this : Nat) (attrs : Array Attribute := #[]) (ms : Array MethodInfo := #[]) (fl : Nat := 33) (sup : Nat := 0) (ifs : Array Nat := #[]) (fds : Array FieldInfo := #[]) : ClassFile where
  minorVersion := 0
  majorVersion := 65
  constantPool := pool
  accessFlags := fl
  thisClass := this
  superClass := sup
  interfaces := ifs
  fields := fds
  methods := ms
  attributes := attrs
def plain (name : String) (sup : Option ClassId) : Class where
  name := name
  kind := .ordinary
  loader := none
  accessFlags := 33
  super := sup
  interfaces := #[]
  cf := none
  fields := #[]
  methods := #[]
  instanceTypes := #[]
  staticTypes := #[]
  resolved := #[]
  callSites := []
  init := .initialized
  statics := none
  mirror := none

def pool0 : Array CpInfo := pool [(5, u "<init>"), (0, u "()V"), (1, .class_ 10), (1, u "java/lang/Object"), (85, u "clone"), (0, u "()Ljava/lang/Object;")] 26

def k0c0 : Code := { maxStack := 0, maxLocals := 1, code := object_method_1_code, exceptionTable := #[], attributes := #[] }
def k0m0 : Method := { name := "<init>", desc := "()V", sig := { parameters := [], returnType := none }, accessFlags := 1, code := some k0c0 }
def k0m1 : Method := { name := "clone", desc := "()Ljava/lang/Object;", sig := { parameters := [], returnType := some (.object "java/lang/Object") }, accessFlags := 260, code := none }
/-- java/lang/Object -/
def k0 : Class := { plain "java/lang/Object" none with
  accessFlags := 33
  interfaces := #[]
  cf := some (fileOf pool0 8 #[] #[{ accessFlags := 1, nameIndex := 5, descriptorIndex := 6, attributes := #[] }, { accessFlags := 260, nameIndex := 96, descriptorIndex := 97, attributes := #[] }] 33 0 #[] #[])
  fields := #[]
  methods := #[k0m0, k0m1]
  instanceTypes := #[]
  staticTypes := #[]
  resolved := Array.replicate 124 none
  statics := none }

def pool1 : Array CpInfo := pool [(2, .class_ 4), (1, u "java/lang/Object"), (0, u "<init>"), (0, u "()V"), (0, .string 8), (0, u "policy"), (0, .string 10), (0, u "value"), (0, .methodref 12 13), (0, .class_ 14), (0, .nameAndType 15 16), (0, u "com/example/numeric_planner/numericplanner/planner/KindOfPinLaw"), (0, u "pick"), (0, u "(Ljava/lang/String;ZJI)C"), (0, .integer 2147483647), (0, .methodref 12 19), (0, .nameAndType 20 21), (0, u "make"), (0, u "(ICCCCCCC)Ljava/lang/String;"), (0, .methodref 23 24), (0, .class_ 25), (0, .nameAndType 26 27), (0, u "com/example/numeric_planner/numericplanner/planner/Solution$Kind"), (0, u "of"), (0, u "(Ljava/lang/String;)Ljava/util/Optional;"), (0, .methodref 29 30), (0, .class_ 31), (0, .nameAndType 32 33), (0, u "java/util/Optional"), (0, u "orElse"), (0, u "(Ljava/lang/Object;)Ljava/lang/Object;"), (0, .methodref 35 36), (0, .class_ 37), (0, .nameAndType 38 39), (0, u "java/lang/String"), (0, u "equals"), (0, u "(Ljava/lang/Object;)Z"), (0, .fieldref 23 41), (0, .nameAndType 42 43), (0, u "VALUE"), (0, u "Lcom/example/numeric_planner/numericplanner/planner/Solution$Kind;"), (0, .fieldref 23 45), (0, .nameAndType 46 43), (0, u "POLICY"), (0, .methodref 35 48), (0, .nameAndType 49 50), (0, u "length"), (0, u "()I"), (0, .methodref 35 52), (0, .nameAndType 53 54), (0, u "charAt"), (0, u "(I)C"), (0, .long 255), (1, .methodref 35 58), (0, .nameAndType 5 59), (0, u "([C)V"), (2, u "law"), (0, u "(IIIIJ)Z")] 7

def k1m0 : Method := { name := "<init>", desc := "()V", sig := { parameters := [], returnType := none }, accessFlags := 2, code := none }
def k1c1 : Code := { maxStack := 8, maxLocals := 21, code := code, exceptionTable := #[], attributes := #[] }
def k1m1 : Method := { name := "law", desc := "(IIIIJ)Z", sig := { parameters := [.int, .int, .int, .int, .long], returnType := some .boolean }, accessFlags := 9, code := some k1c1 }
def k1c2 : Code := { maxStack := 4, maxLocals := 5, code := method_3_code, exceptionTable := #[], attributes := #[] }
def k1m2 : Method := { name := "pick", desc := "(Ljava/lang/String;ZJI)C", sig := { parameters := [(.object "java/lang/String"), .boolean, .long, .int], returnType := some .char }, accessFlags := 10, code := some k1c2 }
def k1c3 : Code := { maxStack := 6, maxLocals := 8, code := method_4_code, exceptionTable := #[], attributes := #[] }
def k1m3 : Method := { name := "make", desc := "(ICCCCCCC)Ljava/lang/String;", sig := { parameters := [.int, .char, .char, .char, .char, .char, .char, .char], returnType := some (.object "java/lang/String") }, accessFlags := 10, code := some k1c3 }
/-- com/example/numeric_planner/numericplanner/planner/KindOfPinLaw -/
def k1 : Class := { plain "com/example/numeric_planner/numericplanner/planner/KindOfPinLaw" (some 0) with
  accessFlags := 49
  interfaces := #[]
  cf := some (fileOf pool1 12 #[] #[{ accessFlags := 2, nameIndex := 5, descriptorIndex := 6, attributes := #[] }, { accessFlags := 9, nameIndex := 62, descriptorIndex := 63, attributes := #[] }, { accessFlags := 10, nameIndex := 15, descriptorIndex := 16, attributes := #[] }, { accessFlags := 10, nameIndex := 20, descriptorIndex := 21, attributes := #[] }] 49 2 #[] #[])
  fields := #[]
  methods := #[k1m0, k1m1, k1m2, k1m3]
  instanceTypes := #[]
  staticTypes := #[]
  resolved := Array.replicate 71 none
  statics := none }

def pool2 : Array CpInfo := pool [(1, .class_ 2), (0, u "java/io/Serializable"), (0, .class_ 4), (0, u "java/lang/Object")] 2

/-- java/io/Serializable -/
def k2 : Class := { plain "java/io/Serializable" (some 0) with
  accessFlags := 1537
  interfaces := #[]
  cf := some (fileOf pool2 1 #[] #[] 1537 3 #[] #[])
  fields := #[]
  methods := #[]
  instanceTypes := #[]
  staticTypes := #[]
  resolved := Array.replicate 7 none
  statics := none }

def pool3 : Array CpInfo := pool [(1, .class_ 2), (0, u "java/lang/Comparable"), (0, .class_ 4), (0, u "java/lang/Object")] 7

/-- java/lang/Comparable -/
def k3 : Class := { plain "java/lang/Comparable" (some 0) with
  accessFlags := 1537
  interfaces := #[]
  cf := some (fileOf pool3 1 #[] #[] 1537 3 #[] #[])
  fields := #[]
  methods := #[]
  instanceTypes := #[]
  staticTypes := #[]
  resolved := Array.replicate 12 none
  statics := none }

def pool4 : Array CpInfo := pool [(2, .class_ 4), (1, u "java/lang/CharSequence"), (42, .class_ 48), (0, u "java/lang/CharSequence$1CodePointIterator"), (10, .class_ 60), (0, u "java/lang/CharSequence$1CharIterator"), (5, .class_ 67), (0, u "java/lang/Object")] 63

/-- java/lang/CharSequence -/
def k4 : Class := { plain "java/lang/CharSequence" (some 0) with
  accessFlags := 1537
  interfaces := #[]
  cf := some (fileOf pool4 2 #[.nestMembers #[47, 59]] #[] 1537 66 #[] #[])
  fields := #[]
  methods := #[]
  instanceTypes := #[]
  staticTypes := #[]
  resolved := Array.replicate 131 none
  statics := none }

def pool5 : Array CpInfo := pool [(1, .class_ 2), (0, u "java/lang/constant/Constable"), (0, .class_ 4), (0, u "java/lang/Object")] 6

/-- java/lang/constant/Constable -/
def k5 : Class := { plain "java/lang/constant/Constable" (some 0) with
  accessFlags := 1537
  interfaces := #[]
  cf := some (fileOf pool5 1 #[] #[] 1537 3 #[] #[])
  fields := #[]
  methods := #[]
  instanceTypes := #[]
  staticTypes := #[]
  resolved := Array.replicate 11 none
  statics := none }

def pool6 : Array CpInfo := pool [(1, .class_ 2), (0, u "java/lang/constant/ConstantDesc"), (0, .class_ 4), (0, u "java/lang/Object")] 32

/-- java/lang/constant/ConstantDesc -/
def k6 : Class := { plain "java/lang/constant/ConstantDesc" (some 0) with
  accessFlags := 1537
  interfaces := #[]
  cf := some (fileOf pool6 1 #[] #[] 1537 3 #[] #[])
  fields := #[]
  methods := #[]
  instanceTypes := #[]
  staticTypes := #[]
  resolved := Array.replicate 37 none
  statics := none }

def pool7 : Array CpInfo := pool [(1, .methodref 2 3), (0, .class_ 4), (0, .nameAndType 5 6), (0, u "java/lang/Object"), (0, u "<init>"), (0, u "()V"), (0, .string 8), (0, u ""), (0, .fieldref 10 11), (0, .class_ 12), (0, .nameAndType 13 14), (0, u "java/lang/String"), (0, u "value"), (0, u "[B"), (0, .fieldref 10 16), (0, .nameAndType 17 18), (0, u "coder"), (0, u "B"), (2, u "hash"), (0, u "I"), (2, u "hashIsZero"), (0, u "Z"), (0, .methodref 10 28), (0, .nameAndType 5 29), (0, u "([CIILjava/lang/Void;)V"), (8, .fieldref 10 39), (0, .nameAndType 40 26), (0, u "COMPACT_STRINGS"), (1, .class_ 44), (1, u "java/lang/StringUTF16"), (0, u "compress"), (1, .methodref 42 48), (0, .nameAndType 49 50), (0, u "coderFromArrayLen"), (0, u "([BI)B"), (56, .class_ 109), (1, u "java/lang/StringLatin1"), (32, u "()Z"), (34, .methodref 42 178), (0, .nameAndType 45 179), (0, u "([CII)[B"), (154, u "()I"), (0, .methodref 10 336), (0, .nameAndType 17 337), (0, u "()B"), (25, u "([BI)C"), (27, u "(II)V"), (35, u "(I)C"), (64, .methodref 10 493), (0, .nameAndType 494 142), (0, u "isLatin1"), (0, .methodref 107 496), (0, .nameAndType 497 363), (0, u "charAt"), (3, u "checkIndex"), (5, u "length"), (33, .methodref 107 542), (0, .nameAndType 543 544), (0, u "equals"), (0, u "([B[B)Z"), (28, u "(Ljava/lang/Object;)Z"), (1, .class_ 576), (0, u "java/lang/CharSequence"), (22, u "CASE_INSENSITIVE_ORDER"), (0, u "Ljava/util/Comparator;"), (409, u "([C)V"), (42, .fieldref 1054 1055), (0, .class_ 1056), (0, .nameAndType 1057 1058), (0, u "jdk/internal/util/Preconditions"), (0, u "SIOOBE_FORMATTER"), (0, u "Ljava/util/function/BiFunction;"), (0, .methodref 1054 1060), (0, .nameAndType 501 1061), (0, u "(IILjava/util/function/BiFunction;)I"), (39, u "serialPersistentFields"), (0, u "[Ljava/io/ObjectStreamField;"), (0, .class_ 1104), (0, u "java/lang/String$CaseInsensitiveComparator"), (1, .class_ 1107), (0, u "java/io/Serializable"), (0, .class_ 1109), (0, u "java/lang/Comparable"), (0, .class_ 1111), (0, u "java/lang/constant/Constable"), (0, .class_ 1113), (0, u "java/lang/constant/ConstantDesc"), (2, u "serialVersionUID"), (0, u "J"), (3, u "REPL"), (0, u "C"), (2, u "LATIN1"), (1, u "UTF16")] 323

def k7m0 : Method := { name := "<init>", desc := "()V", sig := { parameters := [], returnType := none }, accessFlags := 1, code := none }
def k7c1 : Code := { maxStack := 5, maxLocals := 2, code := jdk_42_method_3_code, exceptionTable := #[], attributes := #[] }
def k7m1 : Method := { name := "<init>", desc := "([C)V", sig := { parameters := [(.array .char)], returnType := none }, accessFlags := 1, code := some k7c1 }
def k7c2 : Code := { maxStack := 2, maxLocals := 1, code := jdk_42_method_54_code, exceptionTable := #[], attributes := #[] }
def k7m2 : Method := { name := "length", desc := "()I", sig := { parameters := [], returnType := some .int }, accessFlags := 1, code := some k7c2 }
def k7c3 : Code := { maxStack := 2, maxLocals := 2, code := jdk_42_method_56_code, exceptionTable := #[], attributes := #[] }
def k7m3 : Method := { name := "charAt", desc := "(I)C", sig := { parameters := [.int], returnType := some .char }, accessFlags := 1, code := some k7c3 }
def k7c4 : Code := { maxStack := 2, maxLocals := 3, code := jdk_42_method_66_code, exceptionTable := #[], attributes := #[] }
def k7m4 : Method := { name := "equals", desc := "(Ljava/lang/Object;)Z", sig := { parameters := [(.object "java/lang/Object")], returnType := some .boolean }, accessFlags := 1, code := some k7c4 }
def k7c5 : Code := { maxStack := 4, maxLocals := 6, code := jdk_42_method_149_code, exceptionTable := #[], attributes := #[] }
def k7m5 : Method := { name := "<init>", desc := "([CIILjava/lang/Void;)V", sig := { parameters := [(.array .char), .int, .int, (.object "java/lang/Void")], returnType := none }, accessFlags := 2, code := some k7c5 }
def k7c6 : Code := { maxStack := 1, maxLocals := 1, code := jdk_42_method_152_code, exceptionTable := #[], attributes := #[] }
def k7m6 : Method := { name := "coder", desc := "()B", sig := { parameters := [], returnType := some .byte }, accessFlags := 0, code := some k7c6 }
def k7c7 : Code := { maxStack := 1, maxLocals := 1, code := jdk_42_method_154_code, exceptionTable := #[], attributes := #[] }
def k7m7 : Method := { name := "isLatin1", desc := "()Z", sig := { parameters := [], returnType := some .boolean }, accessFlags := 0, code := some k7c7 }
def k7c8 : Code := { maxStack := 3, maxLocals := 2, code := jdk_42_method_155_code, exceptionTable := #[], attributes := #[] }
def k7m8 : Method := { name := "checkIndex", desc := "(II)V", sig := { parameters := [.int, .int], returnType := none }, accessFlags := 8, code := some k7c8 }
/-- java/lang/String -/
def k7 : Class := { plain "java/lang/String" (some 0) with
  accessFlags := 49
  interfaces := #[2, 3, 4, 5, 6]
  cf := some (fileOf pool7 10 #[.nestMembers #[1103]] #[{ accessFlags := 1, nameIndex := 5, descriptorIndex := 6, attributes := #[] }, { accessFlags := 1, nameIndex := 5, descriptorIndex := 1010, attributes := #[] }, { accessFlags := 1, nameIndex := 507, descriptorIndex := 334, attributes := #[] }, { accessFlags := 1, nameIndex := 497, descriptorIndex := 427, attributes := #[] }, { accessFlags := 1, nameIndex := 543, descriptorIndex := 573, attributes := #[] }, { accessFlags := 2, nameIndex := 5, descriptorIndex := 29, attributes := #[] }, { accessFlags := 0, nameIndex := 17, descriptorIndex := 337, attributes := #[] }, { accessFlags := 0, nameIndex := 494, descriptorIndex := 142, attributes := #[] }, { accessFlags := 8, nameIndex := 501, descriptorIndex := 391, attributes := #[] }] 49 2 #[1106, 1108, 575, 1110, 1112] #[{ accessFlags := 18, nameIndex := 13, descriptorIndex := 14, attributes := #[] }, { accessFlags := 18, nameIndex := 17, descriptorIndex := 18, attributes := #[] }, { accessFlags := 2, nameIndex := 21, descriptorIndex := 22, attributes := #[] }, { accessFlags := 2, nameIndex := 25, descriptorIndex := 26, attributes := #[] }, { accessFlags := 26, nameIndex := 1116, descriptorIndex := 1117, attributes := #[] }, { accessFlags := 24, nameIndex := 40, descriptorIndex := 26, attributes := #[] }, { accessFlags := 26, nameIndex := 1101, descriptorIndex := 1102, attributes := #[] }, { accessFlags := 26, nameIndex := 1121, descriptorIndex := 1122, attributes := #[] }, { accessFlags := 25, nameIndex := 599, descriptorIndex := 600, attributes := #[] }, { accessFlags := 24, nameIndex := 1125, descriptorIndex := 18, attributes := #[] }, { accessFlags := 24, nameIndex := 1127, descriptorIndex := 18, attributes := #[] }])
  fields := #[{ name := "value", type := (.array .byte), accessFlags := 18, slot := 0, constantValue := 0 }, { name := "coder", type := .byte, accessFlags := 18, slot := 1, constantValue := 0 }, { name := "hash", type := .int, accessFlags := 2, slot := 2, constantValue := 0 }, { name := "hashIsZero", type := .boolean, accessFlags := 2, slot := 3, constantValue := 0 }, { name := "serialVersionUID", type := .long, accessFlags := 26, slot := 0, constantValue := 0 }, { name := "COMPACT_STRINGS", type := .boolean, accessFlags := 24, slot := 1, constantValue := 0 }, { name := "serialPersistentFields", type := (.array (.object "java/io/ObjectStreamField")), accessFlags := 26, slot := 2, constantValue := 0 }, { name := "REPL", type := .char, accessFlags := 26, slot := 3, constantValue := 0 }, { name := "CASE_INSENSITIVE_ORDER", type := (.object "java/util/Comparator"), accessFlags := 25, slot := 4, constantValue := 0 }, { name := "LATIN1", type := .byte, accessFlags := 24, slot := 5, constantValue := 0 }, { name := "UTF16", type := .byte, accessFlags := 24, slot := 6, constantValue := 0 }]
  methods := #[k7m0, k7m1, k7m2, k7m3, k7m4, k7m5, k7m6, k7m7, k7m8]
  instanceTypes := #[(.array .byte), .byte, .int, .boolean]
  staticTypes := #[.long, .boolean, (.array (.object "java/io/ObjectStreamField")), .char, (.object "java/util/Comparator"), .byte, .byte]
  resolved := Array.replicate 1451 none
  statics := some 0 }

def pool8 : Array CpInfo := pool [(1, .class_ 2), (0, u "java/lang/String"), (1, .class_ 6), (1, u "java/lang/Object"), (0, u "<init>"), (0, u "()V"), (0, .methodref 1 10), (0, .nameAndType 11 12), (0, u "checkIndex"), (0, u "(II)V"), (1, .class_ 16), (1, u "java/lang/StringLatin1"), (36, u "([BI)C"), (67, u "$assertionsDisabled"), (0, u "Z"), (98, .class_ 223), (1, u "java/lang/StringLatin1$LinesSpliterator"), (28, u "charAt"), (28, u "equals"), (0, u "([B[B)Z"), (107, .class_ 391), (0, u "java/lang/StringLatin1$CharsSpliterator")] 3

def k8m0 : Method := { name := "<init>", desc := "()V", sig := { parameters := [], returnType := none }, accessFlags := 0, code := none }
def k8c1 : Code := { maxStack := 2, maxLocals := 2, code := jdk_43_method_2_code, exceptionTable := #[], attributes := #[] }
def k8m1 : Method := { name := "charAt", desc := "([BI)C", sig := { parameters := [(.array .byte), .int], returnType := some .char }, accessFlags := 9, code := some k8c1 }
def k8c2 : Code := { maxStack := 3, maxLocals := 3, code := jdk_43_method_13_code, exceptionTable := #[], attributes := #[] }
def k8m2 : Method := { name := "equals", desc := "([B[B)Z", sig := { parameters := [(.array .byte), (.array .byte)], returnType := some .boolean }, accessFlags := 9, code := some k8c2 }
/-- java/lang/StringLatin1 -/
def k8 : Class := { plain "java/lang/StringLatin1" (some 0) with
  accessFlags := 48
  interfaces := #[]
  cf := some (fileOf pool8 14 #[.nestMembers #[390, 221]] #[{ accessFlags := 0, nameIndex := 7, descriptorIndex := 8, attributes := #[] }, { accessFlags := 9, nameIndex := 252, descriptorIndex := 53, attributes := #[] }, { accessFlags := 9, nameIndex := 281, descriptorIndex := 282, attributes := #[] }] 48 4 #[] #[{ accessFlags := 4120, nameIndex := 121, descriptorIndex := 122, attributes := #[] }])
  fields := #[{ name := "$assertionsDisabled", type := .boolean, accessFlags := 4120, slot := 0, constantValue := 0 }]
  methods := #[k8m0, k8m1, k8m2]
  instanceTypes := #[]
  staticTypes := #[.boolean]
  resolved := Array.replicate 395 none
  statics := none }

def pool9 : Array CpInfo := pool [(2, .class_ 4), (1, u "java/lang/Object"), (0, u "<init>"), (0, u "()V"), (17, .class_ 26), (1, u "jdk/internal/util/Preconditions"), (6, u "checkIndex"), (21, .class_ 56), (0, u "jdk/internal/util/Preconditions$4"), (57, .class_ 115), (0, u "jdk/internal/util/Preconditions$1"), (7, u "SIOOBE_FORMATTER"), (0, u "Ljava/util/function/BiFunction;"), (0, .class_ 126), (0, u "jdk/internal/util/Preconditions$2"), (3, u "AIOOBE_FORMATTER"), (0, .class_ 132), (0, u "jdk/internal/util/Preconditions$3"), (3, u "IOOBE_FORMATTER"), (41, u "(IILjava/util/function/BiFunction;)I")] 15

def k9m0 : Method := { name := "<init>", desc := "()V", sig := { parameters := [], returnType := none }, accessFlags := 1, code := none }
def k9c1 : Code := { maxStack := 3, maxLocals := 3, code := jdk_41_method_11_code, exceptionTable := #[], attributes := #[] }
def k9m1 : Method := { name := "checkIndex", desc := "(IILjava/util/function/BiFunction;)I", sig := { parameters := [.int, .int, (.object "java/util/function/BiFunction")], returnType := some .int }, accessFlags := 9, code := some k9c1 }
/-- jdk/internal/util/Preconditions -/
def k9 : Class := { plain "jdk/internal/util/Preconditions" (some 0) with
  accessFlags := 33
  interfaces := #[]
  cf := some (fileOf pool9 24 #[.nestMembers #[55, 131, 125, 114]] #[{ accessFlags := 1, nameIndex := 5, descriptorIndex := 6, attributes := #[] }, { accessFlags := 9, nameIndex := 33, descriptorIndex := 178, attributes := #[] }] 33 2 #[] #[{ accessFlags := 25, nameIndex := 123, descriptorIndex := 124, attributes := #[] }, { accessFlags := 25, nameIndex := 130, descriptorIndex := 124, attributes := #[] }, { accessFlags := 25, nameIndex := 136, descriptorIndex := 124, attributes := #[] }])
  fields := #[{ name := "SIOOBE_FORMATTER", type := (.object "java/util/function/BiFunction"), accessFlags := 25, slot := 0, constantValue := 0 }, { name := "AIOOBE_FORMATTER", type := (.object "java/util/function/BiFunction"), accessFlags := 25, slot := 1, constantValue := 0 }, { name := "IOOBE_FORMATTER", type := (.object "java/util/function/BiFunction"), accessFlags := 25, slot := 2, constantValue := 0 }]
  methods := #[k9m0, k9m1]
  instanceTypes := #[]
  staticTypes := #[(.object "java/util/function/BiFunction"), (.object "java/util/function/BiFunction"), (.object "java/util/function/BiFunction")]
  resolved := Array.replicate 194 none
  statics := some 1 }

def pool10 : Array CpInfo := pool [(6, .class_ 8), (1, u "java/lang/Object"), (0, u "<init>"), (0, u "()V"), (1, .class_ 14), (1, u "java/lang/StringUTF16"), (31, u "$assertionsDisabled"), (0, u "Z"), (13, u "HI_BYTE_SHIFT"), (0, u "I"), (2, u "LO_BYTE_SHIFT"), (49, .methodref 12 116), (0, .nameAndType 117 118), (0, u "compress"), (0, u "([CI[BII)I"), (3, u "([CII)[B"), (138, u "coderFromArrayLen"), (0, u "([BI)B"), (106, .class_ 371), (1, u "java/lang/StringUTF16$LinesSpliterator"), (58, u "MAX_LENGTH"), (196, .class_ 628), (0, u "java/lang/StringUTF16$CodePointsSpliterator"), (0, .class_ 630), (0, u "java/lang/StringUTF16$CharsSpliterator")] 4

def k10m0 : Method := { name := "<init>", desc := "()V", sig := { parameters := [], returnType := none }, accessFlags := 0, code := none }
def k10c1 : Code := { maxStack := 2, maxLocals := 2, code := jdk_52_method_15_code, exceptionTable := #[], attributes := #[] }
def k10m1 : Method := { name := "coderFromArrayLen", desc := "([BI)B", sig := { parameters := [(.array .byte), .int], returnType := some .byte }, accessFlags := 8, code := some k10c1 }
def k10c2 : Code := { maxStack := 5, maxLocals := 6, code := jdk_52_method_16_code, exceptionTable := #[], attributes := #[] }
def k10m2 : Method := { name := "compress", desc := "([CII)[B", sig := { parameters := [(.array .char), .int, .int], returnType := some (.array .byte) }, accessFlags := 9, code := some k10c2 }
def k10c3 : Code := { maxStack := 3, maxLocals := 7, code := jdk_52_method_21_code, exceptionTable := #[], attributes := #[] }
def k10m3 : Method := { name := "compress", desc := "([CI[BII)I", sig := { parameters := [(.array .char), .int, (.array .byte), .int, .int], returnType := some .int }, accessFlags := 9, code := some k10c3 }
/-- java/lang/StringUTF16 -/
def k10 : Class := { plain "java/lang/StringUTF16" (some 0) with
  accessFlags := 48
  interfaces := #[]
  cf := some (fileOf pool10 12 #[.nestMembers #[627, 629, 369]] #[{ accessFlags := 0, nameIndex := 9, descriptorIndex := 10, attributes := #[] }, { accessFlags := 8, nameIndex := 261, descriptorIndex := 262, attributes := #[] }, { accessFlags := 9, nameIndex := 117, descriptorIndex := 122, attributes := #[] }, { accessFlags := 9, nameIndex := 117, descriptorIndex := 118, attributes := #[] }] 48 6 #[] #[{ accessFlags := 26, nameIndex := 61, descriptorIndex := 62, attributes := #[] }, { accessFlags := 26, nameIndex := 65, descriptorIndex := 62, attributes := #[] }, { accessFlags := 24, nameIndex := 430, descriptorIndex := 62, attributes := #[] }, { accessFlags := 4120, nameIndex := 46, descriptorIndex := 47, attributes := #[] }])
  fields := #[{ name := "HI_BYTE_SHIFT", type := .int, accessFlags := 26, slot := 0, constantValue := 0 }, { name := "LO_BYTE_SHIFT", type := .int, accessFlags := 26, slot := 1, constantValue := 0 }, { name := "MAX_LENGTH", type := .int, accessFlags := 24, slot := 2, constantValue := 0 }, { name := "$assertionsDisabled", type := .boolean, accessFlags := 4120, slot := 3, constantValue := 0 }]
  methods := #[k10m0, k10m1, k10m2, k10m3]
  instanceTypes := #[]
  staticTypes := #[.int, .int, .int, .boolean]
  resolved := Array.replicate 635 none
  statics := none }

def pool11 : Array CpInfo := pool [(2, .class_ 4), (1, u "java/lang/Enum"), (0, u "name"), (0, u "Ljava/lang/String;"), (2, u "ordinal"), (0, u "I"), (1, .class_ 14), (1, u "java/lang/Object"), (4, u "hash"), (86, .class_ 108), (1, u "java/lang/Enum$EnumDesc"), (2, .class_ 112), (0, u "java/lang/constant/Constable"), (0, .class_ 114), (0, u "java/lang/Comparable"), (0, .class_ 116), (0, u "java/io/Serializable")] 87

/-- java/lang/Enum -/
def k11 : Class := { plain "java/lang/Enum" (some 0) with
  accessFlags := 1057
  interfaces := #[5, 3, 2]
  cf := some (fileOf pool11 2 #[.nestMembers #[106]] #[] 1057 12 #[111, 113, 115] #[{ accessFlags := 18, nameIndex := 5, descriptorIndex := 6, attributes := #[] }, { accessFlags := 18, nameIndex := 9, descriptorIndex := 10, attributes := #[] }, { accessFlags := 2, nameIndex := 19, descriptorIndex := 10, attributes := #[] }])
  fields := #[{ name := "name", type := (.object "java/lang/String"), accessFlags := 18, slot := 0, constantValue := 0 }, { name := "ordinal", type := .int, accessFlags := 18, slot := 1, constantValue := 0 }, { name := "hash", type := .int, accessFlags := 2, slot := 2, constantValue := 0 }]
  methods := #[]
  instanceTypes := #[(.object "java/lang/String"), .int, .int]
  staticTypes := #[]
  resolved := Array.replicate 204 none
  statics := none }

def pool12 : Array CpInfo := pool [(1, .class_ 2), (0, u "com/example/numeric_planner/numericplanner/planner/Solution$Kind"), (2, u "VALUE"), (0, u "Lcom/example/numeric_planner/numericplanner/planner/Solution$Kind;"), (2, u "POLICY"), (0, .fieldref 1 11), (0, .nameAndType 12 13), (0, u "$VALUES"), (0, u "[Lcom/example/numeric_planner/numericplanner/planner/Solution$Kind;"), (0, .methodref 15 16), (0, .class_ 13), (0, .nameAndType 17 18), (0, u "clone"), (0, u "()Ljava/lang/Object;"), (1, .class_ 22), (1, u "java/lang/Enum"), (6, .fieldref 1 30), (0, .nameAndType 31 32), (0, u "keyword"), (0, u "Ljava/lang/String;"), (0, .methodref 34 35), (0, .class_ 36), (0, .nameAndType 37 38), (0, u "java/util/Optional"), (0, u "empty"), (0, u "()Ljava/util/Optional;"), (0, .methodref 1 40), (0, .nameAndType 41 42), (0, u "values"), (0, u "()[Lcom/example/numeric_planner/numericplanner/planner/Solution$Kind;"), (0, .methodref 44 45), (0, .class_ 46), (0, .nameAndType 47 48), (0, u "java/lang/String"), (0, u "equals"), (0, u "(Ljava/lang/Object;)Z"), (0, .methodref 34 50), (0, .nameAndType 51 52), (0, u "of"), (0, u "(Ljava/lang/Object;)Ljava/util/Optional;"), (19, u "(Ljava/lang/String;)Ljava/util/Optional;"), (8, .class_ 82), (0, u "com/example/numeric_planner/numericplanner/planner/Solution")] 2

def k12c0 : Code := { maxStack := 1, maxLocals := 0, code := prog_62_method_1_code, exceptionTable := #[], attributes := #[] }
def k12m0 : Method := { name := "values", desc := "()[Lcom/example/numeric_planner/numericplanner/planner/Solution$Kind;", sig := { parameters := [], returnType := some (.array (.object "com/example/numeric_planner/numericplanner/planner/Solution$Kind")) }, accessFlags := 9, code := some k12c0 }
def k12c1 : Code := { maxStack := 2, maxLocals := 6, code := prog_62_method_5_code, exceptionTable := #[], attributes := #[] }
def k12m1 : Method := { name := "of", desc := "(Ljava/lang/String;)Ljava/util/Optional;", sig := { parameters := [(.object "java/lang/String")], returnType := some (.object "java/util/Optional") }, accessFlags := 9, code := some k12c1 }
/-- com/example/numeric_planner/numericplanner/planner/Solution$Kind -/
def k12 : Class := { plain "com/example/numeric_planner/numericplanner/planner/Solution$Kind" (some 11) with
  accessFlags := 16433
  interfaces := #[]
  cf := some (fileOf pool12 1 #[.nestHost 81] #[{ accessFlags := 9, nameIndex := 41, descriptorIndex := 42, attributes := #[] }, { accessFlags := 9, nameIndex := 51, descriptorIndex := 72, attributes := #[] }] 16433 20 #[] #[{ accessFlags := 16409, nameIndex := 5, descriptorIndex := 6, attributes := #[] }, { accessFlags := 16409, nameIndex := 9, descriptorIndex := 6, attributes := #[] }, { accessFlags := 18, nameIndex := 31, descriptorIndex := 32, attributes := #[] }, { accessFlags := 4122, nameIndex := 12, descriptorIndex := 13, attributes := #[] }])
  fields := #[{ name := "VALUE", type := (.object "com/example/numeric_planner/numericplanner/planner/Solution$Kind"), accessFlags := 16409, slot := 0, constantValue := 0 }, { name := "POLICY", type := (.object "com/example/numeric_planner/numericplanner/planner/Solution$Kind"), accessFlags := 16409, slot := 1, constantValue := 0 }, { name := "keyword", type := (.object "java/lang/String"), accessFlags := 18, slot := 3, constantValue := 0 }, { name := "$VALUES", type := (.array (.object "com/example/numeric_planner/numericplanner/planner/Solution$Kind")), accessFlags := 4122, slot := 2, constantValue := 0 }]
  methods := #[k12m0, k12m1]
  instanceTypes := #[(.object "java/lang/String"), .int, .int, (.object "java/lang/String")]
  staticTypes := #[(.object "com/example/numeric_planner/numericplanner/planner/Solution$Kind"), (.object "com/example/numeric_planner/numericplanner/planner/Solution$Kind"), (.array (.object "com/example/numeric_planner/numericplanner/planner/Solution$Kind"))]
  resolved := Array.replicate 85 none
  statics := some 2 }

def pool13 : Array CpInfo := pool [(1, .fieldref 2 3), (0, .class_ 4), (0, .nameAndType 5 6), (0, u "java/util/Optional"), (0, u "EMPTY"), (0, u "Ljava/util/Optional;"), (0, .methodref 8 9), (0, .class_ 10), (0, .nameAndType 11 12), (0, u "java/lang/Object"), (0, u "<init>"), (0, u "()V"), (0, .fieldref 2 14), (0, .nameAndType 15 16), (0, u "value"), (0, u "Ljava/lang/Object;"), (0, .methodref 18 19), (0, .class_ 20), (0, .nameAndType 21 22), (0, u "java/util/Objects"), (0, u "requireNonNull"), (0, u "(Ljava/lang/Object;)Ljava/lang/Object;"), (0, .methodref 2 24), (0, .nameAndType 11 25), (0, u "(Ljava/lang/Object;)V"), (29, u "empty"), (0, u "()Ljava/util/Optional;"), (8, u "(Ljava/lang/Object;)Ljava/util/Optional;"), (16, u "of"), (82, u "orElse")] 21

def k13c0 : Code := { maxStack := 1, maxLocals := 1, code := jdk_32_method_1_code, exceptionTable := #[], attributes := #[] }
def k13m0 : Method := { name := "empty", desc := "()Ljava/util/Optional;", sig := { parameters := [], returnType := some (.object "java/util/Optional") }, accessFlags := 9, code := some k13c0 }
def k13c1 : Code := { maxStack := 2, maxLocals := 2, code := jdk_32_method_2_code, exceptionTable := #[], attributes := #[] }
def k13m1 : Method := { name := "<init>", desc := "(Ljava/lang/Object;)V", sig := { parameters := [(.object "java/lang/Object")], returnType := none }, accessFlags := 2, code := some k13c1 }
def k13c2 : Code := { maxStack := 3, maxLocals := 1, code := jdk_32_method_3_code, exceptionTable := #[], attributes := #[] }
def k13m2 : Method := { name := "of", desc := "(Ljava/lang/Object;)Ljava/util/Optional;", sig := { parameters := [(.object "java/lang/Object")], returnType := some (.object "java/util/Optional") }, accessFlags := 9, code := some k13c2 }
def k13c3 : Code := { maxStack := 1, maxLocals := 2, code := jdk_32_method_15_code, exceptionTable := #[], attributes := #[] }
def k13m3 : Method := { name := "orElse", desc := "(Ljava/lang/Object;)Ljava/lang/Object;", sig := { parameters := [(.object "java/lang/Object")], returnType := some (.object "java/lang/Object") }, accessFlags := 1, code := some k13c3 }
/-- java/util/Optional -/
def k13 : Class := { plain "java/util/Optional" (some 0) with
  accessFlags := 49
  interfaces := #[]
  cf := some (fileOf pool13 2 #[] #[{ accessFlags := 9, nameIndex := 55, descriptorIndex := 56, attributes := #[] }, { accessFlags := 2, nameIndex := 11, descriptorIndex := 25, attributes := #[] }, { accessFlags := 9, nameIndex := 82, descriptorIndex := 65, attributes := #[] }, { accessFlags := 1, nameIndex := 165, descriptorIndex := 22, attributes := #[] }] 49 8 #[] #[{ accessFlags := 26, nameIndex := 5, descriptorIndex := 6, attributes := #[] }, { accessFlags := 18, nameIndex := 15, descriptorIndex := 16, attributes := #[] }])
  fields := #[{ name := "EMPTY", type := (.object "java/util/Optional"), accessFlags := 26, slot := 0, constantValue := 0 }, { name := "value", type := (.object "java/lang/Object"), accessFlags := 18, slot := 0, constantValue := 0 }]
  methods := #[k13m0, k13m1, k13m2, k13m3]
  instanceTypes := #[(.object "java/lang/Object")]
  staticTypes := #[(.object "java/util/Optional")]
  resolved := Array.replicate 187 none
  statics := some 3 }

def pool14 : Array CpInfo := pool [(1, .class_ 2), (0, u "java/lang/Cloneable"), (0, .class_ 4), (0, u "java/lang/Object")] 2

/-- java/lang/Cloneable -/
def k14 : Class := { plain "java/lang/Cloneable" (some 0) with
  accessFlags := 1537
  interfaces := #[]
  cf := some (fileOf pool14 1 #[] #[] 1537 3 #[] #[])
  fields := #[]
  methods := #[]
  instanceTypes := #[]
  staticTypes := #[]
  resolved := Array.replicate 7 none
  statics := none }

def pool15 : Array CpInfo := pool [(2, .class_ 4), (1, u "java/lang/Object"), (0, u "<init>"), (0, u "()V"), (35, .class_ 44), (1, u "java/util/Objects"), (0, u "requireNonNull"), (0, u "(Ljava/lang/Object;)Ljava/lang/Object;")] 137

def k15m0 : Method := { name := "<init>", desc := "()V", sig := { parameters := [], returnType := none }, accessFlags := 2, code := none }
def k15c1 : Code := { maxStack := 2, maxLocals := 1, code := jdk_31_method_10_code, exceptionTable := #[], attributes := #[] }
def k15m1 : Method := { name := "requireNonNull", desc := "(Ljava/lang/Object;)Ljava/lang/Object;", sig := { parameters := [(.object "java/lang/Object")], returnType := some (.object "java/lang/Object") }, accessFlags := 9, code := some k15c1 }
/-- java/util/Objects -/
def k15 : Class := { plain "java/util/Objects" (some 0) with
  accessFlags := 49
  interfaces := #[]
  cf := some (fileOf pool15 42 #[] #[{ accessFlags := 2, nameIndex := 5, descriptorIndex := 6, attributes := #[] }, { accessFlags := 9, nameIndex := 45, descriptorIndex := 46, attributes := #[] }] 49 2 #[] #[])
  fields := #[]
  methods := #[k15m0, k15m1]
  instanceTypes := #[]
  staticTypes := #[]
  resolved := Array.replicate 184 none
  statics := none }

def pool16 : Array CpInfo := pool [(9, u "<init>"), (6, .class_ 18), (1, u "java/lang/Object"), (0, u "()V"), (1, .class_ 23), (1, u "jdk/internal/util/ArraysSupport"), (0, u "LOG2_ARRAY_LONG_INDEX_SCALE"), (0, u "I"), (2, u "U"), (0, u "Ljdk/internal/misc/Unsafe;"), (8, u "BIG_ENDIAN"), (0, u "Z"), (8, u "LOG2_BYTE_BIT_SIZE"), (4, u "LOG2_ARRAY_INT_INDEX_SCALE"), (54, u "JLA"), (0, u "Ljdk/internal/access/JavaLangAccess;"), (11, u "LOG2_ARRAY_BOOLEAN_INDEX_SCALE"), (9, u "LOG2_ARRAY_BYTE_INDEX_SCALE"), (5, u "LOG2_ARRAY_CHAR_INDEX_SCALE"), (5, u "LOG2_ARRAY_SHORT_INDEX_SCALE"), (18, u "LOG2_ARRAY_FLOAT_INDEX_SCALE"), (24, u "LOG2_ARRAY_DOUBLE_INDEX_SCALE"), (89, u "T_BOOLEAN"), (2, u "T_CHAR"), (1, u "T_FLOAT"), (1, u "T_DOUBLE"), (1, u "T_BYTE"), (1, u "T_SHORT"), (1, u "T_INT"), (1, u "T_LONG"), (1, u "SOFT_MAX_ARRAY_LENGTH")] 83

def k16m0 : Method := { name := "<init>", desc := "()V", sig := { parameters := [], returnType := none }, accessFlags := 2, code := none }
/-- jdk/internal/util/ArraysSupport -/
def k16 : Class := { plain "jdk/internal/util/ArraysSupport" (some 0) with
  accessFlags := 33
  interfaces := #[]
  cf := some (fileOf pool16 21 #[] #[{ accessFlags := 2, nameIndex := 9, descriptorIndex := 19, attributes := #[] }] 33 16 #[] #[{ accessFlags := 24, nameIndex := 28, descriptorIndex := 29, attributes := #[] }, { accessFlags := 26, nameIndex := 38, descriptorIndex := 39, attributes := #[] }, { accessFlags := 25, nameIndex := 121, descriptorIndex := 25, attributes := #[] }, { accessFlags := 25, nameIndex := 131, descriptorIndex := 25, attributes := #[] }, { accessFlags := 25, nameIndex := 137, descriptorIndex := 25, attributes := #[] }, { accessFlags := 25, nameIndex := 143, descriptorIndex := 25, attributes := #[] }, { accessFlags := 25, nameIndex := 53, descriptorIndex := 25, attributes := #[] }, { accessFlags := 25, nameIndex := 24, descriptorIndex := 25, attributes := #[] }, { accessFlags := 25, nameIndex := 162, descriptorIndex := 25, attributes := #[] }, { accessFlags := 25, nameIndex := 187, descriptorIndex := 25, attributes := #[] }, { accessFlags := 26, nameIndex := 48, descriptorIndex := 25, attributes := #[] }, { accessFlags := 25, nameIndex := 277, descriptorIndex := 25, attributes := #[] }, { accessFlags := 25, nameIndex := 280, descriptorIndex := 25, attributes := #[] }, { accessFlags := 25, nameIndex := 282, descriptorIndex := 25, attributes := #[] }, { accessFlags := 25, nameIndex := 284, descriptorIndex := 25, attributes := #[] }, { accessFlags := 25, nameIndex := 286, descriptorIndex := 25, attributes := #[] }, { accessFlags := 25, nameIndex := 288, descriptorIndex := 25, attributes := #[] }, { accessFlags := 25, nameIndex := 290, descriptorIndex := 25, attributes := #[] }, { accessFlags := 25, nameIndex := 292, descriptorIndex := 25, attributes := #[] }, { accessFlags := 26, nameIndex := 108, descriptorIndex := 109, attributes := #[] }, { accessFlags := 25, nameIndex := 294, descriptorIndex := 25, attributes := #[] }])
  fields := #[{ name := "U", type := (.object "jdk/internal/misc/Unsafe"), accessFlags := 24, slot := 0, constantValue := 0 }, { name := "BIG_ENDIAN", type := .boolean, accessFlags := 26, slot := 1, constantValue := 0 }, { name := "LOG2_ARRAY_BOOLEAN_INDEX_SCALE", type := .int, accessFlags := 25, slot := 2, constantValue := 0 }, { name := "LOG2_ARRAY_BYTE_INDEX_SCALE", type := .int, accessFlags := 25, slot := 3, constantValue := 0 }, { name := "LOG2_ARRAY_CHAR_INDEX_SCALE", type := .int, accessFlags := 25, slot := 4, constantValue := 0 }, { name := "LOG2_ARRAY_SHORT_INDEX_SCALE", type := .int, accessFlags := 25, slot := 5, constantValue := 0 }, { name := "LOG2_ARRAY_INT_INDEX_SCALE", type := .int, accessFlags := 25, slot := 6, constantValue := 0 }, { name := "LOG2_ARRAY_LONG_INDEX_SCALE", type := .int, accessFlags := 25, slot := 7, constantValue := 0 }, { name := "LOG2_ARRAY_FLOAT_INDEX_SCALE", type := .int, accessFlags := 25, slot := 8, constantValue := 0 }, { name := "LOG2_ARRAY_DOUBLE_INDEX_SCALE", type := .int, accessFlags := 25, slot := 9, constantValue := 0 }, { name := "LOG2_BYTE_BIT_SIZE", type := .int, accessFlags := 26, slot := 10, constantValue := 0 }, { name := "T_BOOLEAN", type := .int, accessFlags := 25, slot := 11, constantValue := 0 }, { name := "T_CHAR", type := .int, accessFlags := 25, slot := 12, constantValue := 0 }, { name := "T_FLOAT", type := .int, accessFlags := 25, slot := 13, constantValue := 0 }, { name := "T_DOUBLE", type := .int, accessFlags := 25, slot := 14, constantValue := 0 }, { name := "T_BYTE", type := .int, accessFlags := 25, slot := 15, constantValue := 0 }, { name := "T_SHORT", type := .int, accessFlags := 25, slot := 16, constantValue := 0 }, { name := "T_INT", type := .int, accessFlags := 25, slot := 17, constantValue := 0 }, { name := "T_LONG", type := .int, accessFlags := 25, slot := 18, constantValue := 0 }, { name := "JLA", type := (.object "jdk/internal/access/JavaLangAccess"), accessFlags := 26, slot := 19, constantValue := 0 }, { name := "SOFT_MAX_ARRAY_LENGTH", type := .int, accessFlags := 25, slot := 20, constantValue := 0 }]
  methods := #[k16m0]
  instanceTypes := #[]
  staticTypes := #[(.object "jdk/internal/misc/Unsafe"), .boolean, .int, .int, .int, .int, .int, .int, .int, .int, .int, .int, .int, .int, .int, .int, .int, .int, .int, (.object "jdk/internal/access/JavaLangAccess"), .int]
  resolved := Array.replicate 378 none
  statics := none }

/-- the primitive byte -/
def k17 : Class := { plain "byte" none with kind := .primitive 'B', accessFlags := 0x411 }
/-- [B -/
def k18 : Class := { plain "[B" (some 0) with kind := .array 17 .byte, interfaces := #[14, 2], accessFlags := 1041 }

/-- the primitive char -/
def k19 : Class := { plain "char" none with kind := .primitive 'C', accessFlags := 0x411 }
/-- [C -/
def k20 : Class := { plain "[C" (some 0) with kind := .array 19 .char, interfaces := #[14, 2], accessFlags := 1041 }

/-- the primitive int -/
def k21 : Class := { plain "int" none with kind := .primitive 'I', accessFlags := 0x411 }
/-- [I -/
def k22 : Class := { plain "[I" (some 0) with kind := .array 21 .int, interfaces := #[14, 2], accessFlags := 1041 }

/-- [Lcom/example/numeric_planner/numericplanner/planner/Solution$Kind; -/
def k23 : Class := { plain "[Lcom/example/numeric_planner/numericplanner/planner/Solution$Kind;" (some 0) with kind := .array 12 (.object "com/example/numeric_planner/numericplanner/planner/Solution$Kind"), interfaces := #[14, 2], accessFlags := 1041 }

def heap : Heap := #[{ cls := 7, slots := #[.long 0, .int 1, .null, .int 0, .null, .int 0, .int 0], vm := .statics 7 },
  { cls := 9, slots := #[.null, .null, .null], vm := .statics 9 },
  { cls := 12, slots := #[.ref 5, .ref 6, .ref 4], vm := .statics 12 },
  { cls := 13, slots := #[.ref 11], vm := .statics 13 },
  { cls := 23, slots := #[.ref 5, .ref 6], vm := .none },
  { cls := 12, slots := #[.null, .int 0, .int 0, .ref 7], vm := .none },
  { cls := 12, slots := #[.null, .int 1, .int 0, .ref 8], vm := .none },
  { cls := 7, slots := #[.ref 9, .int 0, .int 0, .int 0], vm := .none },
  { cls := 7, slots := #[.ref 10, .int 0, .int 0, .int 0], vm := .none },
  { cls := 18, slots := #[.int 118, .int 97, .int 108, .int 117, .int 101], vm := .none },
  { cls := 18, slots := #[.int 112, .int 111, .int 108, .int 105, .int 99, .int 121], vm := .none },
  { cls := 13, slots := #[.null], vm := .none }]
def classes : Array Class := #[k0, k1, k2, k3, k4, k5, k6, k7, k8, k9, k10, k11, k12, k13, k14, k15, k16, k17, k18, k19, k20, k21, k22, k23]
def interned : List (Array UInt16 × Addr) := []
def slotsUsed : Nat := 44
def theMethod : MethodId := ⟨1, 1⟩
def args0 : Array Value := #[.int 5, .int 5, .int 5, .int 5, .long 5]
def aboutOver (below : List Frame) : State where
  vm := { classes := classes, interned := interned.toArray }
  heap := heap
  slotsUsed := slotsUsed
  threads := #[{ frames := .invoking theMethod args0 :: below }]
def below0 : List Frame := [.native { method := ⟨0, 0⟩, args := #[] }]
def about1 : State := aboutOver below0
def p0 : Program := .bare "" "" ""
def e0 : Env := launch0.env 0 0 0
theorem w_frames : about1.frames = Frame.invoking theMethod args0 :: below0 := rfl
set_option maxRecDepth 65536 in
theorem w_args : argsFit about1.vm theMethod args0 = true := by decide +kernel
set_option maxRecDepth 65536 in
theorem w_heap : heapFits about1 = true := by decide +kernel
set_option maxRecDepth 65536 in
theorem w_runnable : about1.curStatus? = some .runnable := by decide +kernel
set_option maxRecDepth 65536 in
theorem w_alone : about1.alone = true := by decide +kernel
set_option maxRecDepth 65536 in
theorem w_named : about1.methodNamed? x = some theMethod := by decide +kernel
set_option maxRecDepth 65536 in
theorem w_hears : about1.hears theMethod below0 = true := by decide +kernel
set_option maxRecDepth 65536 in
theorem w_ripe : about1.ripe theMethod args0 below0 = true := by decide +kernel
theorem w_running : about1.status = .running := rfl
set_option maxRecDepth 65536 in
theorem w_room : about1.hasRoom e0.platform room_1 = true :=
  launch0.hasRoom_least _ room_1 (by decide +kernel) (by decide +kernel) (by decide +kernel) (by decide +kernel) (by decide +kernel) (by decide +kernel)
theorem allAtoms_all (ts : List Jvm.Cond) (a : Array Jvm.Value) (st : Jvm.State) : (allAtoms ts).before a st = ts.all (fun c => c.before a st) := by
  induction ts with
  | nil => rfl
  | cons c t ih =>
    show (Jvm.Cond.and c (allAtoms t)).before a st = _
    rw [Jvm.Cond.before_and, ih, List.all_cons]
def words1 : List Jvm.Cond := Jvm.Cond.code x code maxLocals ret :: tables_1
/-- a 'code' word, met by the world's own term for the bytes: nothing is compared byte by byte -/
theorem code_word {y : MethodName} {bytes : ByteArray} {mx : Nat} {rt : Option FieldType} {a : Array Value} {s : State} {m : MethodId} {meth : Method} {c : Code} (h1 : s.methodNamed? y = some m) (h2 : s.vm.method? m = some meth) (h3 : meth.code = some c) (h4 : c.code = bytes)
    (h5 : (c.maxLocals == mx && c.exceptionTable.isEmpty && decide (c.maxStack ≤ mostOperands) && decide (meth.sig.returnType = rt) && !meth.locks && decide (parseMethodDescriptor y.desc = some meth.sig)) = true) : (Jvm.Cond.code y bytes mx rt).before a s = true := by
  simp only [Bool.and_eq_true, beq_iff_eq, Bool.not_eq_true', decide_eq_true_eq] at h5
  obtain ⟨⟨⟨⟨⟨g1, g2⟩, g3⟩, g4⟩, g5⟩, g6⟩ := h5
  simp [Cond.before, Cond.holds, Cond.value, h1, h2, h3, h4, g1, g2, g3, g4, g5, g6]
def isCode : Jvm.Cond → Bool
  | .code _ _ _ _ => true
  | _ => false
theorem all_split {L : List Jvm.Cond} {P : Jvm.Cond → Bool} (h1 : L.all (fun c => isCode c || P c) = true) (h2 : ∀ c ∈ L.filter isCode, P c = true) : L.all P = true := by
  refine List.all_eq_true.mpr fun c hc => ?_
  have h := List.all_eq_true.mp h1 c hc
  rcases Bool.eq_false_or_eq_true (isCode c) with hi | hi
  · exact h2 c (List.mem_filter.mpr ⟨hc, hi⟩)
  · simpa [hi] using h
set_option maxRecDepth 65536 in
theorem w_c0 : (Jvm.Cond.code x code maxLocals ret).before args0 about1 = true := code_word (m := ⟨1, 1⟩) (meth := k1m1) (c := k1c1) (by decide +kernel) rfl rfl rfl (by decide +kernel)
set_option maxRecDepth 65536 in
theorem w_c1 : (Jvm.Cond.code ({ cls := "com/example/numeric_planner/numericplanner/planner/KindOfPinLaw", name := "pick", desc := "(Ljava/lang/String;ZJI)C" } : Jvm.MethodName) method_3_code (5 : Nat) (Option.some Jvm.ClassFile.FieldType.char)).before args0 about1 = true := code_word (m := ⟨1, 2⟩) (meth := k1m2) (c := k1c2) (by decide +kernel) rfl rfl rfl (by decide +kernel)
set_option maxRecDepth 65536 in
theorem w_c2 : (Jvm.Cond.code ({ cls := "java/lang/String", name := "length", desc := "()I" } : Jvm.MethodName) jdk_42_method_54_code (1 : Nat) (Option.some Jvm.ClassFile.FieldType.int)).before args0 about1 = true := code_word (m := ⟨7, 2⟩) (meth := k7m2) (c := k7c2) (by decide +kernel) rfl rfl rfl (by decide +kernel)
set_option maxRecDepth 65536 in
theorem w_c3 : (Jvm.Cond.code ({ cls := "java/lang/String", name := "coder", desc := "()B" } : Jvm.MethodName) jdk_42_method_152_code (1 : Nat) (Option.some Jvm.ClassFile.FieldType.byte)).before args0 about1 = true := code_word (m := ⟨7, 6⟩) (meth := k7m6) (c := k7c6) (by decide +kernel) rfl rfl rfl (by decide +kernel)
set_option maxRecDepth 65536 in
theorem w_c4 : (Jvm.Cond.code ({ cls := "java/lang/String", name := "charAt", desc := "(I)C" } : Jvm.MethodName) jdk_42_method_56_code (2 : Nat) (Option.some Jvm.ClassFile.FieldType.char)).before args0 about1 = true := code_word (m := ⟨7, 3⟩) (meth := k7m3) (c := k7c3) (by decide +kernel) rfl rfl rfl (by decide +kernel)
set_option maxRecDepth 65536 in
theorem w_c5 : (Jvm.Cond.code ({ cls := "java/lang/String", name := "isLatin1", desc := "()Z" } : Jvm.MethodName) jdk_42_method_154_code (1 : Nat) (Option.some Jvm.ClassFile.FieldType.boolean)).before args0 about1 = true := code_word (m := ⟨7, 7⟩) (meth := k7m7) (c := k7c7) (by decide +kernel) rfl rfl rfl (by decide +kernel)
set_option maxRecDepth 65536 in
theorem w_c6 : (Jvm.Cond.code ({ cls := "java/lang/StringLatin1", name := "charAt", desc := "([BI)C" } : Jvm.MethodName) jdk_43_method_2_code (2 : Nat) (Option.some Jvm.ClassFile.FieldType.char)).before args0 about1 = true := code_word (m := ⟨8, 1⟩) (meth := k8m1) (c := k8c1) (by decide +kernel) rfl rfl rfl (by decide +kernel)
set_option maxRecDepth 65536 in
theorem w_c7 : (Jvm.Cond.code ({ cls := "java/lang/String", name := "checkIndex", desc := "(II)V" } : Jvm.MethodName) jdk_42_method_155_code (2 : Nat) (Option.none : Option Jvm.ClassFile.FieldType)).before args0 about1 = true := code_word (m := ⟨7, 8⟩) (meth := k7m8) (c := k7c8) (by decide +kernel) rfl rfl rfl (by decide +kernel)
set_option maxRecDepth 65536 in
theorem w_c8 : (Jvm.Cond.code ({ cls := "jdk/internal/util/Preconditions", name := "checkIndex", desc := "(IILjava/util/function/BiFunction;)I" } : Jvm.MethodName) jdk_41_method_11_code (3 : Nat) (Option.some Jvm.ClassFile.FieldType.int)).before args0 about1 = true := code_word (m := ⟨9, 1⟩) (meth := k9m1) (c := k9c1) (by decide +kernel) rfl rfl rfl (by decide +kernel)
set_option maxRecDepth 65536 in
theorem w_c9 : (Jvm.Cond.code ({ cls := "com/example/numeric_planner/numericplanner/planner/KindOfPinLaw", name := "make", desc := "(ICCCCCCC)Ljava/lang/String;" } : Jvm.MethodName) method_4_code (8 : Nat) (Option.some (Jvm.ClassFile.FieldType.object "java/lang/String"))).before args0 about1 = true := code_word (m := ⟨1, 3⟩) (meth := k1m3) (c := k1c3) (by decide +kernel) rfl rfl rfl (by decide +kernel)
set_option maxRecDepth 65536 in
theorem w_c10 : (Jvm.Cond.code ({ cls := "java/lang/String", name := "<init>", desc := "([C)V" } : Jvm.MethodName) jdk_42_method_3_code (2 : Nat) (Option.none : Option Jvm.ClassFile.FieldType)).before args0 about1 = true := code_word (m := ⟨7, 1⟩) (meth := k7m1) (c := k7c1) (by decide +kernel) rfl rfl rfl (by decide +kernel)
set_option maxRecDepth 65536 in
theorem w_c11 : (Jvm.Cond.code ({ cls := "java/lang/String", name := "<init>", desc := "([CIILjava/lang/Void;)V" } : Jvm.MethodName) jdk_42_method_149_code (6 : Nat) (Option.none : Option Jvm.ClassFile.FieldType)).before args0 about1 = true := code_word (m := ⟨7, 5⟩) (meth := k7m5) (c := k7c5) (by decide +kernel) rfl rfl rfl (by decide +kernel)
set_option maxRecDepth 65536 in
theorem w_c12 : (Jvm.Cond.code ({ cls := "java/lang/Object", name := "<init>", desc := "()V" } : Jvm.MethodName) object_method_1_code (1 : Nat) (Option.none : Option Jvm.ClassFile.FieldType)).before args0 about1 = true := code_word (m := ⟨0, 0⟩) (meth := k0m0) (c := k0c0) (by decide +kernel) rfl rfl rfl (by decide +kernel)
set_option maxRecDepth 65536 in
theorem w_c13 : (Jvm.Cond.code ({ cls := "java/lang/StringUTF16", name := "compress", desc := "([CII)[B" } : Jvm.MethodName) jdk_52_method_16_code (6 : Nat) (Option.some (Jvm.ClassFile.FieldType.array Jvm.ClassFile.FieldType.byte))).before args0 about1 = true := code_word (m := ⟨10, 2⟩) (meth := k10m2) (c := k10c2) (by decide +kernel) rfl rfl rfl (by decide +kernel)
set_option maxRecDepth 65536 in
theorem w_c14 : (Jvm.Cond.code ({ cls := "java/lang/StringUTF16", name := "compress", desc := "([CI[BII)I" } : Jvm.MethodName) jdk_52_method_21_code (7 : Nat) (Option.some Jvm.ClassFile.FieldType.int)).before args0 about1 = true := code_word (m := ⟨10, 3⟩) (meth := k10m3) (c := k10c3) (by decide +kernel) rfl rfl rfl (by decide +kernel)
set_option maxRecDepth 65536 in
theorem w_c15 : (Jvm.Cond.code ({ cls := "java/lang/StringUTF16", name := "coderFromArrayLen", desc := "([BI)B" } : Jvm.MethodName) jdk_52_method_15_code (2 : Nat) (Option.some Jvm.ClassFile.FieldType.byte)).before args0 about1 = true := code_word (m := ⟨10, 1⟩) (meth := k10m1) (c := k10c1) (by decide +kernel) rfl rfl rfl (by decide +kernel)
set_option maxRecDepth 65536 in
theorem w_c16 : (Jvm.Cond.code ({ cls := "com/example/numeric_planner/numericplanner/planner/Solution$Kind", name := "of", desc := "(Ljava/lang/String;)Ljava/util/Optional;" } : Jvm.MethodName) prog_62_method_5_code (6 : Nat) (Option.some (Jvm.ClassFile.FieldType.object "java/util/Optional"))).before args0 about1 = true := code_word (m := ⟨12, 1⟩) (meth := k12m1) (c := k12c1) (by decide +kernel) rfl rfl rfl (by decide +kernel)
set_option maxRecDepth 65536 in
theorem w_c17 : (Jvm.Cond.code ({ cls := "java/util/Optional", name := "empty", desc := "()Ljava/util/Optional;" } : Jvm.MethodName) jdk_32_method_1_code (1 : Nat) (Option.some (Jvm.ClassFile.FieldType.object "java/util/Optional"))).before args0 about1 = true := code_word (m := ⟨13, 0⟩) (meth := k13m0) (c := k13c0) (by decide +kernel) rfl rfl rfl (by decide +kernel)
set_option maxRecDepth 65536 in
theorem w_c18 : (Jvm.Cond.code ({ cls := "com/example/numeric_planner/numericplanner/planner/Solution$Kind", name := "values", desc := "()[Lcom/example/numeric_planner/numericplanner/planner/Solution$Kind;" } : Jvm.MethodName) prog_62_method_1_code (0 : Nat) (Option.some (Jvm.ClassFile.FieldType.array (Jvm.ClassFile.FieldType.object "com/example/numeric_planner/numericplanner/planner/Solution$Kind")))).before args0 about1 = true := code_word (m := ⟨12, 0⟩) (meth := k12m0) (c := k12c0) (by decide +kernel) rfl rfl rfl (by decide +kernel)
set_option maxRecDepth 65536 in
theorem w_c19 : (Jvm.Cond.code ({ cls := "java/lang/String", name := "equals", desc := "(Ljava/lang/Object;)Z" } : Jvm.MethodName) jdk_42_method_66_code (3 : Nat) (Option.some Jvm.ClassFile.FieldType.boolean)).before args0 about1 = true := code_word (m := ⟨7, 4⟩) (meth := k7m4) (c := k7c4) (by decide +kernel) rfl rfl rfl (by decide +kernel)
set_option maxRecDepth 65536 in
theorem w_c20 : (Jvm.Cond.code ({ cls := "java/lang/StringLatin1", name := "equals", desc := "([B[B)Z" } : Jvm.MethodName) jdk_43_method_13_code (3 : Nat) (Option.some Jvm.ClassFile.FieldType.boolean)).before args0 about1 = true := code_word (m := ⟨8, 2⟩) (meth := k8m2) (c := k8c2) (by decide +kernel) rfl rfl rfl (by decide +kernel)
set_option maxRecDepth 65536 in
theorem w_c21 : (Jvm.Cond.code ({ cls := "java/util/Optional", name := "orElse", desc := "(Ljava/lang/Object;)Ljava/lang/Object;" } : Jvm.MethodName) jdk_32_method_15_code (2 : Nat) (Option.some (Jvm.ClassFile.FieldType.object "java/lang/Object"))).before args0 about1 = true := code_word (m := ⟨13, 3⟩) (meth := k13m3) (c := k13c3) (by decide +kernel) rfl rfl rfl (by decide +kernel)
set_option maxRecDepth 65536 in
theorem w_c22 : (Jvm.Cond.code ({ cls := "java/util/Optional", name := "of", desc := "(Ljava/lang/Object;)Ljava/util/Optional;" } : Jvm.MethodName) jdk_32_method_3_code (1 : Nat) (Option.some (Jvm.ClassFile.FieldType.object "java/util/Optional"))).before args0 about1 = true := code_word (m := ⟨13, 2⟩) (meth := k13m2) (c := k13c2) (by decide +kernel) rfl rfl rfl (by decide +kernel)
set_option maxRecDepth 65536 in
theorem w_c23 : (Jvm.Cond.code ({ cls := "java/util/Objects", name := "requireNonNull", desc := "(Ljava/lang/Object;)Ljava/lang/Object;" } : Jvm.MethodName) jdk_31_method_10_code (1 : Nat) (Option.some (Jvm.ClassFile.FieldType.object "java/lang/Object"))).before args0 about1 = true := code_word (m := ⟨15, 1⟩) (meth := k15m1) (c := k15c1) (by decide +kernel) rfl rfl rfl (by decide +kernel)
set_option maxRecDepth 65536 in
theorem w_c24 : (Jvm.Cond.code ({ cls := "java/util/Optional", name := "<init>", desc := "(Ljava/lang/Object;)V" } : Jvm.MethodName) jdk_32_method_2_code (2 : Nat) (Option.none : Option Jvm.ClassFile.FieldType)).before args0 about1 = true := code_word (m := ⟨13, 1⟩) (meth := k13m1) (c := k13c1) (by decide +kernel) rfl rfl rfl (by decide +kernel)
def codes1 : List Jvm.Cond := [Jvm.Cond.code x code maxLocals ret, Jvm.Cond.code ({ cls := "com/example/numeric_planner/numericplanner/planner/KindOfPinLaw", name := "pick", desc := "(Ljava/lang/String;ZJI)C" } : Jvm.MethodName) method_3_code (5 : Nat) (Option.some Jvm.ClassFile.FieldType.char), Jvm.Cond.code ({ cls := "java/lang/String", name := "length", desc := "()I" } : Jvm.MethodName) jdk_42_method_54_code (1 : Nat) (Option.some Jvm.ClassFile.FieldType.int), Jvm.Cond.code ({ cls := "java/lang/String", name := "coder", desc := "()B" } : Jvm.MethodName) jdk_42_method_152_code (1 : Nat) (Option.some Jvm.ClassFile.FieldType.byte), Jvm.Cond.code ({ cls := "java/lang/String", name := "charAt", desc := "(I)C" } : Jvm.MethodName) jdk_42_method_56_code (2 : Nat) (Option.some Jvm.ClassFile.FieldType.char), Jvm.Cond.code ({ cls := "java/lang/String", name := "isLatin1", desc := "()Z" } : Jvm.MethodName) jdk_42_method_154_code (1 : Nat) (Option.some Jvm.ClassFile.FieldType.boolean), Jvm.Cond.code ({ cls := "java/lang/StringLatin1", name := "charAt", desc := "([BI)C" } : Jvm.MethodName) jdk_43_method_2_code (2 : Nat) (Option.some Jvm.ClassFile.FieldType.char), Jvm.Cond.code ({ cls := "java/lang/String", name := "checkIndex", desc := "(II)V" } : Jvm.MethodName) jdk_42_method_155_code (2 : Nat) (Option.none : Option Jvm.ClassFile.FieldType), Jvm.Cond.code ({ cls := "jdk/internal/util/Preconditions", name := "checkIndex", desc := "(IILjava/util/function/BiFunction;)I" } : Jvm.MethodName) jdk_41_method_11_code (3 : Nat) (Option.some Jvm.ClassFile.FieldType.int), Jvm.Cond.code ({ cls := "com/example/numeric_planner/numericplanner/planner/KindOfPinLaw", name := "make", desc := "(ICCCCCCC)Ljava/lang/String;" } : Jvm.MethodName) method_4_code (8 : Nat) (Option.some (Jvm.ClassFile.FieldType.object "java/lang/String")), Jvm.Cond.code ({ cls := "java/lang/String", name := "<init>", desc := "([C)V" } : Jvm.MethodName) jdk_42_method_3_code (2 : Nat) (Option.none : Option Jvm.ClassFile.FieldType), Jvm.Cond.code ({ cls := "java/lang/String", name := "<init>", desc := "([CIILjava/lang/Void;)V" } : Jvm.MethodName) jdk_42_method_149_code (6 : Nat) (Option.none : Option Jvm.ClassFile.FieldType), Jvm.Cond.code ({ cls := "java/lang/Object", name := "<init>", desc := "()V" } : Jvm.MethodName) object_method_1_code (1 : Nat) (Option.none : Option Jvm.ClassFile.FieldType), Jvm.Cond.code ({ cls := "java/lang/StringUTF16", name := "compress", desc := "([CII)[B" } : Jvm.MethodName) jdk_52_method_16_code (6 : Nat) (Option.some (Jvm.ClassFile.FieldType.array Jvm.ClassFile.FieldType.byte)), Jvm.Cond.code ({ cls := "java/lang/StringUTF16", name := "compress", desc := "([CI[BII)I" } : Jvm.MethodName) jdk_52_method_21_code (7 : Nat) (Option.some Jvm.ClassFile.FieldType.int), Jvm.Cond.code ({ cls := "java/lang/StringUTF16", name := "coderFromArrayLen", desc := "([BI)B" } : Jvm.MethodName) jdk_52_method_15_code (2 : Nat) (Option.some Jvm.ClassFile.FieldType.byte), Jvm.Cond.code ({ cls := "com/example/numeric_planner/numericplanner/planner/Solution$Kind", name := "of", desc := "(Ljava/lang/String;)Ljava/util/Optional;" } : Jvm.MethodName) prog_62_method_5_code (6 : Nat) (Option.some (Jvm.ClassFile.FieldType.object "java/util/Optional")), Jvm.Cond.code ({ cls := "java/util/Optional", name := "empty", desc := "()Ljava/util/Optional;" } : Jvm.MethodName) jdk_32_method_1_code (1 : Nat) (Option.some (Jvm.ClassFile.FieldType.object "java/util/Optional")), Jvm.Cond.code ({ cls := "com/example/numeric_planner/numericplanner/planner/Solution$Kind", name := "values", desc := "()[Lcom/example/numeric_planner/numericplanner/planner/Solution$Kind;" } : Jvm.MethodName) prog_62_method_1_code (0 : Nat) (Option.some (Jvm.ClassFile.FieldType.array (Jvm.ClassFile.FieldType.object "com/example/numeric_planner/numericplanner/planner/Solution$Kind"))), Jvm.Cond.code ({ cls := "java/lang/String", name := "equals", desc := "(Ljava/lang/Object;)Z" } : Jvm.MethodName) jdk_42_method_66_code (3 : Nat) (Option.some Jvm.ClassFile.FieldType.boolean), Jvm.Cond.code ({ cls := "java/lang/StringLatin1", name := "equals", desc := "([B[B)Z" } : Jvm.MethodName) jdk_43_method_13_code (3 : Nat) (Option.some Jvm.ClassFile.FieldType.boolean), Jvm.Cond.code ({ cls := "java/util/Optional", name := "orElse", desc := "(Ljava/lang/Object;)Ljava/lang/Object;" } : Jvm.MethodName) jdk_32_method_15_code (2 : Nat) (Option.some (Jvm.ClassFile.FieldType.object "java/lang/Object")), Jvm.Cond.code ({ cls := "java/util/Optional", name := "of", desc := "(Ljava/lang/Object;)Ljava/util/Optional;" } : Jvm.MethodName) jdk_32_method_3_code (1 : Nat) (Option.some (Jvm.ClassFile.FieldType.object "java/util/Optional")), Jvm.Cond.code ({ cls := "java/util/Objects", name := "requireNonNull", desc := "(Ljava/lang/Object;)Ljava/lang/Object;" } : Jvm.MethodName) jdk_31_method_10_code (1 : Nat) (Option.some (Jvm.ClassFile.FieldType.object "java/lang/Object")), Jvm.Cond.code ({ cls := "java/util/Optional", name := "<init>", desc := "(Ljava/lang/Object;)V" } : Jvm.MethodName) jdk_32_method_2_code (2 : Nat) (Option.none : Option Jvm.ClassFile.FieldType)]
set_option maxRecDepth 65536 in
theorem codes_eq : words1.filter isCode = codes1 := rfl
theorem w_codes : ∀ c ∈ words1.filter isCode, c.before args0 about1 = true := by
  rw [codes_eq]
  intro c hc
  simp only [codes1, List.mem_cons, List.not_mem_nil, or_false] at hc
  rcases hc with rfl | rfl | rfl | rfl | rfl | rfl | rfl | rfl | rfl | rfl | rfl | rfl | rfl | rfl | rfl | rfl | rfl | rfl | rfl | rfl | rfl | rfl | rfl | rfl | rfl
  · exact w_c0
  · exact w_c1
  · exact w_c2
  · exact w_c3
  · exact w_c4
  · exact w_c5
  · exact w_c6
  · exact w_c7
  · exact w_c8
  · exact w_c9
  · exact w_c10
  · exact w_c11
  · exact w_c12
  · exact w_c13
  · exact w_c14
  · exact w_c15
  · exact w_c16
  · exact w_c17
  · exact w_c18
  · exact w_c19
  · exact w_c20
  · exact w_c21
  · exact w_c22
  · exact w_c23
  · exact w_c24
set_option maxRecDepth 65536 in
theorem w_t1 : (words1.take 24).all (fun c => isCode c || c.before args0 about1) = true := by decide +kernel
set_option maxRecDepth 65536 in
theorem w_t2 : ((words1.drop 24).take 24).all (fun c => isCode c || c.before args0 about1) = true := by decide +kernel
set_option maxRecDepth 65536 in
theorem w_t3 : (((words1.drop 24).drop 24).take 24).all (fun c => isCode c || c.before args0 about1) = true := by decide +kernel
set_option maxRecDepth 65536 in
theorem w_t4 : ((((words1.drop 24).drop 24).drop 24).take 24).all (fun c => isCode c || c.before args0 about1) = true := by decide +kernel
set_option maxRecDepth 65536 in
theorem w_t5 : (((((words1.drop 24).drop 24).drop 24).drop 24).take 24).all (fun c => isCode c || c.before args0 about1) = true := by decide +kernel
set_option maxRecDepth 65536 in
theorem w_t6 : (((((words1.drop 24).drop 24).drop 24).drop 24).drop 24).all (fun c => isCode c || c.before args0 about1) = true := by decide +kernel
theorem w_tables : (allAtoms (Jvm.Cond.code x code maxLocals ret :: tables_1)).before args0 about1 = true := by
  rw [allAtoms_all]
  show words1.all (fun c => c.before args0 about1) = true
  refine all_split ?_ w_codes
  rw [← List.take_append_drop 24 words1, List.all_append, w_t1, ← List.take_append_drop 24 (words1.drop 24), List.all_append, w_t2, ← List.take_append_drop 24 ((words1.drop 24).drop 24), List.all_append, w_t3, ← List.take_append_drop 24 (((words1.drop 24).drop 24).drop 24), List.all_append, w_t4, ← List.take_append_drop 24 ((((words1.drop 24).drop 24).drop 24).drop 24), List.all_append, w_t5, w_t6]
  rfl
set_option maxRecDepth 65536 in
theorem w_rest : rest_1_c.before args0 about1 = true := by decide +kernel
set_option maxRecDepth 65536 in
theorem w_case : (Jvm.Cond.and given_1 narrow_1).before args0 about1 = true := by decide +kernel
set_option maxRecDepth 65536 in
theorem w_consts : constsHeld consts_1 about1 := Jvm.Lit.constsHeldB_iff.mp (by decide +kernel)
theorem w_applies : (headSpec (Jvm.Cond.code x code maxLocals ret :: tables_1) room_1).applies x e0.platform about1 = true :=
  (Spec.applies_iff w_frames).mpr ⟨w_running, w_runnable, w_alone, w_named, w_hears, w_ripe, w_room, w_tables⟩
theorem atStart : AtStart classFile x code maxLocals ret World_1 tables_1 room_1 Calls_1 rest_1 Pre_1 launch0 p0 e0 about1 theMethod args0 below0 :=
  ⟨lists_1, trivial, launch0.admits_env _ _ _, launch0.least_env, fairChoices_fair.cas, fairChoices_fair.clock, w_frames, w_args, w_heap, w_applies, ⟨w_consts, trivial⟩, w_rest, w_case⟩
end start1
theorem witness_1 : WitnessClaimed_1 := ⟨start1.p0, start1.e0, start1.about1, start1.theMethod, start1.args0, start1.below0, start1.atStart⟩
end Jvm.Pilot.@@N@@
