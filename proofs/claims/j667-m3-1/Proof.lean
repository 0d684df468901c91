import JvmDerived
import JvmDerived.Pilot.@@N@@Statement
import JvmDerived.Pilot.@@N@@Code
set_option linter.unusedVariables false
set_option linter.unusedSimpArgs false
/- laws to paste: Road.backV (cut by pick.py; bodies as the Statement names them) -/
namespace Jvm.Pilot.@@N@@
namespace StrChars
open Jvm Sem ClassFile Op Lib Jvm.Stand Jvm.Free.XT Jvm.Free.ALB Jvm.Free.JM Jvm.Free
open Jvm.Lib.Cold (StaticIs)
/-- a char array whose places are chars -/
def Ch (a : Addr) (A : Cell) (U : State) : Prop := Arr .char a A U ∧ Typed .char A
theorem Ch.mv {a : Addr} {A : Cell} {U U' : State} (h : Ch a A U) (hal : U.vm.Alike U'.vm) (hh : U'.heap = U.heap) : Ch a A U' := ⟨h.1.mv hal hh, h.2⟩
theorem Ch.keep {a : Addr} {A : Cell} {U U' : State} (h : Ch a A U) (hal : U.vm.Alike U'.vm) (hk : U'.heap[a]? = some A) : Ch a A U' := ⟨h.1.keep hal hk, h.2⟩
/-- what place i of a char[]'s cell holds -/
def cv (A : Cell) (i : Nat) : Int32 := match A.slots[i]? with | some (.int x) => x | _ => 0
theorem Ch.get {a : Addr} {A : Cell} {U : State} (h : Ch a A U) {i : Nat} (hi : i < A.slots.size) : A.slots[i]? = some (.int (cv A i)) := by
  have e := Array.getElem?_eq_getElem hi
  have f := h.2 i _ e
  unfold cv; rw [e]
  generalize A.slots[i] = v at f
  cases v <;> simp [fits] at f ⊢
/-- the byte that i2b leaves of a char -/
def lo8 (x : Int32) : Int32 := x.toInt8.toInt32
theorem fits_lo8 (y : Int32) : fits .byte (.int (lo8 y)) = true := by
  have h1 := y.toInt8.le_toInt
  have h2 := y.toInt8.toInt_lt
  simp only [lo8, fits, Bool.and_eq_true, decide_eq_true_eq, Int32.le_iff_toInt_le, Int8.toInt_toInt32, show (-128 : Int32).toInt = -128 from by decide, show (127 : Int32).toInt = 127 from by decide]
  omega
/-- A' is A but that each place j of lo .. hi - 1 holds f j -/
def Laid (A A' : Cell) (lo hi : Nat) (f : Nat → Value) : Prop := A'.cls = A.cls ∧ A'.vm = A.vm ∧ A'.slots.size = A.slots.size ∧ ∀ i, A'.slots[i]? = if lo ≤ i ∧ i < hi then some (f i) else A.slots[i]?
theorem Laid.zero (A : Cell) (lo : Nat) (f : Nat → Value) : Laid A A lo (lo + 0) f := ⟨rfl, rfl, rfl, fun i => by rw [if_neg (by omega)]⟩
theorem Laid.step {A Ak : Cell} {lo k : Nat} {f : Nat → Value} {v : Value} (h : Laid A Ak lo k f) (hlo : lo ≤ k) (hk : k < Ak.slots.size) (hv : v = f k) : Laid A (Ak.setSlot k v) lo (k + 1) f := by
  refine ⟨h.1, h.2.1, by simpa [Cell.setSlot] using h.2.2.1, fun i => ?_⟩
  by_cases e : k = i
  · subst e; rw [Cell.slots_setSlot_self v hk, if_pos (by omega), hv]
  · rw [Cell.slots_setSlot_ne v e, h.2.2.2 i]
    by_cases q : lo ≤ i ∧ i < k
    · rw [if_pos q, if_pos (by omega)]
    · rw [if_neg q, if_neg (by omega)]
def U16 : String := "java/lang/StringUTF16"
namespace Cmp5
def yN : MethodName := ⟨"java/lang/StringUTF16", "compress", "([CI[BII)I"⟩
abbrev yB : ByteArray := jdk_52_method_21_code
theorem d0 : decode yB 0 = .ok (.iconst 0, 1) := by decide +kernel
theorem d1 : decode yB 1 = .ok (.istore 5, 2) := by decide +kernel
theorem d3 : decode yB 3 = .ok (.iload 5, 2) := by decide +kernel
theorem d5 : decode yB 5 = .ok (.iload 4, 2) := by decide +kernel
theorem d7 : decode yB 7 = .ok (.if_icmp (.ge) 37, 3) := by decide +kernel
theorem d10 : decode yB 10 = .ok (.aload_n 0, 1) := by decide +kernel
theorem d11 : decode yB 11 = .ok (.iload_n 1, 1) := by decide +kernel
theorem d12 : decode yB 12 = .ok (.caload, 1) := by decide +kernel
theorem d13 : decode yB 13 = .ok (.istore 6, 2) := by decide +kernel
theorem d15 : decode yB 15 = .ok (.iload 6, 2) := by decide +kernel
theorem d17 : decode yB 17 = .ok (.sipush 255, 3) := by decide +kernel
theorem d20 : decode yB 20 = .ok (.if_icmp (.le) 6, 3) := by decide +kernel
theorem d26 : decode yB 26 = .ok (.aload_n 2, 1) := by decide +kernel
theorem d27 : decode yB 27 = .ok (.iload_n 3, 1) := by decide +kernel
theorem d28 : decode yB 28 = .ok (.iload 6, 2) := by decide +kernel
theorem d30 : decode yB 30 = .ok (.i2b, 1) := by decide +kernel
theorem d31 : decode yB 31 = .ok (.bastore, 1) := by decide +kernel
theorem d32 : decode yB 32 = .ok (.iinc 1 1, 3) := by decide +kernel
theorem d35 : decode yB 35 = .ok (.iinc 3 1, 3) := by decide +kernel
theorem d38 : decode yB 38 = .ok (.iinc 5 1, 3) := by decide +kernel
theorem d41 : decode yB 41 = .ok (.goto (-38), 3) := by decide +kernel
theorem d44 : decode yB 44 = .ok (.iload 4, 2) := by decide +kernel
theorem d46 : decode yB 46 = .ok (.ireturn, 1) := by decide +kernel
def site : List Cond := []
def tab : Cond := tabOf yN yB 7 (some .int) site
def P (b : Addr) (A : Cell) (d : Addr) (B : Cell) (o q len : Nat) (args : Array Value) (s : State) : Prop := args = #[.ref b, .int (Int32.ofNat o), .ref d, .int (Int32.ofNat q), .int (Int32.ofNat len)] ∧ Ch b A s ∧ Arr .byte d B s ∧ b ≠ d ∧ o + len ≤ A.slots.size ∧ q + len ≤ B.slots.size ∧ ∀ i, i < len → ¬ 255 < cv A (o + i)
def E (b : Addr) (A : Cell) (d : Addr) (B : Cell) (o q len : Nat) (r : Option Value) (s u : State) : Prop := r = some (.int (Int32.ofNat len)) ∧ ∃ B', Put d B' s u ∧ Laid B B' q (q + len) (fun j => Value.int (lo8 (cv A (o + (j - q)))))
/-- no char of the range above 255: len; the places written hold each char's low byte -/
theorem law (l : Launch) (b : Addr) (A : Cell) (d : Addr) (B : Cell) (o q len : Nat) : Law l yN 5 5 0 0 yB 7 (some .int) site (P b A d B o q len) (E b A d B o q len) (copyLocs d q len) 0 0 := by
  refine Law.of_walk (plainFor_of_name (by decide +kernel)) (by decide +kernel) (by decide +kernel) (by decide) (fun _ _ h => by rw [h.1]; rfl) (fun _ U U' hal hh h => ⟨h.1, h.2.1.mv hal hh, h.2.2.1.mv hal hh, h.2.2.2⟩) (fun r U U' V V' h1 hal h2 h => ⟨h.1, h.2.elim fun B' q => ⟨B', q.1.mv h1 h2, q.2⟩⟩) ?_
  intro p e s m args below meth c s₁ X0 hexec hbytes hml hret hlk hnm hown hh0 W hP
  obtain ⟨rfl, hA, hB, hne, l1, l2, hp⟩ := hP
  have c1 : Steps p.tables e below (s₁.setTop (entryFrame m #[.ref b, .int (Int32.ofNat o), .ref d, .int (Int32.ofNat q), .int (Int32.ofNat len)] 7)) (s₁.setTop (mkF m 0 #[.val (.ref b), .val (.int (Int32.ofNat o)), .val (.ref d), .val (.int (Int32.ofNat q)), .val (.int (Int32.ofNat len)), .unset, .unset] [])) := entry rfl
  have hA0 := hA.1.mv X0.warmed.alike hh0
  have hB0 := hB.mv X0.warmed.alike hh0
  have a31 := hA.1.2.2.2
  have c2 : Steps p.tables e below (s₁.setTop (entryFrame m #[.ref b, .int (Int32.ofNat o), .ref d, .int (Int32.ofNat q), .int (Int32.ofNat len)] 7)) (s₁.setTop (mkF m 3 #[.val (.ref b), .val (.int (Int32.ofNat o)), .val (.ref d), .val (.int (Int32.ofNat q)), .val (.int (Int32.ofNat len)), .val (.int 0), .unset] [])) := c1.trans (by
    refine iconstV X0.here hexec rfl 0 (hb hbytes d0) (by decide) ?_
    refine XS.istore X0.here hexec rfl (hb hbytes d1) rfl rfl ?_
    exact Steps.refl _)
  have loop : ∀ (r i : Nat), i + r = len → ∀ (z : Slot), (z = .unset ∨ ∃ w, z = .val w ∧ w.category = 1) → ∀ (Tl : State) (Bk : Cell), Stand p l e { frames := 0, locals := 0, cells := 0, slots := 0 } s m #[.ref b, .int (Int32.ofNat o), .ref d, .int (Int32.ofNat q), .int (Int32.ofNat len)] below meth c Tl ([] ++ copyLocs d q i) 0 0 → Put d Bk s₁ Tl → Laid B Bk q (q + i) (fun j => Value.int (lo8 (cv A (o + (j - q))))) →
      Steps p.tables e below (s₁.setTop (entryFrame m #[.ref b, .int (Int32.ofNat o), .ref d, .int (Int32.ofNat q), .int (Int32.ofNat len)] 7)) (Tl.setTop (mkF m 3 #[.val (.ref b), .val (.int (Int32.ofNat (o + i))), .val (.ref d), .val (.int (Int32.ofNat (q + i))), .val (.int (Int32.ofNat len)), .val (.int (Int32.ofNat i)), z] [])) → ∃ (T' : State) (B' : Cell) (z' : Slot), Stand p l e { frames := 0, locals := 0, cells := 0, slots := 0 } s m #[.ref b, .int (Int32.ofNat o), .ref d, .int (Int32.ofNat q), .int (Int32.ofNat len)] below meth c T' ([] ++ copyLocs d q len) 0 0 ∧ Put d B' s₁ T' ∧ Laid B B' q (q + len) (fun j => Value.int (lo8 (cv A (o + (j - q))))) ∧
      Steps p.tables e below (s₁.setTop (entryFrame m #[.ref b, .int (Int32.ofNat o), .ref d, .int (Int32.ofNat q), .int (Int32.ofNat len)] 7)) (T'.setTop (mkF m 3 #[.val (.ref b), .val (.int (Int32.ofNat (o + len))), .val (.ref d), .val (.int (Int32.ofNat (q + len))), .val (.int (Int32.ofNat len)), .val (.int (Int32.ofNat len)), z'] [])) := by
    intro r
    induction r with
    | zero =>
      intro i hi z hz Tl Bk Xl pl fl cl
      have hil : i = len := by omega
      rw [hil] at Xl fl cl
      exact ⟨Tl, Bk, z, Xl, pl, fl, cl⟩
    | succ r ih =>
      intro i hi z hz Tl Bk Xl pl fl cl
      have all := X0.warmed.alike.symm.trans Xl.warmed.alike
      have hAl := hA0.keep all (pl.other hne hA0.1)
      have hBk := hB0.like all pl.1 fl.1 fl.2.1 fl.2.2.1
      have hlt : q + i < Bk.slots.size := by rw [fl.2.2.1]; omega
      have c3 : Steps p.tables e below (s₁.setTop (entryFrame m #[.ref b, .int (Int32.ofNat o), .ref d, .int (Int32.ofNat q), .int (Int32.ofNat len)] 7)) (Tl.setTop (mkF m 12 #[.val (.ref b), .val (.int (Int32.ofNat (o + i))), .val (.ref d), .val (.int (Int32.ofNat (q + i))), .val (.int (Int32.ofNat len)), .val (.int (Int32.ofNat i)), z] [.int (Int32.ofNat (o + i)), .ref b])) := cl.trans (by
        refine XS.iload Xl.here hexec rfl (hb hbytes d3) rfl ?_
        refine XS.iload Xl.here hexec rfl (hb hbytes d5) rfl ?_
        refine XS.icmpNo Xl.here hexec rfl (hb hbytes d7) rfl (ii_ge_f (lt32 (by omega) (by omega))) ?_
        refine XS.aloadN Xl.here hexec rfl (hb hbytes d10) rfl rfl ?_
        refine XS.iloadN Xl.here hexec rfl (hb hbytes d11) rfl ?_
        exact Steps.refl _)
      have c4 : Steps p.tables e below (s₁.setTop (entryFrame m #[.ref b, .int (Int32.ofNat o), .ref d, .int (Int32.ofNat q), .int (Int32.ofNat len)] 7)) (Tl.setTop (mkF m 13 #[.val (.ref b), .val (.int (Int32.ofNat (o + i))), .val (.ref d), .val (.int (Int32.ofNat (q + i))), .val (.int (Int32.ofNat len)), .val (.int (Int32.ofNat i)), z] [.int (cv A (o + i))])) := c3.trans (by
        refine Xl.aget hexec hAl rfl (hA.get (i := o + i) (by omega)) rfl rfl (hb hbytes d12) ?_
        exact Steps.refl _)
      have c5 : Steps p.tables e below (s₁.setTop (entryFrame m #[.ref b, .int (Int32.ofNat o), .ref d, .int (Int32.ofNat q), .int (Int32.ofNat len)] 7)) (Tl.setTop (mkF m 15 #[.val (.ref b), .val (.int (Int32.ofNat (o + i))), .val (.ref d), .val (.int (Int32.ofNat (q + i))), .val (.int (Int32.ofNat len)), .val (.int (Int32.ofNat i)), .val (.int (cv A (o + i)))] [])) := c4.trans (by
        refine XS.istoreS Xl.here hexec rfl (hb hbytes d13) rfl rfl hz ?_
        exact Steps.refl _)
      have c6 : Steps p.tables e below (s₁.setTop (entryFrame m #[.ref b, .int (Int32.ofNat o), .ref d, .int (Int32.ofNat q), .int (Int32.ofNat len)] 7)) (Tl.setTop (mkF m 31 #[.val (.ref b), .val (.int (Int32.ofNat (o + i))), .val (.ref d), .val (.int (Int32.ofNat (q + i))), .val (.int (Int32.ofNat len)), .val (.int (Int32.ofNat i)), .val (.int (cv A (o + i)))] [.int (lo8 (cv A (o + i))), .int (Int32.ofNat (q + i)), .ref d])) := c5.trans (by
        refine XS.iload Xl.here hexec rfl (hb hbytes d15) rfl ?_
        refine sipushV Xl.here hexec rfl 255 (hb hbytes d17) (by decide) ?_
        refine XS.icmpYes Xl.here hexec rfl (pc0 := 20) rfl (hb hbytes d20) rfl (ii_le_t (hp i (by omega))) (by decide) rfl ?_
        refine XS.aloadN Xl.here hexec rfl (hb hbytes d26) rfl rfl ?_
        refine XS.iloadN Xl.here hexec rfl (hb hbytes d27) rfl ?_
        refine XS.iload Xl.here hexec rfl (hb hbytes d28) rfl ?_
        refine i2b Xl.here hexec rfl (hb hbytes d30) rfl ?_
        exact Steps.refl _)
      obtain ⟨T7, X7, p7, st7⟩ := Xl.aput hexec hBk rfl hlt rfl (fits_lo8 (cv A (o + i))) (g := (mkF m 31 #[.val (.ref b), .val (.int (Int32.ofNat (o + i))), .val (.ref d), .val (.int (Int32.ofNat (q + i))), .val (.int (Int32.ofNat len)), .val (.int (Int32.ofNat i)), .val (.int (cv A (o + i)))] [.int (lo8 (cv A (o + i))), .int (Int32.ofNat (q + i)), .ref d])) rfl (rest := []) rfl (hb hbytes d31)
      have c8 : Steps p.tables e below (s₁.setTop (entryFrame m #[.ref b, .int (Int32.ofNat o), .ref d, .int (Int32.ofNat q), .int (Int32.ofNat len)] 7)) (T7.setTop (mkF m 32 #[.val (.ref b), .val (.int (Int32.ofNat (o + i))), .val (.ref d), .val (.int (Int32.ofNat (q + i))), .val (.int (Int32.ofNat len)), .val (.int (Int32.ofNat i)), .val (.int (cv A (o + i)))] [])) := c6.trans (st7 _ (Steps.refl _))
      have c9 : Steps p.tables e below (s₁.setTop (entryFrame m #[.ref b, .int (Int32.ofNat o), .ref d, .int (Int32.ofNat q), .int (Int32.ofNat len)] 7)) (T7.setTop (mkF m 3 #[.val (.ref b), .val (.int (Int32.ofNat (o + i) + 1)), .val (.ref d), .val (.int (Int32.ofNat (q + i) + 1)), .val (.int (Int32.ofNat len)), .val (.int (Int32.ofNat i + 1)), .val (.int (cv A (o + i)))] [])) := c8.trans (by
        refine iincV X7.here hexec rfl 1 (hb hbytes d32) (by decide) rfl rfl ?_
        refine iincV X7.here hexec rfl 1 (hb hbytes d35) (by decide) rfl rfl ?_
        refine iincV X7.here hexec rfl 1 (hb hbytes d38) (by decide) rfl rfl ?_
        refine XS.goto X7.here hexec rfl (pc0 := 41) rfl (hb hbytes d41) (by decide) rfl ?_
        exact Steps.refl _)
      have c10 : Steps p.tables e below (s₁.setTop (entryFrame m #[.ref b, .int (Int32.ofNat o), .ref d, .int (Int32.ofNat q), .int (Int32.ofNat len)] 7)) (T7.setTop (mkF m 3 #[.val (.ref b), .val (.int (Int32.ofNat (o + (i + 1)))), .val (.ref d), .val (.int (Int32.ofNat (q + (i + 1)))), .val (.int (Int32.ofNat len)), .val (.int (Int32.ofNat (i + 1))), .val (.int (cv A (o + i)))] [])) := by
        have := c9
        rw [succ32, succ32, succ32] at this
        exact this
      exact ih (i + 1) (by omega) _ (Or.inr ⟨_, rfl, rfl⟩) T7 _ (by rw [copyLocs_step, ← List.append_assoc]; exact X7) (pl.trans p7) (fl.step (by omega) hlt (by simp)) c10
  obtain ⟨T9, B9, z9, X9, p9, f9, g9⟩ := loop len 0 (by omega) .unset (Or.inl rfl) s₁ B (by simpa [copyLocs] using X0) ⟨hB0.1, fun _ _ => rfl, rfl⟩ (Laid.zero _ _ _) c2
  have c11 : Steps p.tables e below (s₁.setTop (entryFrame m #[.ref b, .int (Int32.ofNat o), .ref d, .int (Int32.ofNat q), .int (Int32.ofNat len)] 7)) (T9.setTop (mkF m 46 #[.val (.ref b), .val (.int (Int32.ofNat (o + len))), .val (.ref d), .val (.int (Int32.ofNat (q + len))), .val (.int (Int32.ofNat len)), .val (.int (Int32.ofNat len)), z9] [.int (Int32.ofNat len)])) := g9.trans (by
    refine XS.iload X9.here hexec rfl (hb hbytes d3) rfl ?_
    refine XS.iload X9.here hexec rfl (hb hbytes d5) rfl ?_
    refine XS.icmpYes X9.here hexec rfl (pc0 := 7) rfl (hb hbytes d7) rfl (ii_ge_t (nlt32 (by omega) (Nat.le_refl _))) (by decide) rfl ?_
    refine XS.iload X9.here hexec rfl (hb hbytes d44) rfl ?_
    exact Steps.refl _)
  exact ⟨T9, some (.int (Int32.ofNat len)), _, _, _, X9, by simp, rfl, rfl, (fun h => by cases h), ⟨rfl, B9, p9.from hh0, f9⟩, fun fs hl => c11.trans (X9.ireturnOut hexec hret rfl (Or.inl rfl) (hb hbytes d46) hl)⟩
end Cmp5
namespace Cmp3
def yN : MethodName := ⟨"java/lang/StringUTF16", "compress", "([CII)[B"⟩
abbrev yB : ByteArray := jdk_52_method_16_code
theorem d0 : decode yB 0 = .ok (.iload_n 2, 1) := by decide +kernel
theorem d1 : decode yB 1 = .ok (.newarray .byte, 2) := by decide +kernel
theorem d3 : decode yB 3 = .ok (.astore_n 3, 1) := by decide +kernel
theorem d4 : decode yB 4 = .ok (.aload_n 0, 1) := by decide +kernel
theorem d5 : decode yB 5 = .ok (.iload_n 1, 1) := by decide +kernel
theorem d6 : decode yB 6 = .ok (.aload_n 3, 1) := by decide +kernel
theorem d7 : decode yB 7 = .ok (.iconst 0, 1) := by decide +kernel
theorem d8 : decode yB 8 = .ok (.iload_n 2, 1) := by decide +kernel
theorem d9 : decode yB 9 = .ok (.invokestatic 115, 3) := by decide +kernel
theorem d12 : decode yB 12 = .ok (.istore 4, 2) := by decide +kernel
theorem d14 : decode yB 14 = .ok (.iload 4, 2) := by decide +kernel
theorem d16 : decode yB 16 = .ok (.iload_n 2, 1) := by decide +kernel
theorem d17 : decode yB 17 = .ok (.if_icmp (.eq) 40, 3) := by decide +kernel
theorem d57 : decode yB 57 = .ok (.aload_n 3, 1) := by decide +kernel
theorem d58 : decode yB 58 = .ok (.areturn, 1) := by decide +kernel
def site : List Cond := [.arrayClass .byte, Cmp5.tab] ++ staticW U16 115 Cmp5.yN
def tab : Cond := tabOf yN yB 6 (some (.array .byte)) site
def P (b : Addr) (A : Cell) (o len : Nat) (args : Array Value) (s : State) : Prop := args = #[.ref b, .int (Int32.ofNat o), .int (Int32.ofNat len)] ∧ Ch b A s ∧ o + len ≤ A.slots.size ∧ len ≤ 536870912 ∧ ∀ i, i < len → ¬ 255 < cv A (o + i)
def E (b : Addr) (A : Cell) (o len : Nat) (r : Option Value) (s u : State) : Prop := NewArr .byte "[B" len (fun j => .int (lo8 (cv A (o + j)))) r s u ∧ u.heap.size = s.heap.size + 1
/-- no char of the range above 255: a new byte[] of their low bytes -/
theorem law (l : Launch) (b : Addr) (A : Cell) (o len : Nat) : Law l yN 3 3 1 18 yB 6 (some (.array .byte)) site (P b A o len) (E b A o len) [] 1 len := by
  refine Law.of_walk (plainFor_of_name (by decide +kernel)) (by decide +kernel) (by decide +kernel) (by decide) (fun _ _ h => by rw [h.1]; rfl) (fun _ U U' hal hh h => ⟨h.1, h.2.1.mv hal hh, h.2.2⟩) (fun r U U' V V' h1 hal h2 h => ⟨NewArr.mv r U U' V V' h1 hal h2 h.1, by rw [h1, h2]; exact h.2⟩) ?_
  intro p e s m args below meth c s₁ X0 hexec hbytes hml hret hlk hnm hown hh0 W hP
  obtain ⟨rfl, hA, l1, l2, hp⟩ := hP
  have a31 := hA.1.2.2.2
  have c1 : Steps p.tables e below (s₁.setTop (entryFrame m #[.ref b, .int (Int32.ofNat o), .int (Int32.ofNat len)] 6)) (s₁.setTop (mkF m 0 #[.val (.ref b), .val (.int (Int32.ofNat o)), .val (.int (Int32.ofNat len)), .unset, .unset, .unset] [])) := entry rfl
  have c2 : Steps p.tables e below (s₁.setTop (entryFrame m #[.ref b, .int (Int32.ofNat o), .int (Int32.ofNat len)] 6)) (s₁.setTop (mkF m 1 #[.val (.ref b), .val (.int (Int32.ofNat o)), .val (.int (Int32.ofNat len)), .unset, .unset, .unset] [.int (Int32.ofNat len)])) := c1.trans (by
    refine XS.iloadN X0.here hexec rfl (hb hbytes d0) rfl ?_
    exact Steps.refl _)
  obtain ⟨T3, B3, X3, ba3, bs3, bv3, bh3, bf3, st3⟩ := X0.anew hexec (atype := .byte) (wk W (.arrayClass .byte)) rfl (by show len * 1 ≤ _; omega) (by omega) (g := (mkF m 1 #[.val (.ref b), .val (.int (Int32.ofNat o)), .val (.int (Int32.ofNat len)), .unset, .unset, .unset] [.int (Int32.ofNat len)])) rfl (hb hbytes d1) (rest := []) rfl (Nat.le_refl _) (by show 0 + len ≤ len; omega)
  rw [hh0] at ba3 st3
  have kp3 : XT.Kept s T3 := (XT.Kept.of_eq hh0).push bh3
  have hA3 := hA.keep X3.warmed.alike (kp3 _ _ hA.1.1)
  have hne : b ≠ s.heap.size := hA.1.ne
  have c4 : Steps p.tables e below (s₁.setTop (entryFrame m #[.ref b, .int (Int32.ofNat o), .int (Int32.ofNat len)] 6)) (T3.setTop (mkF m 3 #[.val (.ref b), .val (.int (Int32.ofNat o)), .val (.int (Int32.ofNat len)), .unset, .unset, .unset] [.ref s.heap.size])) := c2.trans (st3 _ (Steps.refl _))
  have c5 : Steps p.tables e below (s₁.setTop (entryFrame m #[.ref b, .int (Int32.ofNat o), .int (Int32.ofNat len)] 6)) (T3.setTop (mkF m 9 #[.val (.ref b), .val (.int (Int32.ofNat o)), .val (.int (Int32.ofNat len)), .val (.ref s.heap.size), .unset, .unset] [.int (Int32.ofNat len), .int 0, .ref s.heap.size, .int (Int32.ofNat o), .ref b])) := c4.trans (by
    refine XS.astoreN X3.here hexec rfl (hb hbytes d3) rfl rfl rfl ?_
    refine XS.aloadN X3.here hexec rfl (hb hbytes d4) rfl rfl ?_
    refine XS.iloadN X3.here hexec rfl (hb hbytes d5) rfl ?_
    refine XS.aloadN X3.here hexec rfl (hb hbytes d6) rfl rfl ?_
    refine iconstV X3.here hexec rfl 0 (hb hbytes d7) (by decide) ?_
    refine XS.iloadN X3.here hexec rfl (hb hbytes d8) rfl ?_
    exact Steps.refl _)
  obtain ⟨v6, T6, X6, E6, g6⟩ := X3.callS hexec (Cmp5.law l b A s.heap.size B3 o 0 len) hown (wks W (staticW U16 115 Cmp5.yN)) (wk W Cmp5.tab) (W := 0) (Nat.le_of_ble_eq_true rfl) (Nat.le_of_ble_eq_true rfl) (Nat.le_refl _) (by show 0 + len + 0 ≤ len; omega) (g := (mkF m 9 #[.val (.ref b), .val (.int (Int32.ofNat o)), .val (.int (Int32.ofNat len)), .val (.ref s.heap.size), .unset, .unset] [.int (Int32.ofNat len), .int (Int32.ofNat 0), .ref s.heap.size, .int (Int32.ofNat o), .ref b])) rfl (by rw [hml]; rfl) c5 (argsL := [.ref b, .int (Int32.ofNat o), .ref s.heap.size, .int (Int32.ofNat 0), .int (Int32.ofNat len)]) (rest := []) rfl rfl (by show 2 * 0 + 0 ≤ _; decide) (hb hbytes d9) (⟨rfl, hA3, ba3, hne, l1, by rw [bs3]; simp, hp⟩)
  obtain ⟨rfl, B6, p6, f6⟩ := E6
  have c7 : Steps p.tables e below (s₁.setTop (entryFrame m #[.ref b, .int (Int32.ofNat o), .int (Int32.ofNat len)] 6)) (T6.setTop (mkF m 12 #[.val (.ref b), .val (.int (Int32.ofNat o)), .val (.int (Int32.ofNat len)), .val (.ref s.heap.size), .unset, .unset] [.int (Int32.ofNat len)])) := g6
  have c8 : Steps p.tables e below (s₁.setTop (entryFrame m #[.ref b, .int (Int32.ofNat o), .int (Int32.ofNat len)] 6)) (T6.setTop (mkF m 58 #[.val (.ref b), .val (.int (Int32.ofNat o)), .val (.int (Int32.ofNat len)), .val (.ref s.heap.size), .val (.int (Int32.ofNat len)), .unset] [.ref s.heap.size])) := c7.trans (by
    refine XS.istore X6.here hexec rfl (hb hbytes d12) rfl rfl ?_
    refine XS.iload X6.here hexec rfl (hb hbytes d14) rfl ?_
    refine XS.iloadN X6.here hexec rfl (hb hbytes d16) rfl ?_
    refine XS.icmpYes X6.here hexec rfl (pc0 := 17) rfl (hb hbytes d17) rfl (ii_eq_t rfl) (by decide) rfl ?_
    refine XS.aloadN X6.here hexec rfl (hb hbytes d57) rfl rfl ?_
    exact Steps.refl _)
  have X8 := X6.wide (L' := []) (cells' := 1) (slots' := len) (fun x hx hlt => by
    simp only [List.nil_append, copyLocs, List.mem_map, List.mem_range] at hx
    obtain ⟨i, -, rfl⟩ := hx
    exact absurd hlt (Nat.lt_irrefl _)) (Nat.le_refl _) (by omega)
  exact ⟨T6, some (.ref s.heap.size), _, _, _, X8, rfl, rfl, rfl, (fun h => by cases h), ⟨⟨rfl, B6, ba3.like (X3.warmed.alike.symm.trans X6.warmed.alike) p6.1 f6.1 f6.2.1 f6.2.2.1, f6.2.1.trans bv3, by rw [X6.warmed.alike.findClass, f6.1]; exact bf3, by rw [f6.2.2.1, bs3]; simp, fun j hj => by rw [f6.2.2.2 j, if_pos (by omega)]; rfl, kp3.put p6 (Nat.le_refl _)⟩, by rw [p6.2.2, bh3, hh0]; simp⟩, fun fs hl => c8.trans (X8.areturnOut hexec rfl hret rfl (hb hbytes d58) hl)⟩
end Cmp3
namespace CodL
def yN : MethodName := ⟨"java/lang/StringUTF16", "coderFromArrayLen", "([BI)B"⟩
abbrev yB : ByteArray := jdk_52_method_15_code
theorem d0 : decode yB 0 = .ok (.iload_n 1, 1) := by decide +kernel
theorem d1 : decode yB 1 = .ok (.aload_n 0, 1) := by decide +kernel
theorem d2 : decode yB 2 = .ok (.arraylength, 1) := by decide +kernel
theorem d3 : decode yB 3 = .ok (.isub, 1) := by decide +kernel
theorem d4 : decode yB 4 = .ok (.bipush 31, 2) := by decide +kernel
theorem d6 : decode yB 6 = .ok (.iushr, 1) := by decide +kernel
theorem d7 : decode yB 7 = .ok (.i2b, 1) := by decide +kernel
theorem d8 : decode yB 8 = .ok (.ireturn, 1) := by decide +kernel
def site : List Cond := []
def tab : Cond := tabOf yN yB 2 (some .byte) site
def P (d : Addr) (B : Cell) (args : Array Value) (s : State) : Prop := args = #[.ref d, .int (Int32.ofNat B.slots.size)] ∧ Arr .byte d B s
def E (r : Option Value) (s u : State) : Prop := XT.PureE (some (.int 0)) r s u
/-- an array as long as the number of chars: LATIN1 -/
theorem law (l : Launch) (d : Addr) (B : Cell) : Law l yN 2 2 0 0 yB 2 (some .byte) site (P d B) E [] 0 0 := by
  refine Law.of_walk (plainFor_of_name (by decide +kernel)) (by decide +kernel) (by decide +kernel) (by decide) (fun _ _ h => by rw [h.1]; rfl) (fun _ U U' hal hh h => ⟨h.1, h.2.mv hal hh⟩) (fun r U U' V V' h1 hal h2 h => XT.PureE.mv r U U' V V' h1 hal h2 h) ?_
  intro p e s m args below meth c s₁ X0 hexec hbytes hml hret hlk hnm hown hh0 W hP
  obtain ⟨rfl, hB⟩ := hP
  have hB0 := hB.mv X0.warmed.alike hh0
  have c1 : Steps p.tables e below (s₁.setTop (entryFrame m #[.ref d, .int (Int32.ofNat B.slots.size)] 2)) (s₁.setTop (mkF m 0 #[.val (.ref d), .val (.int (Int32.ofNat B.slots.size))] [])) := entry rfl
  have c2 : Steps p.tables e below (s₁.setTop (entryFrame m #[.ref d, .int (Int32.ofNat B.slots.size)] 2)) (s₁.setTop (mkF m 2 #[.val (.ref d), .val (.int (Int32.ofNat B.slots.size))] [.ref d, .int (Int32.ofNat B.slots.size)])) := c1.trans (by
    refine XS.iloadN X0.here hexec rfl (hb hbytes d0) rfl ?_
    refine XS.aloadN X0.here hexec rfl (hb hbytes d1) rfl rfl ?_
    exact Steps.refl _)
  have c3 : Steps p.tables e below (s₁.setTop (entryFrame m #[.ref d, .int (Int32.ofNat B.slots.size)] 2)) (s₁.setTop (mkF m 8 #[.val (.ref d), .val (.int (Int32.ofNat B.slots.size))] [.int (lo8 (ushr (Int32.ofNat B.slots.size - Int32.ofNat B.slots.size) 31))])) := c2.trans (by
    refine X0.alen hexec hB0 rfl rfl (hb hbytes d2) ?_
    refine XS.isub X0.here hexec rfl (hb hbytes d3) rfl ?_
    refine bipushV X0.here hexec rfl 31 (hb hbytes d4) (by decide) ?_
    refine iushr X0.here hexec rfl (hb hbytes d6) rfl ?_
    refine i2b X0.here hexec rfl (hb hbytes d7) rfl ?_
    exact Steps.refl _)
  have e0 : lo8 (ushr (Int32.ofNat B.slots.size - Int32.ofNat B.slots.size) 31) = 0 := by rw [Int32.sub_self]; decide
  rw [e0] at c3
  exact ⟨s₁, some (.int 0), _, _, _, X0, rfl, rfl, rfl, (fun h => by cases h), ⟨rfl, hh0⟩, fun fs hl => c3.trans (X0.ireturnOut hexec hret rfl (Or.inr (Or.inr (Or.inl rfl))) (hb hbytes d8) hl)⟩
end CodL
/-- the String at a is Latin-1 over a new byte[] (the heap's one new cell): the low bytes of the len chars of A from o on; every cell but a is kept -/
def Got (a : Addr) (D : Cell) (fV fC : Field) (A : Cell) (o len : Nat) (r : Option Value) (s u : State) : Prop := r = none ∧ ∃ D' V : Cell, Blank "java/lang/String" a D' u ∧ Same D D' [fV.slot, fC.slot] ∧ D'.slots[fV.slot]? = some (.ref s.heap.size) ∧ D'.slots[fC.slot]? = some (.int 0) ∧ Arr .byte s.heap.size V u ∧ V.vm = .none ∧ u.vm.findClass "[B" = some V.cls ∧ V.slots.size = len ∧ (∀ j, j < len → V.slots[j]? = some (.int (lo8 (cv A (o + j))))) ∧ (∀ (y : Addr) (c : Cell), y ≠ a → s.heap[y]? = some c → u.heap[y]? = some c) ∧ u.heap.size = s.heap.size + 1
theorem Got.mv {a : Addr} {D A : Cell} {fV fC : Field} {o len : Nat} : ∀ r (U U' V V' : State), U'.heap = U.heap → V.vm.Alike V'.vm → V'.heap = V.heap → Got a D fV fC A o len r U V → Got a D fV fC A o len r U' V' :=
  fun r U U' V V' h1 hal h2 ⟨e0, D', X, a1, a2, a3, a4, a5, a6, a7, a8, a9, a10, a11⟩ => ⟨e0, D', X, a1.mv hal h2, a2, by rw [h1]; exact a3, a4, by rw [h1]; exact a5.mv hal h2, a6, by rw [hal.findClass]; exact a7, a8, a9, by rw [h1, h2]; exact a10, by rw [h1, h2]; exact a11⟩
namespace New4
def yN : MethodName := ⟨"java/lang/String", "<init>", "([CIILjava/lang/Void;)V"⟩
abbrev yB : ByteArray := jdk_42_method_149_code
theorem d0 : decode yB 0 = .ok (.aload_n 0, 1) := by decide +kernel
theorem d1 : decode yB 1 = .ok (.invokespecial 1, 3) := by decide +kernel
theorem d4 : decode yB 4 = .ok (.iload_n 3, 1) := by decide +kernel
theorem d5 : decode yB 5 = .ok (.ifCond (.ne) 22, 3) := by decide +kernel
theorem d27 : decode yB 27 = .ok (.getstatic 38, 3) := by decide +kernel
theorem d30 : decode yB 30 = .ok (.ifCond (.eq) 28, 3) := by decide +kernel
theorem d33 : decode yB 33 = .ok (.aload_n 1, 1) := by decide +kernel
theorem d34 : decode yB 34 = .ok (.iload_n 2, 1) := by decide +kernel
theorem d35 : decode yB 35 = .ok (.iload_n 3, 1) := by decide +kernel
theorem d36 : decode yB 36 = .ok (.invokestatic 177, 3) := by decide +kernel
theorem d39 : decode yB 39 = .ok (.astore 5, 2) := by decide +kernel
theorem d41 : decode yB 41 = .ok (.aload_n 0, 1) := by decide +kernel
theorem d42 : decode yB 42 = .ok (.aload 5, 2) := by decide +kernel
theorem d44 : decode yB 44 = .ok (.iload_n 3, 1) := by decide +kernel
theorem d45 : decode yB 45 = .ok (.invokestatic 47, 3) := by decide +kernel
theorem d48 : decode yB 48 = .ok (.putfield 15, 3) := by decide +kernel
theorem d51 : decode yB 51 = .ok (.aload_n 0, 1) := by decide +kernel
theorem d52 : decode yB 52 = .ok (.aload 5, 2) := by decide +kernel
theorem d54 : decode yB 54 = .ok (.putfield 9, 3) := by decide +kernel
theorem d57 : decode yB 57 = .ok (.return_, 1) := by decide +kernel
def site : List Cond := [.fieldLink "java/lang/String" 38 "java/lang/String" "COMPACT_STRINGS" "Z", Cmp3.tab, CodL.tab, .laysFinal "java/lang/String" "java/lang/String" "value" "[B", .fieldLink "java/lang/String" 9 "java/lang/String" "value" "[B", .laysFinal "java/lang/String" "java/lang/String" "coder" "B", .fieldLink "java/lang/String" 15 "java/lang/String" "coder" "B"] ++ objW "java/lang/String" 1 ++ staticW "java/lang/String" 177 Cmp3.yN ++ staticW "java/lang/String" 47 CodL.yN
def tab : Cond := tabOf yN yB 6 none site
def P (a : Addr) (D : Cell) (fV fC : Field) (b : Addr) (A : Cell) (z : Int32) (o len : Nat) (args : Array Value) (s : State) : Prop := args = #[.ref a, .ref b, .int (Int32.ofNat o), .int (Int32.ofNat len), .null] ∧ Blank "java/lang/String" a D s ∧ Found "java/lang/String" "value" "[B" fV s ∧ Found "java/lang/String" "coder" "B" fC s ∧ Ch b A s ∧ StaticIs s "java/lang/String" "COMPACT_STRINGS" "Z" (.int z) ∧ ¬ z = 0 ∧ 0 < len ∧ o + len ≤ A.slots.size ∧ len ≤ 536870912 ∧ ∀ i, i < len → ¬ 255 < cv A (o + i)
def E (a : Addr) (D : Cell) (fV fC : Field) (A : Cell) (o len : Nat) (r : Option Value) (s u : State) : Prop := Got a D fV fC A o len r s u
/-- len > 0, no char of the range above 255: a Latin-1 String of their low bytes -/
theorem law (l : Launch) (a : Addr) (D : Cell) (fV fC : Field) (b : Addr) (A : Cell) (z : Int32) (o len : Nat) : Law l yN 5 4 2 35 yB 6 none site (P a D fV fC b A z o len) (E a D fV fC A o len) [⟨a, fC.slot⟩, ⟨a, fV.slot⟩] 1 len := by
  refine Law.of_walk (plainFor_of_name (by decide +kernel)) (by decide +kernel) (by decide +kernel) (by decide) (fun _ _ h => by rw [h.1]; rfl) (fun _ U U' hal hh h => ⟨h.1, h.2.1.mv hal hh, h.2.2.1.al hal, h.2.2.2.1.al hal, h.2.2.2.2.1.mv hal hh, h.2.2.2.2.2.1.there hal hh, h.2.2.2.2.2.2⟩) (fun r U U' V V' h1 hal h2 h => Got.mv r U U' V V' h1 hal h2 h) ?_
  intro p e s m args below meth c s₁ X0 hexec hbytes hml hret hlk hnm hown hh0 W hP
  obtain ⟨rfl, hB, f1, f2, hA, s1, hz, l0, l1, l2, hp⟩ := hP
  have a31 := hA.1.2.2.2
  have c1 : Steps p.tables e below (s₁.setTop (entryFrame m #[.ref a, .ref b, .int (Int32.ofNat o), .int (Int32.ofNat len), .null] 6)) (s₁.setTop (mkF m 0 #[.val (.ref a), .val (.ref b), .val (.int (Int32.ofNat o)), .val (.int (Int32.ofNat len)), .val .null, .unset] [])) := entry rfl
  have c2 : Steps p.tables e below (s₁.setTop (entryFrame m #[.ref a, .ref b, .int (Int32.ofNat o), .int (Int32.ofNat len), .null] 6)) (s₁.setTop (mkF m 1 #[.val (.ref a), .val (.ref b), .val (.int (Int32.ofNat o)), .val (.int (Int32.ofNat len)), .val .null, .unset] [.ref a])) := c1.trans (by
    refine XS.aloadN X0.here hexec rfl (hb hbytes d0) rfl rfl ?_
    exact Steps.refl _)
  obtain ⟨T3, X3, q3, st3⟩ := X0.oinit hexec hown (wks W (objW "java/lang/String" 1)) (g := (mkF m 1 #[.val (.ref a), .val (.ref b), .val (.int (Int32.ofNat o)), .val (.int (Int32.ofNat len)), .val .null, .unset] [.ref a])) rfl (by rw [hml]; rfl) (rest := []) rfl (hb hbytes d1) (W := 0) (by show 2 * 0 + 0 ≤ _; decide) (Nat.le_of_ble_eq_true rfl) (Nat.le_of_ble_eq_true rfl)
  have hh3 := q3.trans hh0
  have c4 : Steps p.tables e below (s₁.setTop (entryFrame m #[.ref a, .ref b, .int (Int32.ofNat o), .int (Int32.ofNat len), .null] 6)) (T3.setTop (mkF m 27 #[.val (.ref a), .val (.ref b), .val (.int (Int32.ofNat o)), .val (.int (Int32.ofNat len)), .val .null, .unset] [])) := (c2.trans (st3 _ (Steps.refl _))).trans (by
    refine XS.iloadN X3.here hexec rfl (hb hbytes d4) rfl ?_
    refine XS.ifYes X3.here hexec rfl (pc0 := 5) rfl (hb hbytes d5) rfl (i0_ne_t (nz32 (by omega) l0)) (by decide) rfl ?_
    exact Steps.refl _)
  obtain ⟨T5, X5, q5, st5⟩ := X3.sget hexec hown (wk W (.fieldLink "java/lang/String" 38 "java/lang/String" "COMPACT_STRINGS" "Z")) s1 (fun _ _ h => by rw [hh3]; exact h) (g := (mkF m 27 #[.val (.ref a), .val (.ref b), .val (.int (Int32.ofNat o)), .val (.int (Int32.ofNat len)), .val .null, .unset] [])) rfl (hb hbytes d27)
  have hh5 := q5.trans hh3
  have c6 : Steps p.tables e below (s₁.setTop (entryFrame m #[.ref a, .ref b, .int (Int32.ofNat o), .int (Int32.ofNat len), .null] 6)) (T5.setTop (mkF m 30 #[.val (.ref a), .val (.ref b), .val (.int (Int32.ofNat o)), .val (.int (Int32.ofNat len)), .val .null, .unset] [.int z])) := c4.trans (st5 _ (Steps.refl _))
  have c7 : Steps p.tables e below (s₁.setTop (entryFrame m #[.ref a, .ref b, .int (Int32.ofNat o), .int (Int32.ofNat len), .null] 6)) (T5.setTop (mkF m 36 #[.val (.ref a), .val (.ref b), .val (.int (Int32.ofNat o)), .val (.int (Int32.ofNat len)), .val .null, .unset] [.int (Int32.ofNat len), .int (Int32.ofNat o), .ref b])) := c6.trans (by
    refine XS.ifNo X5.here hexec rfl (hb hbytes d30) rfl (i0_eq_f hz) ?_
    refine XS.aloadN X5.here hexec rfl (hb hbytes d33) rfl rfl ?_
    refine XS.iloadN X5.here hexec rfl (hb hbytes d34) rfl ?_
    refine XS.iloadN X5.here hexec rfl (hb hbytes d35) rfl ?_
    exact Steps.refl _)
  obtain ⟨v8, T8, X8, E8, g8⟩ := X5.callS hexec (Cmp3.law l b A o len) hown (wks W (staticW "java/lang/String" 177 Cmp3.yN)) (wk W Cmp3.tab) (W := 0) (Nat.le_of_ble_eq_true rfl) (Nat.le_of_ble_eq_true rfl) (Nat.le_refl _) (by show 0 + len ≤ len; omega) (g := (mkF m 36 #[.val (.ref a), .val (.ref b), .val (.int (Int32.ofNat o)), .val (.int (Int32.ofNat len)), .val .null, .unset] [.int (Int32.ofNat len), .int (Int32.ofNat o), .ref b])) rfl (by rw [hml]; rfl) c7 (argsL := [.ref b, .int (Int32.ofNat o), .int (Int32.ofNat len)]) (rest := []) rfl rfl (by show 2 * 0 + 0 ≤ _; decide) (hb hbytes d36) (⟨rfl, hA.mv X5.warmed.alike hh5, l1, l2, hp⟩)
  obtain ⟨e8, z8⟩ := E8
  obtain ⟨rfl, N, n1, n2, n3, n4, n5, n6⟩ := NewArr.mv _ T5 s _ _ hh5.symm (Vm.Alike.refl _) rfl e8
  rw [hh5] at z8
  have hB1 := hB.keep X8.warmed.alike (n6 _ _ hB.1)
  have hne : s.heap.size ≠ a := (Nat.ne_of_lt (Array.getElem?_eq_some_iff.mp hB.1).1).symm
  have c9 : Steps p.tables e below (s₁.setTop (entryFrame m #[.ref a, .ref b, .int (Int32.ofNat o), .int (Int32.ofNat len), .null] 6)) (T8.setTop (mkF m 39 #[.val (.ref a), .val (.ref b), .val (.int (Int32.ofNat o)), .val (.int (Int32.ofNat len)), .val .null, .unset] [.ref s.heap.size])) := g8
  have c10 : Steps p.tables e below (s₁.setTop (entryFrame m #[.ref a, .ref b, .int (Int32.ofNat o), .int (Int32.ofNat len), .null] 6)) (T8.setTop (mkF m 45 #[.val (.ref a), .val (.ref b), .val (.int (Int32.ofNat o)), .val (.int (Int32.ofNat len)), .val .null, .val (.ref s.heap.size)] [.int (Int32.ofNat N.slots.size), .ref s.heap.size, .ref a])) := by
    have hc : Steps p.tables e below (s₁.setTop (entryFrame m #[.ref a, .ref b, .int (Int32.ofNat o), .int (Int32.ofNat len), .null] 6)) (T8.setTop (mkF m 45 #[.val (.ref a), .val (.ref b), .val (.int (Int32.ofNat o)), .val (.int (Int32.ofNat len)), .val .null, .val (.ref s.heap.size)] [.int (Int32.ofNat len), .ref s.heap.size, .ref a])) := c9.trans (by
      refine XS.astore X8.here hexec rfl (hb hbytes d39) rfl rfl rfl ?_
      refine XS.aloadN X8.here hexec rfl (hb hbytes d41) rfl rfl ?_
      refine XS.aload X8.here hexec rfl (hb hbytes d42) rfl rfl ?_
      refine XS.iloadN X8.here hexec rfl (hb hbytes d44) rfl ?_
      exact Steps.refl _)
    rw [n4]; exact hc
  obtain ⟨v11, T11, X11, E11, g11⟩ := X8.callS hexec (CodL.law l s.heap.size N) hown (wks W (staticW "java/lang/String" 47 CodL.yN)) (wk W CodL.tab) (W := 1) (Nat.le_of_ble_eq_true rfl) (Nat.le_of_ble_eq_true rfl) (Nat.le_refl _) (by show 0 + len + 0 ≤ len; omega) (g := (mkF m 45 #[.val (.ref a), .val (.ref b), .val (.int (Int32.ofNat o)), .val (.int (Int32.ofNat len)), .val .null, .val (.ref s.heap.size)] [.int (Int32.ofNat N.slots.size), .ref s.heap.size, .ref a])) rfl (by rw [hml]; rfl) c10 (argsL := [.ref s.heap.size, .int (Int32.ofNat N.slots.size)]) (rest := [.ref a]) rfl rfl (by show 2 * 0 + (1 + 0) ≤ _; decide) (hb hbytes d45) (⟨rfl, n1⟩)
  obtain ⟨rfl, q11⟩ := E11
  have hB11 := hB1.mv (X8.warmed.alike.symm.trans X11.warmed.alike) q11
  have c12 : Steps p.tables e below (s₁.setTop (entryFrame m #[.ref a, .ref b, .int (Int32.ofNat o), .int (Int32.ofNat len), .null] 6)) (T11.setTop (mkF m 48 #[.val (.ref a), .val (.ref b), .val (.int (Int32.ofNat o)), .val (.int (Int32.ofNat len)), .val .null, .val (.ref s.heap.size)] [.int 0, .ref a])) := g11
  obtain ⟨T13, X13, p13, bl13, sl13, st13⟩ := X11.finit hexec hown (wk W (.fieldLink "java/lang/String" 15 "java/lang/String" "coder" "B")) (Or.inr ⟨_, (wk W (.laysFinal "java/lang/String" "java/lang/String" "coder" "B"))⟩) (Or.inl ⟨rfl, hnm⟩) f2 (Or.inl rfl) hB11 (t := .byte) (by decide +kernel) rfl (g := (mkF m 48 #[.val (.ref a), .val (.ref b), .val (.int (Int32.ofNat o)), .val (.int (Int32.ofNat len)), .val .null, .val (.ref s.heap.size)] [.int 0, .ref a])) rfl (rest := []) rfl (hb hbytes d48)
  have c14 : Steps p.tables e below (s₁.setTop (entryFrame m #[.ref a, .ref b, .int (Int32.ofNat o), .int (Int32.ofNat len), .null] 6)) (T13.setTop (mkF m 54 #[.val (.ref a), .val (.ref b), .val (.int (Int32.ofNat o)), .val (.int (Int32.ofNat len)), .val .null, .val (.ref s.heap.size)] [.ref s.heap.size, .ref a])) := (c12.trans (st13 _ (Steps.refl _))).trans (by
    refine XS.aloadN X13.here hexec rfl (hb hbytes d51) rfl rfl ?_
    refine XS.aload X13.here hexec rfl (hb hbytes d52) rfl rfl ?_
    exact Steps.refl _)
  obtain ⟨T15, X15, p15, bl15, sl15, st15⟩ := X13.finit hexec hown (wk W (.fieldLink "java/lang/String" 9 "java/lang/String" "value" "[B")) (Or.inr ⟨_, (wk W (.laysFinal "java/lang/String" "java/lang/String" "value" "[B"))⟩) (Or.inl ⟨rfl, hnm⟩) f1 (Or.inl rfl) bl13 (t := (.array .byte)) (by decide +kernel) rfl (g := (mkF m 54 #[.val (.ref a), .val (.ref b), .val (.int (Int32.ofNat o)), .val (.int (Int32.ofNat len)), .val .null, .val (.ref s.heap.size)] [.ref s.heap.size, .ref a])) rfl (rest := []) rfl (hb hbytes d54)
  have c16 : Steps p.tables e below (s₁.setTop (entryFrame m #[.ref a, .ref b, .int (Int32.ofNat o), .int (Int32.ofNat len), .null] 6)) (T15.setTop (mkF m 57 #[.val (.ref a), .val (.ref b), .val (.int (Int32.ofNat o)), .val (.int (Int32.ofNat len)), .val .null, .val (.ref s.heap.size)] [])) := c14.trans (st15 _ (Steps.refl _))
  have ap := apart (Or.inr ⟨_, (wk W (.laysFinal "java/lang/String" "java/lang/String" "value" "[B"))⟩) (Or.inr ⟨_, (wk W (.laysFinal "java/lang/String" "java/lang/String" "coder" "B"))⟩) f1 f2 (t₁ := .array .byte) (t₂ := .byte) (by decide +kernel) (by decide +kernel) (by decide)
  have al := X8.warmed.alike.symm.trans X15.warmed.alike
  have n7 : T11.heap[s.heap.size]? = some N := by rw [q11]; exact n1.1
  exact ⟨T15, none, _, _, _, X15, by simp, rfl, by omega, (fun _ => rfl), ⟨rfl, _, N, bl15, ((Same.refl D _).set _ (by simp)).set _ (by simp), sl15, (Cell.slots_setSlot_ne _ ap).trans sl13, n1.keep al (p15.other hne (p13.other hne n7)), n2, by rw [al.findClass]; exact n3, n4, n5, fun y c h1 h2 => p15.other h1 (p13.other h1 (by rw [q11]; exact n6 y c h2)), by rw [p15.2.2, p13.2.2, q11]; exact z8⟩, fun fs hl => c16.trans (X15.returnOut hexec hret (hb hbytes d57) hl)⟩
end New4
namespace New1
def yN : MethodName := ⟨"java/lang/String", "<init>", "([C)V"⟩
abbrev yB : ByteArray := jdk_42_method_3_code
theorem d0 : decode yB 0 = .ok (.aload_n 0, 1) := by decide +kernel
theorem d1 : decode yB 1 = .ok (.aload_n 1, 1) := by decide +kernel
theorem d2 : decode yB 2 = .ok (.iconst 0, 1) := by decide +kernel
theorem d3 : decode yB 3 = .ok (.aload_n 1, 1) := by decide +kernel
theorem d4 : decode yB 4 = .ok (.arraylength, 1) := by decide +kernel
theorem d5 : decode yB 5 = .ok (.aconst_null, 1) := by decide +kernel
theorem d6 : decode yB 6 = .ok (.invokespecial 27, 3) := by decide +kernel
theorem d9 : decode yB 9 = .ok (.return_, 1) := by decide +kernel
def site : List Cond := [New4.tab] ++ initW "java/lang/String" 27 New4.yN
def tab : Cond := tabOf yN yB 2 none site
def P (a : Addr) (D : Cell) (fV fC : Field) (b : Addr) (A : Cell) (z : Int32) (args : Array Value) (s : State) : Prop := args = #[.ref a, .ref b] ∧ Blank "java/lang/String" a D s ∧ Found "java/lang/String" "value" "[B" fV s ∧ Found "java/lang/String" "coder" "B" fC s ∧ Ch b A s ∧ StaticIs s "java/lang/String" "COMPACT_STRINGS" "Z" (.int z) ∧ ¬ z = 0 ∧ 0 < A.slots.size ∧ A.slots.size ≤ 536870912 ∧ ∀ i, i < A.slots.size → ¬ 255 < cv A i
def E (a : Addr) (D : Cell) (fV fC : Field) (A : Cell) (r : Option Value) (s u : State) : Prop := Got a D fV fC A 0 A.slots.size r s u
/-- new String(chars), not empty, no char above 255: a Latin-1 String of their low bytes -/
theorem law (l : Launch) (a : Addr) (D : Cell) (fV fC : Field) (b : Addr) (A : Cell) (z : Int32) : Law l yN 2 1 3 52 yB 2 none site (P a D fV fC b A z) (E a D fV fC A) [⟨a, fC.slot⟩, ⟨a, fV.slot⟩] 1 A.slots.size := by
  refine Law.of_walk (plainFor_of_name (by decide +kernel)) (by decide +kernel) (by decide +kernel) (by decide) (fun _ _ h => by rw [h.1]; rfl) (fun _ U U' hal hh h => ⟨h.1, h.2.1.mv hal hh, h.2.2.1.al hal, h.2.2.2.1.al hal, h.2.2.2.2.1.mv hal hh, h.2.2.2.2.2.1.there hal hh, h.2.2.2.2.2.2⟩) (fun r U U' V V' h1 hal h2 h => Got.mv r U U' V V' h1 hal h2 h) ?_
  intro p e s m args below meth c s₁ X0 hexec hbytes hml hret hlk hnm hown hh0 W hP
  obtain ⟨rfl, hB, f1, f2, hA, s1, hz, l0, l2, hp⟩ := hP
  have c1 : Steps p.tables e below (s₁.setTop (entryFrame m #[.ref a, .ref b] 2)) (s₁.setTop (mkF m 0 #[.val (.ref a), .val (.ref b)] [])) := entry rfl
  have c2 : Steps p.tables e below (s₁.setTop (entryFrame m #[.ref a, .ref b] 2)) (s₁.setTop (mkF m 6 #[.val (.ref a), .val (.ref b)] [.null, .int (Int32.ofNat A.slots.size), .int 0, .ref b, .ref a])) := c1.trans (by
    refine XS.aloadN X0.here hexec rfl (hb hbytes d0) rfl rfl ?_
    refine XS.aloadN X0.here hexec rfl (hb hbytes d1) rfl rfl ?_
    refine iconstV X0.here hexec rfl 0 (hb hbytes d2) (by decide) ?_
    refine XS.aloadN X0.here hexec rfl (hb hbytes d3) rfl rfl ?_
    refine X0.alen hexec (hA.1.mv X0.warmed.alike hh0) rfl rfl (hb hbytes d4) ?_
    refine XS.aconstNull X0.here hexec rfl (hb hbytes d5) ?_
    exact Steps.refl _)
  obtain ⟨v3, T3, X3, E3, g3⟩ := X0.callN hexec (New4.law l a D fV fC b A z 0 A.slots.size) rfl hown (wks W (initW "java/lang/String" 27 New4.yN)) (W New4.tab (by simp only [site, List.mem_cons, List.mem_append, true_or, or_true])) (W := 0) (Nat.le_of_ble_eq_true rfl) (Nat.le_of_ble_eq_true rfl) (Nat.le_refl _) (by show 0 + A.slots.size ≤ A.slots.size; omega) (g := (mkF m 6 #[.val (.ref a), .val (.ref b)] [.null, .int (Int32.ofNat A.slots.size), .int (Int32.ofNat 0), .ref b, .ref a])) rfl (by rw [hml]; rfl) c2 (argsL := [.ref b, .int (Int32.ofNat 0), .int (Int32.ofNat A.slots.size), .null]) (rest := []) rfl rfl (by show 2 * 0 + 0 ≤ _; decide) (hb hbytes d6) (⟨rfl, hB.mv X0.warmed.alike hh0, f1.al X0.warmed.alike, f2.al X0.warmed.alike, hA.mv X0.warmed.alike hh0, s1.there X0.warmed.alike hh0, hz, l0, by omega, l2, fun i hi => by rw [Nat.zero_add]; exact hp i hi⟩)
  have e0 := Got.mv _ s₁ s _ _ hh0.symm (Vm.Alike.refl _) rfl E3
  obtain rfl := e0.1
  have c4 : Steps p.tables e below (s₁.setTop (entryFrame m #[.ref a, .ref b] 2)) (T3.setTop (mkF m 9 #[.val (.ref a), .val (.ref b)] [])) := g3
  exact ⟨T3, none, _, _, _, X3, by simp, rfl, by omega, (fun _ => rfl), e0, fun fs hl => c4.trans (X3.returnOut hexec hret (hb hbytes d9) hl)⟩
theorem pays {l : Launch} {R : Room} {p : Program} {e : Env} {below : List Frame} {s : State} {sargs : Array Value} {len W : Nat} (a : Addr) (D : Cell) (fV fC : Field) (b : Addr) (A : Cell) (z : Int32) (htab : tab.before sargs s = true) (hfr : 4 ≤ R.frames) (hlo : W + 65 ≤ R.locals) :
    Back l R p e below s sargs yN len W (fun A₁ a₁ => A₁.cells + 1 ≤ R.cells ∧ A₁.slots + A.slots.size ≤ R.slots ∧ P a D fV fC b A z a₁ A₁.U) (fun A₁ _ v₁ B₁ => E a D fV fC A v₁ A₁.U B₁.U ∧ B₁.locs = A₁.locs ++ [⟨a, fC.slot⟩, ⟨a, fV.slot⟩] ∧ B₁.cells = A₁.cells + 1 ∧ B₁.slots = A₁.slots + A.slots.size) :=
  (law l a D fV fC b A z).pays htab hfr (by omega)
end New1
end StrChars
namespace StrChars.Road
open Jvm Sem ClassFile Op Lib Jvm.Stand Jvm.Free Jvm.Free.XT
open Jvm.Lib.Cold (StaticIs)
abbrev ST : String := "java/lang/String"
/-- every table word that New1's law asks, flat -/
abbrev words : List Jvm.Cond := [.code New1.yN New1.yB 2 none, .initialized ST, .methodLink ST 27 New4.yN, .instanceMethod New4.yN,
  .code New4.yN New4.yB 6 none, .fieldLink ST 38 ST "COMPACT_STRINGS" "Z", .laysFinal ST ST "value" "[B", .fieldLink ST 9 ST "value" "[B", .laysFinal ST ST "coder" "B", .fieldLink ST 15 ST "coder" "B",
  .methodLink ST 1 Lib.objectInit, .instanceMethod Lib.objectInit, .code Lib.objectInit ⟨#[0xb1]⟩ 1 none, .methodLink ST 177 Cmp3.yN, .static Cmp3.yN, .methodLink ST 47 CodL.yN, .static CodL.yN,
  .code Cmp3.yN Cmp3.yB 6 (some (.array .byte)), .initialized U16, .arrayClass .byte, .methodLink U16 115 Cmp5.yN, .static Cmp5.yN, .code Cmp5.yN Cmp5.yB 7 (some .int), .code CodL.yN CodL.yB 2 (some .byte)]
theorem tab_of {a : Array Value} {s : State} (h : ∀ w ∈ words, w.before a s = true) : New1.tab.before a s = true := by
  have h5 : Cmp5.tab.before a s = true := unparts (wk h (.code Cmp5.yN Cmp5.yB 7 (some .int))) (wks h (.initialized Cmp5.yN.cls :: Cmp5.site))
  have hc : CodL.tab.before a s = true := unparts (wk h (.code CodL.yN CodL.yB 2 (some .byte))) (wks h (.initialized CodL.yN.cls :: CodL.site))
  have q5 : ∀ w ∈ Cmp5.tab :: words, w.before a s = true := fun w hw => (List.mem_cons.mp hw).elim (fun e => e ▸ h5) (h w)
  have h3 : Cmp3.tab.before a s = true := unparts (wk q5 (.code Cmp3.yN Cmp3.yB 6 (some (.array .byte)))) (wks q5 (.initialized Cmp3.yN.cls :: Cmp3.site))
  have q3 : ∀ w ∈ Cmp3.tab :: CodL.tab :: words, w.before a s = true := fun w hw => (List.mem_cons.mp hw).elim (fun e => e ▸ h3) fun hw => (List.mem_cons.mp hw).elim (fun e => e ▸ hc) (h w)
  have h4 : New4.tab.before a s = true := unparts (wk q3 (.code New4.yN New4.yB 6 none)) (wks q3 (.initialized New4.yN.cls :: New4.site))
  have q4 : ∀ w ∈ New4.tab :: words, w.before a s = true := fun w hw => (List.mem_cons.mp hw).elim (fun e => e ▸ h4) (h w)
  exact unparts (wk q4 (.code New1.yN New1.yB 2 none)) (wks q4 (.initialized New1.yN.cls :: New1.site))
/-- the words ride from the start Z to the walk's own state -/
theorem moved {Z s : State} {a0 args : Array Value} (hZ : Z.Warmed39 s.vm) (hw : ∀ d ∈ words, d.before a0 Z = true) : ∀ d ∈ words, d.before args s = true := fun d hd => by
  have q := hw d hd
  have t : ∀ d ∈ words, d = .arrayClass .byte ∨ (d.onTables && d.keepsFace) = true := by decide +kernel
  rcases t d hd with rfl | t
  · exact RoadKit.mvA hZ q
  · exact RoadKit.mv hZ q t
/-- WHAT COMES BACK, over the tables of the start Z: h the heap at the call, h' behind it -/
def Q (Z : State) (x : Addr) (A : Cell) (h : Heap) (v : Option Value) (h' : Heap) (L : List Loc) : Prop := v = none ∧ (∀ y ∈ L, y.base = x) ∧ RoadKit.Keep h h' [x] ∧ h'.size = h.size + 1 ∧ RoadKit.Exa Z h' x ST ∧ RoadKit.Fld Z h' x ST "value" "[B" (.ref h.size) ∧ RoadKit.Fld Z h' x ST "coder" "B" (.int 0) ∧
  (∃ V : Cell, RoadKit.Arr Z h' h.size V .byte ∧ V.vm = .none ∧ Z.vm.findClass "[B" = some V.cls ∧ V.slots.size = A.slots.size ∧ ∀ j, j < A.slots.size → V.slots[j]? = some (.int (lo8 (cv A j)))) ∧
  ∀ (O n d : String) (w : Value), RoadKit.Fld Z h x O n d w → RoadKit.slotOf Z O n d ≠ RoadKit.slotOf Z ST "value" "[B" → RoadKit.slotOf Z O n d ≠ RoadKit.slotOf Z ST "coder" "B" → RoadKit.Fld Z h' x O n d w
/-- **new String(chars) AT A CALL, IN THE ROAD'S FORM**: for specialBack behind newO: x the fresh String, b the char[] with the cell A -/
theorem back {p : Program} {l : Launch} {e : Env} {R : Room} {s : State} {args : Array Value} {below : List Frame} {len W : Nat} {Z : State} {a0 : Array Value} {h : Heap} (hZ : Z.Warmed39 s.vm) (hw : ∀ d ∈ words, d.before a0 Z = true) {kI : Nat} (wi : (Jvm.Cond.instantiable ST kI).before a0 Z = true)
    {x b : Addr} {A : Cell} {z : Int32} {v0 c0 : Value} (E : RoadKit.Exa Z h x ST) (V : RoadKit.Fld Z h x ST "value" "[B" v0) (C : RoadKit.Fld Z h x ST "coder" "B" c0) (K : RoadKit.Arr Z h b A .char) (hty : Typed .char A) (S : RoadKit.Sta Z h ST "COMPACT_STRINGS" "Z" (.int z)) (hz : ¬ z = 0)
    (l0 : 0 < A.slots.size) (l2 : A.slots.size ≤ 536870912) (hp : ∀ i, i < A.slots.size → ¬ 255 < cv A i) (hfr : 4 ≤ R.frames) (hlo : W + 65 ≤ R.locals) :
    Back l R p e below s args New1.yN len W (fun P a => a = #[.ref x, .ref b] ∧ P.U.heap = h ∧ P.cells + 1 ≤ R.cells ∧ P.slots + A.slots.size ≤ R.slots)
      (fun P _ v B => ∃ L, Q Z x A h v B.U.heap L ∧ B.locs = P.locs ++ L ∧ B.cells = P.cells + 1 ∧ B.slots = P.slots + A.slots.size) := by
  intro m meth c P g ig mk a X hg hsize hdg hW hn hp'
  obtain ⟨rfl, rfl, r1, r2⟩ := hp'
  have al : Z.vm.Alike P.U.vm := hZ.alike.trans X.warmed.alike
  obtain ⟨D, cfV, kV, iV, fV, hD, gV, stV, knV, obV, asV, slV⟩ := id V
  obtain ⟨D', cfC, kC, iC, fC, hD', gC, stC, -, -, asC, slC⟩ := id C
  cases hD.symm.trans hD'
  obtain ⟨D2, kD, e1, e2, e3, e4, e5⟩ := id E
  cases hD.symm.trans e1
  obtain ⟨c2, k2, i1, i2, i3, -⟩ := Cond.instantiable_spec wi
  cases e2.symm.trans i1
  cases e3.symm.trans i2
  obtain ⟨kU, u1, u2⟩ := al.2.2 _ _ e3
  have hB : Blank ST x D P.U := ⟨hD, ⟨knV, fun q hq => by rw [hq] at obV; cases obV⟩, by rw [al.findClass]; exact e2, kU, u1, by rw [u2]; exact i3, by rw [u2]; exact e5 i3⟩
  have F1 : Found ST "value" "[B" fV P.U := ⟨SBG.found_only al ⟨cfV, kV, iV, gV⟩, stV⟩
  have F2 : Found ST "coder" "B" fC P.U := ⟨SBG.found_only al ⟨cfC, kC, iC, gC⟩, stC⟩
  have hA : Ch b A P.U := ⟨⟨K.1, State.isArrayOf_alike al K.2.1, K.2.2, by omega⟩, hty⟩
  have hS : StaticIs P.U ST "COMPACT_STRINGS" "Z" (.int z) := by
    obtain ⟨cfS, iS, kS, fS, st, cS, t1, t2, t3, t4, t5, t6, t7⟩ := S
    exact StaticIs.there (s := { Z with heap := P.U.heap }) ⟨cfS, iS, kS, fS, st, cS, t1, t2, t3, t4, t5, (fun q => by rw [q] at t6; cases t6), t7⟩ al rfl
  obtain ⟨v, B, X', ⟨⟨hv, E', V', q1, q2, q3, q4, q5, q6, q7, q8, q9, q10, q11⟩, hl, hc, hs⟩, st⟩ := New1.pays x D fV fC b A z (tab_of (moved hZ hw)) hfr hlo m meth c P g ig mk _ X hg hsize hdg hW hn ⟨r1, r2, rfl, hB, F1, F2, hA, hS, hz, l0, l2, hp⟩
  have al' : Z.vm.Alike B.U.vm := hZ.alike.trans X'.warmed.alike
  have hsz : E'.slots.size = D.slots.size := by
    obtain ⟨-, -, -, kB, w1, w2, w3⟩ := q1
    obtain ⟨kB', y1, y2⟩ := al'.2.2 _ _ e3
    rw [q2.2.1] at w1
    cases w1.symm.trans y1
    rw [w3, e5 i3, y2]
  refine ⟨v, B, X', ⟨_, ⟨hv, ?_, ⟨by omega, fun y cy hy hn' => q10 y cy (by simpa using hn') hy, fun y cy hy => ?_⟩, q11, ⟨E', _, q1.1, by rw [q2.2.1]; exact e2, by rw [q2.2.1]; exact e3, by rw [q2.1]; exact obV, fun _ => by rw [hsz]; exact e5 i3⟩,
    ⟨E', cfV, kV, iV, fV, q1.1, gV, stV, by rw [q2.1]; exact knV, by rw [q2.1]; exact obV, by rw [q2.2.1]; exact asV, q3⟩, ⟨E', cfC, kC, iC, fC, q1.1, gC, stC, by rw [q2.1]; exact knV, by rw [q2.1]; exact obV, by rw [q2.2.1]; exact asC, q4⟩,
    ⟨V', ⟨q5.1, State.isArrayOf_alike al'.symm q5.2.1, q5.2.2.1⟩, q6, by rw [← al'.findClass]; exact q7, q8, fun j hj => by have := q9 j hj; rwa [Nat.zero_add] at this⟩, fun O n d w F n1 n2 => ?_⟩, hl, hc, hs⟩, st⟩
  · intro y hy
    simp only [List.mem_cons, List.not_mem_nil, or_false] at hy
    rcases hy with rfl | rfl <;> rfl
  · by_cases q : y = x
    · subst q
      cases hD.symm.trans hy
      exact ⟨E', q1.1, q2.2.1, q2.1, hsz⟩
    · exact ⟨cy, q10 y cy q hy, rfl, rfl, rfl⟩
  · obtain ⟨D3, cf, k, i, f, g1, g2, g3, g4, g5, g6, g7⟩ := F
    cases hD.symm.trans g1
    simp only [RoadKit.slotOf, g2, gV, gC, Option.map_some, Option.getD_some] at n1 n2
    exact ⟨E', cf, k, i, f, q1.1, g2, g3, by rw [q2.1]; exact g4, by rw [q2.1]; exact g5, by rw [q2.2.1]; exact g6, by rw [q2.2.2 f.slot (by simp [n1, n2])]; exact g7⟩
end StrChars.Road
namespace StrChars.Road
open Jvm Sem ClassFile Op Lib Jvm.Stand Jvm.Free Jvm.Free.XT
/-- WHAT COMES BACK, the byte[] as a list of values -/
def QA (Z : State) (x : Addr) (zn : Int32) (cs : List Int32) (h : Heap) (v : Option Value) (h' : Heap) (L : List Loc) : Prop := v = none ∧ (∀ y ∈ L, y.base = x) ∧ RoadKit.Keep h h' [x] ∧ h'.size = h.size + 1 ∧ RoadKit.Exa Z h' x ST ∧ RoadKit.Fld Z h' x ST "value" "[B" (.ref h.size) ∧ RoadKit.Fld Z h' x ST "coder" "B" (.int 0) ∧
  (∃ kb, Z.vm.findClass "[B" = some kb ∧ RoadKit.Arv Z h' h.size kb .byte zn (cs.map fun c => .int (lo8 c)) (.int 0)) ∧
  ∀ (O n d : String) (w : Value), RoadKit.Fld Z h x O n d w → RoadKit.slotOf Z O n d ≠ RoadKit.slotOf Z ST "value" "[B" → RoadKit.slotOf Z O n d ≠ RoadKit.slotOf Z ST "coder" "B" → RoadKit.Fld Z h' x O n d w
/-- **new String(chars) AT A CALL, THE ARRAYS AS LISTS**: the char[] at b holds cs, not empty, no char above 255 -/
theorem backArv {p : Program} {l : Launch} {e : Env} {R : Room} {s : State} {args : Array Value} {below : List Frame} {len W : Nat} {Z : State} {a0 : Array Value} {h : Heap} (hZ : Z.Warmed39 s.vm) (hw : ∀ d ∈ words, d.before a0 Z = true) {kI : Nat} (wi : (Jvm.Cond.instantiable ST kI).before a0 Z = true)
    {x b : Addr} {k : ClassId} {zn z : Int32} {cs : List Int32} {dv v0 c0 : Value} (E : RoadKit.Exa Z h x ST) (V : RoadKit.Fld Z h x ST "value" "[B" v0) (C : RoadKit.Fld Z h x ST "coder" "B" c0) (K : RoadKit.Arv Z h b k .char zn (cs.map Value.int) dv) (S : RoadKit.Sta Z h ST "COMPACT_STRINGS" "Z" (.int z)) (hz : ¬ z = 0)
    (hlen : zn.toNatClampNeg = cs.length) (h0 : 0 < cs.length) (hbig : cs.length ≤ 536870912) (hall : ∀ c ∈ cs, ¬ 255 < c) (hfr : 4 ≤ R.frames) (hlo : W + 65 ≤ R.locals) :
    Back l R p e below s args New1.yN len W (fun P a => a = #[.ref x, .ref b] ∧ P.U.heap = h ∧ P.cells + 1 ≤ R.cells ∧ P.slots + cs.length ≤ R.slots)
      (fun P _ v B => ∃ L, QA Z x zn cs h v B.U.heap L ∧ B.locs = P.locs ++ L ∧ B.cells = P.cells + 1 ∧ B.slots = P.slots + cs.length) := by
  obtain ⟨A, K1, K2, K3, K4, K5, K6⟩ := K
  have e : A.slots.size = cs.length := K3.trans hlen
  have hat : ∀ (i : Nat) (hi : i < cs.length), A.slots[i]? = some (.int cs[i]) := fun i hi => by rw [K5 i (by omega)]; simp [List.getD_eq_getElem?_getD, hi]
  have hcv : ∀ (i : Nat) (hi : i < cs.length), cv A i = cs[i] := fun i hi => by unfold cv; rw [hat i hi]
  have hty : Typed .char A := fun i v hv => by
    have hi : i < A.slots.size := (Array.getElem?_eq_some_iff.mp hv).1
    have q := K5 i hi
    rw [hv] at q
    rw [Option.some.inj q]
    exact K6 i hi
  refine Back.mono (back hZ hw wi E V C K1 hty S hz (by omega) (by omega) (fun i hi => by rw [hcv i (by omega)]; exact hall _ (List.getElem_mem _)) hfr hlo) (fun P a hp => ⟨hp.1, hp.2.1, hp.2.2.1, by rw [e]; exact hp.2.2.2⟩) (fun P a v B hp hq => ?_)
  obtain ⟨L, ⟨q1, q2, q3, q4, q5, q6, q7, ⟨V', v1, v2, v3, v4, v5⟩, q9⟩, hl, hc, hs⟩ := hq
  refine ⟨L, ⟨q1, q2, q3, q4, q5, q6, q7, ⟨V'.cls, v3, V', v1, rfl, by rw [v4, e, hlen], K4, fun i hi => ?_, fun i hi => ?_⟩, q9⟩, hl, hc, by rw [hs, e]⟩
  · have hi' : i < cs.length := by omega
    rw [v5 i (by omega), hcv i hi']; simp [List.getD_eq_getElem?_getD, hi']
  · have hi' : i < cs.length := by omega
    simp only [List.getD_eq_getElem?_getD, List.getElem?_map, List.getElem?_eq_getElem hi', Option.map_some, Option.getD_some]
    exact fits_lo8 _
end StrChars.Road
namespace StrChars.Road
open Jvm Sem ClassFile Op Lib Jvm.Stand Jvm.Free Jvm.Free.XT
/-- WHAT COMES BACK, in the writer's own shape -/
def QV (Z : State) (x : Addr) (N : Int32) (bs : List Int32) (h : Heap) (n0 : Nat) (v : Option Value) (h' : Heap) (L : List Loc) : Prop := v = none ∧ RoadKit.Fr n0 L ∧ RoadKit.Keep h h' [x] ∧ RoadKit.Exa Z h' x ST ∧ RoadKit.Fld Z h' x ST "coder" "B" (.int 0) ∧
  ∃ (t : Addr) (kb : ClassId), n0 ≤ t ∧ h.size ≤ t ∧ ¬ t = x ∧ RoadKit.Fld Z h' x ST "value" "[B" (.ref t) ∧ RoadKit.Arv Z h' t kb .byte N (bs.map Value.int) (.int 0)
/-- **new String(chars) AT A CALL, FOR THE WRITER**: a char[] of n known ints, each 0 to 255 -/
theorem backV {p : Program} {l : Launch} {e : Env} {R : Room} {s : State} {args : Array Value} {below : List Frame} {len W : Nat} {Z : State} {a0 : Array Value} {h : Heap} (hZ : Z.Warmed39 s.vm) (hw : ∀ d ∈ words, d.before a0 Z = true) {kI : Nat} (wi : (Jvm.Cond.instantiable ST kI).before a0 Z = true)
    {x b : Addr} {kC : ClassId} {cs bs : List Int32} {d v0 c0 : Value} {z N : Int32} {n n0 : Nat} (hx0 : n0 ≤ x) (hh0 : n0 ≤ h.size) (E : RoadKit.Exa Z h x ST) (V : RoadKit.Fld Z h x ST "value" "[B" v0) (C : RoadKit.Fld Z h x ST "coder" "B" c0) (K : RoadKit.Arv Z h b kC .char N (cs.map Value.int) d) (S : RoadKit.Sta Z h ST "COMPACT_STRINGS" "Z" (.int z)) (hz : ¬ z = 0)
    (hn : cs.length = n) (hN : N = Int32.ofNat n) (l0 : 0 < n) (l2 : n ≤ 4000) (hp : ∀ c ∈ cs, ¬ c < 0 ∧ ¬ (255 : Int32) < c) (hb : bs = cs.map (fun c => c.toInt8.toInt32)) (hfr : 4 ≤ R.frames) (hlo : W + 65 ≤ R.locals) :
    Back l R p e below s args (⟨"java/lang/String", "<init>", "([C)V"⟩ : MethodName) len W (fun P a => a = #[.ref x, .ref b] ∧ P.U.heap = h ∧ P.cells + 1 ≤ R.cells ∧ P.slots + n ≤ R.slots)
      (fun P _ v B => ∃ L, QV Z x N bs h n0 v B.U.heap L ∧ B.locs = P.locs ++ L ∧ B.cells = P.cells + 1 ∧ B.slots = P.slots + n) := by
  subst hn hN hb
  refine Back.mono (backArv hZ hw wi E V C K S hz (n32 (by omega)) l0 (by omega) (fun c hc => (hp c hc).2) hfr hlo) (fun P a hp => hp) (fun P a v B hp hq => ?_)
  obtain ⟨L, ⟨q1, q2, q3, q4, q5, q6, q7, ⟨kb, v1, v2⟩, q9⟩, hl, hc, hs⟩ := hq
  exact ⟨L, ⟨q1, fun y hy => by rw [q2 y hy]; exact hx0, q3, q5, q7, h.size, kb, hh0, Nat.le_refl _, Nat.ne_of_gt E.lt, q6, by rw [List.map_map]; exact v2⟩, hl, hc, hs⟩
end StrChars.Road
end Jvm.Pilot.@@N@@
namespace Jvm.RoadKit
open Sem ClassFile Op Lib Jvm.Stand Jvm.Free Jvm.LawKit
section Own
variable {p : Program} {l : Launch} {e : Env} {R : Room} {s : State} {m : MethodId} {args : Array Value} {below : List Frame} {meth : Method} {c : Code} {T : State} {locs : List Loc} {cells slots : Nat}
theorem retI (X : Stand p l e R s m args below meth c T locs cells slots) (hx : p.tables.exec = Jvm.exec) {pc : Nat} {Ls : Array Slot} {z : Int32} {rest : List Value} (hret : meth.sig.returnType = some .int) (hd : decode c.code pc = .ok (.ireturn, 1)) {fs : List Frame}
    (hl : ∀ (f : JFrame) (acts : List Action), f.method = m → f.locked = none → f.entered = [] → (doReturn e (T.setTop f) acts (some (.int z))).1 = T.setFrames fs) : Steps p.tables e below (T.setTop (mkF m pc Ls (.int z :: rest))) (T.setFrames fs) :=
  retOut X hx hret rfl (Or.inl ⟨rfl, Or.inl rfl, _, rfl⟩) hd hl
theorem retJ (X : Stand p l e R s m args below meth c T locs cells slots) (hx : p.tables.exec = Jvm.exec) {pc : Nat} {Ls : Array Slot} {z : Int64} {rest : List Value} (hret : meth.sig.returnType = some .long) (hd : decode c.code pc = .ok (.lreturn, 1)) {fs : List Frame}
    (hl : ∀ (f : JFrame) (acts : List Action), f.method = m → f.locked = none → f.entered = [] → (doReturn e (T.setTop f) acts (some (.long z))).1 = T.setFrames fs) : Steps p.tables e below (T.setTop (mkF m pc Ls (.long z :: rest))) (T.setFrames fs) :=
  retOut X hx hret rfl (Or.inr (Or.inl ⟨rfl, rfl, _, rfl⟩)) hd hl
theorem retA (X : Stand p l e R s m args below meth c T locs cells slots) (hx : p.tables.exec = Jvm.exec) {pc : Nat} {Ls : Array Slot} {t : FieldType} {z : Value} {rest : List Value} (hret : meth.sig.returnType = some t) (hn : narrow t z = z) (ht : t.isReference = true) (hz : z.isRef = true) (hd : decode c.code pc = .ok (.areturn, 1)) {fs : List Frame}
    (hl : ∀ (f : JFrame) (acts : List Action), f.method = m → f.locked = none → f.entered = [] → (doReturn e (T.setTop f) acts (some z)).1 = T.setFrames fs) : Steps p.tables e below (T.setTop (mkF m pc Ls (z :: rest))) (T.setFrames fs) :=
  retOut X hx hret hn (Or.inr (Or.inr (Or.inr (Or.inr ⟨rfl, ht, hz⟩)))) hd hl
theorem retZ (X : Stand p l e R s m args below meth c T locs cells slots) (hx : p.tables.exec = Jvm.exec) {pc : Nat} {Ls : Array Slot} {z r : Int32} {t : FieldType} {rest : List Value} (hret : meth.sig.returnType = some t) (ht : t = .boolean ∨ t = .byte ∨ t = .char ∨ t = .short)
    (hd : decode c.code pc = .ok (.ireturn, 1)) (hn : nar t z = r) {fs : List Frame} (hl : ∀ (f : JFrame) (acts : List Action), f.method = m → f.locked = none → f.entered = [] → (doReturn e (T.setTop f) acts (some (.int r))).1 = T.setFrames fs) :
    Steps p.tables e below (T.setTop (mkF m pc Ls (.int z :: rest))) (T.setFrames fs) := retN X hx hret ht hd (by rw [hn]; exact hl)
theorem ownUp (X : Stand p l e R s m args below meth c T locs cells slots) {cells' slots' : Nat} (h1 : cells ≤ cells') (h2 : slots ≤ slots') : Stand p l e R s m args below meth c T locs cells' slots' :=
  ⟨X.admits, X.cas, X.clock, X.frames, X.room, X.hears, X.method, X.code, X.here, X.tail, X.warmed, X.limits, X.bytes, X.same.mono h1 h2⟩
theorem own_hide (X : Stand p l e R s m args below meth c T locs cells slots) {n0 : Nat} (N : Fr n0 locs) : ∃ L, Stand p l e R s m args below meth c T L cells slots ∧ Fr n0 L := ⟨_, X, N⟩
end Own
def Go (tb : Tables) (e : Env) (below : List Frame) (P : Outcome → State → Prop) (T : State) (f : JFrame) : Prop :=
  ∃ s₂ o, Steps tb e below (T.setTop f) s₂ ∧ s₂.status = .running ∧ Ended s₂ below o ∧ P o s₂
theorem Go.via {tb : Tables} {e : Env} {below : List Frame} {P : Outcome → State → Prop} {T T' : State} {f f' : JFrame} (st : ∀ t, Steps tb e below (T'.setTop f') t → Steps tb e below (T.setTop f) t) (k : Go tb e below P T' f') : Go tb e below P T f := by
  obtain ⟨s₂, o, h, r⟩ := k; exact ⟨s₂, o, st _ h, r⟩
theorem Go.hop {tb : Tables} {e : Env} {below : List Frame} {P : Outcome → State → Prop} {T T' : State} {f f' : JFrame} (st : Steps tb e below (T.setTop f) (T'.setTop f')) (k : Go tb e below P T' f') : Go tb e below P T f := by
  obtain ⟨s₂, o, h, r⟩ := k; exact ⟨s₂, o, st.trans h, r⟩
theorem own_nin0 {a : Addr} : a ∉ ([] : List Addr) := fun q => nomatch q
theorem own_ninC {a b : Addr} {l : List Addr} (h : a ≠ b) (h' : a ∉ l) : a ∉ b :: l := fun q => (List.mem_cons.mp q).elim h h'
theorem own_nb {x : Int32} (h : x = 0 ∨ x = 1) : nar .boolean x = x := by rcases h with rfl | rfl <;> rfl
theorem own_nnb {x : Int32} (h : x = 0 ∨ x = 1) : narrow .boolean (.int x) = .int x := by rcases h with rfl | rfl <;> rfl
theorem own_fb {x : Int32} (h : x = 0 ∨ x = 1) : fits .boolean (.int x) = true := by rcases h with rfl | rfl <;> rfl
theorem own_all0 {P : Addr → Prop} : ∀ x ∈ ([] : List Addr), P x := fun _ q => nomatch q
theorem own_allC {P : Addr → Prop} {a : Addr} {l : List Addr} (h : P a) (h' : ∀ x ∈ l, P x) : ∀ x ∈ a :: l, P x := fun x q => (List.mem_cons.mp q).elim (fun e => e ▸ h) (h' x)
theorem own_dc0 : FP.dconst0 = FP.l2d (0 : Int64) := by decide +kernel
theorem own_dc1 : FP.dconst1 = FP.l2d (1 : Int64) := by decide +kernel
theorem own_m0 {k : Int32} : ∀ p ∈ ([] : List (Int × Int)), p.1 ≠ k.toInt := fun _ q => nomatch q
theorem own_mC {k x : Int32} {a o : Int} {l : List (Int × Int)} (h : ¬ k = x) (hx : x.toInt = a) (t : ∀ p ∈ l, p.1 ≠ k.toInt) : ∀ p ∈ (a, o) :: l, p.1 ≠ k.toInt := fun p q => (List.mem_cons.mp q).elim (fun e r => h (Int32.toInt_inj.mp (by rw [hx, ← r, e]))) (t p)
theorem own_cat {v : Value} (h : v.isRef = true) : v.category = 1 := by rcases ref_cases h with rfl | ⟨a, rfl⟩ <;> rfl
theorem own_nat {n : Nat} (h : n < 2147483648) : n.toInt32.toInt = n := len_toInt h
theorem own_ltN {i n : Nat} (hi : i < 2147483648) (hn : n < 2147483648) : i.toInt32 < n.toInt32 ↔ i < n := by
  rw [Int32.lt_iff_toInt_lt, own_nat hi, own_nat hn]; omega
theorem own_succ (i : Nat) : i.toInt32 + 1 = (i + 1).toInt32 := (Int32.ofNat_add i 1).symm
theorem own_nneg {i : Nat} (hi : i < 2147483648) : ¬ i.toInt32 < 0 := by
  rw [Int32.lt_iff_toInt_lt, own_nat hi]; simp
theorem own_clamp {i : Nat} (hi : i < 2147483648) : i.toInt32.toNatClampNeg = i := by
  show i.toInt32.toInt.toNat = i
  rw [own_nat hi]; rfl
end Jvm.RoadKit
namespace Jvm.Pilot.@@N@@
open Jvm Jvm.ClassFile Sem Op Lib Jvm.Free Jvm.Stand Jvm.LawKit Jvm.RoadKit Bundle Jvm.Pilot.@@N@@.Jvm.D
theorem own_elr {t u : Term} {args : Array Value} {s : State} {j : Int32} {a b : Addr} {c : Cell} {ty : FieldType} (ev : t.eval args s none [] s = some (.ref a)) (A : Arr s s.heap a c ty) (h : (Jvm.Cond.eq (.elem t (.int j)) u).value args s none s [] = some true) (eu : u.eval args s none [] s = some (.ref b)) : c.slots[j.toNatClampNeg]? = some (.ref b) := by
  have e1 := Cond.eq_refs (Cond.before_iff.mpr h) eu rfl
  exact (elem_in e1 ev (Term.int_eval j) A.1).2
theorem own_ieq {t : Term} {args : Array Value} {s : State} {k : Int32} (h : (Jvm.Cond.eq t (.int k)).value args s none s [] = some true) : t.eval args s none [] s = some (.int k) := by
  obtain ⟨x, y, e1, e2, k1, k2⟩ := cmp_v (Or.inl h)
  cases (Term.int_eval k).symm.trans e2
  obtain ⟨z, rfl⟩ := k2
  have q := gotT (Cond.eq_ints e1 (Term.int_eval k)) h
  rw [e1, q]
theorem own_len {t : Term} {args : Array Value} {s : State} {k : Int32} {a : Addr} {c : Cell} {ty : FieldType} (ev : t.eval args s none [] s = some (.ref a)) (A : Arr s s.heap a c ty) (h : (Jvm.Cond.eq (.length t) (.int k)).value args s none s [] = some true) : c.slots.size < 2 ^ 31 ∧ c.slots.size.toInt32 = k := by
  have e1 := own_ieq h
  obtain ⟨x, c', e2, e3, e4, e5⟩ := Jvm.Free.SB.Term.length_small e1
  cases ev.symm.trans e2
  cases (IntBox.arrayAt_of A.1 A.2.1 A.2.2).symm.trans e3
  exact ⟨e5, (Value.int.inj e4).symm⟩
theorem own_el {t : Term} {args : Array Value} {s : State} {j k : Int32} {a : Addr} {c : Cell} {ty : FieldType} (ev : t.eval args s none [] s = some (.ref a)) (A : Arr s s.heap a c ty) (h : (Jvm.Cond.eq (.elem t (.int j)) (.int k)).value args s none s [] = some true) : c.slots[j.toNatClampNeg]? = some (.int k) := by
  have e1 := own_ieq h
  exact (elem_in e1 ev (Term.int_eval j) A.1).2
theorem own_ch (x : Int32) : ¬ nar .char ((x &&& (255 : Int32)).toUInt32.toUInt16.toUInt32.toInt32) < 0 ∧ ¬ (255 : Int32) < nar .char ((x &&& (255 : Int32)).toUInt32.toUInt16.toUInt32.toInt32) := by
  show ¬ ((x &&& (255 : Int32)).toUInt32.toUInt16.toUInt32.toInt32).toUInt32.toUInt16.toUInt32.toInt32 < 0 ∧ ¬ (255 : Int32) < ((x &&& (255 : Int32)).toUInt32.toUInt16.toUInt32.toInt32).toUInt32.toUInt16.toUInt32.toInt32
  rw [i2c_mask, i2c_mask, Int32.lt_iff_toInt_lt, Int32.lt_iff_toInt_lt]
  have := c_and x 255 (by decide)
  have e1 : (255 : Int32).toInt = 255 := rfl
  have e2 : (0 : Int32).toInt = 0 := rfl
  omega
theorem own_al0 {P : Int32 → Prop} : ∀ c ∈ ([] : List Int32), P c := fun _ q => nomatch q
theorem own_alC {P : Int32 → Prop} {a : Int32} {l : List Int32} (h : P a) (h' : ∀ x ∈ l, P x) : ∀ x ∈ a :: l, P x := fun x q => (List.mem_cons.mp q).elim (fun e => e ▸ h) (h' x)
theorem own_ws {a0 : Array Value} {Z : State} (hw : ∀ d ∈ tables_1, d.before a0 Z = true) : ∀ d ∈ StrChars.Road.words, d.before a0 Z = true := fun d hd => hw d ((by decide +kernel : ∀ d ∈ StrChars.Road.words, d ∈ tables_1) d hd)
theorem own_shr0 (x : Int32) : x >>> ((0 : Int32) &&& 31) = x := by
  rw [← Int32.toInt_inj, c_ishr x 0 0 (by decide)]; simp
theorem own_b2c (x : Int32) : nar .char ((x &&& (255 : Int32)).toUInt32.toUInt16.toUInt32.toInt32) = x &&& 255 := by
  show ((x &&& (255 : Int32)).toUInt32.toUInt16.toUInt32.toInt32).toUInt32.toUInt16.toUInt32.toInt32 = _
  rw [i2c_mask, i2c_mask]
theorem own_nc (x : Int32) : nar .char (x &&& (255 : Int32)) = x &&& 255 := by
  show (x &&& (255 : Int32)).toUInt32.toUInt16.toUInt32.toInt32 = _
  rw [i2c_mask]
theorem own_sa {a0 : Array Value} {Z : State} (hw : ∀ d ∈ tables_1, d.before a0 Z = true) : ∀ a ∈ Bundle.stringAtoms, a.before a0 Z = true := fun d hd => by
  simp only [Bundle.stringAtoms, List.mem_cons, List.not_mem_nil, or_false] at hd
  rcases hd with rfl | rfl | rfl | rfl | rfl | rfl | rfl
  · exact hw _ (List.mem_of_getElem? (i := 1) rfl)
  · exact hw _ (List.mem_of_getElem? (i := 2) rfl)
  · exact hw _ (List.mem_of_getElem? (i := 3) rfl)
  · exact hw _ (List.mem_of_getElem? (i := 4) rfl)
  · exact hw _ (List.mem_of_getElem? (i := 5) rfl)
  · exact hw _ (List.mem_of_getElem? (i := 6) rfl)
  · exact hw _ (List.mem_of_getElem? (i := 7) rfl)
theorem own_EW {a0 : Array Value} {Z : State} (hw : ∀ d ∈ tables_1, d.before a0 Z = true) : EW Z a0 consts_1 := (EW.cons (hw _ (List.mem_of_getElem? (i := 0) rfl)) (by decide) (EW.cons (hw _ (List.mem_of_getElem? (i := 110) rfl)) (by decide) (EW.cons (hw _ (List.mem_of_getElem? (i := 109) rfl)) (by decide) (EW.cons (hw _ (List.mem_of_getElem? (i := 112) rfl)) (by decide) (EW.cons (hw _ (List.mem_of_getElem? (i := 114) rfl)) (by decide) EW.nil)))))
theorem own_rew {s t : State} {o : Outcome} {L : List Loc} {k n k' n' : Nat} (h : ReturnedEndW s o t L k n) (h1 : k ≤ k') (h2 : n ≤ n') : ReturnedEndW s o t L k' n' := ⟨h.1, h.2.1, h.2.2.1, h.2.2.2.mono h1 h2⟩
theorem own_safeS {Z : State} {EL : List (String × Nat)} {vm : Vm} {h : Heap} {x : Addr} (hal : Z.vm.Alike vm) (E : Exa Z h x "java/lang/String") (F : Fld Z h x "java/lang/String" "value" "[B" .null) : Safe Z EL vm h x := fun B => by
  obtain ⟨cell, k, e1, e2, e3, -, -⟩ := E
  obtain ⟨cell', cf, kf, i, f, f1, f2, -, -, -, -, f7⟩ := F
  cases e1.symm.trans f1
  obtain ⟨p, -, u, a, -, q, -, G, rfl | rfl⟩ := B
  · cases (show h[q.sa]? = some q.sC from G.ha).symm.trans e1
    obtain ⟨cS, ⟨⟨s1, s2, s3, ⟨cv, kv, iv, s4, s4'⟩, -, -, -, s8, -⟩, -⟩, -⟩ := G
    obtain ⟨kv', z4⟩ := ff_back (U := Wst Z vm h) hal s4
    cases f2.symm.trans z4
    cases f7.symm.trans s8
  · cases (show h[q.sd]? = some q.SA from G.hd).symm.trans e1
    obtain ⟨cS, -, -, hf, -⟩ := G
    have hf : vm.findClass "[B" = some q.SA.cls := hf
    rw [hal.findClass] at hf
    obtain ⟨k1, q1, q2⟩ := Vm.findClass_spec hf
    obtain ⟨k2, q3, q4⟩ := Vm.findClass_spec e2
    cases q1.symm.trans q3
    exact absurd (q2.symm.trans q4) (by decide)
def own_lg (bl : List Int32) : Int32 := bl.length.toInt32
theorem own_gD (l : List Int32) (i : Nat) : (l.map Value.int).getD i (.int (0 : Int32)) = .int (l.getD i 0) := by
  induction l generalizing i with
  | nil => rfl
  | cons a l ih => cases i with
    | zero => rfl
    | succ i => exact ih i
theorem own_lgj {x z : List Int32} (hx : x.length ≤ 1000) (hz : z.length ≤ 1000) (h : own_lg x = own_lg z) : x.length = z.length := by
  have q := congrArg Int32.toInt h
  unfold own_lg at q
  rw [own_nat (by omega), own_nat (by omega)] at q
  omega
theorem own_eqg {x z : List Int32} (hl : x.length = z.length) (h : ∀ j, j < x.length → x.getD j 0 = z.getD j 0) : x = z :=
  List.ext_getElem hl fun j h1 h2 => by
    have q := h j h1
    rwa [List.getD_eq_getElem?_getD, List.getD_eq_getElem?_getD, List.getElem?_eq_getElem h1, List.getElem?_eq_getElem h2] at q
theorem own_pre {x z : List Int32} {i : Nat} (h : ∀ j, j < i → x.getD j 0 = z.getD j 0) (h1 : x.getD i 0 = z.getD i 0) : ∀ j, j < i + 1 → x.getD j 0 = z.getD j 0 := fun j q => by
  by_cases e : j = i
  · subst e; exact h1
  · exact h j (by omega)
theorem own_i0 {p : Prop} [Decidable p] (h : (if p then (1 : Int32) else (0 : Int32)) = 0) : ¬ p := fun q => by rw [if_pos q] at h; exact absurd h (by decide)
theorem own_i1 {p : Prop} [Decidable p] (h : ¬ (if p then (1 : Int32) else (0 : Int32)) = 0) : p := Decidable.byContradiction fun q => h (if_neg q)
theorem own_sfun {Z : State} {h : Heap} {a b t u : Addr} {C f d : String} {kk kc : ClassId} {ty ty' : FieldType} {bx bz : List Int32} {dv dv' : Value} (F : Fld Z h a C f d (.ref t)) (G : Fld Z h b C f d (.ref u))
    (A : Arv Z h t kk ty (own_lg bx) (bx.map Value.int) dv) (B : Arv Z h u kc ty' (own_lg bz) (bz.map Value.int) dv') (hx : bx.length ≤ 1000) (hz : bz.length ≤ 1000) : a = b → bx = bz := fun e => by
  subst e
  obtain ⟨cell, cf, kf, i, g, f1, f2, -, -, -, -, f7⟩ := F
  obtain ⟨cell', cf', kf', i', g', g1, g2, -, -, -, -, g7⟩ := G
  cases f1.symm.trans g1
  cases f2.symm.trans g2
  cases Value.ref.inj (Option.some.inj (f7.symm.trans g7))
  obtain ⟨c, A1, -, S, -, H, -⟩ := A
  obtain ⟨c', B1, -, S', -, H', -⟩ := B
  cases A1.1.symm.trans B1.1
  unfold own_lg at S S'
  rw [own_clamp (by omega)] at S S'
  refine own_eqg (S.symm.trans S') fun j hj => ?_
  have q := (H j (by omega)).symm.trans (H' j (by omega))
  have q := Option.some.inj q
  rw [List.getD_eq_getElem?_getD, List.getD_eq_getElem?_getD, List.getElem?_map, List.getElem?_map, List.getElem?_eq_getElem hj, List.getElem?_eq_getElem (show j < bz.length by omega)] at q
  rw [List.getD_eq_getElem?_getD, List.getD_eq_getElem?_getD, List.getElem?_eq_getElem hj, List.getElem?_eq_getElem (show j < bz.length by omega)]
  exact Value.int.inj q
def own_by (c : Int32) : Prop := 0 ≤ c.toInt ∧ c.toInt ≤ 255
theorem own_byc (x : Int32) : own_by ((x &&& (255 : Int32)).toUInt32.toUInt16.toUInt32.toInt32) := by
  rw [i2c_mask]; exact c_and x 255 (by decide)
theorem own_nby {c : Int32} (h : own_by c) : nar .char c = c := by
  show c.toUInt32.toUInt16.toUInt32.toInt32 = c
  have q := c_i2c c
  obtain ⟨h1, h2⟩ := h
  rw [← Int32.toInt_inj]; omega
theorem own_hp {c : Int32} (h : own_by c) : ¬ nar .char c < 0 ∧ ¬ (255 : Int32) < nar .char c := by
  rw [own_nby h, Int32.lt_iff_toInt_lt, Int32.lt_iff_toInt_lt]
  obtain ⟨h1, h2⟩ := h
  have e1 : (255 : Int32).toInt = 255 := rfl
  have e2 : (0 : Int32).toInt = 0 := rfl
  omega
theorem own_byA (x : Int32) : own_by (nar .char (x &&& (255 : Int32))) := by rw [own_nc]; exact c_and x 255 (by decide)
theorem own_byL (w : Int64) : own_by (nar .char (((w &&& (255 : Int64)).toInt32).toUInt32.toUInt16.toUInt32.toInt32)) := by
  rw [Int64.toInt32_and, show (255 : Int64).toInt32 = (255 : Int32) from rfl, i2c_mask]; exact own_byA _
theorem own_by0 : own_by (0 : Int32) := by unfold own_by; decide
theorem own_allg {l : List Int32} (h : ∀ c ∈ l, own_by c) (j : Nat) : own_by (l.getD j 0) := by
  rw [List.getD_eq_getElem?_getD]
  cases e : l[j]? with
  | none => exact own_by0
  | some c => exact h c (List.mem_of_getElem? e)
theorem own_set {l : List Int32} {i : Nat} {v : Int32} (h : ∀ j, own_by (l.getD j 0)) (hv : own_by v) (j : Nat) : own_by ((l.set i v).getD j 0) := by
  rw [List.getD_eq_getElem?_getD, List.getElem?_set]
  split
  · split
    · exact hv
    · exact own_by0
  · have q := h j
    rwa [List.getD_eq_getElem?_getD] at q
theorem own_byn {c : Int32} (h : own_by c) : own_by (nar .char c) := by rw [own_nby h]; exact h
theorem own_lg0 {l : List Int32} (h : 1 ≤ l.length ∧ l.length ≤ 7) : ¬ own_lg l = 0 := fun q => by
  have e := congrArg Int32.toInt q
  unfold own_lg at e
  rw [own_nat (by omega)] at e
  have e0 : (0 : Int32).toInt = 0 := rfl
  omega
theorem own_ix (x : Int32) {l : List Int32} (h : 1 ≤ l.length ∧ l.length ≤ 7) : ¬ ((x &&& (2147483647 : Int32)) % own_lg l) < 0 ∧ ((x &&& (2147483647 : Int32)) % own_lg l) < 8 ∧ ((x &&& (2147483647 : Int32)) % own_lg l).toNatClampNeg < 8 := by
  have h1 := (c_and x 2147483647 (by decide)).1
  have e : (own_lg l).toInt = l.length := by unfold own_lg; exact own_nat (by omega)
  have h2 := (c_irem (x &&& (2147483647 : Int32)) (own_lg l) l.length e).1 h1
  rw [Int32.lt_iff_toInt_lt, Int32.lt_iff_toInt_lt]
  have e8 : (8 : Int32).toInt = 8 := rfl
  have e0 : (0 : Int32).toInt = 0 := rfl
  have b1 := Int.emod_nonneg (x &&& (2147483647 : Int32)).toInt (show (l.length : Int) ≠ 0 by omega)
  have b2 := Int.emod_lt_of_pos (x &&& (2147483647 : Int32)).toInt (show (0 : Int) < l.length by omega)
  refine ⟨by omega, by omega, ?_⟩
  unfold Int32.toNatClampNeg
  omega
theorem own_pn0 : plainName "java/lang/String" = true := by first | (simp [plainName, overriddenIn]; done) | decide +kernel
theorem d11_0 : decode jdk_42_method_149_code 0 = .ok (.aload_n 0, 1) := by decide +kernel
theorem d11_1 : decode jdk_42_method_149_code 1 = .ok (.invokespecial 1, 3) := by decide +kernel
theorem d11_4 : decode jdk_42_method_149_code 4 = .ok (.iload_n 3, 1) := by decide +kernel
theorem d11_5 : decode jdk_42_method_149_code 5 = .ok (.ifCond .ne 22, 3) := by decide +kernel
theorem d11_8 : decode jdk_42_method_149_code 8 = .ok (.aload_n 0, 1) := by decide +kernel
theorem d11_9 : decode jdk_42_method_149_code 9 = .ok (.ldc 7, 2) := by decide +kernel
theorem d11_11 : decode jdk_42_method_149_code 11 = .ok (.getfield 9, 3) := by decide +kernel
theorem d11_14 : decode jdk_42_method_149_code 14 = .ok (.putfield 9, 3) := by decide +kernel
theorem d11_17 : decode jdk_42_method_149_code 17 = .ok (.aload_n 0, 1) := by decide +kernel
theorem d11_18 : decode jdk_42_method_149_code 18 = .ok (.ldc 7, 2) := by decide +kernel
theorem d11_20 : decode jdk_42_method_149_code 20 = .ok (.getfield 15, 3) := by decide +kernel
theorem d11_23 : decode jdk_42_method_149_code 23 = .ok (.putfield 15, 3) := by decide +kernel
theorem d11_26 : decode jdk_42_method_149_code 26 = .ok (.return_, 1) := by decide +kernel
theorem ef_11 (m : MethodId) (x0 : Addr) (x1 : Addr) : entryFrame m #[(.ref x0), (.ref x1), (.int (0 : Int32)), (.int (0 : Int32)), .null] 6 = mkF m 0 #[.val (.ref x0), .val (.ref x1), .val (.int (0 : Int32)), .val (.int (0 : Int32)), .val .null, .unset] [] := by first | (simp [entryFrame, mkF, argsToLocals, Value.category]; done) | rfl
def Q11 (Z : State) (oa : Addr) (ob : Addr) (h0 : Heap) (n0 : Nat) (v : Option Value) (h : Heap) (L : List Loc) : Prop := ∃ (tb : Addr) (kk : ClassId), v = none ∧ Fr n0 L ∧ Keep h0 h [oa] ∧ Exa Z h oa "java/lang/String" ∧ Fld Z h oa "java/lang/String" "value" "[B" (.ref tb) ∧ Fld Z h oa "java/lang/String" "coder" "B" (.int (0 : Int32)) ∧ Arv Z h tb kk .byte (0 : Int32) [] (.int (0 : Int32)) ∧ (tb < h.size) ∧ (oa ≠ tb)
set_option maxRecDepth 65536 in
set_option maxHeartbeats 40000000 in
theorem rm11 (l : Launch) (Z : State) (a0 : Array Value) (hw : ∀ d ∈ tables_1, d.before a0 Z = true) (ws : List Jvm.Cond) (oa : Addr) (ob : Addr) (h0 : Heap) (n0 : Nat) (Z0 : n0 ≤ h0.size) (P0 : Exa Z h0 oa "java/lang/String") (P1 : Fld Z h0 oa "java/lang/String" "value" "[B" .null) (P2 : Fld Z h0 oa "java/lang/String" "coder" "B" (.int (0 : Int32))) (ga : n0 ≤ oa) :
    MetFree l (⟨"java/lang/String", "<init>", "([CIILjava/lang/Void;)V"⟩ : MethodName) (head1 (Jvm.Cond.code (⟨"java/lang/String", "<init>", "([CIILjava/lang/Void;)V"⟩ : MethodName) jdk_42_method_149_code 6 none :: ws) ({ frames := 1, cells := 4, slots := 8, locals := 12 } : Room)) (fun a U => a = #[(.ref oa), (.ref ob), (.int (0 : Int32)), (.int (0 : Int32)), .null] ∧ Z.Warmed39 U.vm ∧ U.heap = h0 ∧ CHv Z consts_1 U.vm h0) (fun _ _ _ _ _ => True) (fun _ U o U' => ∃ v L, o = .returned v ∧ Q11 Z oa ob h0 n0 v U'.heap L ∧ CHr Z consts_1 U.vm U.heap U'.vm U'.heap ∧ ReturnedEndW U o U' L ({ frames := 1, cells := 4, slots := 8, locals := 12 } : Room).cells ({ frames := 1, cells := 4, slots := 8, locals := 12 } : Room).slots) := by
  refine MetFree.of_bodySF (plainFor_of_name own_pn0) hisR ?_
  intro p e s m args below meth c s₁ Bd hml0 hP hK
  obtain ⟨rfl, hZ, hh, hCH0⟩ := hP
  have hx := Bd.exec
  have hby := Bd.bytes
  have hml : c.maxLocals = 6 := hml0
  have hown : s.vm.findClass "java/lang/String" = some m.cls := findClass_of_methodNamed Bd.named
  have hnm := (name_of_methodNamed Bd.named Bd.method).1
  have X0 : Stand p l e ({ frames := 1, cells := 4, slots := 8, locals := 12 } : Room) s m #[(.ref oa), (.ref ob), (.int (0 : Int32)), (.int (0 : Int32)), .null] below meth c s₁ [] 0 0 := Stand.of_body Bd
  have X0 : Stand p l e ({ frames := 1, cells := 4, slots := 8, locals := 12 } : Room) (s.setVm s.vm) m #[(.ref oa), (.ref ob), (.int (0 : Int32)), (.int (0 : Int32)), .null] below meth c s₁ [] 0 0 := X0
  have hZ : Z.Warmed39 (s.setVm s.vm).vm := hZ
  have hown : (s.setVm s.vm).vm.findClass "java/lang/String" = some m.cls := hown
  have hS0 : s.Since s.vm 0 := State.WarmedH.since (State.WarmedH.refl s) 0
  have CR0 : CHr Z consts_1 s.vm h0 s.vm h0 := CHr.refl hCH0
  have e0 : s₁.heap = h0 := by rw [← hh, Bd.state]; rfl
  have N0 := Fr.nil n0
  have K0 : Keep h0 h0 [oa] := Keep.refl _ _
  suffices GO : ∀ P : Outcome → State → Prop, (∀ o U', (∃ v L, o = .returned v ∧ Q11 Z oa ob h0 n0 v U'.heap L ∧ CHr Z consts_1 s.vm s.heap U'.vm U'.heap ∧ ReturnedEndW s o U' L ({ frames := 1, cells := 4, slots := 8, locals := 12 } : Room).cells ({ frames := 1, cells := 4, slots := 8, locals := 12 } : Room).slots) → P o U') → Go p.tables e below P s₁ (mkF m 0 #[.val (.ref oa), .val (.ref ob), .val (.int (0 : Int32)), .val (.int (0 : Int32)), .val .null, .unset] []) by
    obtain ⟨s2, o, st, r⟩ := GO _ (fun _ _ q => q)
    exact ⟨s2, o, castTop (ef_11 m oa ob) st, r⟩
  intro P hP
  show Go p.tables e below P s₁ (mkF m 0 #[.val (.ref oa), .val (.ref ob), .val (.int (0 : Int32)), .val (.int (0 : Int32)), .val .null, .unset] [])
  refine Go.via (fun t k => XS.aloadN X0.here hx rfl (hb hby d11_0) rfl rfl k) ?_
  show Go p.tables e below P s₁ (mkF m 1 #[.val (.ref oa), .val (.ref ob), .val (.int (0 : Int32)), .val (.int (0 : Int32)), .val .null, .unset] [(.ref oa)])
  obtain ⟨T1, X1, e1, st1⟩ := initO X0 hx hZ hown (hw _ (List.mem_of_getElem? (i := 60) rfl)) (hw _ (List.mem_of_getElem? (i := 61) rfl)) (hw _ (List.mem_of_getElem? (i := 62) rfl)) e0 (g := (mkF m 1 #[.val (.ref oa), .val (.ref ob), .val (.int (0 : Int32)), .val (.int (0 : Int32)), .val .null, .unset] [(.ref oa)])) rfl (by rw [hml]; rfl) rfl (hb hby d11_1) (by decide) (W := 0) (by show 2 * 0 + _ ≤ _; exact Nat.le_of_eq rfl) (by decide)
  refine Go.via st1 ?_
  show Go p.tables e below P T1 (mkF m 4 #[.val (.ref oa), .val (.ref ob), .val (.int (0 : Int32)), .val (.int (0 : Int32)), .val .null, .unset] [])
  refine Go.via (fun t k => XS.iloadN X1.here hx rfl (hb hby d11_4) rfl k) ?_
  show Go p.tables e below P T1 (mkF m 5 #[.val (.ref oa), .val (.ref ob), .val (.int (0 : Int32)), .val (.int (0 : Int32)), .val .null, .unset] [(.int (0 : Int32))])
  refine Go.via (fun t k => XS.ifNo X1.here hx rfl (hb hby d11_5) rfl ((if0 _ _).trans (teq (rfl : (0 : Int32) = (0 : Int32))).2) k) ?_
  show Go p.tables e below P T1 (mkF m 8 #[.val (.ref oa), .val (.ref ob), .val (.int (0 : Int32)), .val (.int (0 : Int32)), .val .null, .unset] [])
  refine Go.via (fun t k => XS.aloadN X1.here hx rfl (hb hby d11_8) rfl rfl k) ?_
  show Go p.tables e below P T1 (mkF m 9 #[.val (.ref oa), .val (.ref ob), .val (.int (0 : Int32)), .val (.int (0 : Int32)), .val .null, .unset] [(.ref oa)])
  obtain ⟨a2, T2, h2, kn2, b2, kb2, X2, e2, E2, hS2, hk2, hZ, hown, Ex2, Fc2, Fv2, Va2, lta2, ltb2, hC2, -, ne2, st2⟩ := ldcCH X1 hx hZ hown (hw _ (List.mem_of_getElem? (i := 114) rfl)) (own_sa hw) e1 hS0 (Nat.zero_le _) (own_EW hw) (by decide : (("java/lang/String", 7) : String × Nat) ∈ consts_1) CR0.1 (vs := []) (z := (0 : Int32)) ⟨by decide, rfl⟩ (by decide) rfl (g := (mkF m 9 #[.val (.ref oa), .val (.ref ob), .val (.int (0 : Int32)), .val (.int (0 : Int32)), .val .null, .unset] [(.ref oa)])) rfl (hb hby d11_9) (n := 0) (by decide) (by decide) (by decide) (by decide)
  refine Go.via st2 ?_
  have CR3 := CHr.trans CR0 hC2
  have Z4 : n0 ≤ h2.size := Nat.le_trans Z0 E2.1
  have K5 : Keep h0 h2 [oa] := K0.ext E2
  have Vb2 : Arv Z h2 b2 kb2 .byte (own_lg ([] : List Int32)) (([] : List Int32).map Value.int) (.int (0 : Int32)) := by
    rw [show own_lg ([] : List Int32) = (0 : Int32) from rfl]; exact Va2
  have F6 : Exa Z h2 oa "java/lang/String" := (P0.ext E2)
  have F7 : Fld Z h2 oa "java/lang/String" "value" "[B" .null := (P1.ext E2)
  have nq8 := (ne2 _ (own_safeS hZ.alike F6 F7)).1
  have nq9 := (ne2 _ (own_safeS hZ.alike F6 F7)).2
  show Go p.tables e below P T2 (mkF m 11 #[.val (.ref oa), .val (.ref ob), .val (.int (0 : Int32)), .val (.int (0 : Int32)), .val .null, .unset] [(.ref a2), (.ref oa)])
  obtain ⟨T10, X10, e10, st10⟩ := getF X2 hx hZ hown (host := "") (Or.inl (hw _ (List.mem_of_getElem? (i := 18) rfl))) Via.refl e2 Fv2 (g := (mkF m 11 #[.val (.ref oa), .val (.ref ob), .val (.int (0 : Int32)), .val (.int (0 : Int32)), .val .null, .unset] [(.ref a2), (.ref oa)])) rfl rfl (hb hby d11_11)
  refine Go.via st10 ?_
  show Go p.tables e below P T10 (mkF m 14 #[.val (.ref oa), .val (.ref ob), .val (.int (0 : Int32)), .val (.int (0 : Int32)), .val .null, .unset] [(.ref b2), (.ref oa)])
  have F11 : Fld Z h2 oa "java/lang/String" "coder" "B" (.int (0 : Int32)) := (P2.ext E2)
  obtain ⟨T12, h12, X12, e12, W12, st12⟩ := putF X10 hx hZ hown (host := "") (Or.inl (hw _ (List.mem_of_getElem? (i := 18) rfl))) Via.refl e10 F7 F6 (Or.inr ⟨(hw _ (List.mem_of_getElem? (i := 4) rfl)), rfl, hnm⟩) (hw _ (List.mem_of_getElem? (i := 2) rfl)) (ty := (.array .byte)) (by decide) rfl rfl (g := (mkF m 14 #[.val (.ref oa), .val (.ref ob), .val (.int (0 : Int32)), .val (.int (0 : Int32)), .val .null, .unset] [(.ref b2), (.ref oa)])) rfl rfl (hb hby d11_14)
  refine Go.via st12 ?_
  have Z13 : n0 ≤ h12.size := Nat.le_trans Z4 (Nat.le_of_eq W12.size.symm)
  have K14 : Keep h0 h12 [oa] := K5.wr W12 (Or.inl (List.mem_of_getElem? (i := 0) rfl))
  obtain ⟨lc12, Xh12, N15⟩ := own_hide X12 (Fr.snoc X12 N0 ga)
  clear X12
  have Sf12 := Safe.wr W12 (own_safeS hZ.alike F6 F7) CR3.1 (own_safeS hZ.alike F6 F7)
  have CR16 := CHr.trans CR3 (CHr.wr W12 (own_safeS hZ.alike F6 F7) CR3.1)
  have hk17 := Nat.le_trans hk2 (Nat.le_of_eq W12.size.symm)
  have Fw12 := F7.same W12
  show Go p.tables e below P T12 (mkF m 17 #[.val (.ref oa), .val (.ref ob), .val (.int (0 : Int32)), .val (.int (0 : Int32)), .val .null, .unset] [])
  refine Go.via (fun t k => XS.aloadN Xh12.here hx rfl (hb hby d11_17) rfl rfl k) ?_
  show Go p.tables e below P T12 (mkF m 18 #[.val (.ref oa), .val (.ref ob), .val (.int (0 : Int32)), .val (.int (0 : Int32)), .val .null, .unset] [(.ref oa)])
  have F18 : Exa Z h12 oa "java/lang/String" := (F6.wr W12)
  have F19 : Fld Z h12 oa "java/lang/String" "coder" "B" (.int (0 : Int32)) := (F11.other W12 (Or.inr (slot_ne (Or.inr (hw _ (List.mem_of_getElem? (i := 5) rfl))) (Or.inr (hw _ (List.mem_of_getElem? (i := 4) rfl))) (by decide) (t := .byte) (t' := (.array .byte)) (by decide) (by decide))))
  have F20 : Exa Z h12 a2 "java/lang/String" := (Ex2.wr W12)
  have F21 : Fld Z h12 a2 "java/lang/String" "coder" "B" (.int (0 : Int32)) := (Fc2.other W12 (Or.inl (Ne.symm nq8)))
  have F22 : Fld Z h12 a2 "java/lang/String" "value" "[B" (.ref b2) := (Fv2.other W12 (Or.inl (Ne.symm nq8)))
  have F23 : Arv Z h12 b2 kb2 .byte (own_lg ([] : List Int32)) (([] : List Int32).map Value.int) (.int (0 : Int32)) := (Vb2.other W12 (Ne.symm nq9))
  obtain ⟨a24, T24, h24, kn24, b24, kb24, X24, e24, E24, hS24, hk24, hZ, hown, Ex24, Fc24, Fv24, Va24, lta24, ltb24, hC24, -, ne24, st24⟩ := ldcCH Xh12 hx hZ hown (hw _ (List.mem_of_getElem? (i := 114) rfl)) (own_sa hw) e12 hS2 hk17 (own_EW hw) (by decide : (("java/lang/String", 7) : String × Nat) ∈ consts_1) CR16.1 (vs := []) (z := (0 : Int32)) ⟨by decide, rfl⟩ (by decide) rfl (g := (mkF m 18 #[.val (.ref oa), .val (.ref ob), .val (.int (0 : Int32)), .val (.int (0 : Int32)), .val .null, .unset] [(.ref oa)])) rfl (hb hby d11_18) (n := 0) (by decide) (by decide) (by decide) (by decide)
  refine Go.via st24 ?_
  have Sf25 := CHr.safe hC24 F18.lt Sf12
  have CR26 := CHr.trans CR16 hC24
  have Z27 : n0 ≤ h24.size := Nat.le_trans Z13 E24.1
  have K28 : Keep h0 h24 [oa] := K14.ext E24
  have Vb24 : Arv Z h24 b24 kb24 .byte (own_lg ([] : List Int32)) (([] : List Int32).map Value.int) (.int (0 : Int32)) := by
    rw [show own_lg ([] : List Int32) = (0 : Int32) from rfl]; exact Va24
  have nq29 := (ne24 _ Sf25).1
  have nq30 := (ne24 _ Sf25).2
  show Go p.tables e below P T24 (mkF m 20 #[.val (.ref oa), .val (.ref ob), .val (.int (0 : Int32)), .val (.int (0 : Int32)), .val .null, .unset] [(.ref a24), (.ref oa)])
  obtain ⟨T31, X31, e31, st31⟩ := getF X24 hx hZ hown (host := "") (Or.inl (hw _ (List.mem_of_getElem? (i := 25) rfl))) Via.refl e24 Fc24 (g := (mkF m 20 #[.val (.ref oa), .val (.ref ob), .val (.int (0 : Int32)), .val (.int (0 : Int32)), .val .null, .unset] [(.ref a24), (.ref oa)])) rfl rfl (hb hby d11_20)
  refine Go.via st31 ?_
  show Go p.tables e below P T31 (mkF m 23 #[.val (.ref oa), .val (.ref ob), .val (.int (0 : Int32)), .val (.int (0 : Int32)), .val .null, .unset] [(.int (0 : Int32)), (.ref oa)])
  have F32 : Exa Z h24 oa "java/lang/String" := (F18.ext E24)
  have F33 : Fld Z h24 oa "java/lang/String" "coder" "B" (.int (0 : Int32)) := (F19.ext E24)
  have F34 : Fld Z h24 oa "java/lang/String" "value" "[B" (.ref b2) := (Fw12.ext E24)
  have F35 : Exa Z h24 a2 "java/lang/String" := (F20.ext E24)
  have F36 : Fld Z h24 a2 "java/lang/String" "coder" "B" (.int (0 : Int32)) := (F21.ext E24)
  have F37 : Fld Z h24 a2 "java/lang/String" "value" "[B" (.ref b2) := (F22.ext E24)
  have F38 : Arv Z h24 b2 kb2 .byte (own_lg ([] : List Int32)) (([] : List Int32).map Value.int) (.int (0 : Int32)) := (F23.ext E24)
  obtain ⟨T39, h39, X39, e39, W39, st39⟩ := putF X31 hx hZ hown (host := "") (Or.inl (hw _ (List.mem_of_getElem? (i := 25) rfl))) Via.refl e31 F33 F32 (Or.inr ⟨(hw _ (List.mem_of_getElem? (i := 5) rfl)), rfl, hnm⟩) (hw _ (List.mem_of_getElem? (i := 2) rfl)) (ty := .byte) (by decide) rfl rfl (g := (mkF m 23 #[.val (.ref oa), .val (.ref ob), .val (.int (0 : Int32)), .val (.int (0 : Int32)), .val .null, .unset] [(.int (0 : Int32)), (.ref oa)])) rfl rfl (hb hby d11_23)
  refine Go.via st39 ?_
  have Z40 : n0 ≤ h39.size := Nat.le_trans Z27 (Nat.le_of_eq W39.size.symm)
  have K41 : Keep h0 h39 [oa] := K28.wr W39 (Or.inl (List.mem_of_getElem? (i := 0) rfl))
  obtain ⟨lc39, Xh39, N42⟩ := own_hide X39 (Fr.snoc X39 N15 ga)
  clear X39
  have Sf39 := Safe.wr W39 Sf25 CR26.1 Sf25
  have CR43 := CHr.trans CR26 (CHr.wr W39 Sf25 CR26.1)
  have hk44 := Nat.le_trans hk24 (Nat.le_of_eq W39.size.symm)
  have Fw39 := F33.same W39
  show Go p.tables e below P T39 (mkF m 26 #[.val (.ref oa), .val (.ref ob), .val (.int (0 : Int32)), .val (.int (0 : Int32)), .val .null, .unset] [])
  have F46 : Arv Z h39 b2 kb2 .byte (own_lg ([] : List Int32)) (([] : List Int32).map Value.int) (.int (0 : Int32)) := (F38.other W39 (Ne.symm nq9))
  obtain ⟨fs, hr, hrun, hended, hend⟩ := Xh39.leaveW hS24 (by rw [e39]; exact hk44) (v := none) (fun _ => rfl)
  have F47 : Exa Z h39 oa "java/lang/String" := (F32.wr W39)
  have F48 : Fld Z h39 oa "java/lang/String" "value" "[B" (.ref b2) := (F34.other W39 (Or.inr (slot_ne (Or.inr (hw _ (List.mem_of_getElem? (i := 4) rfl))) (Or.inr (hw _ (List.mem_of_getElem? (i := 5) rfl))) (by decide) (t := (.array .byte)) (t' := .byte) (by decide) (by decide))))
  have hCf : CHr Z consts_1 s.vm s.heap (T39.setFrames fs).vm (T39.setFrames fs).heap := by
    rw [hh]
    show CHr Z consts_1 s.vm h0 T39.vm T39.heap
    rw [e39]
    exact CHr.trans CR43 (CHv.at Xh39 hZ (own_EW hw) CR43.1)
  refine ⟨_, _, Xh39.returnOut hx Bd.returns (hb hby d11_26) hr, hrun, hended, hP _ _ ⟨_, _, rfl, ?_, hCf, own_rew hend (by decide) (by decide)⟩⟩
  show Q11 Z oa ob h0 n0 _ T39.heap _
  rw [e39]
  exact ⟨b2, kb2, rfl, N42, K41, F47, F48, Fw39, F46, (F46.lt), nq9⟩
theorem own_pd0 : parseMethodDescriptor "([CIILjava/lang/Void;)V" = some ⟨[(.array .char), .int, .int, (.object "java/lang/Void")], none⟩ := by decide +kernel
theorem d10_0 : decode jdk_42_method_3_code 0 = .ok (.aload_n 0, 1) := by decide +kernel
theorem d10_1 : decode jdk_42_method_3_code 1 = .ok (.aload_n 1, 1) := by decide +kernel
theorem d10_2 : decode jdk_42_method_3_code 2 = .ok (.iconst 0, 1) := by decide +kernel
theorem d10_3 : decode jdk_42_method_3_code 3 = .ok (.aload_n 1, 1) := by decide +kernel
theorem d10_4 : decode jdk_42_method_3_code 4 = .ok (.arraylength, 1) := by decide +kernel
theorem d10_5 : decode jdk_42_method_3_code 5 = .ok (.aconst_null, 1) := by decide +kernel
theorem d10_6 : decode jdk_42_method_3_code 6 = .ok (.invokespecial 27, 3) := by decide +kernel
theorem d10_9 : decode jdk_42_method_3_code 9 = .ok (.return_, 1) := by decide +kernel
theorem ef_10 (m : MethodId) (x0 : Addr) (x1 : Addr) : entryFrame m #[(.ref x0), (.ref x1)] 2 = mkF m 0 #[.val (.ref x0), .val (.ref x1)] [] := by first | (simp [entryFrame, mkF, argsToLocals, Value.category]; done) | rfl
def Q10 (Z : State) (oa : Addr) (ob : Addr) (kc : ClassId) (vs : List Value) (dv : Value) (h0 : Heap) (n0 : Nat) (v : Option Value) (h : Heap) (L : List Loc) : Prop := ∃ (tb : Addr) (kk : ClassId), v = none ∧ Fr n0 L ∧ Keep h0 h [oa] ∧ Exa Z h oa "java/lang/String" ∧ Fld Z h oa "java/lang/String" "value" "[B" (.ref tb) ∧ Fld Z h oa "java/lang/String" "coder" "B" (.int (0 : Int32)) ∧ Arv Z h tb kk .byte (0 : Int32) [] (.int (0 : Int32)) ∧ (tb < h.size) ∧ (oa ≠ tb)
set_option maxRecDepth 65536 in
set_option maxHeartbeats 40000000 in
theorem rm10 (l : Launch) (Z : State) (a0 : Array Value) (hw : ∀ d ∈ tables_1, d.before a0 Z = true) (ws : List Jvm.Cond) (oa : Addr) (ob : Addr) (kc : ClassId) (vs : List Value) (dv : Value) (h0 : Heap) (n0 : Nat) (Z0 : n0 ≤ h0.size) (P0 : Exa Z h0 oa "java/lang/String") (P1 : Fld Z h0 oa "java/lang/String" "value" "[B" .null) (P2 : Fld Z h0 oa "java/lang/String" "coder" "B" (.int (0 : Int32))) (ga : n0 ≤ oa) (P4 : Arv Z h0 ob kc .char (0 : Int32) vs dv) :
    MetFree l (⟨"java/lang/String", "<init>", "([C)V"⟩ : MethodName) (head1 (Jvm.Cond.code (⟨"java/lang/String", "<init>", "([C)V"⟩ : MethodName) jdk_42_method_3_code 2 none :: ws) ({ frames := 2, cells := 4, slots := 8, locals := 29 } : Room)) (fun a U => a = #[(.ref oa), (.ref ob)] ∧ Z.Warmed39 U.vm ∧ U.heap = h0 ∧ CHv Z consts_1 U.vm h0) (fun _ _ _ _ _ => True) (fun _ U o U' => ∃ v L, o = .returned v ∧ Q10 Z oa ob kc vs dv h0 n0 v U'.heap L ∧ CHr Z consts_1 U.vm U.heap U'.vm U'.heap ∧ ReturnedEndW U o U' L ({ frames := 2, cells := 4, slots := 8, locals := 29 } : Room).cells ({ frames := 2, cells := 4, slots := 8, locals := 29 } : Room).slots) := by
  refine MetFree.of_bodySF (plainFor_of_name own_pn0) hisR ?_
  intro p e s m args below meth c s₁ Bd hml0 hP hK
  obtain ⟨rfl, hZ, hh, hCH0⟩ := hP
  have hx := Bd.exec
  have hby := Bd.bytes
  have hml : c.maxLocals = 2 := hml0
  have hown : s.vm.findClass "java/lang/String" = some m.cls := findClass_of_methodNamed Bd.named
  have hnm := (name_of_methodNamed Bd.named Bd.method).1
  have X0 : Stand p l e ({ frames := 2, cells := 4, slots := 8, locals := 29 } : Room) s m #[(.ref oa), (.ref ob)] below meth c s₁ [] 0 0 := Stand.of_body Bd
  have X0 : Stand p l e ({ frames := 2, cells := 4, slots := 8, locals := 29 } : Room) (s.setVm s.vm) m #[(.ref oa), (.ref ob)] below meth c s₁ [] 0 0 := X0
  have hZ : Z.Warmed39 (s.setVm s.vm).vm := hZ
  have hown : (s.setVm s.vm).vm.findClass "java/lang/String" = some m.cls := hown
  have hS0 : s.Since s.vm 0 := State.WarmedH.since (State.WarmedH.refl s) 0
  have CR0 : CHr Z consts_1 s.vm h0 s.vm h0 := CHr.refl hCH0
  have e0 : s₁.heap = h0 := by rw [← hh, Bd.state]; rfl
  have N0 := Fr.nil n0
  have K0 : Keep h0 h0 [oa] := Keep.refl _ _
  suffices GO : ∀ P : Outcome → State → Prop, (∀ o U', (∃ v L, o = .returned v ∧ Q10 Z oa ob kc vs dv h0 n0 v U'.heap L ∧ CHr Z consts_1 s.vm s.heap U'.vm U'.heap ∧ ReturnedEndW s o U' L ({ frames := 2, cells := 4, slots := 8, locals := 29 } : Room).cells ({ frames := 2, cells := 4, slots := 8, locals := 29 } : Room).slots) → P o U') → Go p.tables e below P s₁ (mkF m 0 #[.val (.ref oa), .val (.ref ob)] []) by
    obtain ⟨s2, o, st, r⟩ := GO _ (fun _ _ q => q)
    exact ⟨s2, o, castTop (ef_10 m oa ob) st, r⟩
  intro P hP
  show Go p.tables e below P s₁ (mkF m 0 #[.val (.ref oa), .val (.ref ob)] [])
  refine Go.via (fun t k => XS.aloadN X0.here hx rfl (hb hby d10_0) rfl rfl k) ?_
  refine Go.via (fun t k => XS.aloadN X0.here hx rfl (hb hby d10_1) rfl rfl k) ?_
  refine Go.via (fun t k => XS.iconst X0.here hx rfl (hb hby d10_2) k) ?_
  show Go p.tables e below P s₁ (mkF m 3 #[.val (.ref oa), .val (.ref ob)] [(.int (0 : Int32)), (.ref ob), (.ref oa)])
  refine Go.via (fun t k => XS.aloadN X0.here hx rfl (hb hby d10_3) rfl rfl k) ?_
  show Go p.tables e below P s₁ (mkF m 4 #[.val (.ref oa), .val (.ref ob)] [(.ref ob), (.int (0 : Int32)), (.ref ob), (.ref oa)])
  obtain ⟨c1, A1, -, S1, N1, -, -⟩ := id P4
  refine Go.via (fun t k => X0.arraylength hx (by rw [e0]; exact A1.1) (State.isArrayOf_alike hZ.alike A1.2.1) (g := (mkF m 4 #[.val (.ref oa), .val (.ref ob)] [(.ref ob), (.int (0 : Int32)), (.ref ob), (.ref oa)])) rfl rfl (hb hby d10_4) t (by rw [len_of S1 N1]; exact k)) ?_
  show Go p.tables e below P s₁ (mkF m 5 #[.val (.ref oa), .val (.ref ob)] [(.int (0 : Int32)), (.int (0 : Int32)), (.ref ob), (.ref oa)])
  refine Go.via (fun t k => XS.aconstNull X0.here hx rfl (hb hby d10_5) k) ?_
  show Go p.tables e below P s₁ (mkF m 6 #[.val (.ref oa), .val (.ref ob)] [.null, (.int (0 : Int32)), (.int (0 : Int32)), (.ref ob), (.ref oa)])
  obtain ⟨_, _, ⟨T2, L2, k2, n2⟩, -, X2, hSn2, hgn2, ⟨Lc2, hQ2, l2, y2, z2, hC2⟩, st2⟩ := X0.specialBackS hx (y := (⟨"java/lang/String", "<init>", "([CIILjava/lang/Void;)V"⟩ : MethodName)) rfl hown (mvT hZ (hw _ (List.mem_of_getElem? (i := 56) rfl))) (mvT hZ (hw _ (List.mem_of_getElem? (i := 57) rfl))) (mvT hZ (hw _ (List.mem_of_getElem? (i := 59) rfl))) (by decide) (backOfSH (W := 0) (rm11 l Z a0 hw [] oa ob h0 n0 Z0 P0 P1 P2 ga) hZ (hw _ (List.mem_of_getElem? (i := 59) rfl)) (hw _ (List.mem_of_getElem? (i := 1) rfl)) (by decide) (by decide) (own_EW hw) CR0.1) (g := (mkF m 6 #[.val (.ref oa), .val (.ref ob)] [.null, (.int (0 : Int32)), (.int (0 : Int32)), (.ref ob), (.ref oa)])) rfl (by rw [hml]; rfl) (Steps.refl _) (a := oa) (argsL := [(.ref ob), (.int (0 : Int32)), (.int (0 : Int32)), .null]) (rest := []) (lenOf own_pd0 rfl) rfl (by show 2 * 0 + _ ≤ _; exact Nat.le_of_eq rfl) (hb hby d10_6) (fun _ _ => ⟨rfl, e0, (by decide : 0 + 4 ≤ _), (by decide : 0 + 8 ≤ _)⟩)
  dsimp only [Pt.U, Pt.locs, Pt.cells, Pt.slots] at X2 l2 y2 z2 st2 hQ2 hSn2 hgn2 hC2
  subst l2 y2 z2
  have hS2 : s.Since T2.vm T2.heap.size := foldS hS0 (by rw [e0]; exact (Nat.zero_le _)) hSn2 hgn2
  have X2 : Stand p l e ({ frames := 2, cells := 4, slots := 8, locals := 29 } : Room) (s.setVm T2.vm) m #[(.ref oa), (.ref ob)] below meth c T2 _ _ _ := X2
  have hown : (s.setVm T2.vm).vm.findClass "java/lang/String" = some m.cls := by rw [show (s.setVm T2.vm).vm = T2.vm from rfl, hSn2.1.alike.findClass]; exact hown
  have hZ : Z.Warmed39 (s.setVm T2.vm).vm := State.Warmed39.trans (t := s.setVm s.vm) hZ hSn2.1
  obtain ⟨tb_2, kk_2, rfl, Nq2, K2, u2_0, u2_1, u2_2, u2_3, u2_4, u2_5⟩ := hQ2
  obtain ⟨lc2, Xh2, N2⟩ := own_hide X2 (Fr.app N0 Nq2)
  clear X2
  refine Go.hop st2 ?_
  have CR3 := CHr.trans CR0 hC2
  have Z4 : n0 ≤ T2.heap.size := Nat.le_trans Z0 K2.1
  have K5 : Keep h0 T2.heap [oa] := K0.trans K2 (own_allC (Or.inl (List.mem_of_getElem? (i := 0) rfl)) own_all0)
  have hk6 : T2.heap.size ≤ T2.heap.size := Nat.le_refl _
  show Go p.tables e below P T2 (mkF m 9 #[.val (.ref oa), .val (.ref ob)] [])
  obtain ⟨fs, hr, hrun, hended, hend⟩ := Xh2.leaveW hS2 (by exact hk6) (v := none) (fun _ => rfl)
  have hCf : CHr Z consts_1 s.vm s.heap (T2.setFrames fs).vm (T2.setFrames fs).heap := by
    rw [hh]
    show CHr Z consts_1 s.vm h0 T2.vm T2.heap
    exact CHr.trans CR3 (CHv.at Xh2 hZ (own_EW hw) CR3.1)
  refine ⟨_, _, Xh2.returnOut hx Bd.returns (hb hby d10_9) hr, hrun, hended, hP _ _ ⟨_, _, rfl, ?_, hCf, own_rew hend (by decide) (by decide)⟩⟩
  show Q10 Z oa ob kc vs dv h0 n0 _ T2.heap _
  exact ⟨tb_2, kk_2, rfl, N2, K5, u2_0, u2_1, u2_2, u2_3, (u2_3.lt), u2_5⟩
theorem d3_0 : decode jdk_42_method_152_code 0 = .ok (.getstatic 38, 3) := by decide +kernel
theorem d3_3 : decode jdk_42_method_152_code 3 = .ok (.ifCond .eq 10, 3) := by decide +kernel
theorem d3_6 : decode jdk_42_method_152_code 6 = .ok (.aload_n 0, 1) := by decide +kernel
theorem d3_7 : decode jdk_42_method_152_code 7 = .ok (.getfield 15, 3) := by decide +kernel
theorem d3_10 : decode jdk_42_method_152_code 10 = .ok (.goto 4, 3) := by decide +kernel
theorem d3_14 : decode jdk_42_method_152_code 14 = .ok (.ireturn, 1) := by decide +kernel
theorem ef_3 (m : MethodId) (x0 : Addr) : entryFrame m #[(.ref x0)] 1 = mkF m 0 #[.val (.ref x0)] [] := by first | (simp [entryFrame, mkF, argsToLocals, Value.category]; done) | rfl
def Q3 (Z : State) (so : Addr) (cs : Int32) (h0 : Heap) (n0 : Nat) (v : Option Value) (h : Heap) (L : List Loc) : Prop := v = some (.int (0 : Int32)) ∧ Fr n0 L ∧ h = h0
set_option maxRecDepth 65536 in
set_option maxHeartbeats 40000000 in
theorem rm3 (l : Launch) (Z : State) (a0 : Array Value) (hw : ∀ d ∈ tables_1, d.before a0 Z = true) (ws : List Jvm.Cond) (so : Addr) (cs : Int32) (h0 : Heap) (n0 : Nat) (Z0 : n0 ≤ h0.size) (O0 : Old Z n0 h0) (P1 : Sta Z Z.heap "java/lang/String" "COMPACT_STRINGS" "Z" (.int cs)) (hcs : ¬ cs = (0 : Int32)) (P3 : Fld Z h0 so "java/lang/String" "coder" "B" (.int (0 : Int32))) :
    MetFree l (⟨"java/lang/String", "coder", "()B"⟩ : MethodName) (head1 (Jvm.Cond.code (⟨"java/lang/String", "coder", "()B"⟩ : MethodName) jdk_42_method_152_code 1 (some .byte) :: ws) ({ frames := 0, cells := 0, slots := 0, locals := 0 } : Room)) (fun a U => a = #[(.ref so)] ∧ Z.Warmed39 U.vm ∧ U.heap = h0) (fun _ _ _ _ _ => True) (fun _ U o U' => ∃ v L, o = .returned v ∧ Q3 Z so cs h0 n0 v U'.heap L ∧ FrameEnd U o U' L ({ frames := 0, cells := 0, slots := 0, locals := 0 } : Room).cells ({ frames := 0, cells := 0, slots := 0, locals := 0 } : Room).slots) := by
  refine MetFree.of_bodySF (plainFor_of_name own_pn0) hisR ?_
  intro p e s m args below meth c s₁ Bd hml0 hP hK
  obtain ⟨rfl, hZ, hh⟩ := hP
  have hx := Bd.exec
  have hby := Bd.bytes
  have hml : c.maxLocals = 1 := hml0
  have hown : s.vm.findClass "java/lang/String" = some m.cls := findClass_of_methodNamed Bd.named
  have hnm := (name_of_methodNamed Bd.named Bd.method).1
  have X0 : Stand p l e ({ frames := 0, cells := 0, slots := 0, locals := 0 } : Room) s m #[(.ref so)] below meth c s₁ [] 0 0 := Stand.of_body Bd
  have e0 : s₁.heap = h0 := by rw [← hh, Bd.state]; rfl
  have N0 := Fr.nil n0
  have K0 : Keep h0 h0 [] := Keep.refl _ _
  suffices GO : ∀ P : Outcome → State → Prop, (∀ o U', (∃ v L, o = .returned v ∧ Q3 Z so cs h0 n0 v U'.heap L ∧ FrameEnd s o U' L ({ frames := 0, cells := 0, slots := 0, locals := 0 } : Room).cells ({ frames := 0, cells := 0, slots := 0, locals := 0 } : Room).slots) → P o U') → Go p.tables e below P s₁ (mkF m 0 #[.val (.ref so)] []) by
    obtain ⟨s2, o, st, r⟩ := GO _ (fun _ _ q => q)
    exact ⟨s2, o, castTop (ef_3 m so) st, r⟩
  clear hh
  intro P hP
  show Go p.tables e below P s₁ (mkF m 0 #[.val (.ref so)] [])
  obtain ⟨T1, X1, e1, st1⟩ := getS2 X0 hx hZ hown (host := "") (Or.inl (hw _ (List.mem_of_getElem? (i := 24) rfl))) Via.refl e0 (P1.ext O0.2) (g := (mkF m 0 #[.val (.ref so)] [])) rfl (hb hby d3_0)
  refine Go.via st1 ?_
  show Go p.tables e below P T1 (mkF m 3 #[.val (.ref so)] [(.int cs)])
  refine Go.via (fun t k => XS.ifNo X1.here hx rfl (hb hby d3_3) rfl ((if0 _ _).trans (feq hcs).1) k) ?_
  show Go p.tables e below P T1 (mkF m 6 #[.val (.ref so)] [])
  refine Go.via (fun t k => XS.aloadN X1.here hx rfl (hb hby d3_6) rfl rfl k) ?_
  show Go p.tables e below P T1 (mkF m 7 #[.val (.ref so)] [(.ref so)])
  obtain ⟨T2, X2, e2, st2⟩ := getF X1 hx hZ hown (host := "") (Or.inl (hw _ (List.mem_of_getElem? (i := 25) rfl))) Via.refl e1 P3 (g := (mkF m 7 #[.val (.ref so)] [(.ref so)])) rfl rfl (hb hby d3_7)
  refine Go.via st2 ?_
  show Go p.tables e below P T2 (mkF m 10 #[.val (.ref so)] [(.int (0 : Int32))])
  refine Go.via (fun t k => XS.goto X2.here hx rfl (pc0 := 10) (pc' := 14) rfl (hb hby d3_10) (by decide) (by decide) k) ?_
  show Go p.tables e below P T2 (mkF m 14 #[.val (.ref so)] [(.int (0 : Int32))])
  obtain ⟨fs, hr, hrun, hended, hW, hsame⟩ := X2.leave (v := some (.int (0 : Int32))) (fun h => by rw [Bd.returns] at h; cases h)
  refine ⟨_, _, retZ X2 hx (t := .byte) Bd.returns (by simp) (hb hby d3_14) rfl hr, hrun, hended, hP _ _ ⟨_, _, rfl, ?_, ⟨_, rfl⟩, hW, hsame.mono (by decide) (by decide)⟩⟩
  show Q3 Z so cs h0 n0 _ T2.heap _
  rw [e2]
  exact ⟨rfl, N0, rfl⟩
theorem own_pd1 : parseMethodDescriptor "()B" = some ⟨[], some .byte⟩ := by decide +kernel
theorem d2_0 : decode jdk_42_method_54_code 0 = .ok (.aload_n 0, 1) := by decide +kernel
theorem d2_1 : decode jdk_42_method_54_code 1 = .ok (.getfield 9, 3) := by decide +kernel
theorem d2_4 : decode jdk_42_method_54_code 4 = .ok (.arraylength, 1) := by decide +kernel
theorem d2_5 : decode jdk_42_method_54_code 5 = .ok (.aload_n 0, 1) := by decide +kernel
theorem d2_6 : decode jdk_42_method_54_code 6 = .ok (.invokevirtual 335, 3) := by decide +kernel
theorem d2_9 : decode jdk_42_method_54_code 9 = .ok (.ishr, 1) := by decide +kernel
theorem d2_10 : decode jdk_42_method_54_code 10 = .ok (.ireturn, 1) := by decide +kernel
theorem ef_2 (m : MethodId) (x0 : Addr) : entryFrame m #[(.ref x0)] 1 = mkF m 0 #[.val (.ref x0)] [] := by first | (simp [entryFrame, mkF, argsToLocals, Value.category]; done) | rfl
def Q2 (Z : State) (so : Addr) (cs : Int32) (tb : Addr) (kk : ClassId) (nn : Int32) (vs : List Value) (h0 : Heap) (n0 : Nat) (v : Option Value) (h : Heap) (L : List Loc) : Prop := v = some (.int nn) ∧ Fr n0 L ∧ h = h0
set_option maxRecDepth 65536 in
set_option maxHeartbeats 40000000 in
theorem rm2 (l : Launch) (Z : State) (a0 : Array Value) (hw : ∀ d ∈ tables_1, d.before a0 Z = true) (ws : List Jvm.Cond) (so : Addr) (cs : Int32) (tb : Addr) (kk : ClassId) (nn : Int32) (vs : List Value) (h0 : Heap) (n0 : Nat) (Z0 : n0 ≤ h0.size) (O0 : Old Z n0 h0) (P1 : Sta Z Z.heap "java/lang/String" "COMPACT_STRINGS" "Z" (.int cs)) (hcs : ¬ cs = (0 : Int32)) (P3 : Exa Z h0 so "java/lang/String") (P4 : Fld Z h0 so "java/lang/String" "value" "[B" (.ref tb)) (P5 : Fld Z h0 so "java/lang/String" "coder" "B" (.int (0 : Int32))) (P6 : Arv Z h0 tb kk .byte nn vs (.int (0 : Int32))) :
    MetFree l (⟨"java/lang/String", "length", "()I"⟩ : MethodName) (head1 (Jvm.Cond.code (⟨"java/lang/String", "length", "()I"⟩ : MethodName) jdk_42_method_54_code 1 (some .int) :: ws) ({ frames := 1, cells := 0, slots := 0, locals := 13 } : Room)) (fun a U => a = #[(.ref so)] ∧ Z.Warmed39 U.vm ∧ U.heap = h0) (fun _ _ _ _ _ => True) (fun _ U o U' => ∃ v L, o = .returned v ∧ Q2 Z so cs tb kk nn vs h0 n0 v U'.heap L ∧ FrameEnd U o U' L ({ frames := 1, cells := 0, slots := 0, locals := 13 } : Room).cells ({ frames := 1, cells := 0, slots := 0, locals := 13 } : Room).slots) := by
  refine MetFree.of_bodySF (plainFor_of_name own_pn0) hisR ?_
  intro p e s m args below meth c s₁ Bd hml0 hP hK
  obtain ⟨rfl, hZ, hh⟩ := hP
  have hx := Bd.exec
  have hby := Bd.bytes
  have hml : c.maxLocals = 1 := hml0
  have hown : s.vm.findClass "java/lang/String" = some m.cls := findClass_of_methodNamed Bd.named
  have hnm := (name_of_methodNamed Bd.named Bd.method).1
  have X0 : Stand p l e ({ frames := 1, cells := 0, slots := 0, locals := 13 } : Room) s m #[(.ref so)] below meth c s₁ [] 0 0 := Stand.of_body Bd
  have e0 : s₁.heap = h0 := by rw [← hh, Bd.state]; rfl
  have N0 := Fr.nil n0
  have K0 : Keep h0 h0 [] := Keep.refl _ _
  suffices GO : ∀ P : Outcome → State → Prop, (∀ o U', (∃ v L, o = .returned v ∧ Q2 Z so cs tb kk nn vs h0 n0 v U'.heap L ∧ FrameEnd s o U' L ({ frames := 1, cells := 0, slots := 0, locals := 13 } : Room).cells ({ frames := 1, cells := 0, slots := 0, locals := 13 } : Room).slots) → P o U') → Go p.tables e below P s₁ (mkF m 0 #[.val (.ref so)] []) by
    obtain ⟨s2, o, st, r⟩ := GO _ (fun _ _ q => q)
    exact ⟨s2, o, castTop (ef_2 m so) st, r⟩
  clear hh
  intro P hP
  show Go p.tables e below P s₁ (mkF m 0 #[.val (.ref so)] [])
  refine Go.via (fun t k => XS.aloadN X0.here hx rfl (hb hby d2_0) rfl rfl k) ?_
  show Go p.tables e below P s₁ (mkF m 1 #[.val (.ref so)] [(.ref so)])
  obtain ⟨T1, X1, e1, st1⟩ := getF X0 hx hZ hown (host := "") (Or.inl (hw _ (List.mem_of_getElem? (i := 18) rfl))) Via.refl e0 P4 (g := (mkF m 1 #[.val (.ref so)] [(.ref so)])) rfl rfl (hb hby d2_1)
  refine Go.via st1 ?_
  show Go p.tables e below P T1 (mkF m 4 #[.val (.ref so)] [(.ref tb)])
  obtain ⟨c2, A2, -, S2, N2, -, -⟩ := id P6
  refine Go.via (fun t k => X1.arraylength hx (by rw [e1]; exact A2.1) (State.isArrayOf_alike hZ.alike A2.2.1) (g := (mkF m 4 #[.val (.ref so)] [(.ref tb)])) rfl rfl (hb hby d2_4) t (by rw [len_of S2 N2]; exact k)) ?_
  show Go p.tables e below P T1 (mkF m 5 #[.val (.ref so)] [(.int nn)])
  refine Go.via (fun t k => XS.aloadN X1.here hx rfl (hb hby d2_5) rfl rfl k) ?_
  show Go p.tables e below P T1 (mkF m 6 #[.val (.ref so)] [(.ref so), (.int nn)])
  obtain ⟨cq3, kq3, q3a, q3b, q3c⟩ := isOf hZ e1 P3
  obtain ⟨_, _, ⟨T3, L3, k3, n3⟩, -, X3, ⟨Lc3, hQ3, l3, y3, z3⟩, st3⟩ := X1.virtualBack hx (y := (⟨"java/lang/String", "coder", "()B"⟩ : MethodName)) (z := (⟨"java/lang/String", "coder", "()B"⟩ : MethodName)) hown (mvT hZ (hw _ (List.mem_of_getElem? (i := 19) rfl))) (mvT hZ (hw _ (List.mem_of_getElem? (i := 20) rfl))) (notFace_of_selects (args := #[]) (mvT hZ (hw _ (List.mem_of_getElem? (i := 22) rfl)))) (mvT hZ (hw _ (List.mem_of_getElem? (i := 22) rfl))) (mvT hZ (hw _ (List.mem_of_getElem? (i := 21) rfl))) (by decide) (backOf (W := 1) (rm3 l Z a0 hw [] so cs h0 n0 Z0 O0 P1 (by first | assumption | decide | omega : ¬ cs = (0 : Int32)) P5) hZ (hw _ (List.mem_of_getElem? (i := 23) rfl)) (hw _ (List.mem_of_getElem? (i := 1) rfl)) (by decide) (by decide)) q3a q3c (g := (mkF m 6 #[.val (.ref so)] [(.ref so), (.int nn)])) rfl (by rw [hml]; rfl) (Steps.refl _) (argsL := []) (rest := [(.int nn)]) (lenOf own_pd1 rfl) rfl (by show 2 * 0 + _ ≤ _; exact Nat.le_of_eq rfl) (hb hby d2_6) (fun _ _ => ⟨rfl, e1, (by decide : 0 + 0 ≤ _), (by decide : 0 + 0 ≤ _)⟩)
  dsimp only [Pt.U, Pt.locs, Pt.cells, Pt.slots] at X3 l3 y3 z3 st3 hQ3
  subst l3 y3 z3
  obtain ⟨rfl, Nq3, hh3⟩ := hQ3
  obtain ⟨lc3, Xh3, N3⟩ := own_hide X3 (Fr.app N0 Nq3)
  clear X3
  refine Go.hop st3 ?_
  show Go p.tables e below P T3 (mkF m 9 #[.val (.ref so)] [(.int (0 : Int32)), (.int nn)])
  refine Go.via (fun t k => XS.ishr Xh3.here hx rfl (hb hby d2_9) rfl k) ?_
  show Go p.tables e below P T3 (mkF m 10 #[.val (.ref so)] [(.int (nn >>> ((0 : Int32) &&& 31)))])
  obtain ⟨fs, hr, hrun, hended, hW, hsame⟩ := Xh3.leave (v := some (.int nn)) (fun h => by rw [Bd.returns] at h; cases h)
  refine ⟨_, _, (by have q := retI Xh3 hx Bd.returns (hb hby d2_10) (z := (nn >>> ((0 : Int32) &&& 31))) (rest := []) (pc := 10) (Ls := #[.val (.ref so)]) (by rw [(own_shr0 nn)]; exact hr); exact q), hrun, hended, hP _ _ ⟨_, _, rfl, ?_, ⟨_, rfl⟩, hW, hsame.mono (by decide) (by decide)⟩⟩
  show Q2 Z so cs tb kk nn vs h0 n0 _ T3.heap _
  rw [hh3]
  exact ⟨rfl, N3, rfl⟩
theorem d5_0 : decode jdk_42_method_154_code 0 = .ok (.getstatic 38, 3) := by decide +kernel
theorem d5_3 : decode jdk_42_method_154_code 3 = .ok (.ifCond .eq 14, 3) := by decide +kernel
theorem d5_6 : decode jdk_42_method_154_code 6 = .ok (.aload_n 0, 1) := by decide +kernel
theorem d5_7 : decode jdk_42_method_154_code 7 = .ok (.getfield 15, 3) := by decide +kernel
theorem d5_10 : decode jdk_42_method_154_code 10 = .ok (.ifCond .ne 7, 3) := by decide +kernel
theorem d5_13 : decode jdk_42_method_154_code 13 = .ok (.iconst 1, 1) := by decide +kernel
theorem d5_14 : decode jdk_42_method_154_code 14 = .ok (.goto 4, 3) := by decide +kernel
theorem d5_18 : decode jdk_42_method_154_code 18 = .ok (.ireturn, 1) := by decide +kernel
theorem ef_5 (m : MethodId) (x0 : Addr) : entryFrame m #[(.ref x0)] 1 = mkF m 0 #[.val (.ref x0)] [] := by first | (simp [entryFrame, mkF, argsToLocals, Value.category]; done) | rfl
def Q5 (Z : State) (so : Addr) (cs : Int32) (h0 : Heap) (n0 : Nat) (v : Option Value) (h : Heap) (L : List Loc) : Prop := v = some (.int (1 : Int32)) ∧ Fr n0 L ∧ h = h0
set_option maxRecDepth 65536 in
set_option maxHeartbeats 40000000 in
theorem rm5 (l : Launch) (Z : State) (a0 : Array Value) (hw : ∀ d ∈ tables_1, d.before a0 Z = true) (ws : List Jvm.Cond) (so : Addr) (cs : Int32) (h0 : Heap) (n0 : Nat) (Z0 : n0 ≤ h0.size) (O0 : Old Z n0 h0) (P1 : Sta Z Z.heap "java/lang/String" "COMPACT_STRINGS" "Z" (.int cs)) (hcs : ¬ cs = (0 : Int32)) (P3 : Fld Z h0 so "java/lang/String" "coder" "B" (.int (0 : Int32))) :
    MetFree l (⟨"java/lang/String", "isLatin1", "()Z"⟩ : MethodName) (head1 (Jvm.Cond.code (⟨"java/lang/String", "isLatin1", "()Z"⟩ : MethodName) jdk_42_method_154_code 1 (some .boolean) :: ws) ({ frames := 0, cells := 0, slots := 0, locals := 0 } : Room)) (fun a U => a = #[(.ref so)] ∧ Z.Warmed39 U.vm ∧ U.heap = h0) (fun _ _ _ _ _ => True) (fun _ U o U' => ∃ v L, o = .returned v ∧ Q5 Z so cs h0 n0 v U'.heap L ∧ FrameEnd U o U' L ({ frames := 0, cells := 0, slots := 0, locals := 0 } : Room).cells ({ frames := 0, cells := 0, slots := 0, locals := 0 } : Room).slots) := by
  refine MetFree.of_bodySF (plainFor_of_name own_pn0) hisR ?_
  intro p e s m args below meth c s₁ Bd hml0 hP hK
  obtain ⟨rfl, hZ, hh⟩ := hP
  have hx := Bd.exec
  have hby := Bd.bytes
  have hml : c.maxLocals = 1 := hml0
  have hown : s.vm.findClass "java/lang/String" = some m.cls := findClass_of_methodNamed Bd.named
  have hnm := (name_of_methodNamed Bd.named Bd.method).1
  have X0 : Stand p l e ({ frames := 0, cells := 0, slots := 0, locals := 0 } : Room) s m #[(.ref so)] below meth c s₁ [] 0 0 := Stand.of_body Bd
  have e0 : s₁.heap = h0 := by rw [← hh, Bd.state]; rfl
  have N0 := Fr.nil n0
  have K0 : Keep h0 h0 [] := Keep.refl _ _
  suffices GO : ∀ P : Outcome → State → Prop, (∀ o U', (∃ v L, o = .returned v ∧ Q5 Z so cs h0 n0 v U'.heap L ∧ FrameEnd s o U' L ({ frames := 0, cells := 0, slots := 0, locals := 0 } : Room).cells ({ frames := 0, cells := 0, slots := 0, locals := 0 } : Room).slots) → P o U') → Go p.tables e below P s₁ (mkF m 0 #[.val (.ref so)] []) by
    obtain ⟨s2, o, st, r⟩ := GO _ (fun _ _ q => q)
    exact ⟨s2, o, castTop (ef_5 m so) st, r⟩
  clear hh
  intro P hP
  show Go p.tables e below P s₁ (mkF m 0 #[.val (.ref so)] [])
  obtain ⟨T1, X1, e1, st1⟩ := getS2 X0 hx hZ hown (host := "") (Or.inl (hw _ (List.mem_of_getElem? (i := 24) rfl))) Via.refl e0 (P1.ext O0.2) (g := (mkF m 0 #[.val (.ref so)] [])) rfl (hb hby d5_0)
  refine Go.via st1 ?_
  show Go p.tables e below P T1 (mkF m 3 #[.val (.ref so)] [(.int cs)])
  refine Go.via (fun t k => XS.ifNo X1.here hx rfl (hb hby d5_3) rfl ((if0 _ _).trans (feq hcs).1) k) ?_
  show Go p.tables e below P T1 (mkF m 6 #[.val (.ref so)] [])
  refine Go.via (fun t k => XS.aloadN X1.here hx rfl (hb hby d5_6) rfl rfl k) ?_
  show Go p.tables e below P T1 (mkF m 7 #[.val (.ref so)] [(.ref so)])
  obtain ⟨T2, X2, e2, st2⟩ := getF X1 hx hZ hown (host := "") (Or.inl (hw _ (List.mem_of_getElem? (i := 25) rfl))) Via.refl e1 P3 (g := (mkF m 7 #[.val (.ref so)] [(.ref so)])) rfl rfl (hb hby d5_7)
  refine Go.via st2 ?_
  show Go p.tables e below P T2 (mkF m 10 #[.val (.ref so)] [(.int (0 : Int32))])
  refine Go.via (fun t k => XS.ifNo X2.here hx rfl (hb hby d5_10) rfl ((if0 _ _).trans (teq (rfl : (0 : Int32) = (0 : Int32))).2) k) ?_
  show Go p.tables e below P T2 (mkF m 13 #[.val (.ref so)] [])
  refine Go.via (fun t k => XS.iconst X2.here hx rfl (hb hby d5_13) k) ?_
  refine Go.via (fun t k => XS.goto X2.here hx rfl (pc0 := 14) (pc' := 18) rfl (hb hby d5_14) (by decide) (by decide) k) ?_
  show Go p.tables e below P T2 (mkF m 18 #[.val (.ref so)] [(.int (1 : Int32))])
  obtain ⟨fs, hr, hrun, hended, hW, hsame⟩ := X2.leave (v := some (.int (1 : Int32))) (fun h => by rw [Bd.returns] at h; cases h)
  refine ⟨_, _, retZ X2 hx (t := .boolean) Bd.returns (by simp) (hb hby d5_18) rfl hr, hrun, hended, hP _ _ ⟨_, _, rfl, ?_, ⟨_, rfl⟩, hW, hsame.mono (by decide) (by decide)⟩⟩
  show Q5 Z so cs h0 n0 _ T2.heap _
  rw [e2]
  exact ⟨rfl, N0, rfl⟩
theorem own_pn1 : plainName "jdk/internal/util/Preconditions" = true := by first | (simp [plainName, overriddenIn]; done) | decide +kernel
theorem d8_0 : decode jdk_41_method_11_code 0 = .ok (.iload_n 0, 1) := by decide +kernel
theorem d8_1 : decode jdk_41_method_11_code 1 = .ok (.ifCond .lt 8, 3) := by decide +kernel
theorem d8_4 : decode jdk_41_method_11_code 4 = .ok (.iload_n 0, 1) := by decide +kernel
theorem d8_5 : decode jdk_41_method_11_code 5 = .ok (.iload_n 1, 1) := by decide +kernel
theorem d8_6 : decode jdk_41_method_11_code 6 = .ok (.if_icmp .lt 10, 3) := by decide +kernel
theorem d8_16 : decode jdk_41_method_11_code 16 = .ok (.iload_n 0, 1) := by decide +kernel
theorem d8_17 : decode jdk_41_method_11_code 17 = .ok (.ireturn, 1) := by decide +kernel
theorem ef_8 (m : MethodId) (x0 : Int32) (x1 : Int32) (x2 : Value) (hx2 : x2.isRef = true) : entryFrame m #[(.int x0), (.int x1), x2] 3 = mkF m 0 #[.val (.int x0), .val (.int x1), .val x2] [] := by rcases ref_cases hx2 with rfl | ⟨zx2, rfl⟩ <;> first | (simp [entryFrame, mkF, argsToLocals, Value.category]; done) | rfl
def Q8 (Z : State) (ji : Int32) (nn : Int32) (fm : Value) (h0 : Heap) (n0 : Nat) (v : Option Value) (h : Heap) (L : List Loc) : Prop := v = some (.int ji) ∧ Fr n0 L ∧ h = h0
set_option maxRecDepth 65536 in
set_option maxHeartbeats 40000000 in
theorem rm8 (l : Launch) (Z : State) (a0 : Array Value) (hw : ∀ d ∈ tables_1, d.before a0 Z = true) (ws : List Jvm.Cond) (ji : Int32) (nn : Int32) (fm : Value) (h0 : Heap) (n0 : Nat) (Z0 : n0 ≤ h0.size) (rfm : fm.isRef = true) (hj0 : ¬ (ji < (0 : Int32))) (hjn : ji < nn) :
    MetFree l (⟨"jdk/internal/util/Preconditions", "checkIndex", "(IILjava/util/function/BiFunction;)I"⟩ : MethodName) (head1 (Jvm.Cond.code (⟨"jdk/internal/util/Preconditions", "checkIndex", "(IILjava/util/function/BiFunction;)I"⟩ : MethodName) jdk_41_method_11_code 3 (some .int) :: ws) ({ frames := 0, cells := 0, slots := 0, locals := 0 } : Room)) (fun a U => a = #[(.int ji), (.int nn), fm] ∧ Z.Warmed39 U.vm ∧ U.heap = h0) (fun _ _ _ _ _ => True) (fun _ U o U' => ∃ v L, o = .returned v ∧ Q8 Z ji nn fm h0 n0 v U'.heap L ∧ FrameEnd U o U' L ({ frames := 0, cells := 0, slots := 0, locals := 0 } : Room).cells ({ frames := 0, cells := 0, slots := 0, locals := 0 } : Room).slots) := by
  refine MetFree.of_bodySF (plainFor_of_name own_pn1) hisR ?_
  intro p e s m args below meth c s₁ Bd hml0 hP hK
  obtain ⟨rfl, hZ, hh⟩ := hP
  have hx := Bd.exec
  have hby := Bd.bytes
  have hml : c.maxLocals = 3 := hml0
  have hown : s.vm.findClass "jdk/internal/util/Preconditions" = some m.cls := findClass_of_methodNamed Bd.named
  have hnm := (name_of_methodNamed Bd.named Bd.method).1
  have X0 : Stand p l e ({ frames := 0, cells := 0, slots := 0, locals := 0 } : Room) s m #[(.int ji), (.int nn), fm] below meth c s₁ [] 0 0 := Stand.of_body Bd
  have e0 : s₁.heap = h0 := by rw [← hh, Bd.state]; rfl
  have N0 := Fr.nil n0
  have K0 : Keep h0 h0 [] := Keep.refl _ _
  suffices GO : ∀ P : Outcome → State → Prop, (∀ o U', (∃ v L, o = .returned v ∧ Q8 Z ji nn fm h0 n0 v U'.heap L ∧ FrameEnd s o U' L ({ frames := 0, cells := 0, slots := 0, locals := 0 } : Room).cells ({ frames := 0, cells := 0, slots := 0, locals := 0 } : Room).slots) → P o U') → Go p.tables e below P s₁ (mkF m 0 #[.val (.int ji), .val (.int nn), .val fm] []) by
    obtain ⟨s2, o, st, r⟩ := GO _ (fun _ _ q => q)
    exact ⟨s2, o, castTop (ef_8 m ji nn fm rfm) st, r⟩
  clear hh
  intro P hP
  show Go p.tables e below P s₁ (mkF m 0 #[.val (.int ji), .val (.int nn), .val fm] [])
  refine Go.via (fun t k => XS.iloadN X0.here hx rfl (hb hby d8_0) rfl k) ?_
  show Go p.tables e below P s₁ (mkF m 1 #[.val (.int ji), .val (.int nn), .val fm] [(.int ji)])
  refine Go.via (fun t k => XS.ifNo X0.here hx rfl (hb hby d8_1) rfl ((if0 _ _).trans (flt hj0).1) k) ?_
  show Go p.tables e below P s₁ (mkF m 4 #[.val (.int ji), .val (.int nn), .val fm] [])
  refine Go.via (fun t k => XS.iloadN X0.here hx rfl (hb hby d8_4) rfl k) ?_
  refine Go.via (fun t k => XS.iloadN X0.here hx rfl (hb hby d8_5) rfl k) ?_
  show Go p.tables e below P s₁ (mkF m 6 #[.val (.int ji), .val (.int nn), .val fm] [(.int nn), (.int ji)])
  refine Go.via (fun t k => XS.icmpYes X0.here hx rfl (pc0 := 6) (pc' := 16) rfl (hb hby d8_6) rfl (tlt hjn).1 (by decide) (by decide) k) ?_
  show Go p.tables e below P s₁ (mkF m 16 #[.val (.int ji), .val (.int nn), .val fm] [])
  refine Go.via (fun t k => XS.iloadN X0.here hx rfl (hb hby d8_16) rfl k) ?_
  show Go p.tables e below P s₁ (mkF m 17 #[.val (.int ji), .val (.int nn), .val fm] [(.int ji)])
  obtain ⟨fs, hr, hrun, hended, hW, hsame⟩ := X0.leave (v := some (.int ji)) (fun h => by rw [Bd.returns] at h; cases h)
  refine ⟨_, _, retI X0 hx Bd.returns (hb hby d8_17) hr, hrun, hended, hP _ _ ⟨_, _, rfl, ?_, ⟨_, rfl⟩, hW, hsame.mono (by decide) (by decide)⟩⟩
  show Q8 Z ji nn fm h0 n0 _ s₁.heap _
  rw [e0]
  exact ⟨rfl, N0, rfl⟩
theorem own_pd2 : parseMethodDescriptor "(IILjava/util/function/BiFunction;)I" = some ⟨[.int, .int, (.object "java/util/function/BiFunction")], some .int⟩ := by decide +kernel
theorem d7_0 : decode jdk_42_method_155_code 0 = .ok (.iload_n 0, 1) := by decide +kernel
theorem d7_1 : decode jdk_42_method_155_code 1 = .ok (.iload_n 1, 1) := by decide +kernel
theorem d7_2 : decode jdk_42_method_155_code 2 = .ok (.getstatic 1053, 3) := by decide +kernel
theorem d7_5 : decode jdk_42_method_155_code 5 = .ok (.invokestatic 1059, 3) := by decide +kernel
theorem d7_8 : decode jdk_42_method_155_code 8 = .ok (.pop, 1) := by decide +kernel
theorem d7_9 : decode jdk_42_method_155_code 9 = .ok (.return_, 1) := by decide +kernel
theorem ef_7 (m : MethodId) (x0 : Int32) (x1 : Int32) : entryFrame m #[(.int x0), (.int x1)] 2 = mkF m 0 #[.val (.int x0), .val (.int x1)] [] := by first | (simp [entryFrame, mkF, argsToLocals, Value.category]; done) | rfl
def Q7 (Z : State) (ji : Int32) (nn : Int32) (fm : Value) (h0 : Heap) (n0 : Nat) (v : Option Value) (h : Heap) (L : List Loc) : Prop := v = none ∧ Fr n0 L ∧ h = h0
set_option maxRecDepth 65536 in
set_option maxHeartbeats 40000000 in
theorem rm7 (l : Launch) (Z : State) (a0 : Array Value) (hw : ∀ d ∈ tables_1, d.before a0 Z = true) (ws : List Jvm.Cond) (ji : Int32) (nn : Int32) (fm : Value) (h0 : Heap) (n0 : Nat) (Z0 : n0 ≤ h0.size) (O0 : Old Z n0 h0) (P1 : Sta Z Z.heap "jdk/internal/util/Preconditions" "SIOOBE_FORMATTER" "Ljava/util/function/BiFunction;" fm) (rfm : fm.isRef = true) (hj0 : ¬ (ji < (0 : Int32))) (hjn : ji < nn) :
    MetFree l (⟨"java/lang/String", "checkIndex", "(II)V"⟩ : MethodName) (head1 (Jvm.Cond.code (⟨"java/lang/String", "checkIndex", "(II)V"⟩ : MethodName) jdk_42_method_155_code 2 none :: ws) ({ frames := 1, cells := 0, slots := 0, locals := 14 } : Room)) (fun a U => a = #[(.int ji), (.int nn)] ∧ Z.Warmed39 U.vm ∧ U.heap = h0) (fun _ _ _ _ _ => True) (fun _ U o U' => ∃ v L, o = .returned v ∧ Q7 Z ji nn fm h0 n0 v U'.heap L ∧ FrameEnd U o U' L ({ frames := 1, cells := 0, slots := 0, locals := 14 } : Room).cells ({ frames := 1, cells := 0, slots := 0, locals := 14 } : Room).slots) := by
  refine MetFree.of_bodySF (plainFor_of_name own_pn0) hisR ?_
  intro p e s m args below meth c s₁ Bd hml0 hP hK
  obtain ⟨rfl, hZ, hh⟩ := hP
  have hx := Bd.exec
  have hby := Bd.bytes
  have hml : c.maxLocals = 2 := hml0
  have hown : s.vm.findClass "java/lang/String" = some m.cls := findClass_of_methodNamed Bd.named
  have hnm := (name_of_methodNamed Bd.named Bd.method).1
  have X0 : Stand p l e ({ frames := 1, cells := 0, slots := 0, locals := 14 } : Room) s m #[(.int ji), (.int nn)] below meth c s₁ [] 0 0 := Stand.of_body Bd
  have e0 : s₁.heap = h0 := by rw [← hh, Bd.state]; rfl
  have N0 := Fr.nil n0
  have K0 : Keep h0 h0 [] := Keep.refl _ _
  suffices GO : ∀ P : Outcome → State → Prop, (∀ o U', (∃ v L, o = .returned v ∧ Q7 Z ji nn fm h0 n0 v U'.heap L ∧ FrameEnd s o U' L ({ frames := 1, cells := 0, slots := 0, locals := 14 } : Room).cells ({ frames := 1, cells := 0, slots := 0, locals := 14 } : Room).slots) → P o U') → Go p.tables e below P s₁ (mkF m 0 #[.val (.int ji), .val (.int nn)] []) by
    obtain ⟨s2, o, st, r⟩ := GO _ (fun _ _ q => q)
    exact ⟨s2, o, castTop (ef_7 m ji nn) st, r⟩
  clear hh
  intro P hP
  show Go p.tables e below P s₁ (mkF m 0 #[.val (.int ji), .val (.int nn)] [])
  refine Go.via (fun t k => XS.iloadN X0.here hx rfl (hb hby d7_0) rfl k) ?_
  refine Go.via (fun t k => XS.iloadN X0.here hx rfl (hb hby d7_1) rfl k) ?_
  show Go p.tables e below P s₁ (mkF m 2 #[.val (.int ji), .val (.int nn)] [(.int nn), (.int ji)])
  obtain ⟨T1, X1, e1, st1⟩ := getS2 X0 hx hZ hown (host := "") (Or.inl (hw _ (List.mem_of_getElem? (i := 43) rfl))) Via.refl e0 (P1.ext O0.2) (g := (mkF m 2 #[.val (.int ji), .val (.int nn)] [(.int nn), (.int ji)])) rfl (hb hby d7_2)
  refine Go.via st1 ?_
  show Go p.tables e below P T1 (mkF m 5 #[.val (.int ji), .val (.int nn)] [fm, (.int nn), (.int ji)])
  obtain ⟨_, _, ⟨T2, L2, k2, n2⟩, -, X2, ⟨Lc2, hQ2, l2, y2, z2⟩, st2⟩ := Jvm.LawKit.callS X1 hx (y := (⟨"jdk/internal/util/Preconditions", "checkIndex", "(IILjava/util/function/BiFunction;)I"⟩ : MethodName)) hown (mvT hZ (hw _ (List.mem_of_getElem? (i := 45) rfl))) (mvT hZ (hw _ (List.mem_of_getElem? (i := 46) rfl))) (mvT hZ (hw _ (List.mem_of_getElem? (i := 44) rfl))) (mvT hZ (hw _ (List.mem_of_getElem? (i := 47) rfl))) (by decide) (backOf (W := 0) (rm8 l Z a0 hw [] ji nn fm h0 n0 Z0 (by first | assumption | decide | omega : fm.isRef = true) (by first | assumption | decide | omega : ¬ (ji < (0 : Int32))) (by first | assumption | decide | omega : ji < nn)) hZ (hw _ (List.mem_of_getElem? (i := 47) rfl)) (hw _ (List.mem_of_getElem? (i := 44) rfl)) (by decide) (by decide)) (g := (mkF m 5 #[.val (.int ji), .val (.int nn)] [fm, (.int nn), (.int ji)])) rfl (by rw [hml]; rfl) (argsL := [(.int ji), (.int nn), fm]) (rest := []) (lenOf own_pd2 rfl) rfl (by show 2 * 0 + _ ≤ _; exact Nat.le_of_eq rfl) (hb hby d7_5) (fun _ _ => ⟨rfl, e1, (by decide : 0 + 0 ≤ _), (by decide : 0 + 0 ≤ _)⟩)
  dsimp only [Pt.U, Pt.locs, Pt.cells, Pt.slots] at X2 l2 y2 z2 st2 hQ2
  subst l2 y2 z2
  obtain ⟨rfl, Nq2, hh2⟩ := hQ2
  obtain ⟨lc2, Xh2, N2⟩ := own_hide X2 (Fr.app N0 Nq2)
  clear X2
  refine Go.via st2 ?_
  show Go p.tables e below P T2 (mkF m 8 #[.val (.int ji), .val (.int nn)] [(.int ji)])
  refine Go.via (fun t k => XS.pop Xh2.here hx rfl (hb hby d7_8) rfl rfl k) ?_
  show Go p.tables e below P T2 (mkF m 9 #[.val (.int ji), .val (.int nn)] [])
  obtain ⟨fs, hr, hrun, hended, hW, hsame⟩ := Xh2.leave (v := none) (fun _ => rfl)
  refine ⟨_, _, Xh2.returnOut hx Bd.returns (hb hby d7_9) hr, hrun, hended, hP _ _ ⟨_, _, rfl, ?_, ⟨_, rfl⟩, hW, hsame.mono (by decide) (by decide)⟩⟩
  show Q7 Z ji nn fm h0 n0 _ T2.heap _
  rw [hh2]
  exact ⟨rfl, N2, rfl⟩
theorem own_pd3 : parseMethodDescriptor "(II)V" = some ⟨[.int, .int], none⟩ := by decide +kernel
theorem own_pn2 : plainName "java/lang/StringLatin1" = true := by first | (simp [plainName, overriddenIn]; done) | decide +kernel
theorem d6_0 : decode jdk_43_method_2_code 0 = .ok (.iload_n 1, 1) := by decide +kernel
theorem d6_1 : decode jdk_43_method_2_code 1 = .ok (.aload_n 0, 1) := by decide +kernel
theorem d6_2 : decode jdk_43_method_2_code 2 = .ok (.arraylength, 1) := by decide +kernel
theorem d6_3 : decode jdk_43_method_2_code 3 = .ok (.invokestatic 9, 3) := by decide +kernel
theorem d6_6 : decode jdk_43_method_2_code 6 = .ok (.aload_n 0, 1) := by decide +kernel
theorem d6_7 : decode jdk_43_method_2_code 7 = .ok (.iload_n 1, 1) := by decide +kernel
theorem d6_8 : decode jdk_43_method_2_code 8 = .ok (.baload, 1) := by decide +kernel
theorem d6_9 : decode jdk_43_method_2_code 9 = .ok (.sipush 255, 3) := by decide +kernel
theorem d6_12 : decode jdk_43_method_2_code 12 = .ok (.iand, 1) := by decide +kernel
theorem d6_13 : decode jdk_43_method_2_code 13 = .ok (.i2c, 1) := by decide +kernel
theorem d6_14 : decode jdk_43_method_2_code 14 = .ok (.ireturn, 1) := by decide +kernel
theorem ef_6 (m : MethodId) (x0 : Addr) (x1 : Int32) : entryFrame m #[(.ref x0), (.int x1)] 2 = mkF m 0 #[.val (.ref x0), .val (.int x1)] [] := by first | (simp [entryFrame, mkF, argsToLocals, Value.category]; done) | rfl
def Q6 (Z : State) (tb : Addr) (ji : Int32) (fm : Value) (kk : ClassId) (nn : Int32) (vs : List Value) (xx : Int32) (h0 : Heap) (n0 : Nat) (v : Option Value) (h : Heap) (L : List Loc) : Prop := v = some (.int (xx &&& (255 : Int32))) ∧ Fr n0 L ∧ h = h0
set_option maxRecDepth 65536 in
set_option maxHeartbeats 40000000 in
theorem rm6 (l : Launch) (Z : State) (a0 : Array Value) (hw : ∀ d ∈ tables_1, d.before a0 Z = true) (ws : List Jvm.Cond) (tb : Addr) (ji : Int32) (fm : Value) (kk : ClassId) (nn : Int32) (vs : List Value) (xx : Int32) (h0 : Heap) (n0 : Nat) (Z0 : n0 ≤ h0.size) (O0 : Old Z n0 h0) (P1 : Sta Z Z.heap "jdk/internal/util/Preconditions" "SIOOBE_FORMATTER" "Ljava/util/function/BiFunction;" fm) (rfm : fm.isRef = true) (P3 : Arv Z h0 tb kk .byte nn vs (.int (0 : Int32))) (hj0 : ¬ (ji < (0 : Int32))) (hjn : ji < nn) (hat : vs.getD ji.toNatClampNeg (.int (0 : Int32)) = .int xx) :
    MetFree l (⟨"java/lang/StringLatin1", "charAt", "([BI)C"⟩ : MethodName) (head1 (Jvm.Cond.code (⟨"java/lang/StringLatin1", "charAt", "([BI)C"⟩ : MethodName) jdk_43_method_2_code 2 (some .char) :: ws) ({ frames := 2, cells := 0, slots := 0, locals := 27 } : Room)) (fun a U => a = #[(.ref tb), (.int ji)] ∧ Z.Warmed39 U.vm ∧ U.heap = h0) (fun _ _ _ _ _ => True) (fun _ U o U' => ∃ v L, o = .returned v ∧ Q6 Z tb ji fm kk nn vs xx h0 n0 v U'.heap L ∧ FrameEnd U o U' L ({ frames := 2, cells := 0, slots := 0, locals := 27 } : Room).cells ({ frames := 2, cells := 0, slots := 0, locals := 27 } : Room).slots) := by
  refine MetFree.of_bodySF (plainFor_of_name own_pn2) hisR ?_
  intro p e s m args below meth c s₁ Bd hml0 hP hK
  obtain ⟨rfl, hZ, hh⟩ := hP
  have hx := Bd.exec
  have hby := Bd.bytes
  have hml : c.maxLocals = 2 := hml0
  have hown : s.vm.findClass "java/lang/StringLatin1" = some m.cls := findClass_of_methodNamed Bd.named
  have hnm := (name_of_methodNamed Bd.named Bd.method).1
  have X0 : Stand p l e ({ frames := 2, cells := 0, slots := 0, locals := 27 } : Room) s m #[(.ref tb), (.int ji)] below meth c s₁ [] 0 0 := Stand.of_body Bd
  have e0 : s₁.heap = h0 := by rw [← hh, Bd.state]; rfl
  have N0 := Fr.nil n0
  have K0 : Keep h0 h0 [] := Keep.refl _ _
  suffices GO : ∀ P : Outcome → State → Prop, (∀ o U', (∃ v L, o = .returned v ∧ Q6 Z tb ji fm kk nn vs xx h0 n0 v U'.heap L ∧ FrameEnd s o U' L ({ frames := 2, cells := 0, slots := 0, locals := 27 } : Room).cells ({ frames := 2, cells := 0, slots := 0, locals := 27 } : Room).slots) → P o U') → Go p.tables e below P s₁ (mkF m 0 #[.val (.ref tb), .val (.int ji)] []) by
    obtain ⟨s2, o, st, r⟩ := GO _ (fun _ _ q => q)
    exact ⟨s2, o, castTop (ef_6 m tb ji) st, r⟩
  clear hh
  intro P hP
  show Go p.tables e below P s₁ (mkF m 0 #[.val (.ref tb), .val (.int ji)] [])
  refine Go.via (fun t k => XS.iloadN X0.here hx rfl (hb hby d6_0) rfl k) ?_
  refine Go.via (fun t k => XS.aloadN X0.here hx rfl (hb hby d6_1) rfl rfl k) ?_
  show Go p.tables e below P s₁ (mkF m 2 #[.val (.ref tb), .val (.int ji)] [(.ref tb), (.int ji)])
  obtain ⟨c1, A1, -, S1, N1, -, -⟩ := id P3
  refine Go.via (fun t k => X0.arraylength hx (by rw [e0]; exact A1.1) (State.isArrayOf_alike hZ.alike A1.2.1) (g := (mkF m 2 #[.val (.ref tb), .val (.int ji)] [(.ref tb), (.int ji)])) rfl rfl (hb hby d6_2) t (by rw [len_of S1 N1]; exact k)) ?_
  show Go p.tables e below P s₁ (mkF m 3 #[.val (.ref tb), .val (.int ji)] [(.int nn), (.int ji)])
  obtain ⟨_, _, ⟨T2, L2, k2, n2⟩, -, X2, ⟨Lc2, hQ2, l2, y2, z2⟩, st2⟩ := Jvm.LawKit.callS X0 hx (y := (⟨"java/lang/String", "checkIndex", "(II)V"⟩ : MethodName)) hown (mvT hZ (hw _ (List.mem_of_getElem? (i := 40) rfl))) (mvT hZ (hw _ (List.mem_of_getElem? (i := 41) rfl))) (mvT hZ (hw _ (List.mem_of_getElem? (i := 1) rfl))) (mvT hZ (hw _ (List.mem_of_getElem? (i := 42) rfl))) (by decide) (backOf (W := 0) (rm7 l Z a0 hw [] ji nn fm h0 n0 Z0 O0 P1 (by first | assumption | decide | omega : fm.isRef = true) (by first | assumption | decide | omega : ¬ (ji < (0 : Int32))) (by first | assumption | decide | omega : ji < nn)) hZ (hw _ (List.mem_of_getElem? (i := 42) rfl)) (hw _ (List.mem_of_getElem? (i := 1) rfl)) (by decide) (by decide)) (g := (mkF m 3 #[.val (.ref tb), .val (.int ji)] [(.int nn), (.int ji)])) rfl (by rw [hml]; rfl) (argsL := [(.int ji), (.int nn)]) (rest := []) (lenOf own_pd3 rfl) rfl (by show 2 * 0 + _ ≤ _; exact Nat.le_of_eq rfl) (hb hby d6_3) (fun _ _ => ⟨rfl, e0, (by decide : 0 + 0 ≤ _), (by decide : 0 + 0 ≤ _)⟩)
  dsimp only [Pt.U, Pt.locs, Pt.cells, Pt.slots] at X2 l2 y2 z2 st2 hQ2
  subst l2 y2 z2
  obtain ⟨rfl, Nq2, hh2⟩ := hQ2
  obtain ⟨lc2, Xh2, N2⟩ := own_hide X2 (Fr.app N0 Nq2)
  clear X2
  refine Go.via st2 ?_
  show Go p.tables e below P T2 (mkF m 6 #[.val (.ref tb), .val (.int ji)] [])
  refine Go.via (fun t k => XS.aloadN Xh2.here hx rfl (hb hby d6_6) rfl rfl k) ?_
  refine Go.via (fun t k => XS.iloadN Xh2.here hx rfl (hb hby d6_7) rfl k) ?_
  show Go p.tables e below P T2 (mkF m 8 #[.val (.ref tb), .val (.int ji)] [(.int ji), (.ref tb)])
  obtain ⟨c3, A3, q3, S3, N3, H3, G3⟩ := id P3
  have hin3 : ¬ (ji < 0 ∨ c3.slots.size ≤ (ji).toNatClampNeg) := inb_of S3 ⟨hj0, hjn⟩
  have hat3 : c3.slots[(ji).toNatClampNeg]? = some (.int xx) := (H3 _ (Nat.lt_of_not_le fun q => hin3 (Or.inr q))).trans (congrArg some hat)
  refine Go.via (fun t k => Xh2.baloadBytes hx (j := ji) (v := (.int xx)) (by rw [hh2]; exact A3.1) (State.isArrayOf_alike hZ.alike A3.2.1) A3.2.2 hin3 hat3 (g := (mkF m 8 #[.val (.ref tb), .val (.int ji)] [(.int ji), (.ref tb)])) rfl rfl (hb hby d6_8) t k) ?_
  show Go p.tables e below P T2 (mkF m 9 #[.val (.ref tb), .val (.int ji)] [(.int xx)])
  refine Go.via (fun t k => XS.sipush Xh2.here hx rfl (hb hby d6_9) k) ?_
  refine Go.via (fun t k => XS.iand Xh2.here hx rfl (hb hby d6_12) rfl k) ?_
  refine Go.via (fun t k => XS.i2c Xh2.here hx rfl (hb hby d6_13) rfl k) ?_
  show Go p.tables e below P T2 (mkF m 14 #[.val (.ref tb), .val (.int ji)] [(.int ((xx &&& (255 : Int32)).toUInt32.toUInt16.toUInt32.toInt32))])
  obtain ⟨fs, hr, hrun, hended, hW, hsame⟩ := Xh2.leave (v := some (.int (xx &&& (255 : Int32)))) (fun h => by rw [Bd.returns] at h; cases h)
  refine ⟨_, _, retZ Xh2 hx (t := .char) Bd.returns (by simp) (hb hby d6_14) (own_b2c xx) hr, hrun, hended, hP _ _ ⟨_, _, rfl, ?_, ⟨_, rfl⟩, hW, hsame.mono (by decide) (by decide)⟩⟩
  show Q6 Z tb ji fm kk nn vs xx h0 n0 _ T2.heap _
  rw [hh2]
  exact ⟨rfl, N2, rfl⟩
theorem own_pd4 : parseMethodDescriptor "()Z" = some ⟨[], some .boolean⟩ := by decide +kernel
theorem own_pd5 : parseMethodDescriptor "([BI)C" = some ⟨[(.array .byte), .int], some .char⟩ := by decide +kernel
theorem d4_0 : decode jdk_42_method_56_code 0 = .ok (.aload_n 0, 1) := by decide +kernel
theorem d4_1 : decode jdk_42_method_56_code 1 = .ok (.invokevirtual 492, 3) := by decide +kernel
theorem d4_4 : decode jdk_42_method_56_code 4 = .ok (.ifCond .eq 12, 3) := by decide +kernel
theorem d4_7 : decode jdk_42_method_56_code 7 = .ok (.aload_n 0, 1) := by decide +kernel
theorem d4_8 : decode jdk_42_method_56_code 8 = .ok (.getfield 9, 3) := by decide +kernel
theorem d4_11 : decode jdk_42_method_56_code 11 = .ok (.iload_n 1, 1) := by decide +kernel
theorem d4_12 : decode jdk_42_method_56_code 12 = .ok (.invokestatic 495, 3) := by decide +kernel
theorem d4_15 : decode jdk_42_method_56_code 15 = .ok (.ireturn, 1) := by decide +kernel
theorem ef_4 (m : MethodId) (x0 : Addr) (x1 : Int32) : entryFrame m #[(.ref x0), (.int x1)] 2 = mkF m 0 #[.val (.ref x0), .val (.int x1)] [] := by first | (simp [entryFrame, mkF, argsToLocals, Value.category]; done) | rfl
def Q4 (Z : State) (so : Addr) (ji : Int32) (fm : Value) (cs : Int32) (tb : Addr) (kk : ClassId) (nn : Int32) (vs : List Value) (xx : Int32) (h0 : Heap) (n0 : Nat) (v : Option Value) (h : Heap) (L : List Loc) : Prop := v = some (.int (xx &&& (255 : Int32))) ∧ Fr n0 L ∧ h = h0
set_option maxRecDepth 65536 in
set_option maxHeartbeats 40000000 in
theorem rm4 (l : Launch) (Z : State) (a0 : Array Value) (hw : ∀ d ∈ tables_1, d.before a0 Z = true) (ws : List Jvm.Cond) (so : Addr) (ji : Int32) (fm : Value) (cs : Int32) (tb : Addr) (kk : ClassId) (nn : Int32) (vs : List Value) (xx : Int32) (h0 : Heap) (n0 : Nat) (Z0 : n0 ≤ h0.size) (O0 : Old Z n0 h0) (P1 : Sta Z Z.heap "java/lang/String" "COMPACT_STRINGS" "Z" (.int cs)) (hcs : ¬ cs = (0 : Int32)) (P3 : Sta Z Z.heap "jdk/internal/util/Preconditions" "SIOOBE_FORMATTER" "Ljava/util/function/BiFunction;" fm) (rfm : fm.isRef = true) (P5 : Exa Z h0 so "java/lang/String") (P6 : Fld Z h0 so "java/lang/String" "value" "[B" (.ref tb)) (P7 : Fld Z h0 so "java/lang/String" "coder" "B" (.int (0 : Int32))) (P8 : Arv Z h0 tb kk .byte nn vs (.int (0 : Int32))) (hj0 : ¬ (ji < (0 : Int32))) (hjn : ji < nn) (hat : vs.getD ji.toNatClampNeg (.int (0 : Int32)) = .int xx) :
    MetFree l (⟨"java/lang/String", "charAt", "(I)C"⟩ : MethodName) (head1 (Jvm.Cond.code (⟨"java/lang/String", "charAt", "(I)C"⟩ : MethodName) jdk_42_method_56_code 2 (some .char) :: ws) ({ frames := 3, cells := 0, slots := 0, locals := 40 } : Room)) (fun a U => a = #[(.ref so), (.int ji)] ∧ Z.Warmed39 U.vm ∧ U.heap = h0) (fun _ _ _ _ _ => True) (fun _ U o U' => ∃ v L, o = .returned v ∧ Q4 Z so ji fm cs tb kk nn vs xx h0 n0 v U'.heap L ∧ FrameEnd U o U' L ({ frames := 3, cells := 0, slots := 0, locals := 40 } : Room).cells ({ frames := 3, cells := 0, slots := 0, locals := 40 } : Room).slots) := by
  refine MetFree.of_bodySF (plainFor_of_name own_pn0) hisR ?_
  intro p e s m args below meth c s₁ Bd hml0 hP hK
  obtain ⟨rfl, hZ, hh⟩ := hP
  have hx := Bd.exec
  have hby := Bd.bytes
  have hml : c.maxLocals = 2 := hml0
  have hown : s.vm.findClass "java/lang/String" = some m.cls := findClass_of_methodNamed Bd.named
  have hnm := (name_of_methodNamed Bd.named Bd.method).1
  have X0 : Stand p l e ({ frames := 3, cells := 0, slots := 0, locals := 40 } : Room) s m #[(.ref so), (.int ji)] below meth c s₁ [] 0 0 := Stand.of_body Bd
  have e0 : s₁.heap = h0 := by rw [← hh, Bd.state]; rfl
  have N0 := Fr.nil n0
  have K0 : Keep h0 h0 [] := Keep.refl _ _
  suffices GO : ∀ P : Outcome → State → Prop, (∀ o U', (∃ v L, o = .returned v ∧ Q4 Z so ji fm cs tb kk nn vs xx h0 n0 v U'.heap L ∧ FrameEnd s o U' L ({ frames := 3, cells := 0, slots := 0, locals := 40 } : Room).cells ({ frames := 3, cells := 0, slots := 0, locals := 40 } : Room).slots) → P o U') → Go p.tables e below P s₁ (mkF m 0 #[.val (.ref so), .val (.int ji)] []) by
    obtain ⟨s2, o, st, r⟩ := GO _ (fun _ _ q => q)
    exact ⟨s2, o, castTop (ef_4 m so ji) st, r⟩
  clear hh
  intro P hP
  show Go p.tables e below P s₁ (mkF m 0 #[.val (.ref so), .val (.int ji)] [])
  refine Go.via (fun t k => XS.aloadN X0.here hx rfl (hb hby d4_0) rfl rfl k) ?_
  show Go p.tables e below P s₁ (mkF m 1 #[.val (.ref so), .val (.int ji)] [(.ref so)])
  obtain ⟨cq1, kq1, q1a, q1b, q1c⟩ := isOf hZ e0 P5
  obtain ⟨_, _, ⟨T1, L1, k1, n1⟩, -, X1, ⟨Lc1, hQ1, l1, y1, z1⟩, st1⟩ := X0.virtualBack hx (y := (⟨"java/lang/String", "isLatin1", "()Z"⟩ : MethodName)) (z := (⟨"java/lang/String", "isLatin1", "()Z"⟩ : MethodName)) hown (mvT hZ (hw _ (List.mem_of_getElem? (i := 31) rfl))) (mvT hZ (hw _ (List.mem_of_getElem? (i := 32) rfl))) (notFace_of_selects (args := #[]) (mvT hZ (hw _ (List.mem_of_getElem? (i := 34) rfl)))) (mvT hZ (hw _ (List.mem_of_getElem? (i := 34) rfl))) (mvT hZ (hw _ (List.mem_of_getElem? (i := 33) rfl))) (by decide) (backOf (W := 0) (rm5 l Z a0 hw [] so cs h0 n0 Z0 O0 P1 (by first | assumption | decide | omega : ¬ cs = (0 : Int32)) P7) hZ (hw _ (List.mem_of_getElem? (i := 35) rfl)) (hw _ (List.mem_of_getElem? (i := 1) rfl)) (by decide) (by decide)) q1a q1c (g := (mkF m 1 #[.val (.ref so), .val (.int ji)] [(.ref so)])) rfl (by rw [hml]; rfl) (Steps.refl _) (argsL := []) (rest := []) (lenOf own_pd4 rfl) rfl (by show 2 * 0 + _ ≤ _; exact Nat.le_of_eq rfl) (hb hby d4_1) (fun _ _ => ⟨rfl, e0, (by decide : 0 + 0 ≤ _), (by decide : 0 + 0 ≤ _)⟩)
  dsimp only [Pt.U, Pt.locs, Pt.cells, Pt.slots] at X1 l1 y1 z1 st1 hQ1
  subst l1 y1 z1
  obtain ⟨rfl, Nq1, hh1⟩ := hQ1
  obtain ⟨lc1, Xh1, N1⟩ := own_hide X1 (Fr.app N0 Nq1)
  clear X1
  refine Go.hop st1 ?_
  show Go p.tables e below P T1 (mkF m 4 #[.val (.ref so), .val (.int ji)] [(.int (1 : Int32))])
  refine Go.via (fun t k => XS.ifNo Xh1.here hx rfl (hb hby d4_4) rfl ((if0 _ _).trans (feq (by decide : ¬ ((1 : Int32) = (0 : Int32)))).1) k) ?_
  show Go p.tables e below P T1 (mkF m 7 #[.val (.ref so), .val (.int ji)] [])
  refine Go.via (fun t k => XS.aloadN Xh1.here hx rfl (hb hby d4_7) rfl rfl k) ?_
  show Go p.tables e below P T1 (mkF m 8 #[.val (.ref so), .val (.int ji)] [(.ref so)])
  obtain ⟨T2, X2, e2, st2⟩ := getF Xh1 hx hZ hown (host := "") (Or.inl (hw _ (List.mem_of_getElem? (i := 18) rfl))) Via.refl hh1 P6 (g := (mkF m 8 #[.val (.ref so), .val (.int ji)] [(.ref so)])) rfl rfl (hb hby d4_8)
  refine Go.via st2 ?_
  show Go p.tables e below P T2 (mkF m 11 #[.val (.ref so), .val (.int ji)] [(.ref tb)])
  refine Go.via (fun t k => XS.iloadN X2.here hx rfl (hb hby d4_11) rfl k) ?_
  show Go p.tables e below P T2 (mkF m 12 #[.val (.ref so), .val (.int ji)] [(.int ji), (.ref tb)])
  obtain ⟨_, _, ⟨T3, L3, k3, n3⟩, -, X3, ⟨Lc3, hQ3, l3, y3, z3⟩, st3⟩ := Jvm.LawKit.callS X2 hx (y := (⟨"java/lang/StringLatin1", "charAt", "([BI)C"⟩ : MethodName)) hown (mvT hZ (hw _ (List.mem_of_getElem? (i := 36) rfl))) (mvT hZ (hw _ (List.mem_of_getElem? (i := 37) rfl))) (mvT hZ (hw _ (List.mem_of_getElem? (i := 38) rfl))) (mvT hZ (hw _ (List.mem_of_getElem? (i := 39) rfl))) (by decide) (backOf (W := 0) (rm6 l Z a0 hw [] tb ji fm kk nn vs xx h0 n0 Z0 O0 P3 (by first | assumption | decide | omega : fm.isRef = true) P8 (by first | assumption | decide | omega : ¬ (ji < (0 : Int32))) (by first | assumption | decide | omega : ji < nn) hat) hZ (hw _ (List.mem_of_getElem? (i := 39) rfl)) (hw _ (List.mem_of_getElem? (i := 38) rfl)) (by decide) (by decide)) (g := (mkF m 12 #[.val (.ref so), .val (.int ji)] [(.int ji), (.ref tb)])) rfl (by rw [hml]; rfl) (argsL := [(.ref tb), (.int ji)]) (rest := []) (lenOf own_pd5 rfl) rfl (by show 2 * 0 + _ ≤ _; exact Nat.le_of_eq rfl) (hb hby d4_12) (fun _ _ => ⟨rfl, e2, (by decide : 0 + 0 ≤ _), (by decide : 0 + 0 ≤ _)⟩)
  dsimp only [Pt.U, Pt.locs, Pt.cells, Pt.slots] at X3 l3 y3 z3 st3 hQ3
  subst l3 y3 z3
  obtain ⟨rfl, Nq3, hh3⟩ := hQ3
  obtain ⟨lc3, Xh3, N3⟩ := own_hide X3 (Fr.app N1 Nq3)
  clear X3
  refine Go.via st3 ?_
  show Go p.tables e below P T3 (mkF m 15 #[.val (.ref so), .val (.int ji)] [(.int (xx &&& (255 : Int32)))])
  obtain ⟨fs, hr, hrun, hended, hW, hsame⟩ := Xh3.leave (v := some (.int (xx &&& (255 : Int32)))) (fun h => by rw [Bd.returns] at h; cases h)
  refine ⟨_, _, retZ Xh3 hx (t := .char) Bd.returns (by simp) (hb hby d4_15) (own_nc xx) hr, hrun, hended, hP _ _ ⟨_, _, rfl, ?_, ⟨_, rfl⟩, hW, hsame.mono (by decide) (by decide)⟩⟩
  show Q4 Z so ji fm cs tb kk nn vs xx h0 n0 _ T3.heap _
  rw [hh3]
  exact ⟨rfl, N3, rfl⟩
theorem own_pd6 : parseMethodDescriptor "()I" = some ⟨[], some .int⟩ := by decide +kernel
theorem own_pd7 : parseMethodDescriptor "(I)C" = some ⟨[.int], some .char⟩ := by decide +kernel
theorem own_pn3 : plainName "com/example/tri3/tri3/StageKindNamedPinLaw" = true := by first | (simp [plainName, overriddenIn]; done) | decide +kernel
theorem d1_0 : decode method_3_code 0 = .ok (.aload_n 0, 1) := by decide +kernel
theorem d1_1 : decode method_3_code 1 = .ok (.ifnull 17, 3) := by decide +kernel
theorem d1_4 : decode method_3_code 4 = .ok (.iload_n 1, 1) := by decide +kernel
theorem d1_5 : decode method_3_code 5 = .ok (.aload_n 0, 1) := by decide +kernel
theorem d1_6 : decode method_3_code 6 = .ok (.invokevirtual 21, 3) := by decide +kernel
theorem d1_9 : decode method_3_code 9 = .ok (.if_icmp .ge 9, 3) := by decide +kernel
theorem d1_12 : decode method_3_code 12 = .ok (.aload_n 0, 1) := by decide +kernel
theorem d1_13 : decode method_3_code 13 = .ok (.iload_n 1, 1) := by decide +kernel
theorem d1_14 : decode method_3_code 14 = .ok (.invokevirtual 55, 3) := by decide +kernel
theorem d1_17 : decode method_3_code 17 = .ok (.ireturn, 1) := by decide +kernel
theorem d1_18 : decode method_3_code 18 = .ok (.lload_n 2, 1) := by decide +kernel
theorem d1_19 : decode method_3_code 19 = .ok (.bipush 8, 2) := by decide +kernel
theorem d1_21 : decode method_3_code 21 = .ok (.iload_n 1, 1) := by decide +kernel
theorem d1_22 : decode method_3_code 22 = .ok (.imul, 1) := by decide +kernel
theorem d1_23 : decode method_3_code 23 = .ok (.lushr, 1) := by decide +kernel
theorem d1_24 : decode method_3_code 24 = .ok (.ldc2_w 59, 3) := by decide +kernel
theorem d1_27 : decode method_3_code 27 = .ok (.land, 1) := by decide +kernel
theorem d1_28 : decode method_3_code 28 = .ok (.l2i, 1) := by decide +kernel
theorem d1_29 : decode method_3_code 29 = .ok (.i2c, 1) := by decide +kernel
theorem d1_30 : decode method_3_code 30 = .ok (.ireturn, 1) := by decide +kernel
theorem ef_1r (m : MethodId) (x0 : Addr) (x1 : Int32) (x2 : Int64) : entryFrame m #[(.ref x0), (.int x1), (.long x2)] 4 = mkF m 0 #[.val (.ref x0), .val (.int x1), .val (.long x2), .second] [] := by first | (simp [entryFrame, mkF, argsToLocals, Value.category]; done) | rfl
def Q1r (Z : State) (so : Addr) (ji : Int32) (lv : Int64) (cs : Int32) (fm : Value) (tb : Addr) (kk : ClassId) (bx : List Int32) (h0 : Heap) (n0 : Nat) (v : Option Value) (h : Heap) (L : List Loc) : Prop := ∃ (cc : Int32), v = some (.int cc) ∧ Fr n0 L ∧ h = h0 ∧ (own_by cc)
set_option maxRecDepth 65536 in
set_option maxHeartbeats 40000000 in
theorem rm1r (l : Launch) (Z : State) (a0 : Array Value) (hw : ∀ d ∈ tables_1, d.before a0 Z = true) (ws : List Jvm.Cond) (so : Addr) (ji : Int32) (lv : Int64) (cs : Int32) (fm : Value) (tb : Addr) (kk : ClassId) (bx : List Int32) (h0 : Heap) (n0 : Nat) (Z0 : n0 ≤ h0.size) (O0 : Old Z n0 h0) (P1 : Sta Z Z.heap "java/lang/String" "COMPACT_STRINGS" "Z" (.int cs)) (hcs : ¬ cs = (0 : Int32)) (P3 : Sta Z Z.heap "jdk/internal/util/Preconditions" "SIOOBE_FORMATTER" "Ljava/util/function/BiFunction;" fm) (rfm : fm.isRef = true) (P5 : Exa Z h0 so "java/lang/String") (P6 : Fld Z h0 so "java/lang/String" "value" "[B" (.ref tb)) (P7 : Fld Z h0 so "java/lang/String" "coder" "B" (.int (0 : Int32))) (P8 : Arv Z h0 tb kk .byte (own_lg bx) (bx.map Value.int) (.int (0 : Int32))) (hj0 : ¬ (ji < (0 : Int32))) :
    MetFree l (⟨"com/example/tri3/tri3/StageKindNamedPinLaw", "pick", "(Ljava/lang/String;IJ)C"⟩ : MethodName) (head1 (Jvm.Cond.code (⟨"com/example/tri3/tri3/StageKindNamedPinLaw", "pick", "(Ljava/lang/String;IJ)C"⟩ : MethodName) method_3_code 4 (some .char) :: ws) ({ frames := 4, cells := 0, slots := 0, locals := 53 } : Room)) (fun a U => a = #[(.ref so), (.int ji), (.long lv)] ∧ Z.Warmed39 U.vm ∧ U.heap = h0) (fun _ _ _ _ _ => True) (fun _ U o U' => ∃ v L, o = .returned v ∧ Q1r Z so ji lv cs fm tb kk bx h0 n0 v U'.heap L ∧ FrameEnd U o U' L ({ frames := 4, cells := 0, slots := 0, locals := 53 } : Room).cells ({ frames := 4, cells := 0, slots := 0, locals := 53 } : Room).slots) := by
  refine MetFree.of_bodySF (plainFor_of_name own_pn3) hisR ?_
  intro p e s m args below meth c s₁ Bd hml0 hP hK
  obtain ⟨rfl, hZ, hh⟩ := hP
  have hx := Bd.exec
  have hby := Bd.bytes
  have hml : c.maxLocals = 4 := hml0
  have hown : s.vm.findClass "com/example/tri3/tri3/StageKindNamedPinLaw" = some m.cls := findClass_of_methodNamed Bd.named
  have hnm := (name_of_methodNamed Bd.named Bd.method).1
  have X0 : Stand p l e ({ frames := 4, cells := 0, slots := 0, locals := 53 } : Room) s m #[(.ref so), (.int ji), (.long lv)] below meth c s₁ [] 0 0 := Stand.of_body Bd
  have e0 : s₁.heap = h0 := by rw [← hh, Bd.state]; rfl
  have N0 := Fr.nil n0
  have K0 : Keep h0 h0 [] := Keep.refl _ _
  suffices GO : ∀ P : Outcome → State → Prop, (∀ o U', (∃ v L, o = .returned v ∧ Q1r Z so ji lv cs fm tb kk bx h0 n0 v U'.heap L ∧ FrameEnd s o U' L ({ frames := 4, cells := 0, slots := 0, locals := 53 } : Room).cells ({ frames := 4, cells := 0, slots := 0, locals := 53 } : Room).slots) → P o U') → Go p.tables e below P s₁ (mkF m 0 #[.val (.ref so), .val (.int ji), .val (.long lv), .second] []) by
    obtain ⟨s2, o, st, r⟩ := GO _ (fun _ _ q => q)
    exact ⟨s2, o, castTop (ef_1r m so ji lv) st, r⟩
  clear hh
  intro P hP
  show Go p.tables e below P s₁ (mkF m 0 #[.val (.ref so), .val (.int ji), .val (.long lv), .second] [])
  refine Go.via (fun t k => XS.aloadN X0.here hx rfl (hb hby d1_0) rfl rfl k) ?_
  show Go p.tables e below P s₁ (mkF m 1 #[.val (.ref so), .val (.int ji), .val (.long lv), .second] [(.ref so)])
  refine Go.via (fun t k => XS.ifnullNo X0.here hx rfl (hb hby d1_1) rfl k) ?_
  show Go p.tables e below P s₁ (mkF m 4 #[.val (.ref so), .val (.int ji), .val (.long lv), .second] [])
  refine Go.via (fun t k => XS.iloadN X0.here hx rfl (hb hby d1_4) rfl k) ?_
  refine Go.via (fun t k => XS.aloadN X0.here hx rfl (hb hby d1_5) rfl rfl k) ?_
  show Go p.tables e below P s₁ (mkF m 6 #[.val (.ref so), .val (.int ji), .val (.long lv), .second] [(.ref so), (.int ji)])
  obtain ⟨cq1, kq1, q1a, q1b, q1c⟩ := isOf hZ e0 P5
  obtain ⟨_, _, ⟨T1, L1, k1, n1⟩, -, X1, ⟨Lc1, hQ1, l1, y1, z1⟩, st1⟩ := X0.virtualBack hx (y := (⟨"java/lang/String", "length", "()I"⟩ : MethodName)) (z := (⟨"java/lang/String", "length", "()I"⟩ : MethodName)) hown (mvT hZ (hw _ (List.mem_of_getElem? (i := 13) rfl))) (mvT hZ (hw _ (List.mem_of_getElem? (i := 14) rfl))) (notFace_of_selects (args := #[]) (mvT hZ (hw _ (List.mem_of_getElem? (i := 16) rfl)))) (mvT hZ (hw _ (List.mem_of_getElem? (i := 16) rfl))) (mvT hZ (hw _ (List.mem_of_getElem? (i := 15) rfl))) (by decide) (backOf (W := 1) (rm2 l Z a0 hw [] so cs tb kk (own_lg bx) (bx.map Value.int) h0 n0 Z0 O0 P1 (by first | assumption | decide | omega : ¬ cs = (0 : Int32)) P5 P6 P7 P8) hZ (hw _ (List.mem_of_getElem? (i := 17) rfl)) (hw _ (List.mem_of_getElem? (i := 1) rfl)) (by decide) (by decide)) q1a q1c (g := (mkF m 6 #[.val (.ref so), .val (.int ji), .val (.long lv), .second] [(.ref so), (.int ji)])) rfl (by rw [hml]; rfl) (Steps.refl _) (argsL := []) (rest := [(.int ji)]) (lenOf own_pd6 rfl) rfl (by show 2 * 0 + _ ≤ _; exact Nat.le_of_eq rfl) (hb hby d1_6) (fun _ _ => ⟨rfl, e0, (by decide : 0 + 0 ≤ _), (by decide : 0 + 0 ≤ _)⟩)
  dsimp only [Pt.U, Pt.locs, Pt.cells, Pt.slots] at X1 l1 y1 z1 st1 hQ1
  subst l1 y1 z1
  obtain ⟨rfl, Nq1, hh1⟩ := hQ1
  obtain ⟨lc1, Xh1, N1⟩ := own_hide X1 (Fr.app N0 Nq1)
  clear X1
  refine Go.hop st1 ?_
  show Go p.tables e below P T1 (mkF m 9 #[.val (.ref so), .val (.int ji), .val (.long lv), .second] [(.int (own_lg bx)), (.int ji)])
  by_cases hc2 : ji < (own_lg bx)
  · refine Go.via (fun t k => XS.icmpNo Xh1.here hx rfl (hb hby d1_9) rfl (tlt hc2).2.1 k) ?_
    show Go p.tables e below P T1 (mkF m 12 #[.val (.ref so), .val (.int ji), .val (.long lv), .second] [])
    refine Go.via (fun t k => XS.aloadN Xh1.here hx rfl (hb hby d1_12) rfl rfl k) ?_
    refine Go.via (fun t k => XS.iloadN Xh1.here hx rfl (hb hby d1_13) rfl k) ?_
    show Go p.tables e below P T1 (mkF m 14 #[.val (.ref so), .val (.int ji), .val (.long lv), .second] [(.int ji), (.ref so)])
    obtain ⟨cq3, kq3, q3a, q3b, q3c⟩ := isOf hZ hh1 P5
    obtain ⟨_, _, ⟨T3, L3, k3, n3⟩, -, X3, ⟨Lc3, hQ3, l3, y3, z3⟩, st3⟩ := Xh1.virtualBack hx (y := (⟨"java/lang/String", "charAt", "(I)C"⟩ : MethodName)) (z := (⟨"java/lang/String", "charAt", "(I)C"⟩ : MethodName)) hown (mvT hZ (hw _ (List.mem_of_getElem? (i := 26) rfl))) (mvT hZ (hw _ (List.mem_of_getElem? (i := 27) rfl))) (notFace_of_selects (args := #[]) (mvT hZ (hw _ (List.mem_of_getElem? (i := 29) rfl)))) (mvT hZ (hw _ (List.mem_of_getElem? (i := 29) rfl))) (mvT hZ (hw _ (List.mem_of_getElem? (i := 28) rfl))) (by decide) (backOf (W := 0) (rm4 l Z a0 hw [] so ji fm cs tb kk (own_lg bx) (bx.map Value.int) (bx.getD ji.toNatClampNeg 0) h0 n0 Z0 O0 P1 (by first | assumption | decide | omega : ¬ cs = (0 : Int32)) P3 (by first | assumption | decide | omega : fm.isRef = true) P5 P6 P7 P8 (by first | assumption | decide | omega : ¬ (ji < (0 : Int32))) hc2 (own_gD bx _)) hZ (hw _ (List.mem_of_getElem? (i := 30) rfl)) (hw _ (List.mem_of_getElem? (i := 1) rfl)) (by decide) (by decide)) q3a q3c (g := (mkF m 14 #[.val (.ref so), .val (.int ji), .val (.long lv), .second] [(.int ji), (.ref so)])) rfl (by rw [hml]; rfl) (Steps.refl _) (argsL := [(.int ji)]) (rest := []) (lenOf own_pd7 rfl) rfl (by show 2 * 0 + _ ≤ _; exact Nat.le_of_eq rfl) (hb hby d1_14) (fun _ _ => ⟨rfl, hh1, (by decide : 0 + 0 ≤ _), (by decide : 0 + 0 ≤ _)⟩)
    dsimp only [Pt.U, Pt.locs, Pt.cells, Pt.slots] at X3 l3 y3 z3 st3 hQ3
    subst l3 y3 z3
    obtain ⟨rfl, Nq3, hh3⟩ := hQ3
    obtain ⟨lc3, Xh3, N3⟩ := own_hide X3 (Fr.app N1 Nq3)
    clear X3
    refine Go.hop st3 ?_
    show Go p.tables e below P T3 (mkF m 17 #[.val (.ref so), .val (.int ji), .val (.long lv), .second] [(.int ((bx.getD ji.toNatClampNeg 0) &&& (255 : Int32)))])
    obtain ⟨fs, hr, hrun, hended, hW, hsame⟩ := Xh3.leave (v := some (.int (nar .char ((bx.getD ji.toNatClampNeg 0) &&& (255 : Int32))))) (fun h => by rw [Bd.returns] at h; cases h)
    refine ⟨_, _, retZ Xh3 hx (t := .char) Bd.returns (by simp) (hb hby d1_17) rfl hr, hrun, hended, hP _ _ ⟨_, _, rfl, ?_, ⟨_, rfl⟩, hW, hsame.mono (by decide) (by decide)⟩⟩
    show Q1r Z so ji lv cs fm tb kk bx h0 n0 _ T3.heap _
    rw [hh3]
    exact ⟨(nar .char ((bx.getD ji.toNatClampNeg 0) &&& (255 : Int32))), rfl, N3, rfl, (own_byA _)⟩
  · refine Go.via (fun t k => XS.icmpYes Xh1.here hx rfl (pc0 := 9) (pc' := 18) rfl (hb hby d1_9) rfl (flt hc2).2.1 (by decide) (by decide) k) ?_
    show Go p.tables e below P T1 (mkF m 18 #[.val (.ref so), .val (.int ji), .val (.long lv), .second] [])
    refine Go.via (fun t k => XS.lloadN Xh1.here hx rfl (hb hby d1_18) rfl k) ?_
    refine Go.via (fun t k => XS.bipush Xh1.here hx rfl (hb hby d1_19) k) ?_
    refine Go.via (fun t k => XS.iloadN Xh1.here hx rfl (hb hby d1_21) rfl k) ?_
    show Go p.tables e below P T1 (mkF m 22 #[.val (.ref so), .val (.int ji), .val (.long lv), .second] [(.int ji), (.int (8 : Int32)), (.long lv)])
    refine Go.via (fun t k => XS.imul Xh1.here hx rfl (hb hby d1_22) rfl k) ?_
    refine Go.via (fun t k => XS.lushr Xh1.here hx rfl (hb hby d1_23) rfl k) ?_
    show Go p.tables e below P T1 (mkF m 24 #[.val (.ref so), .val (.int ji), .val (.long lv), .second] [(.long ((lv.toUInt64 >>> (((8 : Int32) * ji) &&& 0x3f).toInt64.toUInt64).toInt64))])
    refine Go.via (fun t k => Xh1.ldc2Long hx hown (mvT hZ (hw _ (List.mem_of_getElem? (i := 48) rfl))) (g := (mkF m 24 #[.val (.ref so), .val (.int ji), .val (.long lv), .second] [(.long ((lv.toUInt64 >>> (((8 : Int32) * ji) &&& 0x3f).toInt64.toUInt64).toInt64))])) rfl (hb hby d1_24) t k) ?_
    show Go p.tables e below P T1 (mkF m 27 #[.val (.ref so), .val (.int ji), .val (.long lv), .second] [(.long (255 : Int64)), (.long ((lv.toUInt64 >>> (((8 : Int32) * ji) &&& 0x3f).toInt64.toUInt64).toInt64))])
    refine Go.via (fun t k => XS.land Xh1.here hx rfl (hb hby d1_27) rfl k) ?_
    refine Go.via (fun t k => XS.l2i Xh1.here hx rfl (hb hby d1_28) rfl k) ?_
    refine Go.via (fun t k => XS.i2c Xh1.here hx rfl (hb hby d1_29) rfl k) ?_
    show Go p.tables e below P T1 (mkF m 30 #[.val (.ref so), .val (.int ji), .val (.long lv), .second] [(.int (((((lv.toUInt64 >>> (((8 : Int32) * ji) &&& 0x3f).toInt64.toUInt64).toInt64) &&& (255 : Int64)).toInt32).toUInt32.toUInt16.toUInt32.toInt32))])
    obtain ⟨fs, hr, hrun, hended, hW, hsame⟩ := Xh1.leave (v := some (.int (nar .char (((((lv.toUInt64 >>> (((8 : Int32) * ji) &&& 0x3f).toInt64.toUInt64).toInt64) &&& (255 : Int64)).toInt32).toUInt32.toUInt16.toUInt32.toInt32)))) (fun h => by rw [Bd.returns] at h; cases h)
    refine ⟨_, _, retZ Xh1 hx (t := .char) Bd.returns (by simp) (hb hby d1_30) rfl hr, hrun, hended, hP _ _ ⟨_, _, rfl, ?_, ⟨_, rfl⟩, hW, hsame.mono (by decide) (by decide)⟩⟩
    show Q1r Z so ji lv cs fm tb kk bx h0 n0 _ T1.heap _
    rw [hh1]
    exact ⟨(nar .char (((((lv.toUInt64 >>> (((8 : Int32) * ji) &&& 0x3f).toInt64.toUInt64).toInt64) &&& (255 : Int64)).toInt32).toUInt32.toUInt16.toUInt32.toInt32)), rfl, N1, rfl, (own_byL _)⟩
theorem ef_1n (m : MethodId) (x0 : Int32) (x1 : Int64) : entryFrame m #[.null, (.int x0), (.long x1)] 4 = mkF m 0 #[.val .null, .val (.int x0), .val (.long x1), .second] [] := by first | (simp [entryFrame, mkF, argsToLocals, Value.category]; done) | rfl
def Q1n (Z : State) (ji : Int32) (lv : Int64) (h0 : Heap) (n0 : Nat) (v : Option Value) (h : Heap) (L : List Loc) : Prop := ∃ (cc : Int32), v = some (.int cc) ∧ Fr n0 L ∧ h = h0 ∧ (own_by cc)
set_option maxRecDepth 65536 in
set_option maxHeartbeats 40000000 in
theorem rm1n (l : Launch) (Z : State) (a0 : Array Value) (hw : ∀ d ∈ tables_1, d.before a0 Z = true) (ws : List Jvm.Cond) (ji : Int32) (lv : Int64) (h0 : Heap) (n0 : Nat) (Z0 : n0 ≤ h0.size) :
    MetFree l (⟨"com/example/tri3/tri3/StageKindNamedPinLaw", "pick", "(Ljava/lang/String;IJ)C"⟩ : MethodName) (head1 (Jvm.Cond.code (⟨"com/example/tri3/tri3/StageKindNamedPinLaw", "pick", "(Ljava/lang/String;IJ)C"⟩ : MethodName) method_3_code 4 (some .char) :: ws) ({ frames := 0, cells := 0, slots := 0, locals := 0 } : Room)) (fun a U => a = #[.null, (.int ji), (.long lv)] ∧ Z.Warmed39 U.vm ∧ U.heap = h0) (fun _ _ _ _ _ => True) (fun _ U o U' => ∃ v L, o = .returned v ∧ Q1n Z ji lv h0 n0 v U'.heap L ∧ FrameEnd U o U' L ({ frames := 0, cells := 0, slots := 0, locals := 0 } : Room).cells ({ frames := 0, cells := 0, slots := 0, locals := 0 } : Room).slots) := by
  refine MetFree.of_bodySF (plainFor_of_name own_pn3) hisR ?_
  intro p e s m args below meth c s₁ Bd hml0 hP hK
  obtain ⟨rfl, hZ, hh⟩ := hP
  have hx := Bd.exec
  have hby := Bd.bytes
  have hml : c.maxLocals = 4 := hml0
  have hown : s.vm.findClass "com/example/tri3/tri3/StageKindNamedPinLaw" = some m.cls := findClass_of_methodNamed Bd.named
  have hnm := (name_of_methodNamed Bd.named Bd.method).1
  have X0 : Stand p l e ({ frames := 0, cells := 0, slots := 0, locals := 0 } : Room) s m #[.null, (.int ji), (.long lv)] below meth c s₁ [] 0 0 := Stand.of_body Bd
  have e0 : s₁.heap = h0 := by rw [← hh, Bd.state]; rfl
  have N0 := Fr.nil n0
  have K0 : Keep h0 h0 [] := Keep.refl _ _
  suffices GO : ∀ P : Outcome → State → Prop, (∀ o U', (∃ v L, o = .returned v ∧ Q1n Z ji lv h0 n0 v U'.heap L ∧ FrameEnd s o U' L ({ frames := 0, cells := 0, slots := 0, locals := 0 } : Room).cells ({ frames := 0, cells := 0, slots := 0, locals := 0 } : Room).slots) → P o U') → Go p.tables e below P s₁ (mkF m 0 #[.val .null, .val (.int ji), .val (.long lv), .second] []) by
    obtain ⟨s2, o, st, r⟩ := GO _ (fun _ _ q => q)
    exact ⟨s2, o, castTop (ef_1n m ji lv) st, r⟩
  clear hh
  intro P hP
  show Go p.tables e below P s₁ (mkF m 0 #[.val .null, .val (.int ji), .val (.long lv), .second] [])
  refine Go.via (fun t k => XS.aloadN X0.here hx rfl (hb hby d1_0) rfl rfl k) ?_
  show Go p.tables e below P s₁ (mkF m 1 #[.val .null, .val (.int ji), .val (.long lv), .second] [.null])
  refine Go.via (fun t k => XS.ifnullYes X0.here hx rfl (pc0 := 1) (pc' := 18) rfl (hb hby d1_1) rfl (by decide) (by decide) k) ?_
  show Go p.tables e below P s₁ (mkF m 18 #[.val .null, .val (.int ji), .val (.long lv), .second] [])
  refine Go.via (fun t k => XS.lloadN X0.here hx rfl (hb hby d1_18) rfl k) ?_
  refine Go.via (fun t k => XS.bipush X0.here hx rfl (hb hby d1_19) k) ?_
  refine Go.via (fun t k => XS.iloadN X0.here hx rfl (hb hby d1_21) rfl k) ?_
  show Go p.tables e below P s₁ (mkF m 22 #[.val .null, .val (.int ji), .val (.long lv), .second] [(.int ji), (.int (8 : Int32)), (.long lv)])
  refine Go.via (fun t k => XS.imul X0.here hx rfl (hb hby d1_22) rfl k) ?_
  refine Go.via (fun t k => XS.lushr X0.here hx rfl (hb hby d1_23) rfl k) ?_
  show Go p.tables e below P s₁ (mkF m 24 #[.val .null, .val (.int ji), .val (.long lv), .second] [(.long ((lv.toUInt64 >>> (((8 : Int32) * ji) &&& 0x3f).toInt64.toUInt64).toInt64))])
  refine Go.via (fun t k => X0.ldc2Long hx hown (mvT hZ (hw _ (List.mem_of_getElem? (i := 48) rfl))) (g := (mkF m 24 #[.val .null, .val (.int ji), .val (.long lv), .second] [(.long ((lv.toUInt64 >>> (((8 : Int32) * ji) &&& 0x3f).toInt64.toUInt64).toInt64))])) rfl (hb hby d1_24) t k) ?_
  show Go p.tables e below P s₁ (mkF m 27 #[.val .null, .val (.int ji), .val (.long lv), .second] [(.long (255 : Int64)), (.long ((lv.toUInt64 >>> (((8 : Int32) * ji) &&& 0x3f).toInt64.toUInt64).toInt64))])
  refine Go.via (fun t k => XS.land X0.here hx rfl (hb hby d1_27) rfl k) ?_
  refine Go.via (fun t k => XS.l2i X0.here hx rfl (hb hby d1_28) rfl k) ?_
  refine Go.via (fun t k => XS.i2c X0.here hx rfl (hb hby d1_29) rfl k) ?_
  show Go p.tables e below P s₁ (mkF m 30 #[.val .null, .val (.int ji), .val (.long lv), .second] [(.int (((((lv.toUInt64 >>> (((8 : Int32) * ji) &&& 0x3f).toInt64.toUInt64).toInt64) &&& (255 : Int64)).toInt32).toUInt32.toUInt16.toUInt32.toInt32))])
  obtain ⟨fs, hr, hrun, hended, hW, hsame⟩ := X0.leave (v := some (.int (nar .char (((((lv.toUInt64 >>> (((8 : Int32) * ji) &&& 0x3f).toInt64.toUInt64).toInt64) &&& (255 : Int64)).toInt32).toUInt32.toUInt16.toUInt32.toInt32)))) (fun h => by rw [Bd.returns] at h; cases h)
  refine ⟨_, _, retZ X0 hx (t := .char) Bd.returns (by simp) (hb hby d1_30) rfl hr, hrun, hended, hP _ _ ⟨_, _, rfl, ?_, ⟨_, rfl⟩, hW, hsame.mono (by decide) (by decide)⟩⟩
  show Q1n Z ji lv h0 n0 _ s₁.heap _
  rw [e0]
  exact ⟨(nar .char (((((lv.toUInt64 >>> (((8 : Int32) * ji) &&& 0x3f).toInt64.toUInt64).toInt64) &&& (255 : Int64)).toInt32).toUInt32.toUInt16.toUInt32.toInt32)), rfl, N0, rfl, (own_byL _)⟩
theorem own_pd8 : parseMethodDescriptor "([C)V" = some ⟨[(.array .char)], none⟩ := by decide +kernel
theorem d9_0 : decode method_4_code 0 = .ok (.iload_n 1, 1) := by decide +kernel
theorem d9_1 : decode method_4_code 1 = .ok (.ifCond .ne 14, 3) := by decide +kernel
theorem d9_4 : decode method_4_code 4 = .ok (.new 22, 3) := by decide +kernel
theorem d9_7 : decode method_4_code 7 = .ok (.dup, 1) := by decide +kernel
theorem d9_8 : decode method_4_code 8 = .ok (.iconst 0, 1) := by decide +kernel
theorem d9_9 : decode method_4_code 9 = .ok (.newarray .char, 2) := by decide +kernel
theorem d9_11 : decode method_4_code 11 = .ok (.invokespecial 61, 3) := by decide +kernel
theorem d9_14 : decode method_4_code 14 = .ok (.areturn, 1) := by decide +kernel
theorem d9_15 : decode method_4_code 15 = .ok (.iload_n 1, 1) := by decide +kernel
theorem d9_16 : decode method_4_code 16 = .ok (.iconst 1, 1) := by decide +kernel
theorem d9_17 : decode method_4_code 17 = .ok (.if_icmp .ne 20, 3) := by decide +kernel
theorem d9_20 : decode method_4_code 20 = .ok (.new 22, 3) := by decide +kernel
theorem d9_23 : decode method_4_code 23 = .ok (.dup, 1) := by decide +kernel
theorem d9_24 : decode method_4_code 24 = .ok (.iconst 1, 1) := by decide +kernel
theorem d9_25 : decode method_4_code 25 = .ok (.newarray .char, 2) := by decide +kernel
theorem d9_27 : decode method_4_code 27 = .ok (.dup, 1) := by decide +kernel
theorem d9_28 : decode method_4_code 28 = .ok (.iconst 0, 1) := by decide +kernel
theorem d9_29 : decode method_4_code 29 = .ok (.aload_n 0, 1) := by decide +kernel
theorem d9_30 : decode method_4_code 30 = .ok (.iconst 0, 1) := by decide +kernel
theorem d9_31 : decode method_4_code 31 = .ok (.caload, 1) := by decide +kernel
theorem d9_32 : decode method_4_code 32 = .ok (.castore, 1) := by decide +kernel
theorem d9_33 : decode method_4_code 33 = .ok (.invokespecial 61, 3) := by decide +kernel
theorem d9_36 : decode method_4_code 36 = .ok (.areturn, 1) := by decide +kernel
theorem d9_37 : decode method_4_code 37 = .ok (.iload_n 1, 1) := by decide +kernel
theorem d9_38 : decode method_4_code 38 = .ok (.iconst 2, 1) := by decide +kernel
theorem d9_39 : decode method_4_code 39 = .ok (.if_icmp .ne 26, 3) := by decide +kernel
theorem d9_42 : decode method_4_code 42 = .ok (.new 22, 3) := by decide +kernel
theorem d9_45 : decode method_4_code 45 = .ok (.dup, 1) := by decide +kernel
theorem d9_46 : decode method_4_code 46 = .ok (.iconst 2, 1) := by decide +kernel
theorem d9_47 : decode method_4_code 47 = .ok (.newarray .char, 2) := by decide +kernel
theorem d9_49 : decode method_4_code 49 = .ok (.dup, 1) := by decide +kernel
theorem d9_50 : decode method_4_code 50 = .ok (.iconst 0, 1) := by decide +kernel
theorem d9_51 : decode method_4_code 51 = .ok (.aload_n 0, 1) := by decide +kernel
theorem d9_52 : decode method_4_code 52 = .ok (.iconst 0, 1) := by decide +kernel
theorem d9_53 : decode method_4_code 53 = .ok (.caload, 1) := by decide +kernel
theorem d9_54 : decode method_4_code 54 = .ok (.castore, 1) := by decide +kernel
theorem d9_55 : decode method_4_code 55 = .ok (.dup, 1) := by decide +kernel
theorem d9_56 : decode method_4_code 56 = .ok (.iconst 1, 1) := by decide +kernel
theorem d9_57 : decode method_4_code 57 = .ok (.aload_n 0, 1) := by decide +kernel
theorem d9_58 : decode method_4_code 58 = .ok (.iconst 1, 1) := by decide +kernel
theorem d9_59 : decode method_4_code 59 = .ok (.caload, 1) := by decide +kernel
theorem d9_60 : decode method_4_code 60 = .ok (.castore, 1) := by decide +kernel
theorem d9_61 : decode method_4_code 61 = .ok (.invokespecial 61, 3) := by decide +kernel
theorem d9_64 : decode method_4_code 64 = .ok (.areturn, 1) := by decide +kernel
theorem d9_65 : decode method_4_code 65 = .ok (.iload_n 1, 1) := by decide +kernel
theorem d9_66 : decode method_4_code 66 = .ok (.iconst 3, 1) := by decide +kernel
theorem d9_67 : decode method_4_code 67 = .ok (.if_icmp .ne 32, 3) := by decide +kernel
theorem d9_70 : decode method_4_code 70 = .ok (.new 22, 3) := by decide +kernel
theorem d9_73 : decode method_4_code 73 = .ok (.dup, 1) := by decide +kernel
theorem d9_74 : decode method_4_code 74 = .ok (.iconst 3, 1) := by decide +kernel
theorem d9_75 : decode method_4_code 75 = .ok (.newarray .char, 2) := by decide +kernel
theorem d9_77 : decode method_4_code 77 = .ok (.dup, 1) := by decide +kernel
theorem d9_78 : decode method_4_code 78 = .ok (.iconst 0, 1) := by decide +kernel
theorem d9_79 : decode method_4_code 79 = .ok (.aload_n 0, 1) := by decide +kernel
theorem d9_80 : decode method_4_code 80 = .ok (.iconst 0, 1) := by decide +kernel
theorem d9_81 : decode method_4_code 81 = .ok (.caload, 1) := by decide +kernel
theorem d9_82 : decode method_4_code 82 = .ok (.castore, 1) := by decide +kernel
theorem d9_83 : decode method_4_code 83 = .ok (.dup, 1) := by decide +kernel
theorem d9_84 : decode method_4_code 84 = .ok (.iconst 1, 1) := by decide +kernel
theorem d9_85 : decode method_4_code 85 = .ok (.aload_n 0, 1) := by decide +kernel
theorem d9_86 : decode method_4_code 86 = .ok (.iconst 1, 1) := by decide +kernel
theorem d9_87 : decode method_4_code 87 = .ok (.caload, 1) := by decide +kernel
theorem d9_88 : decode method_4_code 88 = .ok (.castore, 1) := by decide +kernel
theorem d9_89 : decode method_4_code 89 = .ok (.dup, 1) := by decide +kernel
theorem d9_90 : decode method_4_code 90 = .ok (.iconst 2, 1) := by decide +kernel
theorem d9_91 : decode method_4_code 91 = .ok (.aload_n 0, 1) := by decide +kernel
theorem d9_92 : decode method_4_code 92 = .ok (.iconst 2, 1) := by decide +kernel
theorem d9_93 : decode method_4_code 93 = .ok (.caload, 1) := by decide +kernel
theorem d9_94 : decode method_4_code 94 = .ok (.castore, 1) := by decide +kernel
theorem d9_95 : decode method_4_code 95 = .ok (.invokespecial 61, 3) := by decide +kernel
theorem d9_98 : decode method_4_code 98 = .ok (.areturn, 1) := by decide +kernel
theorem d9_99 : decode method_4_code 99 = .ok (.iload_n 1, 1) := by decide +kernel
theorem d9_100 : decode method_4_code 100 = .ok (.iconst 4, 1) := by decide +kernel
theorem d9_101 : decode method_4_code 101 = .ok (.if_icmp .ne 38, 3) := by decide +kernel
theorem d9_104 : decode method_4_code 104 = .ok (.new 22, 3) := by decide +kernel
theorem d9_107 : decode method_4_code 107 = .ok (.dup, 1) := by decide +kernel
theorem d9_108 : decode method_4_code 108 = .ok (.iconst 4, 1) := by decide +kernel
theorem d9_109 : decode method_4_code 109 = .ok (.newarray .char, 2) := by decide +kernel
theorem d9_111 : decode method_4_code 111 = .ok (.dup, 1) := by decide +kernel
theorem d9_112 : decode method_4_code 112 = .ok (.iconst 0, 1) := by decide +kernel
theorem d9_113 : decode method_4_code 113 = .ok (.aload_n 0, 1) := by decide +kernel
theorem d9_114 : decode method_4_code 114 = .ok (.iconst 0, 1) := by decide +kernel
theorem d9_115 : decode method_4_code 115 = .ok (.caload, 1) := by decide +kernel
theorem d9_116 : decode method_4_code 116 = .ok (.castore, 1) := by decide +kernel
theorem d9_117 : decode method_4_code 117 = .ok (.dup, 1) := by decide +kernel
theorem d9_118 : decode method_4_code 118 = .ok (.iconst 1, 1) := by decide +kernel
theorem d9_119 : decode method_4_code 119 = .ok (.aload_n 0, 1) := by decide +kernel
theorem d9_120 : decode method_4_code 120 = .ok (.iconst 1, 1) := by decide +kernel
theorem d9_121 : decode method_4_code 121 = .ok (.caload, 1) := by decide +kernel
theorem d9_122 : decode method_4_code 122 = .ok (.castore, 1) := by decide +kernel
theorem d9_123 : decode method_4_code 123 = .ok (.dup, 1) := by decide +kernel
theorem d9_124 : decode method_4_code 124 = .ok (.iconst 2, 1) := by decide +kernel
theorem d9_125 : decode method_4_code 125 = .ok (.aload_n 0, 1) := by decide +kernel
theorem d9_126 : decode method_4_code 126 = .ok (.iconst 2, 1) := by decide +kernel
theorem d9_127 : decode method_4_code 127 = .ok (.caload, 1) := by decide +kernel
theorem d9_128 : decode method_4_code 128 = .ok (.castore, 1) := by decide +kernel
theorem d9_129 : decode method_4_code 129 = .ok (.dup, 1) := by decide +kernel
theorem d9_130 : decode method_4_code 130 = .ok (.iconst 3, 1) := by decide +kernel
theorem d9_131 : decode method_4_code 131 = .ok (.aload_n 0, 1) := by decide +kernel
theorem d9_132 : decode method_4_code 132 = .ok (.iconst 3, 1) := by decide +kernel
theorem d9_133 : decode method_4_code 133 = .ok (.caload, 1) := by decide +kernel
theorem d9_134 : decode method_4_code 134 = .ok (.castore, 1) := by decide +kernel
theorem d9_135 : decode method_4_code 135 = .ok (.invokespecial 61, 3) := by decide +kernel
theorem d9_138 : decode method_4_code 138 = .ok (.areturn, 1) := by decide +kernel
theorem d9_139 : decode method_4_code 139 = .ok (.iload_n 1, 1) := by decide +kernel
theorem d9_140 : decode method_4_code 140 = .ok (.iconst 5, 1) := by decide +kernel
theorem d9_141 : decode method_4_code 141 = .ok (.if_icmp .ne 44, 3) := by decide +kernel
theorem d9_144 : decode method_4_code 144 = .ok (.new 22, 3) := by decide +kernel
theorem d9_147 : decode method_4_code 147 = .ok (.dup, 1) := by decide +kernel
theorem d9_148 : decode method_4_code 148 = .ok (.iconst 5, 1) := by decide +kernel
theorem d9_149 : decode method_4_code 149 = .ok (.newarray .char, 2) := by decide +kernel
theorem d9_151 : decode method_4_code 151 = .ok (.dup, 1) := by decide +kernel
theorem d9_152 : decode method_4_code 152 = .ok (.iconst 0, 1) := by decide +kernel
theorem d9_153 : decode method_4_code 153 = .ok (.aload_n 0, 1) := by decide +kernel
theorem d9_154 : decode method_4_code 154 = .ok (.iconst 0, 1) := by decide +kernel
theorem d9_155 : decode method_4_code 155 = .ok (.caload, 1) := by decide +kernel
theorem d9_156 : decode method_4_code 156 = .ok (.castore, 1) := by decide +kernel
theorem d9_157 : decode method_4_code 157 = .ok (.dup, 1) := by decide +kernel
theorem d9_158 : decode method_4_code 158 = .ok (.iconst 1, 1) := by decide +kernel
theorem d9_159 : decode method_4_code 159 = .ok (.aload_n 0, 1) := by decide +kernel
theorem d9_160 : decode method_4_code 160 = .ok (.iconst 1, 1) := by decide +kernel
theorem d9_161 : decode method_4_code 161 = .ok (.caload, 1) := by decide +kernel
theorem d9_162 : decode method_4_code 162 = .ok (.castore, 1) := by decide +kernel
theorem d9_163 : decode method_4_code 163 = .ok (.dup, 1) := by decide +kernel
theorem d9_164 : decode method_4_code 164 = .ok (.iconst 2, 1) := by decide +kernel
theorem d9_165 : decode method_4_code 165 = .ok (.aload_n 0, 1) := by decide +kernel
theorem d9_166 : decode method_4_code 166 = .ok (.iconst 2, 1) := by decide +kernel
theorem d9_167 : decode method_4_code 167 = .ok (.caload, 1) := by decide +kernel
theorem d9_168 : decode method_4_code 168 = .ok (.castore, 1) := by decide +kernel
theorem d9_169 : decode method_4_code 169 = .ok (.dup, 1) := by decide +kernel
theorem d9_170 : decode method_4_code 170 = .ok (.iconst 3, 1) := by decide +kernel
theorem d9_171 : decode method_4_code 171 = .ok (.aload_n 0, 1) := by decide +kernel
theorem d9_172 : decode method_4_code 172 = .ok (.iconst 3, 1) := by decide +kernel
theorem d9_173 : decode method_4_code 173 = .ok (.caload, 1) := by decide +kernel
theorem d9_174 : decode method_4_code 174 = .ok (.castore, 1) := by decide +kernel
theorem d9_175 : decode method_4_code 175 = .ok (.dup, 1) := by decide +kernel
theorem d9_176 : decode method_4_code 176 = .ok (.iconst 4, 1) := by decide +kernel
theorem d9_177 : decode method_4_code 177 = .ok (.aload_n 0, 1) := by decide +kernel
theorem d9_178 : decode method_4_code 178 = .ok (.iconst 4, 1) := by decide +kernel
theorem d9_179 : decode method_4_code 179 = .ok (.caload, 1) := by decide +kernel
theorem d9_180 : decode method_4_code 180 = .ok (.castore, 1) := by decide +kernel
theorem d9_181 : decode method_4_code 181 = .ok (.invokespecial 61, 3) := by decide +kernel
theorem d9_184 : decode method_4_code 184 = .ok (.areturn, 1) := by decide +kernel
theorem d9_185 : decode method_4_code 185 = .ok (.iload_n 1, 1) := by decide +kernel
theorem d9_186 : decode method_4_code 186 = .ok (.bipush 6, 2) := by decide +kernel
theorem d9_188 : decode method_4_code 188 = .ok (.if_icmp .ne 51, 3) := by decide +kernel
theorem d9_191 : decode method_4_code 191 = .ok (.new 22, 3) := by decide +kernel
theorem d9_194 : decode method_4_code 194 = .ok (.dup, 1) := by decide +kernel
theorem d9_195 : decode method_4_code 195 = .ok (.bipush 6, 2) := by decide +kernel
theorem d9_197 : decode method_4_code 197 = .ok (.newarray .char, 2) := by decide +kernel
theorem d9_199 : decode method_4_code 199 = .ok (.dup, 1) := by decide +kernel
theorem d9_200 : decode method_4_code 200 = .ok (.iconst 0, 1) := by decide +kernel
theorem d9_201 : decode method_4_code 201 = .ok (.aload_n 0, 1) := by decide +kernel
theorem d9_202 : decode method_4_code 202 = .ok (.iconst 0, 1) := by decide +kernel
theorem d9_203 : decode method_4_code 203 = .ok (.caload, 1) := by decide +kernel
theorem d9_204 : decode method_4_code 204 = .ok (.castore, 1) := by decide +kernel
theorem d9_205 : decode method_4_code 205 = .ok (.dup, 1) := by decide +kernel
theorem d9_206 : decode method_4_code 206 = .ok (.iconst 1, 1) := by decide +kernel
theorem d9_207 : decode method_4_code 207 = .ok (.aload_n 0, 1) := by decide +kernel
theorem d9_208 : decode method_4_code 208 = .ok (.iconst 1, 1) := by decide +kernel
theorem d9_209 : decode method_4_code 209 = .ok (.caload, 1) := by decide +kernel
theorem d9_210 : decode method_4_code 210 = .ok (.castore, 1) := by decide +kernel
theorem d9_211 : decode method_4_code 211 = .ok (.dup, 1) := by decide +kernel
theorem d9_212 : decode method_4_code 212 = .ok (.iconst 2, 1) := by decide +kernel
theorem d9_213 : decode method_4_code 213 = .ok (.aload_n 0, 1) := by decide +kernel
theorem d9_214 : decode method_4_code 214 = .ok (.iconst 2, 1) := by decide +kernel
theorem d9_215 : decode method_4_code 215 = .ok (.caload, 1) := by decide +kernel
theorem d9_216 : decode method_4_code 216 = .ok (.castore, 1) := by decide +kernel
theorem d9_217 : decode method_4_code 217 = .ok (.dup, 1) := by decide +kernel
theorem d9_218 : decode method_4_code 218 = .ok (.iconst 3, 1) := by decide +kernel
theorem d9_219 : decode method_4_code 219 = .ok (.aload_n 0, 1) := by decide +kernel
theorem d9_220 : decode method_4_code 220 = .ok (.iconst 3, 1) := by decide +kernel
theorem d9_221 : decode method_4_code 221 = .ok (.caload, 1) := by decide +kernel
theorem d9_222 : decode method_4_code 222 = .ok (.castore, 1) := by decide +kernel
theorem d9_223 : decode method_4_code 223 = .ok (.dup, 1) := by decide +kernel
theorem d9_224 : decode method_4_code 224 = .ok (.iconst 4, 1) := by decide +kernel
theorem d9_225 : decode method_4_code 225 = .ok (.aload_n 0, 1) := by decide +kernel
theorem d9_226 : decode method_4_code 226 = .ok (.iconst 4, 1) := by decide +kernel
theorem d9_227 : decode method_4_code 227 = .ok (.caload, 1) := by decide +kernel
theorem d9_228 : decode method_4_code 228 = .ok (.castore, 1) := by decide +kernel
theorem d9_229 : decode method_4_code 229 = .ok (.dup, 1) := by decide +kernel
theorem d9_230 : decode method_4_code 230 = .ok (.iconst 5, 1) := by decide +kernel
theorem d9_231 : decode method_4_code 231 = .ok (.aload_n 0, 1) := by decide +kernel
theorem d9_232 : decode method_4_code 232 = .ok (.iconst 5, 1) := by decide +kernel
theorem d9_233 : decode method_4_code 233 = .ok (.caload, 1) := by decide +kernel
theorem d9_234 : decode method_4_code 234 = .ok (.castore, 1) := by decide +kernel
theorem d9_235 : decode method_4_code 235 = .ok (.invokespecial 61, 3) := by decide +kernel
theorem d9_238 : decode method_4_code 238 = .ok (.areturn, 1) := by decide +kernel
theorem d9_239 : decode method_4_code 239 = .ok (.iload_n 1, 1) := by decide +kernel
theorem d9_240 : decode method_4_code 240 = .ok (.bipush 7, 2) := by decide +kernel
theorem d9_242 : decode method_4_code 242 = .ok (.if_icmp .ne 59, 3) := by decide +kernel
theorem d9_245 : decode method_4_code 245 = .ok (.new 22, 3) := by decide +kernel
theorem d9_248 : decode method_4_code 248 = .ok (.dup, 1) := by decide +kernel
theorem d9_249 : decode method_4_code 249 = .ok (.bipush 7, 2) := by decide +kernel
theorem d9_251 : decode method_4_code 251 = .ok (.newarray .char, 2) := by decide +kernel
theorem d9_253 : decode method_4_code 253 = .ok (.dup, 1) := by decide +kernel
theorem d9_254 : decode method_4_code 254 = .ok (.iconst 0, 1) := by decide +kernel
theorem d9_255 : decode method_4_code 255 = .ok (.aload_n 0, 1) := by decide +kernel
theorem d9_256 : decode method_4_code 256 = .ok (.iconst 0, 1) := by decide +kernel
theorem d9_257 : decode method_4_code 257 = .ok (.caload, 1) := by decide +kernel
theorem d9_258 : decode method_4_code 258 = .ok (.castore, 1) := by decide +kernel
theorem d9_259 : decode method_4_code 259 = .ok (.dup, 1) := by decide +kernel
theorem d9_260 : decode method_4_code 260 = .ok (.iconst 1, 1) := by decide +kernel
theorem d9_261 : decode method_4_code 261 = .ok (.aload_n 0, 1) := by decide +kernel
theorem d9_262 : decode method_4_code 262 = .ok (.iconst 1, 1) := by decide +kernel
theorem d9_263 : decode method_4_code 263 = .ok (.caload, 1) := by decide +kernel
theorem d9_264 : decode method_4_code 264 = .ok (.castore, 1) := by decide +kernel
theorem d9_265 : decode method_4_code 265 = .ok (.dup, 1) := by decide +kernel
theorem d9_266 : decode method_4_code 266 = .ok (.iconst 2, 1) := by decide +kernel
theorem d9_267 : decode method_4_code 267 = .ok (.aload_n 0, 1) := by decide +kernel
theorem d9_268 : decode method_4_code 268 = .ok (.iconst 2, 1) := by decide +kernel
theorem d9_269 : decode method_4_code 269 = .ok (.caload, 1) := by decide +kernel
theorem d9_270 : decode method_4_code 270 = .ok (.castore, 1) := by decide +kernel
theorem d9_271 : decode method_4_code 271 = .ok (.dup, 1) := by decide +kernel
theorem d9_272 : decode method_4_code 272 = .ok (.iconst 3, 1) := by decide +kernel
theorem d9_273 : decode method_4_code 273 = .ok (.aload_n 0, 1) := by decide +kernel
theorem d9_274 : decode method_4_code 274 = .ok (.iconst 3, 1) := by decide +kernel
theorem d9_275 : decode method_4_code 275 = .ok (.caload, 1) := by decide +kernel
theorem d9_276 : decode method_4_code 276 = .ok (.castore, 1) := by decide +kernel
theorem d9_277 : decode method_4_code 277 = .ok (.dup, 1) := by decide +kernel
theorem d9_278 : decode method_4_code 278 = .ok (.iconst 4, 1) := by decide +kernel
theorem d9_279 : decode method_4_code 279 = .ok (.aload_n 0, 1) := by decide +kernel
theorem d9_280 : decode method_4_code 280 = .ok (.iconst 4, 1) := by decide +kernel
theorem d9_281 : decode method_4_code 281 = .ok (.caload, 1) := by decide +kernel
theorem d9_282 : decode method_4_code 282 = .ok (.castore, 1) := by decide +kernel
theorem d9_283 : decode method_4_code 283 = .ok (.dup, 1) := by decide +kernel
theorem d9_284 : decode method_4_code 284 = .ok (.iconst 5, 1) := by decide +kernel
theorem d9_285 : decode method_4_code 285 = .ok (.aload_n 0, 1) := by decide +kernel
theorem d9_286 : decode method_4_code 286 = .ok (.iconst 5, 1) := by decide +kernel
theorem d9_287 : decode method_4_code 287 = .ok (.caload, 1) := by decide +kernel
theorem d9_288 : decode method_4_code 288 = .ok (.castore, 1) := by decide +kernel
theorem d9_289 : decode method_4_code 289 = .ok (.dup, 1) := by decide +kernel
theorem d9_290 : decode method_4_code 290 = .ok (.bipush 6, 2) := by decide +kernel
theorem d9_292 : decode method_4_code 292 = .ok (.aload_n 0, 1) := by decide +kernel
theorem d9_293 : decode method_4_code 293 = .ok (.bipush 6, 2) := by decide +kernel
theorem d9_295 : decode method_4_code 295 = .ok (.caload, 1) := by decide +kernel
theorem d9_296 : decode method_4_code 296 = .ok (.castore, 1) := by decide +kernel
theorem d9_297 : decode method_4_code 297 = .ok (.invokespecial 61, 3) := by decide +kernel
theorem d9_300 : decode method_4_code 300 = .ok (.areturn, 1) := by decide +kernel
theorem d9_301 : decode method_4_code 301 = .ok (.new 22, 3) := by decide +kernel
theorem d9_304 : decode method_4_code 304 = .ok (.dup, 1) := by decide +kernel
theorem d9_305 : decode method_4_code 305 = .ok (.bipush 8, 2) := by decide +kernel
theorem d9_307 : decode method_4_code 307 = .ok (.newarray .char, 2) := by decide +kernel
theorem d9_309 : decode method_4_code 309 = .ok (.dup, 1) := by decide +kernel
theorem d9_310 : decode method_4_code 310 = .ok (.iconst 0, 1) := by decide +kernel
theorem d9_311 : decode method_4_code 311 = .ok (.aload_n 0, 1) := by decide +kernel
theorem d9_312 : decode method_4_code 312 = .ok (.iconst 0, 1) := by decide +kernel
theorem d9_313 : decode method_4_code 313 = .ok (.caload, 1) := by decide +kernel
theorem d9_314 : decode method_4_code 314 = .ok (.castore, 1) := by decide +kernel
theorem d9_315 : decode method_4_code 315 = .ok (.dup, 1) := by decide +kernel
theorem d9_316 : decode method_4_code 316 = .ok (.iconst 1, 1) := by decide +kernel
theorem d9_317 : decode method_4_code 317 = .ok (.aload_n 0, 1) := by decide +kernel
theorem d9_318 : decode method_4_code 318 = .ok (.iconst 1, 1) := by decide +kernel
theorem d9_319 : decode method_4_code 319 = .ok (.caload, 1) := by decide +kernel
theorem d9_320 : decode method_4_code 320 = .ok (.castore, 1) := by decide +kernel
theorem d9_321 : decode method_4_code 321 = .ok (.dup, 1) := by decide +kernel
theorem d9_322 : decode method_4_code 322 = .ok (.iconst 2, 1) := by decide +kernel
theorem d9_323 : decode method_4_code 323 = .ok (.aload_n 0, 1) := by decide +kernel
theorem d9_324 : decode method_4_code 324 = .ok (.iconst 2, 1) := by decide +kernel
theorem d9_325 : decode method_4_code 325 = .ok (.caload, 1) := by decide +kernel
theorem d9_326 : decode method_4_code 326 = .ok (.castore, 1) := by decide +kernel
theorem d9_327 : decode method_4_code 327 = .ok (.dup, 1) := by decide +kernel
theorem d9_328 : decode method_4_code 328 = .ok (.iconst 3, 1) := by decide +kernel
theorem d9_329 : decode method_4_code 329 = .ok (.aload_n 0, 1) := by decide +kernel
theorem d9_330 : decode method_4_code 330 = .ok (.iconst 3, 1) := by decide +kernel
theorem d9_331 : decode method_4_code 331 = .ok (.caload, 1) := by decide +kernel
theorem d9_332 : decode method_4_code 332 = .ok (.castore, 1) := by decide +kernel
theorem d9_333 : decode method_4_code 333 = .ok (.dup, 1) := by decide +kernel
theorem d9_334 : decode method_4_code 334 = .ok (.iconst 4, 1) := by decide +kernel
theorem d9_335 : decode method_4_code 335 = .ok (.aload_n 0, 1) := by decide +kernel
theorem d9_336 : decode method_4_code 336 = .ok (.iconst 4, 1) := by decide +kernel
theorem d9_337 : decode method_4_code 337 = .ok (.caload, 1) := by decide +kernel
theorem d9_338 : decode method_4_code 338 = .ok (.castore, 1) := by decide +kernel
theorem d9_339 : decode method_4_code 339 = .ok (.dup, 1) := by decide +kernel
theorem d9_340 : decode method_4_code 340 = .ok (.iconst 5, 1) := by decide +kernel
theorem d9_341 : decode method_4_code 341 = .ok (.aload_n 0, 1) := by decide +kernel
theorem d9_342 : decode method_4_code 342 = .ok (.iconst 5, 1) := by decide +kernel
theorem d9_343 : decode method_4_code 343 = .ok (.caload, 1) := by decide +kernel
theorem d9_344 : decode method_4_code 344 = .ok (.castore, 1) := by decide +kernel
theorem d9_345 : decode method_4_code 345 = .ok (.dup, 1) := by decide +kernel
theorem d9_346 : decode method_4_code 346 = .ok (.bipush 6, 2) := by decide +kernel
theorem d9_348 : decode method_4_code 348 = .ok (.aload_n 0, 1) := by decide +kernel
theorem d9_349 : decode method_4_code 349 = .ok (.bipush 6, 2) := by decide +kernel
theorem d9_351 : decode method_4_code 351 = .ok (.caload, 1) := by decide +kernel
theorem d9_352 : decode method_4_code 352 = .ok (.castore, 1) := by decide +kernel
theorem d9_353 : decode method_4_code 353 = .ok (.dup, 1) := by decide +kernel
theorem d9_354 : decode method_4_code 354 = .ok (.bipush 7, 2) := by decide +kernel
theorem d9_356 : decode method_4_code 356 = .ok (.aload_n 0, 1) := by decide +kernel
theorem d9_357 : decode method_4_code 357 = .ok (.bipush 7, 2) := by decide +kernel
theorem d9_359 : decode method_4_code 359 = .ok (.caload, 1) := by decide +kernel
theorem d9_360 : decode method_4_code 360 = .ok (.castore, 1) := by decide +kernel
theorem d9_361 : decode method_4_code 361 = .ok (.invokespecial 61, 3) := by decide +kernel
theorem d9_364 : decode method_4_code 364 = .ok (.areturn, 1) := by decide +kernel
theorem ef_9 (m : MethodId) (x0 : Addr) (x1 : Int32) : entryFrame m #[(.ref x0), (.int x1)] 2 = mkF m 0 #[.val (.ref x0), .val (.int x1)] [] := by first | (simp [entryFrame, mkF, argsToLocals, Value.category]; done) | rfl
def Q9 (Z : State) (ac : Addr) (nn : Int32) (kc : ClassId) (cl : List Int32) (cs : Int32) (h0 : Heap) (n0 : Nat) (v : Option Value) (h : Heap) (L : List Loc) : Prop := ∃ (r : Addr) (tb : Addr) (kk : ClassId) (bl : List Int32), v = some (.ref r) ∧ Fr n0 L ∧ Keep h0 h [] ∧ h0.size ≤ r ∧ Exa Z h r "java/lang/String" ∧ Fld Z h r "java/lang/String" "value" "[B" (.ref tb) ∧ Fld Z h r "java/lang/String" "coder" "B" (.int (0 : Int32)) ∧ Arv Z h tb kk .byte (own_lg bl) (bl.map Value.int) (.int (0 : Int32)) ∧ (bl.length ≤ 1000) ∧ (tb < h.size) ∧ (r ≠ tb)
set_option maxRecDepth 65536 in
set_option maxHeartbeats 40000000 in
theorem rm9 (l : Launch) (Z : State) (a0 : Array Value) (hw : ∀ d ∈ tables_1, d.before a0 Z = true) (ws : List Jvm.Cond) (ac : Addr) (nn : Int32) (kc : ClassId) (cl : List Int32) (cs : Int32) (h0 : Heap) (n0 : Nat) (Z0 : n0 ≤ h0.size) (O0 : Old Z n0 h0) (P1 : Sta Z Z.heap "java/lang/String" "COMPACT_STRINGS" "Z" (.int cs)) (hcs : ¬ cs = (0 : Int32)) (P3 : Arv Z h0 ac kc .char (8 : Int32) (cl.map Value.int) (.int (0 : Int32))) (hcl : ∀ j, own_by (cl.getD j 0)) :
    MetFree l (⟨"com/example/tri3/tri3/StageKindNamedPinLaw", "make", "([CI)Ljava/lang/String;"⟩ : MethodName) (head1 (Jvm.Cond.code (⟨"com/example/tri3/tri3/StageKindNamedPinLaw", "make", "([CI)Ljava/lang/String;"⟩ : MethodName) method_4_code 2 (some (.object "java/lang/String")) :: ws) ({ frames := 4, cells := 6, slots := 20, locals := 66 } : Room)) (fun a U => a = #[(.ref ac), (.int nn)] ∧ Z.Warmed39 U.vm ∧ U.heap = h0 ∧ CHv Z consts_1 U.vm h0) (fun _ _ _ _ _ => True) (fun _ U o U' => ∃ v L, o = .returned v ∧ Q9 Z ac nn kc cl cs h0 n0 v U'.heap L ∧ CHr Z consts_1 U.vm U.heap U'.vm U'.heap ∧ ReturnedEndW U o U' L ({ frames := 4, cells := 6, slots := 20, locals := 66 } : Room).cells ({ frames := 4, cells := 6, slots := 20, locals := 66 } : Room).slots) := by
  refine MetFree.of_bodySF (plainFor_of_name own_pn3) hisR ?_
  intro p e s m args below meth c s₁ Bd hml0 hP hK
  obtain ⟨rfl, hZ, hh, hCH0⟩ := hP
  have hx := Bd.exec
  have hby := Bd.bytes
  have hml : c.maxLocals = 2 := hml0
  have hown : s.vm.findClass "com/example/tri3/tri3/StageKindNamedPinLaw" = some m.cls := findClass_of_methodNamed Bd.named
  have hnm := (name_of_methodNamed Bd.named Bd.method).1
  have X0 : Stand p l e ({ frames := 4, cells := 6, slots := 20, locals := 66 } : Room) s m #[(.ref ac), (.int nn)] below meth c s₁ [] 0 0 := Stand.of_body Bd
  have X0 : Stand p l e ({ frames := 4, cells := 6, slots := 20, locals := 66 } : Room) (s.setVm s.vm) m #[(.ref ac), (.int nn)] below meth c s₁ [] 0 0 := X0
  have hZ : Z.Warmed39 (s.setVm s.vm).vm := hZ
  have hown : (s.setVm s.vm).vm.findClass "com/example/tri3/tri3/StageKindNamedPinLaw" = some m.cls := hown
  have hS0 : s.Since s.vm 0 := State.WarmedH.since (State.WarmedH.refl s) 0
  have CR0 : CHr Z consts_1 s.vm h0 s.vm h0 := CHr.refl hCH0
  have e0 : s₁.heap = h0 := by rw [← hh, Bd.state]; rfl
  have N0 := Fr.nil n0
  have K0 : Keep h0 h0 [] := Keep.refl _ _
  suffices GO : ∀ P : Outcome → State → Prop, (∀ o U', (∃ v L, o = .returned v ∧ Q9 Z ac nn kc cl cs h0 n0 v U'.heap L ∧ CHr Z consts_1 s.vm s.heap U'.vm U'.heap ∧ ReturnedEndW s o U' L ({ frames := 4, cells := 6, slots := 20, locals := 66 } : Room).cells ({ frames := 4, cells := 6, slots := 20, locals := 66 } : Room).slots) → P o U') → Go p.tables e below P s₁ (mkF m 0 #[.val (.ref ac), .val (.int nn)] []) by
    obtain ⟨s2, o, st, r⟩ := GO _ (fun _ _ q => q)
    exact ⟨s2, o, castTop (ef_9 m ac nn) st, r⟩
  intro P hP
  show Go p.tables e below P s₁ (mkF m 0 #[.val (.ref ac), .val (.int nn)] [])
  refine Go.via (fun t k => XS.iloadN X0.here hx rfl (hb hby d9_0) rfl k) ?_
  show Go p.tables e below P s₁ (mkF m 1 #[.val (.ref ac), .val (.int nn)] [(.int nn)])
  by_cases hc1 : nn = (0 : Int32)
  · refine Go.via (fun t k => XS.ifNo X0.here hx rfl (hb hby d9_1) rfl ((if0 _ _).trans (teq hc1).2) k) ?_
    show Go p.tables e below P s₁ (mkF m 4 #[.val (.ref ac), .val (.int nn)] [])
    obtain ⟨T2, h2, X2, e2, E2, A2, D2, -, st2⟩ := newO X0 hx hZ hown (hw _ (List.mem_of_getElem? (i := 52) rfl)) (hw _ (List.mem_of_getElem? (i := 2) rfl)) (hw _ (List.mem_of_getElem? (i := 1) rfl)) e0 (g := (mkF m 4 #[.val (.ref ac), .val (.int nn)] [])) rfl (hb hby d9_4) (by decide) (by decide)
    obtain ⟨b2, g2⟩ : ∃ z, z = h0.size := ⟨_, rfl⟩
    rw [← g2] at A2 D2 st2
    refine Go.via st2 ?_
    have ne3 : ac ≠ b2 := Nat.ne_of_lt (Nat.lt_of_lt_of_le P3.lt (Nat.le_of_eq g2.symm))
    have g4 : n0 ≤ b2 := Nat.le_trans Z0 (Nat.le_of_eq g2.symm)
    have sz5 : h0.size ≤ b2 := Nat.le_trans K0.1 (Nat.le_of_eq g2.symm)
    have Z6 : n0 ≤ h2.size := Nat.le_trans Z0 E2.1
    have K7 : Keep h0 h2 [] := K0.ext E2
    have O8 : Old Z n0 h2 := O0.ext E2
    have CR9 := CHr.trans CR0 (CHr.ext E2 CR0.1)
    show Go p.tables e below P T2 (mkF m 7 #[.val (.ref ac), .val (.int nn)] [(.ref b2)])
    refine Go.via (fun t k => XS.dup X2.here hx rfl (hb hby d9_7) rfl rfl k) ?_
    refine Go.via (fun t k => XS.iconst X2.here hx rfl (hb hby d9_8) k) ?_
    show Go p.tables e below P T2 (mkF m 9 #[.val (.ref ac), .val (.int nn)] [(.int (0 : Int32)), (.ref b2), (.ref b2)])
    have F11 : Arv Z h2 ac kc .char (8 : Int32) (cl.map Value.int) (.int (0 : Int32)) := (P3.ext E2)
    obtain ⟨T10, h10, k10, X10, e10, E10, A10, st10⟩ := newP X2 hx hZ (hw _ (List.mem_of_getElem? (i := 8) rfl)) e2 (g := (mkF m 9 #[.val (.ref ac), .val (.int nn)] [(.int (0 : Int32)), (.ref b2), (.ref b2)])) rfl (hb hby d9_9) rfl (by decide) (cap := 0) (by decide) (by decide) (by decide) (by decide)
    obtain ⟨b10, g10⟩ : ∃ z, z = h2.size := ⟨_, rfl⟩
    rw [← g10] at A10 st10
    refine Go.via st10 ?_
    have ne12 : ac ≠ b10 := Nat.ne_of_lt (Nat.lt_of_lt_of_le F11.lt (Nat.le_of_eq g10.symm))
    have ne13 : b2 ≠ b10 := Nat.ne_of_lt (Nat.lt_of_lt_of_le A2.lt (Nat.le_of_eq g10.symm))
    have g14 : n0 ≤ b10 := Nat.le_trans Z6 (Nat.le_of_eq g10.symm)
    have sz15 : h0.size ≤ b10 := Nat.le_trans K7.1 (Nat.le_of_eq g10.symm)
    have Z16 : n0 ≤ h10.size := Nat.le_trans Z6 E10.1
    have K17 : Keep h0 h10 [] := K7.ext E10
    have O18 : Old Z n0 h10 := O8.ext E10
    have CR19 := CHr.trans CR9 (CHr.ext E10 CR9.1)
    have V10 : Arv Z h10 b10 k10 .char (0 : Int32) [] (.int (0 : Int32)) := (Arv.new A10 (by decide)).pad (pad_rep [] (.int (0 : Int32)) 0)
    show Go p.tables e below P T10 (mkF m 11 #[.val (.ref ac), .val (.int nn)] [(.ref b10), (.ref b2), (.ref b2)])
    have F20 : Exa Z h10 b2 "java/lang/String" := (A2.ext E10)
    have F21 : Fld Z h10 b2 "java/lang/String" "value" "[B" .null := ((D2 (Or.inr (hw _ (List.mem_of_getElem? (i := 4) rfl))) (ty := (.array .byte)) (by decide) : Fld Z h2 b2 "java/lang/String" "value" "[B" .null).ext E10)
    have F22 : Fld Z h10 b2 "java/lang/String" "coder" "B" (.int (0 : Int32)) := ((D2 (Or.inr (hw _ (List.mem_of_getElem? (i := 5) rfl))) (ty := .byte) (by decide) : Fld Z h2 b2 "java/lang/String" "coder" "B" (.int (0 : Int32))).ext E10)
    have F23 : Arv Z h10 ac kc .char (8 : Int32) (cl.map Value.int) (.int (0 : Int32)) := (F11.ext E10)
    obtain ⟨_, _, ⟨T24, L24, k24, n24⟩, -, X24, hSn24, hgn24, ⟨Lc24, hQ24, l24, y24, z24, hC24⟩, st24⟩ := X10.specialBackS hx (y := (⟨"java/lang/String", "<init>", "([C)V"⟩ : MethodName)) rfl hown (mvT hZ (hw _ (List.mem_of_getElem? (i := 53) rfl))) (mvT hZ (hw _ (List.mem_of_getElem? (i := 54) rfl))) (mvT hZ (hw _ (List.mem_of_getElem? (i := 55) rfl))) (by decide) (backOfSH (W := 1) (rm10 l Z a0 hw [] b2 b10 k10 [] (.int (0 : Int32)) h10 n0 Z16 F20 F21 F22 g4 V10) hZ (hw _ (List.mem_of_getElem? (i := 55) rfl)) (hw _ (List.mem_of_getElem? (i := 1) rfl)) (by decide) (by decide) (own_EW hw) CR19.1) (g := (mkF m 11 #[.val (.ref ac), .val (.int nn)] [(.ref b10), (.ref b2), (.ref b2)])) rfl (by rw [hml]; rfl) (Steps.refl _) (a := b2) (argsL := [(.ref b10)]) (rest := [(.ref b2)]) (lenOf own_pd8 rfl) rfl (by show 2 * 0 + _ ≤ _; exact Nat.le_of_eq rfl) (hb hby d9_11) (fun _ _ => ⟨rfl, e10, (by decide : 2 + 4 ≤ _), (by decide : 4 + 8 ≤ _)⟩)
    dsimp only [Pt.U, Pt.locs, Pt.cells, Pt.slots] at X24 l24 y24 z24 st24 hQ24 hSn24 hgn24 hC24
    subst l24 y24 z24
    have hS24 : s.Since T24.vm T24.heap.size := foldS hS0 (by rw [e10]; exact (Nat.zero_le _)) hSn24 hgn24
    have X24 : Stand p l e ({ frames := 4, cells := 6, slots := 20, locals := 66 } : Room) (s.setVm T24.vm) m #[(.ref ac), (.int nn)] below meth c T24 _ _ _ := X24
    have hown : (s.setVm T24.vm).vm.findClass "com/example/tri3/tri3/StageKindNamedPinLaw" = some m.cls := by rw [show (s.setVm T24.vm).vm = T24.vm from rfl, hSn24.1.alike.findClass]; exact hown
    have hZ : Z.Warmed39 (s.setVm T24.vm).vm := State.Warmed39.trans (t := s.setVm s.vm) hZ hSn24.1
    obtain ⟨tb_24, kk_24, rfl, Nq24, K24, u24_0, u24_1, u24_2, u24_3, u24_4, u24_5⟩ := hQ24
    obtain ⟨lc24, Xh24, N24⟩ := own_hide X24 (Fr.app N0 Nq24)
    clear X24
    refine Go.hop st24 ?_
    have CR25 := CHr.trans CR19 hC24
    have Z26 : n0 ≤ T24.heap.size := Nat.le_trans Z16 K24.1
    have K27 : Keep h0 T24.heap [] := K17.trans K24 (own_allC (Or.inr sz5) own_all0)
    have O28 : Old Z n0 T24.heap := O18.keep K24 (own_allC g4 own_all0)
    have hk29 : T24.heap.size ≤ T24.heap.size := Nat.le_refl _
    show Go p.tables e below P T24 (mkF m 14 #[.val (.ref ac), .val (.int nn)] [(.ref b2)])
    have Vr31 : Arv Z T24.heap tb_24 kk_24 .byte (own_lg ([] : List Int32)) (([] : List Int32).map Value.int) (.int (0 : Int32)) := by
      rw [show own_lg ([] : List Int32) = (0 : Int32) from rfl]; exact u24_3
    obtain ⟨fs, hr, hrun, hended, hend⟩ := Xh24.leaveW hS24 (by exact hk29) (v := some (.ref b2)) (fun h => by rw [Bd.returns] at h; cases h)
    have hCf : CHr Z consts_1 s.vm s.heap (T24.setFrames fs).vm (T24.setFrames fs).heap := by
      rw [hh]
      show CHr Z consts_1 s.vm h0 T24.vm T24.heap
      exact CHr.trans CR25 (CHv.at Xh24 hZ (own_EW hw) CR25.1)
    refine ⟨_, _, retA Xh24 hx Bd.returns rfl rfl rfl (hb hby d9_14) hr, hrun, hended, hP _ _ ⟨_, _, rfl, ?_, hCf, own_rew hend (by decide) (by decide)⟩⟩
    show Q9 Z ac nn kc cl cs h0 n0 _ T24.heap _
    exact ⟨b2, tb_24, kk_24, ([] : List Int32), rfl, N24, K27, sz5, u24_0, u24_1, u24_2, Vr31, (by simp), Vr31.lt, u24_5⟩
  · refine Go.via (fun t k => XS.ifYes X0.here hx rfl (pc0 := 1) (pc' := 15) rfl (hb hby d9_1) rfl ((if0 _ _).trans (feq hc1).2) (by decide) (by decide) k) ?_
    show Go p.tables e below P s₁ (mkF m 15 #[.val (.ref ac), .val (.int nn)] [])
    refine Go.via (fun t k => XS.iloadN X0.here hx rfl (hb hby d9_15) rfl k) ?_
    refine Go.via (fun t k => XS.iconst X0.here hx rfl (hb hby d9_16) k) ?_
    show Go p.tables e below P s₁ (mkF m 17 #[.val (.ref ac), .val (.int nn)] [(.int (1 : Int32)), (.int nn)])
    by_cases hc32 : nn = (1 : Int32)
    · refine Go.via (fun t k => XS.icmpNo X0.here hx rfl (hb hby d9_17) rfl (teq hc32).2 k) ?_
      show Go p.tables e below P s₁ (mkF m 20 #[.val (.ref ac), .val (.int nn)] [])
      obtain ⟨T33, h33, X33, e33, E33, A33, D33, -, st33⟩ := newO X0 hx hZ hown (hw _ (List.mem_of_getElem? (i := 52) rfl)) (hw _ (List.mem_of_getElem? (i := 2) rfl)) (hw _ (List.mem_of_getElem? (i := 1) rfl)) e0 (g := (mkF m 20 #[.val (.ref ac), .val (.int nn)] [])) rfl (hb hby d9_20) (by decide) (by decide)
      obtain ⟨b33, g33⟩ : ∃ z, z = h0.size := ⟨_, rfl⟩
      rw [← g33] at A33 D33 st33
      refine Go.via st33 ?_
      have ne34 : ac ≠ b33 := Nat.ne_of_lt (Nat.lt_of_lt_of_le P3.lt (Nat.le_of_eq g33.symm))
      have g35 : n0 ≤ b33 := Nat.le_trans Z0 (Nat.le_of_eq g33.symm)
      have sz36 : h0.size ≤ b33 := Nat.le_trans K0.1 (Nat.le_of_eq g33.symm)
      have Z37 : n0 ≤ h33.size := Nat.le_trans Z0 E33.1
      have K38 : Keep h0 h33 [] := K0.ext E33
      have O39 : Old Z n0 h33 := O0.ext E33
      have CR40 := CHr.trans CR0 (CHr.ext E33 CR0.1)
      show Go p.tables e below P T33 (mkF m 23 #[.val (.ref ac), .val (.int nn)] [(.ref b33)])
      refine Go.via (fun t k => XS.dup X33.here hx rfl (hb hby d9_23) rfl rfl k) ?_
      refine Go.via (fun t k => XS.iconst X33.here hx rfl (hb hby d9_24) k) ?_
      show Go p.tables e below P T33 (mkF m 25 #[.val (.ref ac), .val (.int nn)] [(.int (1 : Int32)), (.ref b33), (.ref b33)])
      have F42 : Arv Z h33 ac kc .char (8 : Int32) (cl.map Value.int) (.int (0 : Int32)) := (P3.ext E33)
      obtain ⟨T41, h41, k41, X41, e41, E41, A41, st41⟩ := newP X33 hx hZ (hw _ (List.mem_of_getElem? (i := 8) rfl)) e33 (g := (mkF m 25 #[.val (.ref ac), .val (.int nn)] [(.int (1 : Int32)), (.ref b33), (.ref b33)])) rfl (hb hby d9_25) rfl (by decide) (cap := 1) (by decide) (by decide) (by decide) (by decide)
      obtain ⟨b41, g41⟩ : ∃ z, z = h33.size := ⟨_, rfl⟩
      rw [← g41] at A41 st41
      refine Go.via st41 ?_
      have ne43 : ac ≠ b41 := Nat.ne_of_lt (Nat.lt_of_lt_of_le F42.lt (Nat.le_of_eq g41.symm))
      have ne44 : b33 ≠ b41 := Nat.ne_of_lt (Nat.lt_of_lt_of_le A33.lt (Nat.le_of_eq g41.symm))
      have g45 : n0 ≤ b41 := Nat.le_trans Z37 (Nat.le_of_eq g41.symm)
      have sz46 : h0.size ≤ b41 := Nat.le_trans K38.1 (Nat.le_of_eq g41.symm)
      have Z47 : n0 ≤ h41.size := Nat.le_trans Z37 E41.1
      have K48 : Keep h0 h41 [] := K38.ext E41
      have O49 : Old Z n0 h41 := O39.ext E41
      have CR50 := CHr.trans CR40 (CHr.ext E41 CR40.1)
      have V41 : Arv Z h41 b41 k41 .char (1 : Int32) [(.int (0 : Int32))] (.int (0 : Int32)) := (Arv.new A41 (by decide)).pad (pad_rep [] (.int (0 : Int32)) 1)
      show Go p.tables e below P T41 (mkF m 27 #[.val (.ref ac), .val (.int nn)] [(.ref b41), (.ref b33), (.ref b33)])
      refine Go.via (fun t k => XS.dup X41.here hx rfl (hb hby d9_27) rfl rfl k) ?_
      refine Go.via (fun t k => XS.iconst X41.here hx rfl (hb hby d9_28) k) ?_
      refine Go.via (fun t k => XS.aloadN X41.here hx rfl (hb hby d9_29) rfl rfl k) ?_
      show Go p.tables e below P T41 (mkF m 30 #[.val (.ref ac), .val (.int nn)] [(.ref ac), (.int (0 : Int32)), (.ref b41), (.ref b41), (.ref b33), (.ref b33)])
      refine Go.via (fun t k => XS.iconst X41.here hx rfl (hb hby d9_30) k) ?_
      show Go p.tables e below P T41 (mkF m 31 #[.val (.ref ac), .val (.int nn)] [(.int (0 : Int32)), (.ref ac), (.int (0 : Int32)), (.ref b41), (.ref b41), (.ref b33), (.ref b33)])
      have F51 : Arv Z h41 ac kc .char (8 : Int32) (cl.map Value.int) (.int (0 : Int32)) := (F42.ext E41)
      obtain ⟨c52, A52, q52, S52, N52, H52, G52⟩ := id F51
      have hin52 : ¬ ((0 : Int32) < 0 ∨ c52.slots.size ≤ ((0 : Int32)).toNatClampNeg) := inb_of S52 ⟨by decide, by decide⟩
      have hat52 : c52.slots[((0 : Int32)).toNatClampNeg]? = some (.int (cl.getD 0 0)) := (H52 _ (Nat.lt_of_not_le fun q => hin52 (Or.inr q))).trans (congrArg some (own_gD cl 0))
      refine Go.via (fun t k => X41.caload hx (j := (0 : Int32)) (v := (.int (cl.getD 0 0))) (by rw [e41]; exact A52.1) (State.isArrayOf_alike hZ.alike A52.2.1) A52.2.2 hin52 hat52 (g := (mkF m 31 #[.val (.ref ac), .val (.int nn)] [(.int (0 : Int32)), (.ref ac), (.int (0 : Int32)), (.ref b41), (.ref b41), (.ref b33), (.ref b33)])) rfl rfl (hb hby d9_31) t k) ?_
      show Go p.tables e below P T41 (mkF m 32 #[.val (.ref ac), .val (.int nn)] [(.int (cl.getD 0 0)), (.int (0 : Int32)), (.ref b41), (.ref b41), (.ref b33), (.ref b33)])
      have F53 : Exa Z h41 b33 "java/lang/String" := (A33.ext E41)
      have F54 : Fld Z h41 b33 "java/lang/String" "value" "[B" .null := ((D33 (Or.inr (hw _ (List.mem_of_getElem? (i := 4) rfl))) (ty := (.array .byte)) (by decide) : Fld Z h33 b33 "java/lang/String" "value" "[B" .null).ext E41)
      have F55 : Fld Z h41 b33 "java/lang/String" "coder" "B" (.int (0 : Int32)) := ((D33 (Or.inr (hw _ (List.mem_of_getElem? (i := 5) rfl))) (ty := .byte) (by decide) : Fld Z h33 b33 "java/lang/String" "coder" "B" (.int (0 : Int32))).ext E41)
      obtain ⟨c56, A56, q56, S56, N56, H56, G56⟩ := id V41
      have hin56 : ¬ ((0 : Int32) < 0 ∨ c56.slots.size ≤ ((0 : Int32)).toNatClampNeg) := inb_of S56 ⟨by decide, by decide⟩
      obtain ⟨T56, h56, X56, e56, W56, st56⟩ := stC X41 hx hZ e41 A56 (j := (0 : Int32)) hin56 (g := (mkF m 32 #[.val (.ref ac), .val (.int nn)] [(.int (cl.getD 0 0)), (.int (0 : Int32)), (.ref b41), (.ref b41), (.ref b33), (.ref b33)])) rfl rfl (hb hby d9_32)
      refine Go.via st56 ?_
      have Z57 : n0 ≤ h56.size := Nat.le_trans Z47 (Nat.le_of_eq W56.size.symm)
      have K58 : Keep h0 h56 [] := K48.wr W56 (Or.inr sz46)
      obtain ⟨lc56, Xh56, N59⟩ := own_hide X56 (Fr.snoc X56 N0 g45)
      clear X56
      have O60 : Old Z n0 h56 := O49.wr W56 g45
      have Sf56 := Safe.wr W56 (Safe.arv hZ.alike V41 (by decide)) CR50.1 (Safe.arv hZ.alike V41 (by decide))
      have CR61 := CHr.trans CR50 (CHr.wr W56 (Safe.arv hZ.alike V41 (by decide)) CR50.1)
      have V56 : Arv Z h56 b41 k41 .char (1 : Int32) [(.int (nar .char (cl.getD 0 0)))] (.int (0 : Int32)) := Arv.set A56 q56 S56 N56 H56 G56 (fits_nar_char _) W56 0 rfl (Nat.le_of_ble_eq_true rfl)
      show Go p.tables e below P T56 (mkF m 33 #[.val (.ref ac), .val (.int nn)] [(.ref b41), (.ref b33), (.ref b33)])
      have F62 : Exa Z h56 b33 "java/lang/String" := (F53.wr W56)
      have F63 : Fld Z h56 b33 "java/lang/String" "value" "[B" .null := (F54.other W56 (Or.inl ne44))
      have F64 : Fld Z h56 b33 "java/lang/String" "coder" "B" (.int (0 : Int32)) := (F55.other W56 (Or.inl ne44))
      have F65 : Arv Z h56 ac kc .char (8 : Int32) (cl.map Value.int) (.int (0 : Int32)) := (F51.other W56 ne43)
      obtain ⟨_, _, ⟨T66, L66, k66, n66⟩, -, X66, ⟨Lc66, hQ66, l66, y66, z66⟩, st66⟩ := Xh56.specialBack hx (y := (⟨"java/lang/String", "<init>", "([C)V"⟩ : MethodName)) rfl hown (mvT hZ (hw _ (List.mem_of_getElem? (i := 53) rfl))) (mvT hZ (hw _ (List.mem_of_getElem? (i := 54) rfl))) (mvT hZ (hw _ (List.mem_of_getElem? (i := 55) rfl))) (by decide) (StrChars.Road.backV (W := 1) hZ (own_ws hw) (kI := 4) (hw _ (List.mem_of_getElem? (i := 2) rfl)) (cs := ([(nar .char (cl.getD 0 0))] : List Int32)) (bs := ([((nar .char (cl.getD 0 0))).toInt8.toInt32] : List Int32)) (n := 1) g35 Z57 F62 F63 F64 V56 (P1.ext O60.2) hcs rfl rfl (by decide) (by decide) (own_alC (own_hp (hcl 0)) own_al0) rfl (by decide) (by decide)) (g := (mkF m 33 #[.val (.ref ac), .val (.int nn)] [(.ref b41), (.ref b33), (.ref b33)])) rfl (by rw [hml]; rfl) (Steps.refl _) (a := b33) (argsL := [(.ref b41)]) (rest := [(.ref b33)]) (lenOf own_pd8 rfl) rfl (by show 2 * 0 + _ ≤ _; exact Nat.le_of_eq rfl) (hb hby d9_33) (fun _ _ => ⟨rfl, e56, (by decide : 2 + 1 ≤ _), (by decide : 5 + 1 ≤ _)⟩)
      dsimp only [Pt.U, Pt.locs, Pt.cells, Pt.slots] at X66 l66 y66 z66 st66 hQ66
      subst l66 y66 z66
      obtain ⟨rfl, Nq66, K66, Ex66, Fc66, t66, kb66, -, lt66, ne66, Fv66, Va66⟩ := hQ66
      obtain ⟨lc66, Xh66, N66⟩ := own_hide X66 (Fr.app N59 Nq66)
      clear X66
      refine Go.hop st66 ?_
      have ne67 : ac ≠ t66 := Nat.ne_of_lt (Nat.lt_of_lt_of_le F65.lt lt66)
      have ne68 : b33 ≠ t66 := Nat.ne_of_lt (Nat.lt_of_lt_of_le F62.lt lt66)
      have ne69 : b41 ≠ t66 := Nat.ne_of_lt (Nat.lt_of_lt_of_le V56.lt lt66)
      have g70 : n0 ≤ t66 := Nat.le_trans Z57 lt66
      have sz71 : h0.size ≤ t66 := Nat.le_trans K58.1 lt66
      have Z72 : n0 ≤ T66.heap.size := Nat.le_trans Z57 K66.1
      have K73 : Keep h0 T66.heap [] := K58.trans K66 (own_allC (Or.inr sz36) own_all0)
      have CR74 := CHr.trans CR61 (CHr.keep K66 (sfS (own_safeS hZ.alike F62 F63) sf0) CR61.1)
      have O75 : Old Z n0 T66.heap := O60.keep K66 (own_allC g35 own_all0)
      have Vt66 : Arv Z T66.heap t66 kb66 .byte (1 : Int32) [(.int ((nar .char (cl.getD 0 0))).toInt8.toInt32)] (.int (0 : Int32)) := Va66
      show Go p.tables e below P T66 (mkF m 36 #[.val (.ref ac), .val (.int nn)] [(.ref b33)])
      have Vr77 : Arv Z T66.heap t66 kb66 .byte (own_lg ([((nar .char (cl.getD 0 0))).toInt8.toInt32] : List Int32)) (([((nar .char (cl.getD 0 0))).toInt8.toInt32] : List Int32).map Value.int) (.int (0 : Int32)) := by
        rw [show own_lg ([((nar .char (cl.getD 0 0))).toInt8.toInt32] : List Int32) = (1 : Int32) from rfl]; exact Vt66
      obtain ⟨fs, hr, hrun, hended, hend⟩ := Xh66.leaveW hS0 (by exact (Nat.zero_le _)) (v := some (.ref b33)) (fun h => by rw [Bd.returns] at h; cases h)
      have hCf : CHr Z consts_1 s.vm s.heap (T66.setFrames fs).vm (T66.setFrames fs).heap := by
        rw [hh]
        show CHr Z consts_1 s.vm h0 T66.vm T66.heap
        exact CHr.trans CR74 (CHv.at Xh66 hZ (own_EW hw) CR74.1)
      refine ⟨_, _, retA Xh66 hx Bd.returns rfl rfl rfl (hb hby d9_36) hr, hrun, hended, hP _ _ ⟨_, _, rfl, ?_, hCf, own_rew hend (by decide) (by decide)⟩⟩
      show Q9 Z ac nn kc cl cs h0 n0 _ T66.heap _
      exact ⟨b33, t66, kb66, ([((nar .char (cl.getD 0 0))).toInt8.toInt32] : List Int32), rfl, N66, K73, sz36, Ex66, Fv66, Fc66, Vr77, (by simp), Vr77.lt, ne68⟩
    · refine Go.via (fun t k => XS.icmpYes X0.here hx rfl (pc0 := 17) (pc' := 37) rfl (hb hby d9_17) rfl (feq hc32).2 (by decide) (by decide) k) ?_
      show Go p.tables e below P s₁ (mkF m 37 #[.val (.ref ac), .val (.int nn)] [])
      refine Go.via (fun t k => XS.iloadN X0.here hx rfl (hb hby d9_37) rfl k) ?_
      refine Go.via (fun t k => XS.iconst X0.here hx rfl (hb hby d9_38) k) ?_
      show Go p.tables e below P s₁ (mkF m 39 #[.val (.ref ac), .val (.int nn)] [(.int (2 : Int32)), (.int nn)])
      by_cases hc78 : nn = (2 : Int32)
      · refine Go.via (fun t k => XS.icmpNo X0.here hx rfl (hb hby d9_39) rfl (teq hc78).2 k) ?_
        show Go p.tables e below P s₁ (mkF m 42 #[.val (.ref ac), .val (.int nn)] [])
        obtain ⟨T79, h79, X79, e79, E79, A79, D79, -, st79⟩ := newO X0 hx hZ hown (hw _ (List.mem_of_getElem? (i := 52) rfl)) (hw _ (List.mem_of_getElem? (i := 2) rfl)) (hw _ (List.mem_of_getElem? (i := 1) rfl)) e0 (g := (mkF m 42 #[.val (.ref ac), .val (.int nn)] [])) rfl (hb hby d9_42) (by decide) (by decide)
        obtain ⟨b79, g79⟩ : ∃ z, z = h0.size := ⟨_, rfl⟩
        rw [← g79] at A79 D79 st79
        refine Go.via st79 ?_
        have ne80 : ac ≠ b79 := Nat.ne_of_lt (Nat.lt_of_lt_of_le P3.lt (Nat.le_of_eq g79.symm))
        have g81 : n0 ≤ b79 := Nat.le_trans Z0 (Nat.le_of_eq g79.symm)
        have sz82 : h0.size ≤ b79 := Nat.le_trans K0.1 (Nat.le_of_eq g79.symm)
        have Z83 : n0 ≤ h79.size := Nat.le_trans Z0 E79.1
        have K84 : Keep h0 h79 [] := K0.ext E79
        have O85 : Old Z n0 h79 := O0.ext E79
        have CR86 := CHr.trans CR0 (CHr.ext E79 CR0.1)
        show Go p.tables e below P T79 (mkF m 45 #[.val (.ref ac), .val (.int nn)] [(.ref b79)])
        refine Go.via (fun t k => XS.dup X79.here hx rfl (hb hby d9_45) rfl rfl k) ?_
        refine Go.via (fun t k => XS.iconst X79.here hx rfl (hb hby d9_46) k) ?_
        show Go p.tables e below P T79 (mkF m 47 #[.val (.ref ac), .val (.int nn)] [(.int (2 : Int32)), (.ref b79), (.ref b79)])
        have F88 : Arv Z h79 ac kc .char (8 : Int32) (cl.map Value.int) (.int (0 : Int32)) := (P3.ext E79)
        obtain ⟨T87, h87, k87, X87, e87, E87, A87, st87⟩ := newP X79 hx hZ (hw _ (List.mem_of_getElem? (i := 8) rfl)) e79 (g := (mkF m 47 #[.val (.ref ac), .val (.int nn)] [(.int (2 : Int32)), (.ref b79), (.ref b79)])) rfl (hb hby d9_47) rfl (by decide) (cap := 2) (by decide) (by decide) (by decide) (by decide)
        obtain ⟨b87, g87⟩ : ∃ z, z = h79.size := ⟨_, rfl⟩
        rw [← g87] at A87 st87
        refine Go.via st87 ?_
        have ne89 : ac ≠ b87 := Nat.ne_of_lt (Nat.lt_of_lt_of_le F88.lt (Nat.le_of_eq g87.symm))
        have ne90 : b79 ≠ b87 := Nat.ne_of_lt (Nat.lt_of_lt_of_le A79.lt (Nat.le_of_eq g87.symm))
        have g91 : n0 ≤ b87 := Nat.le_trans Z83 (Nat.le_of_eq g87.symm)
        have sz92 : h0.size ≤ b87 := Nat.le_trans K84.1 (Nat.le_of_eq g87.symm)
        have Z93 : n0 ≤ h87.size := Nat.le_trans Z83 E87.1
        have K94 : Keep h0 h87 [] := K84.ext E87
        have O95 : Old Z n0 h87 := O85.ext E87
        have CR96 := CHr.trans CR86 (CHr.ext E87 CR86.1)
        have V87 : Arv Z h87 b87 k87 .char (2 : Int32) [(.int (0 : Int32)), (.int (0 : Int32))] (.int (0 : Int32)) := (Arv.new A87 (by decide)).pad (pad_rep [] (.int (0 : Int32)) 2)
        show Go p.tables e below P T87 (mkF m 49 #[.val (.ref ac), .val (.int nn)] [(.ref b87), (.ref b79), (.ref b79)])
        refine Go.via (fun t k => XS.dup X87.here hx rfl (hb hby d9_49) rfl rfl k) ?_
        refine Go.via (fun t k => XS.iconst X87.here hx rfl (hb hby d9_50) k) ?_
        refine Go.via (fun t k => XS.aloadN X87.here hx rfl (hb hby d9_51) rfl rfl k) ?_
        show Go p.tables e below P T87 (mkF m 52 #[.val (.ref ac), .val (.int nn)] [(.ref ac), (.int (0 : Int32)), (.ref b87), (.ref b87), (.ref b79), (.ref b79)])
        refine Go.via (fun t k => XS.iconst X87.here hx rfl (hb hby d9_52) k) ?_
        show Go p.tables e below P T87 (mkF m 53 #[.val (.ref ac), .val (.int nn)] [(.int (0 : Int32)), (.ref ac), (.int (0 : Int32)), (.ref b87), (.ref b87), (.ref b79), (.ref b79)])
        have F97 : Arv Z h87 ac kc .char (8 : Int32) (cl.map Value.int) (.int (0 : Int32)) := (F88.ext E87)
        obtain ⟨c98, A98, q98, S98, N98, H98, G98⟩ := id F97
        have hin98 : ¬ ((0 : Int32) < 0 ∨ c98.slots.size ≤ ((0 : Int32)).toNatClampNeg) := inb_of S98 ⟨by decide, by decide⟩
        have hat98 : c98.slots[((0 : Int32)).toNatClampNeg]? = some (.int (cl.getD 0 0)) := (H98 _ (Nat.lt_of_not_le fun q => hin98 (Or.inr q))).trans (congrArg some (own_gD cl 0))
        refine Go.via (fun t k => X87.caload hx (j := (0 : Int32)) (v := (.int (cl.getD 0 0))) (by rw [e87]; exact A98.1) (State.isArrayOf_alike hZ.alike A98.2.1) A98.2.2 hin98 hat98 (g := (mkF m 53 #[.val (.ref ac), .val (.int nn)] [(.int (0 : Int32)), (.ref ac), (.int (0 : Int32)), (.ref b87), (.ref b87), (.ref b79), (.ref b79)])) rfl rfl (hb hby d9_53) t k) ?_
        show Go p.tables e below P T87 (mkF m 54 #[.val (.ref ac), .val (.int nn)] [(.int (cl.getD 0 0)), (.int (0 : Int32)), (.ref b87), (.ref b87), (.ref b79), (.ref b79)])
        have F99 : Exa Z h87 b79 "java/lang/String" := (A79.ext E87)
        have F100 : Fld Z h87 b79 "java/lang/String" "value" "[B" .null := ((D79 (Or.inr (hw _ (List.mem_of_getElem? (i := 4) rfl))) (ty := (.array .byte)) (by decide) : Fld Z h79 b79 "java/lang/String" "value" "[B" .null).ext E87)
        have F101 : Fld Z h87 b79 "java/lang/String" "coder" "B" (.int (0 : Int32)) := ((D79 (Or.inr (hw _ (List.mem_of_getElem? (i := 5) rfl))) (ty := .byte) (by decide) : Fld Z h79 b79 "java/lang/String" "coder" "B" (.int (0 : Int32))).ext E87)
        obtain ⟨c102, A102, q102, S102, N102, H102, G102⟩ := id V87
        have hin102 : ¬ ((0 : Int32) < 0 ∨ c102.slots.size ≤ ((0 : Int32)).toNatClampNeg) := inb_of S102 ⟨by decide, by decide⟩
        obtain ⟨T102, h102, X102, e102, W102, st102⟩ := stC X87 hx hZ e87 A102 (j := (0 : Int32)) hin102 (g := (mkF m 54 #[.val (.ref ac), .val (.int nn)] [(.int (cl.getD 0 0)), (.int (0 : Int32)), (.ref b87), (.ref b87), (.ref b79), (.ref b79)])) rfl rfl (hb hby d9_54)
        refine Go.via st102 ?_
        have Z103 : n0 ≤ h102.size := Nat.le_trans Z93 (Nat.le_of_eq W102.size.symm)
        have K104 : Keep h0 h102 [] := K94.wr W102 (Or.inr sz92)
        obtain ⟨lc102, Xh102, N105⟩ := own_hide X102 (Fr.snoc X102 N0 g91)
        clear X102
        have O106 : Old Z n0 h102 := O95.wr W102 g91
        have Sf102 := Safe.wr W102 (Safe.arv hZ.alike V87 (by decide)) CR96.1 (Safe.arv hZ.alike V87 (by decide))
        have CR107 := CHr.trans CR96 (CHr.wr W102 (Safe.arv hZ.alike V87 (by decide)) CR96.1)
        have V102 : Arv Z h102 b87 k87 .char (2 : Int32) [(.int (nar .char (cl.getD 0 0))), (.int (0 : Int32))] (.int (0 : Int32)) := Arv.set A102 q102 S102 N102 H102 G102 (fits_nar_char _) W102 0 rfl (Nat.le_of_ble_eq_true rfl)
        show Go p.tables e below P T102 (mkF m 55 #[.val (.ref ac), .val (.int nn)] [(.ref b87), (.ref b79), (.ref b79)])
        refine Go.via (fun t k => XS.dup Xh102.here hx rfl (hb hby d9_55) rfl rfl k) ?_
        refine Go.via (fun t k => XS.iconst Xh102.here hx rfl (hb hby d9_56) k) ?_
        refine Go.via (fun t k => XS.aloadN Xh102.here hx rfl (hb hby d9_57) rfl rfl k) ?_
        show Go p.tables e below P T102 (mkF m 58 #[.val (.ref ac), .val (.int nn)] [(.ref ac), (.int (1 : Int32)), (.ref b87), (.ref b87), (.ref b79), (.ref b79)])
        refine Go.via (fun t k => XS.iconst Xh102.here hx rfl (hb hby d9_58) k) ?_
        show Go p.tables e below P T102 (mkF m 59 #[.val (.ref ac), .val (.int nn)] [(.int (1 : Int32)), (.ref ac), (.int (1 : Int32)), (.ref b87), (.ref b87), (.ref b79), (.ref b79)])
        have F108 : Arv Z h102 ac kc .char (8 : Int32) (cl.map Value.int) (.int (0 : Int32)) := (F97.other W102 ne89)
        obtain ⟨c109, A109, q109, S109, N109, H109, G109⟩ := id F108
        have hin109 : ¬ ((1 : Int32) < 0 ∨ c109.slots.size ≤ ((1 : Int32)).toNatClampNeg) := inb_of S109 ⟨by decide, by decide⟩
        have hat109 : c109.slots[((1 : Int32)).toNatClampNeg]? = some (.int (cl.getD 1 0)) := (H109 _ (Nat.lt_of_not_le fun q => hin109 (Or.inr q))).trans (congrArg some (own_gD cl 1))
        refine Go.via (fun t k => Xh102.caload hx (j := (1 : Int32)) (v := (.int (cl.getD 1 0))) (by rw [e102]; exact A109.1) (State.isArrayOf_alike hZ.alike A109.2.1) A109.2.2 hin109 hat109 (g := (mkF m 59 #[.val (.ref ac), .val (.int nn)] [(.int (1 : Int32)), (.ref ac), (.int (1 : Int32)), (.ref b87), (.ref b87), (.ref b79), (.ref b79)])) rfl rfl (hb hby d9_59) t k) ?_
        show Go p.tables e below P T102 (mkF m 60 #[.val (.ref ac), .val (.int nn)] [(.int (cl.getD 1 0)), (.int (1 : Int32)), (.ref b87), (.ref b87), (.ref b79), (.ref b79)])
        have F110 : Exa Z h102 b79 "java/lang/String" := (F99.wr W102)
        have F111 : Fld Z h102 b79 "java/lang/String" "value" "[B" .null := (F100.other W102 (Or.inl ne90))
        have F112 : Fld Z h102 b79 "java/lang/String" "coder" "B" (.int (0 : Int32)) := (F101.other W102 (Or.inl ne90))
        obtain ⟨c113, A113, q113, S113, N113, H113, G113⟩ := id V102
        have hin113 : ¬ ((1 : Int32) < 0 ∨ c113.slots.size ≤ ((1 : Int32)).toNatClampNeg) := inb_of S113 ⟨by decide, by decide⟩
        obtain ⟨T113, h113, X113, e113, W113, st113⟩ := stC Xh102 hx hZ e102 A113 (j := (1 : Int32)) hin113 (g := (mkF m 60 #[.val (.ref ac), .val (.int nn)] [(.int (cl.getD 1 0)), (.int (1 : Int32)), (.ref b87), (.ref b87), (.ref b79), (.ref b79)])) rfl rfl (hb hby d9_60)
        refine Go.via st113 ?_
        have Z114 : n0 ≤ h113.size := Nat.le_trans Z103 (Nat.le_of_eq W113.size.symm)
        have K115 : Keep h0 h113 [] := K104.wr W113 (Or.inr sz92)
        obtain ⟨lc113, Xh113, N116⟩ := own_hide X113 (Fr.snoc X113 N105 g91)
        clear X113
        have O117 : Old Z n0 h113 := O106.wr W113 g91
        have Sf113 := Safe.wr W113 (Safe.arv hZ.alike V102 (by decide)) CR107.1 (Safe.arv hZ.alike V102 (by decide))
        have CR118 := CHr.trans CR107 (CHr.wr W113 (Safe.arv hZ.alike V102 (by decide)) CR107.1)
        have V113 : Arv Z h113 b87 k87 .char (2 : Int32) [(.int (nar .char (cl.getD 0 0))), (.int (nar .char (cl.getD 1 0)))] (.int (0 : Int32)) := Arv.set A113 q113 S113 N113 H113 G113 (fits_nar_char _) W113 1 rfl (Nat.le_of_ble_eq_true rfl)
        show Go p.tables e below P T113 (mkF m 61 #[.val (.ref ac), .val (.int nn)] [(.ref b87), (.ref b79), (.ref b79)])
        have F119 : Exa Z h113 b79 "java/lang/String" := (F110.wr W113)
        have F120 : Fld Z h113 b79 "java/lang/String" "value" "[B" .null := (F111.other W113 (Or.inl ne90))
        have F121 : Fld Z h113 b79 "java/lang/String" "coder" "B" (.int (0 : Int32)) := (F112.other W113 (Or.inl ne90))
        have F122 : Arv Z h113 ac kc .char (8 : Int32) (cl.map Value.int) (.int (0 : Int32)) := (F108.other W113 ne89)
        obtain ⟨_, _, ⟨T123, L123, k123, n123⟩, -, X123, ⟨Lc123, hQ123, l123, y123, z123⟩, st123⟩ := Xh113.specialBack hx (y := (⟨"java/lang/String", "<init>", "([C)V"⟩ : MethodName)) rfl hown (mvT hZ (hw _ (List.mem_of_getElem? (i := 53) rfl))) (mvT hZ (hw _ (List.mem_of_getElem? (i := 54) rfl))) (mvT hZ (hw _ (List.mem_of_getElem? (i := 55) rfl))) (by decide) (StrChars.Road.backV (W := 1) hZ (own_ws hw) (kI := 4) (hw _ (List.mem_of_getElem? (i := 2) rfl)) (cs := ([(nar .char (cl.getD 0 0)), (nar .char (cl.getD 1 0))] : List Int32)) (bs := ([((nar .char (cl.getD 0 0))).toInt8.toInt32, ((nar .char (cl.getD 1 0))).toInt8.toInt32] : List Int32)) (n := 2) g81 Z114 F119 F120 F121 V113 (P1.ext O117.2) hcs rfl rfl (by decide) (by decide) (own_alC (own_hp (hcl 0)) (own_alC (own_hp (hcl 1)) own_al0)) rfl (by decide) (by decide)) (g := (mkF m 61 #[.val (.ref ac), .val (.int nn)] [(.ref b87), (.ref b79), (.ref b79)])) rfl (by rw [hml]; rfl) (Steps.refl _) (a := b79) (argsL := [(.ref b87)]) (rest := [(.ref b79)]) (lenOf own_pd8 rfl) rfl (by show 2 * 0 + _ ≤ _; exact Nat.le_of_eq rfl) (hb hby d9_61) (fun _ _ => ⟨rfl, e113, (by decide : 2 + 1 ≤ _), (by decide : 6 + 2 ≤ _)⟩)
        dsimp only [Pt.U, Pt.locs, Pt.cells, Pt.slots] at X123 l123 y123 z123 st123 hQ123
        subst l123 y123 z123
        obtain ⟨rfl, Nq123, K123, Ex123, Fc123, t123, kb123, -, lt123, ne123, Fv123, Va123⟩ := hQ123
        obtain ⟨lc123, Xh123, N123⟩ := own_hide X123 (Fr.app N116 Nq123)
        clear X123
        refine Go.hop st123 ?_
        have ne124 : ac ≠ t123 := Nat.ne_of_lt (Nat.lt_of_lt_of_le F122.lt lt123)
        have ne125 : b79 ≠ t123 := Nat.ne_of_lt (Nat.lt_of_lt_of_le F119.lt lt123)
        have ne126 : b87 ≠ t123 := Nat.ne_of_lt (Nat.lt_of_lt_of_le V113.lt lt123)
        have g127 : n0 ≤ t123 := Nat.le_trans Z114 lt123
        have sz128 : h0.size ≤ t123 := Nat.le_trans K115.1 lt123
        have Z129 : n0 ≤ T123.heap.size := Nat.le_trans Z114 K123.1
        have K130 : Keep h0 T123.heap [] := K115.trans K123 (own_allC (Or.inr sz82) own_all0)
        have CR131 := CHr.trans CR118 (CHr.keep K123 (sfS (own_safeS hZ.alike F119 F120) sf0) CR118.1)
        have O132 : Old Z n0 T123.heap := O117.keep K123 (own_allC g81 own_all0)
        have Vt123 : Arv Z T123.heap t123 kb123 .byte (2 : Int32) [(.int ((nar .char (cl.getD 0 0))).toInt8.toInt32), (.int ((nar .char (cl.getD 1 0))).toInt8.toInt32)] (.int (0 : Int32)) := Va123
        show Go p.tables e below P T123 (mkF m 64 #[.val (.ref ac), .val (.int nn)] [(.ref b79)])
        have Vr134 : Arv Z T123.heap t123 kb123 .byte (own_lg ([((nar .char (cl.getD 0 0))).toInt8.toInt32, ((nar .char (cl.getD 1 0))).toInt8.toInt32] : List Int32)) (([((nar .char (cl.getD 0 0))).toInt8.toInt32, ((nar .char (cl.getD 1 0))).toInt8.toInt32] : List Int32).map Value.int) (.int (0 : Int32)) := by
          rw [show own_lg ([((nar .char (cl.getD 0 0))).toInt8.toInt32, ((nar .char (cl.getD 1 0))).toInt8.toInt32] : List Int32) = (2 : Int32) from rfl]; exact Vt123
        obtain ⟨fs, hr, hrun, hended, hend⟩ := Xh123.leaveW hS0 (by exact (Nat.zero_le _)) (v := some (.ref b79)) (fun h => by rw [Bd.returns] at h; cases h)
        have hCf : CHr Z consts_1 s.vm s.heap (T123.setFrames fs).vm (T123.setFrames fs).heap := by
          rw [hh]
          show CHr Z consts_1 s.vm h0 T123.vm T123.heap
          exact CHr.trans CR131 (CHv.at Xh123 hZ (own_EW hw) CR131.1)
        refine ⟨_, _, retA Xh123 hx Bd.returns rfl rfl rfl (hb hby d9_64) hr, hrun, hended, hP _ _ ⟨_, _, rfl, ?_, hCf, own_rew hend (by decide) (by decide)⟩⟩
        show Q9 Z ac nn kc cl cs h0 n0 _ T123.heap _
        exact ⟨b79, t123, kb123, ([((nar .char (cl.getD 0 0))).toInt8.toInt32, ((nar .char (cl.getD 1 0))).toInt8.toInt32] : List Int32), rfl, N123, K130, sz82, Ex123, Fv123, Fc123, Vr134, (by simp), Vr134.lt, ne125⟩
      · refine Go.via (fun t k => XS.icmpYes X0.here hx rfl (pc0 := 39) (pc' := 65) rfl (hb hby d9_39) rfl (feq hc78).2 (by decide) (by decide) k) ?_
        show Go p.tables e below P s₁ (mkF m 65 #[.val (.ref ac), .val (.int nn)] [])
        refine Go.via (fun t k => XS.iloadN X0.here hx rfl (hb hby d9_65) rfl k) ?_
        refine Go.via (fun t k => XS.iconst X0.here hx rfl (hb hby d9_66) k) ?_
        show Go p.tables e below P s₁ (mkF m 67 #[.val (.ref ac), .val (.int nn)] [(.int (3 : Int32)), (.int nn)])
        by_cases hc135 : nn = (3 : Int32)
        · refine Go.via (fun t k => XS.icmpNo X0.here hx rfl (hb hby d9_67) rfl (teq hc135).2 k) ?_
          show Go p.tables e below P s₁ (mkF m 70 #[.val (.ref ac), .val (.int nn)] [])
          obtain ⟨T136, h136, X136, e136, E136, A136, D136, -, st136⟩ := newO X0 hx hZ hown (hw _ (List.mem_of_getElem? (i := 52) rfl)) (hw _ (List.mem_of_getElem? (i := 2) rfl)) (hw _ (List.mem_of_getElem? (i := 1) rfl)) e0 (g := (mkF m 70 #[.val (.ref ac), .val (.int nn)] [])) rfl (hb hby d9_70) (by decide) (by decide)
          obtain ⟨b136, g136⟩ : ∃ z, z = h0.size := ⟨_, rfl⟩
          rw [← g136] at A136 D136 st136
          refine Go.via st136 ?_
          have ne137 : ac ≠ b136 := Nat.ne_of_lt (Nat.lt_of_lt_of_le P3.lt (Nat.le_of_eq g136.symm))
          have g138 : n0 ≤ b136 := Nat.le_trans Z0 (Nat.le_of_eq g136.symm)
          have sz139 : h0.size ≤ b136 := Nat.le_trans K0.1 (Nat.le_of_eq g136.symm)
          have Z140 : n0 ≤ h136.size := Nat.le_trans Z0 E136.1
          have K141 : Keep h0 h136 [] := K0.ext E136
          have O142 : Old Z n0 h136 := O0.ext E136
          have CR143 := CHr.trans CR0 (CHr.ext E136 CR0.1)
          show Go p.tables e below P T136 (mkF m 73 #[.val (.ref ac), .val (.int nn)] [(.ref b136)])
          refine Go.via (fun t k => XS.dup X136.here hx rfl (hb hby d9_73) rfl rfl k) ?_
          refine Go.via (fun t k => XS.iconst X136.here hx rfl (hb hby d9_74) k) ?_
          show Go p.tables e below P T136 (mkF m 75 #[.val (.ref ac), .val (.int nn)] [(.int (3 : Int32)), (.ref b136), (.ref b136)])
          have F145 : Arv Z h136 ac kc .char (8 : Int32) (cl.map Value.int) (.int (0 : Int32)) := (P3.ext E136)
          obtain ⟨T144, h144, k144, X144, e144, E144, A144, st144⟩ := newP X136 hx hZ (hw _ (List.mem_of_getElem? (i := 8) rfl)) e136 (g := (mkF m 75 #[.val (.ref ac), .val (.int nn)] [(.int (3 : Int32)), (.ref b136), (.ref b136)])) rfl (hb hby d9_75) rfl (by decide) (cap := 3) (by decide) (by decide) (by decide) (by decide)
          obtain ⟨b144, g144⟩ : ∃ z, z = h136.size := ⟨_, rfl⟩
          rw [← g144] at A144 st144
          refine Go.via st144 ?_
          have ne146 : ac ≠ b144 := Nat.ne_of_lt (Nat.lt_of_lt_of_le F145.lt (Nat.le_of_eq g144.symm))
          have ne147 : b136 ≠ b144 := Nat.ne_of_lt (Nat.lt_of_lt_of_le A136.lt (Nat.le_of_eq g144.symm))
          have g148 : n0 ≤ b144 := Nat.le_trans Z140 (Nat.le_of_eq g144.symm)
          have sz149 : h0.size ≤ b144 := Nat.le_trans K141.1 (Nat.le_of_eq g144.symm)
          have Z150 : n0 ≤ h144.size := Nat.le_trans Z140 E144.1
          have K151 : Keep h0 h144 [] := K141.ext E144
          have O152 : Old Z n0 h144 := O142.ext E144
          have CR153 := CHr.trans CR143 (CHr.ext E144 CR143.1)
          have V144 : Arv Z h144 b144 k144 .char (3 : Int32) [(.int (0 : Int32)), (.int (0 : Int32)), (.int (0 : Int32))] (.int (0 : Int32)) := (Arv.new A144 (by decide)).pad (pad_rep [] (.int (0 : Int32)) 3)
          show Go p.tables e below P T144 (mkF m 77 #[.val (.ref ac), .val (.int nn)] [(.ref b144), (.ref b136), (.ref b136)])
          refine Go.via (fun t k => XS.dup X144.here hx rfl (hb hby d9_77) rfl rfl k) ?_
          refine Go.via (fun t k => XS.iconst X144.here hx rfl (hb hby d9_78) k) ?_
          refine Go.via (fun t k => XS.aloadN X144.here hx rfl (hb hby d9_79) rfl rfl k) ?_
          show Go p.tables e below P T144 (mkF m 80 #[.val (.ref ac), .val (.int nn)] [(.ref ac), (.int (0 : Int32)), (.ref b144), (.ref b144), (.ref b136), (.ref b136)])
          refine Go.via (fun t k => XS.iconst X144.here hx rfl (hb hby d9_80) k) ?_
          show Go p.tables e below P T144 (mkF m 81 #[.val (.ref ac), .val (.int nn)] [(.int (0 : Int32)), (.ref ac), (.int (0 : Int32)), (.ref b144), (.ref b144), (.ref b136), (.ref b136)])
          have F154 : Arv Z h144 ac kc .char (8 : Int32) (cl.map Value.int) (.int (0 : Int32)) := (F145.ext E144)
          obtain ⟨c155, A155, q155, S155, N155, H155, G155⟩ := id F154
          have hin155 : ¬ ((0 : Int32) < 0 ∨ c155.slots.size ≤ ((0 : Int32)).toNatClampNeg) := inb_of S155 ⟨by decide, by decide⟩
          have hat155 : c155.slots[((0 : Int32)).toNatClampNeg]? = some (.int (cl.getD 0 0)) := (H155 _ (Nat.lt_of_not_le fun q => hin155 (Or.inr q))).trans (congrArg some (own_gD cl 0))
          refine Go.via (fun t k => X144.caload hx (j := (0 : Int32)) (v := (.int (cl.getD 0 0))) (by rw [e144]; exact A155.1) (State.isArrayOf_alike hZ.alike A155.2.1) A155.2.2 hin155 hat155 (g := (mkF m 81 #[.val (.ref ac), .val (.int nn)] [(.int (0 : Int32)), (.ref ac), (.int (0 : Int32)), (.ref b144), (.ref b144), (.ref b136), (.ref b136)])) rfl rfl (hb hby d9_81) t k) ?_
          show Go p.tables e below P T144 (mkF m 82 #[.val (.ref ac), .val (.int nn)] [(.int (cl.getD 0 0)), (.int (0 : Int32)), (.ref b144), (.ref b144), (.ref b136), (.ref b136)])
          have F156 : Exa Z h144 b136 "java/lang/String" := (A136.ext E144)
          have F157 : Fld Z h144 b136 "java/lang/String" "value" "[B" .null := ((D136 (Or.inr (hw _ (List.mem_of_getElem? (i := 4) rfl))) (ty := (.array .byte)) (by decide) : Fld Z h136 b136 "java/lang/String" "value" "[B" .null).ext E144)
          have F158 : Fld Z h144 b136 "java/lang/String" "coder" "B" (.int (0 : Int32)) := ((D136 (Or.inr (hw _ (List.mem_of_getElem? (i := 5) rfl))) (ty := .byte) (by decide) : Fld Z h136 b136 "java/lang/String" "coder" "B" (.int (0 : Int32))).ext E144)
          obtain ⟨c159, A159, q159, S159, N159, H159, G159⟩ := id V144
          have hin159 : ¬ ((0 : Int32) < 0 ∨ c159.slots.size ≤ ((0 : Int32)).toNatClampNeg) := inb_of S159 ⟨by decide, by decide⟩
          obtain ⟨T159, h159, X159, e159, W159, st159⟩ := stC X144 hx hZ e144 A159 (j := (0 : Int32)) hin159 (g := (mkF m 82 #[.val (.ref ac), .val (.int nn)] [(.int (cl.getD 0 0)), (.int (0 : Int32)), (.ref b144), (.ref b144), (.ref b136), (.ref b136)])) rfl rfl (hb hby d9_82)
          refine Go.via st159 ?_
          have Z160 : n0 ≤ h159.size := Nat.le_trans Z150 (Nat.le_of_eq W159.size.symm)
          have K161 : Keep h0 h159 [] := K151.wr W159 (Or.inr sz149)
          obtain ⟨lc159, Xh159, N162⟩ := own_hide X159 (Fr.snoc X159 N0 g148)
          clear X159
          have O163 : Old Z n0 h159 := O152.wr W159 g148
          have Sf159 := Safe.wr W159 (Safe.arv hZ.alike V144 (by decide)) CR153.1 (Safe.arv hZ.alike V144 (by decide))
          have CR164 := CHr.trans CR153 (CHr.wr W159 (Safe.arv hZ.alike V144 (by decide)) CR153.1)
          have V159 : Arv Z h159 b144 k144 .char (3 : Int32) [(.int (nar .char (cl.getD 0 0))), (.int (0 : Int32)), (.int (0 : Int32))] (.int (0 : Int32)) := Arv.set A159 q159 S159 N159 H159 G159 (fits_nar_char _) W159 0 rfl (Nat.le_of_ble_eq_true rfl)
          show Go p.tables e below P T159 (mkF m 83 #[.val (.ref ac), .val (.int nn)] [(.ref b144), (.ref b136), (.ref b136)])
          refine Go.via (fun t k => XS.dup Xh159.here hx rfl (hb hby d9_83) rfl rfl k) ?_
          refine Go.via (fun t k => XS.iconst Xh159.here hx rfl (hb hby d9_84) k) ?_
          refine Go.via (fun t k => XS.aloadN Xh159.here hx rfl (hb hby d9_85) rfl rfl k) ?_
          show Go p.tables e below P T159 (mkF m 86 #[.val (.ref ac), .val (.int nn)] [(.ref ac), (.int (1 : Int32)), (.ref b144), (.ref b144), (.ref b136), (.ref b136)])
          refine Go.via (fun t k => XS.iconst Xh159.here hx rfl (hb hby d9_86) k) ?_
          show Go p.tables e below P T159 (mkF m 87 #[.val (.ref ac), .val (.int nn)] [(.int (1 : Int32)), (.ref ac), (.int (1 : Int32)), (.ref b144), (.ref b144), (.ref b136), (.ref b136)])
          have F165 : Arv Z h159 ac kc .char (8 : Int32) (cl.map Value.int) (.int (0 : Int32)) := (F154.other W159 ne146)
          obtain ⟨c166, A166, q166, S166, N166, H166, G166⟩ := id F165
          have hin166 : ¬ ((1 : Int32) < 0 ∨ c166.slots.size ≤ ((1 : Int32)).toNatClampNeg) := inb_of S166 ⟨by decide, by decide⟩
          have hat166 : c166.slots[((1 : Int32)).toNatClampNeg]? = some (.int (cl.getD 1 0)) := (H166 _ (Nat.lt_of_not_le fun q => hin166 (Or.inr q))).trans (congrArg some (own_gD cl 1))
          refine Go.via (fun t k => Xh159.caload hx (j := (1 : Int32)) (v := (.int (cl.getD 1 0))) (by rw [e159]; exact A166.1) (State.isArrayOf_alike hZ.alike A166.2.1) A166.2.2 hin166 hat166 (g := (mkF m 87 #[.val (.ref ac), .val (.int nn)] [(.int (1 : Int32)), (.ref ac), (.int (1 : Int32)), (.ref b144), (.ref b144), (.ref b136), (.ref b136)])) rfl rfl (hb hby d9_87) t k) ?_
          show Go p.tables e below P T159 (mkF m 88 #[.val (.ref ac), .val (.int nn)] [(.int (cl.getD 1 0)), (.int (1 : Int32)), (.ref b144), (.ref b144), (.ref b136), (.ref b136)])
          have F167 : Exa Z h159 b136 "java/lang/String" := (F156.wr W159)
          have F168 : Fld Z h159 b136 "java/lang/String" "value" "[B" .null := (F157.other W159 (Or.inl ne147))
          have F169 : Fld Z h159 b136 "java/lang/String" "coder" "B" (.int (0 : Int32)) := (F158.other W159 (Or.inl ne147))
          obtain ⟨c170, A170, q170, S170, N170, H170, G170⟩ := id V159
          have hin170 : ¬ ((1 : Int32) < 0 ∨ c170.slots.size ≤ ((1 : Int32)).toNatClampNeg) := inb_of S170 ⟨by decide, by decide⟩
          obtain ⟨T170, h170, X170, e170, W170, st170⟩ := stC Xh159 hx hZ e159 A170 (j := (1 : Int32)) hin170 (g := (mkF m 88 #[.val (.ref ac), .val (.int nn)] [(.int (cl.getD 1 0)), (.int (1 : Int32)), (.ref b144), (.ref b144), (.ref b136), (.ref b136)])) rfl rfl (hb hby d9_88)
          refine Go.via st170 ?_
          have Z171 : n0 ≤ h170.size := Nat.le_trans Z160 (Nat.le_of_eq W170.size.symm)
          have K172 : Keep h0 h170 [] := K161.wr W170 (Or.inr sz149)
          obtain ⟨lc170, Xh170, N173⟩ := own_hide X170 (Fr.snoc X170 N162 g148)
          clear X170
          have O174 : Old Z n0 h170 := O163.wr W170 g148
          have Sf170 := Safe.wr W170 (Safe.arv hZ.alike V159 (by decide)) CR164.1 (Safe.arv hZ.alike V159 (by decide))
          have CR175 := CHr.trans CR164 (CHr.wr W170 (Safe.arv hZ.alike V159 (by decide)) CR164.1)
          have V170 : Arv Z h170 b144 k144 .char (3 : Int32) [(.int (nar .char (cl.getD 0 0))), (.int (nar .char (cl.getD 1 0))), (.int (0 : Int32))] (.int (0 : Int32)) := Arv.set A170 q170 S170 N170 H170 G170 (fits_nar_char _) W170 1 rfl (Nat.le_of_ble_eq_true rfl)
          show Go p.tables e below P T170 (mkF m 89 #[.val (.ref ac), .val (.int nn)] [(.ref b144), (.ref b136), (.ref b136)])
          refine Go.via (fun t k => XS.dup Xh170.here hx rfl (hb hby d9_89) rfl rfl k) ?_
          refine Go.via (fun t k => XS.iconst Xh170.here hx rfl (hb hby d9_90) k) ?_
          refine Go.via (fun t k => XS.aloadN Xh170.here hx rfl (hb hby d9_91) rfl rfl k) ?_
          show Go p.tables e below P T170 (mkF m 92 #[.val (.ref ac), .val (.int nn)] [(.ref ac), (.int (2 : Int32)), (.ref b144), (.ref b144), (.ref b136), (.ref b136)])
          refine Go.via (fun t k => XS.iconst Xh170.here hx rfl (hb hby d9_92) k) ?_
          show Go p.tables e below P T170 (mkF m 93 #[.val (.ref ac), .val (.int nn)] [(.int (2 : Int32)), (.ref ac), (.int (2 : Int32)), (.ref b144), (.ref b144), (.ref b136), (.ref b136)])
          have F176 : Arv Z h170 ac kc .char (8 : Int32) (cl.map Value.int) (.int (0 : Int32)) := (F165.other W170 ne146)
          obtain ⟨c177, A177, q177, S177, N177, H177, G177⟩ := id F176
          have hin177 : ¬ ((2 : Int32) < 0 ∨ c177.slots.size ≤ ((2 : Int32)).toNatClampNeg) := inb_of S177 ⟨by decide, by decide⟩
          have hat177 : c177.slots[((2 : Int32)).toNatClampNeg]? = some (.int (cl.getD 2 0)) := (H177 _ (Nat.lt_of_not_le fun q => hin177 (Or.inr q))).trans (congrArg some (own_gD cl 2))
          refine Go.via (fun t k => Xh170.caload hx (j := (2 : Int32)) (v := (.int (cl.getD 2 0))) (by rw [e170]; exact A177.1) (State.isArrayOf_alike hZ.alike A177.2.1) A177.2.2 hin177 hat177 (g := (mkF m 93 #[.val (.ref ac), .val (.int nn)] [(.int (2 : Int32)), (.ref ac), (.int (2 : Int32)), (.ref b144), (.ref b144), (.ref b136), (.ref b136)])) rfl rfl (hb hby d9_93) t k) ?_
          show Go p.tables e below P T170 (mkF m 94 #[.val (.ref ac), .val (.int nn)] [(.int (cl.getD 2 0)), (.int (2 : Int32)), (.ref b144), (.ref b144), (.ref b136), (.ref b136)])
          have F178 : Exa Z h170 b136 "java/lang/String" := (F167.wr W170)
          have F179 : Fld Z h170 b136 "java/lang/String" "value" "[B" .null := (F168.other W170 (Or.inl ne147))
          have F180 : Fld Z h170 b136 "java/lang/String" "coder" "B" (.int (0 : Int32)) := (F169.other W170 (Or.inl ne147))
          obtain ⟨c181, A181, q181, S181, N181, H181, G181⟩ := id V170
          have hin181 : ¬ ((2 : Int32) < 0 ∨ c181.slots.size ≤ ((2 : Int32)).toNatClampNeg) := inb_of S181 ⟨by decide, by decide⟩
          obtain ⟨T181, h181, X181, e181, W181, st181⟩ := stC Xh170 hx hZ e170 A181 (j := (2 : Int32)) hin181 (g := (mkF m 94 #[.val (.ref ac), .val (.int nn)] [(.int (cl.getD 2 0)), (.int (2 : Int32)), (.ref b144), (.ref b144), (.ref b136), (.ref b136)])) rfl rfl (hb hby d9_94)
          refine Go.via st181 ?_
          have Z182 : n0 ≤ h181.size := Nat.le_trans Z171 (Nat.le_of_eq W181.size.symm)
          have K183 : Keep h0 h181 [] := K172.wr W181 (Or.inr sz149)
          obtain ⟨lc181, Xh181, N184⟩ := own_hide X181 (Fr.snoc X181 N173 g148)
          clear X181
          have O185 : Old Z n0 h181 := O174.wr W181 g148
          have Sf181 := Safe.wr W181 (Safe.arv hZ.alike V170 (by decide)) CR175.1 (Safe.arv hZ.alike V170 (by decide))
          have CR186 := CHr.trans CR175 (CHr.wr W181 (Safe.arv hZ.alike V170 (by decide)) CR175.1)
          have V181 : Arv Z h181 b144 k144 .char (3 : Int32) [(.int (nar .char (cl.getD 0 0))), (.int (nar .char (cl.getD 1 0))), (.int (nar .char (cl.getD 2 0)))] (.int (0 : Int32)) := Arv.set A181 q181 S181 N181 H181 G181 (fits_nar_char _) W181 2 rfl (Nat.le_of_ble_eq_true rfl)
          show Go p.tables e below P T181 (mkF m 95 #[.val (.ref ac), .val (.int nn)] [(.ref b144), (.ref b136), (.ref b136)])
          have F187 : Exa Z h181 b136 "java/lang/String" := (F178.wr W181)
          have F188 : Fld Z h181 b136 "java/lang/String" "value" "[B" .null := (F179.other W181 (Or.inl ne147))
          have F189 : Fld Z h181 b136 "java/lang/String" "coder" "B" (.int (0 : Int32)) := (F180.other W181 (Or.inl ne147))
          have F190 : Arv Z h181 ac kc .char (8 : Int32) (cl.map Value.int) (.int (0 : Int32)) := (F176.other W181 ne146)
          obtain ⟨_, _, ⟨T191, L191, k191, n191⟩, -, X191, ⟨Lc191, hQ191, l191, y191, z191⟩, st191⟩ := Xh181.specialBack hx (y := (⟨"java/lang/String", "<init>", "([C)V"⟩ : MethodName)) rfl hown (mvT hZ (hw _ (List.mem_of_getElem? (i := 53) rfl))) (mvT hZ (hw _ (List.mem_of_getElem? (i := 54) rfl))) (mvT hZ (hw _ (List.mem_of_getElem? (i := 55) rfl))) (by decide) (StrChars.Road.backV (W := 1) hZ (own_ws hw) (kI := 4) (hw _ (List.mem_of_getElem? (i := 2) rfl)) (cs := ([(nar .char (cl.getD 0 0)), (nar .char (cl.getD 1 0)), (nar .char (cl.getD 2 0))] : List Int32)) (bs := ([((nar .char (cl.getD 0 0))).toInt8.toInt32, ((nar .char (cl.getD 1 0))).toInt8.toInt32, ((nar .char (cl.getD 2 0))).toInt8.toInt32] : List Int32)) (n := 3) g138 Z182 F187 F188 F189 V181 (P1.ext O185.2) hcs rfl rfl (by decide) (by decide) (own_alC (own_hp (hcl 0)) (own_alC (own_hp (hcl 1)) (own_alC (own_hp (hcl 2)) own_al0))) rfl (by decide) (by decide)) (g := (mkF m 95 #[.val (.ref ac), .val (.int nn)] [(.ref b144), (.ref b136), (.ref b136)])) rfl (by rw [hml]; rfl) (Steps.refl _) (a := b136) (argsL := [(.ref b144)]) (rest := [(.ref b136)]) (lenOf own_pd8 rfl) rfl (by show 2 * 0 + _ ≤ _; exact Nat.le_of_eq rfl) (hb hby d9_95) (fun _ _ => ⟨rfl, e181, (by decide : 2 + 1 ≤ _), (by decide : 7 + 3 ≤ _)⟩)
          dsimp only [Pt.U, Pt.locs, Pt.cells, Pt.slots] at X191 l191 y191 z191 st191 hQ191
          subst l191 y191 z191
          obtain ⟨rfl, Nq191, K191, Ex191, Fc191, t191, kb191, -, lt191, ne191, Fv191, Va191⟩ := hQ191
          obtain ⟨lc191, Xh191, N191⟩ := own_hide X191 (Fr.app N184 Nq191)
          clear X191
          refine Go.hop st191 ?_
          have ne192 : ac ≠ t191 := Nat.ne_of_lt (Nat.lt_of_lt_of_le F190.lt lt191)
          have ne193 : b136 ≠ t191 := Nat.ne_of_lt (Nat.lt_of_lt_of_le F187.lt lt191)
          have ne194 : b144 ≠ t191 := Nat.ne_of_lt (Nat.lt_of_lt_of_le V181.lt lt191)
          have g195 : n0 ≤ t191 := Nat.le_trans Z182 lt191
          have sz196 : h0.size ≤ t191 := Nat.le_trans K183.1 lt191
          have Z197 : n0 ≤ T191.heap.size := Nat.le_trans Z182 K191.1
          have K198 : Keep h0 T191.heap [] := K183.trans K191 (own_allC (Or.inr sz139) own_all0)
          have CR199 := CHr.trans CR186 (CHr.keep K191 (sfS (own_safeS hZ.alike F187 F188) sf0) CR186.1)
          have O200 : Old Z n0 T191.heap := O185.keep K191 (own_allC g138 own_all0)
          have Vt191 : Arv Z T191.heap t191 kb191 .byte (3 : Int32) [(.int ((nar .char (cl.getD 0 0))).toInt8.toInt32), (.int ((nar .char (cl.getD 1 0))).toInt8.toInt32), (.int ((nar .char (cl.getD 2 0))).toInt8.toInt32)] (.int (0 : Int32)) := Va191
          show Go p.tables e below P T191 (mkF m 98 #[.val (.ref ac), .val (.int nn)] [(.ref b136)])
          have Vr202 : Arv Z T191.heap t191 kb191 .byte (own_lg ([((nar .char (cl.getD 0 0))).toInt8.toInt32, ((nar .char (cl.getD 1 0))).toInt8.toInt32, ((nar .char (cl.getD 2 0))).toInt8.toInt32] : List Int32)) (([((nar .char (cl.getD 0 0))).toInt8.toInt32, ((nar .char (cl.getD 1 0))).toInt8.toInt32, ((nar .char (cl.getD 2 0))).toInt8.toInt32] : List Int32).map Value.int) (.int (0 : Int32)) := by
            rw [show own_lg ([((nar .char (cl.getD 0 0))).toInt8.toInt32, ((nar .char (cl.getD 1 0))).toInt8.toInt32, ((nar .char (cl.getD 2 0))).toInt8.toInt32] : List Int32) = (3 : Int32) from rfl]; exact Vt191
          obtain ⟨fs, hr, hrun, hended, hend⟩ := Xh191.leaveW hS0 (by exact (Nat.zero_le _)) (v := some (.ref b136)) (fun h => by rw [Bd.returns] at h; cases h)
          have hCf : CHr Z consts_1 s.vm s.heap (T191.setFrames fs).vm (T191.setFrames fs).heap := by
            rw [hh]
            show CHr Z consts_1 s.vm h0 T191.vm T191.heap
            exact CHr.trans CR199 (CHv.at Xh191 hZ (own_EW hw) CR199.1)
          refine ⟨_, _, retA Xh191 hx Bd.returns rfl rfl rfl (hb hby d9_98) hr, hrun, hended, hP _ _ ⟨_, _, rfl, ?_, hCf, own_rew hend (by decide) (by decide)⟩⟩
          show Q9 Z ac nn kc cl cs h0 n0 _ T191.heap _
          exact ⟨b136, t191, kb191, ([((nar .char (cl.getD 0 0))).toInt8.toInt32, ((nar .char (cl.getD 1 0))).toInt8.toInt32, ((nar .char (cl.getD 2 0))).toInt8.toInt32] : List Int32), rfl, N191, K198, sz139, Ex191, Fv191, Fc191, Vr202, (by simp), Vr202.lt, ne193⟩
        · refine Go.via (fun t k => XS.icmpYes X0.here hx rfl (pc0 := 67) (pc' := 99) rfl (hb hby d9_67) rfl (feq hc135).2 (by decide) (by decide) k) ?_
          show Go p.tables e below P s₁ (mkF m 99 #[.val (.ref ac), .val (.int nn)] [])
          refine Go.via (fun t k => XS.iloadN X0.here hx rfl (hb hby d9_99) rfl k) ?_
          refine Go.via (fun t k => XS.iconst X0.here hx rfl (hb hby d9_100) k) ?_
          show Go p.tables e below P s₁ (mkF m 101 #[.val (.ref ac), .val (.int nn)] [(.int (4 : Int32)), (.int nn)])
          by_cases hc203 : nn = (4 : Int32)
          · refine Go.via (fun t k => XS.icmpNo X0.here hx rfl (hb hby d9_101) rfl (teq hc203).2 k) ?_
            show Go p.tables e below P s₁ (mkF m 104 #[.val (.ref ac), .val (.int nn)] [])
            obtain ⟨T204, h204, X204, e204, E204, A204, D204, -, st204⟩ := newO X0 hx hZ hown (hw _ (List.mem_of_getElem? (i := 52) rfl)) (hw _ (List.mem_of_getElem? (i := 2) rfl)) (hw _ (List.mem_of_getElem? (i := 1) rfl)) e0 (g := (mkF m 104 #[.val (.ref ac), .val (.int nn)] [])) rfl (hb hby d9_104) (by decide) (by decide)
            obtain ⟨b204, g204⟩ : ∃ z, z = h0.size := ⟨_, rfl⟩
            rw [← g204] at A204 D204 st204
            refine Go.via st204 ?_
            have ne205 : ac ≠ b204 := Nat.ne_of_lt (Nat.lt_of_lt_of_le P3.lt (Nat.le_of_eq g204.symm))
            have g206 : n0 ≤ b204 := Nat.le_trans Z0 (Nat.le_of_eq g204.symm)
            have sz207 : h0.size ≤ b204 := Nat.le_trans K0.1 (Nat.le_of_eq g204.symm)
            have Z208 : n0 ≤ h204.size := Nat.le_trans Z0 E204.1
            have K209 : Keep h0 h204 [] := K0.ext E204
            have O210 : Old Z n0 h204 := O0.ext E204
            have CR211 := CHr.trans CR0 (CHr.ext E204 CR0.1)
            show Go p.tables e below P T204 (mkF m 107 #[.val (.ref ac), .val (.int nn)] [(.ref b204)])
            refine Go.via (fun t k => XS.dup X204.here hx rfl (hb hby d9_107) rfl rfl k) ?_
            refine Go.via (fun t k => XS.iconst X204.here hx rfl (hb hby d9_108) k) ?_
            show Go p.tables e below P T204 (mkF m 109 #[.val (.ref ac), .val (.int nn)] [(.int (4 : Int32)), (.ref b204), (.ref b204)])
            have F213 : Arv Z h204 ac kc .char (8 : Int32) (cl.map Value.int) (.int (0 : Int32)) := (P3.ext E204)
            obtain ⟨T212, h212, k212, X212, e212, E212, A212, st212⟩ := newP X204 hx hZ (hw _ (List.mem_of_getElem? (i := 8) rfl)) e204 (g := (mkF m 109 #[.val (.ref ac), .val (.int nn)] [(.int (4 : Int32)), (.ref b204), (.ref b204)])) rfl (hb hby d9_109) rfl (by decide) (cap := 4) (by decide) (by decide) (by decide) (by decide)
            obtain ⟨b212, g212⟩ : ∃ z, z = h204.size := ⟨_, rfl⟩
            rw [← g212] at A212 st212
            refine Go.via st212 ?_
            have ne214 : ac ≠ b212 := Nat.ne_of_lt (Nat.lt_of_lt_of_le F213.lt (Nat.le_of_eq g212.symm))
            have ne215 : b204 ≠ b212 := Nat.ne_of_lt (Nat.lt_of_lt_of_le A204.lt (Nat.le_of_eq g212.symm))
            have g216 : n0 ≤ b212 := Nat.le_trans Z208 (Nat.le_of_eq g212.symm)
            have sz217 : h0.size ≤ b212 := Nat.le_trans K209.1 (Nat.le_of_eq g212.symm)
            have Z218 : n0 ≤ h212.size := Nat.le_trans Z208 E212.1
            have K219 : Keep h0 h212 [] := K209.ext E212
            have O220 : Old Z n0 h212 := O210.ext E212
            have CR221 := CHr.trans CR211 (CHr.ext E212 CR211.1)
            have V212 : Arv Z h212 b212 k212 .char (4 : Int32) [(.int (0 : Int32)), (.int (0 : Int32)), (.int (0 : Int32)), (.int (0 : Int32))] (.int (0 : Int32)) := (Arv.new A212 (by decide)).pad (pad_rep [] (.int (0 : Int32)) 4)
            show Go p.tables e below P T212 (mkF m 111 #[.val (.ref ac), .val (.int nn)] [(.ref b212), (.ref b204), (.ref b204)])
            refine Go.via (fun t k => XS.dup X212.here hx rfl (hb hby d9_111) rfl rfl k) ?_
            refine Go.via (fun t k => XS.iconst X212.here hx rfl (hb hby d9_112) k) ?_
            refine Go.via (fun t k => XS.aloadN X212.here hx rfl (hb hby d9_113) rfl rfl k) ?_
            show Go p.tables e below P T212 (mkF m 114 #[.val (.ref ac), .val (.int nn)] [(.ref ac), (.int (0 : Int32)), (.ref b212), (.ref b212), (.ref b204), (.ref b204)])
            refine Go.via (fun t k => XS.iconst X212.here hx rfl (hb hby d9_114) k) ?_
            show Go p.tables e below P T212 (mkF m 115 #[.val (.ref ac), .val (.int nn)] [(.int (0 : Int32)), (.ref ac), (.int (0 : Int32)), (.ref b212), (.ref b212), (.ref b204), (.ref b204)])
            have F222 : Arv Z h212 ac kc .char (8 : Int32) (cl.map Value.int) (.int (0 : Int32)) := (F213.ext E212)
            obtain ⟨c223, A223, q223, S223, N223, H223, G223⟩ := id F222
            have hin223 : ¬ ((0 : Int32) < 0 ∨ c223.slots.size ≤ ((0 : Int32)).toNatClampNeg) := inb_of S223 ⟨by decide, by decide⟩
            have hat223 : c223.slots[((0 : Int32)).toNatClampNeg]? = some (.int (cl.getD 0 0)) := (H223 _ (Nat.lt_of_not_le fun q => hin223 (Or.inr q))).trans (congrArg some (own_gD cl 0))
            refine Go.via (fun t k => X212.caload hx (j := (0 : Int32)) (v := (.int (cl.getD 0 0))) (by rw [e212]; exact A223.1) (State.isArrayOf_alike hZ.alike A223.2.1) A223.2.2 hin223 hat223 (g := (mkF m 115 #[.val (.ref ac), .val (.int nn)] [(.int (0 : Int32)), (.ref ac), (.int (0 : Int32)), (.ref b212), (.ref b212), (.ref b204), (.ref b204)])) rfl rfl (hb hby d9_115) t k) ?_
            show Go p.tables e below P T212 (mkF m 116 #[.val (.ref ac), .val (.int nn)] [(.int (cl.getD 0 0)), (.int (0 : Int32)), (.ref b212), (.ref b212), (.ref b204), (.ref b204)])
            have F224 : Exa Z h212 b204 "java/lang/String" := (A204.ext E212)
            have F225 : Fld Z h212 b204 "java/lang/String" "value" "[B" .null := ((D204 (Or.inr (hw _ (List.mem_of_getElem? (i := 4) rfl))) (ty := (.array .byte)) (by decide) : Fld Z h204 b204 "java/lang/String" "value" "[B" .null).ext E212)
            have F226 : Fld Z h212 b204 "java/lang/String" "coder" "B" (.int (0 : Int32)) := ((D204 (Or.inr (hw _ (List.mem_of_getElem? (i := 5) rfl))) (ty := .byte) (by decide) : Fld Z h204 b204 "java/lang/String" "coder" "B" (.int (0 : Int32))).ext E212)
            obtain ⟨c227, A227, q227, S227, N227, H227, G227⟩ := id V212
            have hin227 : ¬ ((0 : Int32) < 0 ∨ c227.slots.size ≤ ((0 : Int32)).toNatClampNeg) := inb_of S227 ⟨by decide, by decide⟩
            obtain ⟨T227, h227, X227, e227, W227, st227⟩ := stC X212 hx hZ e212 A227 (j := (0 : Int32)) hin227 (g := (mkF m 116 #[.val (.ref ac), .val (.int nn)] [(.int (cl.getD 0 0)), (.int (0 : Int32)), (.ref b212), (.ref b212), (.ref b204), (.ref b204)])) rfl rfl (hb hby d9_116)
            refine Go.via st227 ?_
            have Z228 : n0 ≤ h227.size := Nat.le_trans Z218 (Nat.le_of_eq W227.size.symm)
            have K229 : Keep h0 h227 [] := K219.wr W227 (Or.inr sz217)
            obtain ⟨lc227, Xh227, N230⟩ := own_hide X227 (Fr.snoc X227 N0 g216)
            clear X227
            have O231 : Old Z n0 h227 := O220.wr W227 g216
            have Sf227 := Safe.wr W227 (Safe.arv hZ.alike V212 (by decide)) CR221.1 (Safe.arv hZ.alike V212 (by decide))
            have CR232 := CHr.trans CR221 (CHr.wr W227 (Safe.arv hZ.alike V212 (by decide)) CR221.1)
            have V227 : Arv Z h227 b212 k212 .char (4 : Int32) [(.int (nar .char (cl.getD 0 0))), (.int (0 : Int32)), (.int (0 : Int32)), (.int (0 : Int32))] (.int (0 : Int32)) := Arv.set A227 q227 S227 N227 H227 G227 (fits_nar_char _) W227 0 rfl (Nat.le_of_ble_eq_true rfl)
            show Go p.tables e below P T227 (mkF m 117 #[.val (.ref ac), .val (.int nn)] [(.ref b212), (.ref b204), (.ref b204)])
            refine Go.via (fun t k => XS.dup Xh227.here hx rfl (hb hby d9_117) rfl rfl k) ?_
            refine Go.via (fun t k => XS.iconst Xh227.here hx rfl (hb hby d9_118) k) ?_
            refine Go.via (fun t k => XS.aloadN Xh227.here hx rfl (hb hby d9_119) rfl rfl k) ?_
            show Go p.tables e below P T227 (mkF m 120 #[.val (.ref ac), .val (.int nn)] [(.ref ac), (.int (1 : Int32)), (.ref b212), (.ref b212), (.ref b204), (.ref b204)])
            refine Go.via (fun t k => XS.iconst Xh227.here hx rfl (hb hby d9_120) k) ?_
            show Go p.tables e below P T227 (mkF m 121 #[.val (.ref ac), .val (.int nn)] [(.int (1 : Int32)), (.ref ac), (.int (1 : Int32)), (.ref b212), (.ref b212), (.ref b204), (.ref b204)])
            have F233 : Arv Z h227 ac kc .char (8 : Int32) (cl.map Value.int) (.int (0 : Int32)) := (F222.other W227 ne214)
            obtain ⟨c234, A234, q234, S234, N234, H234, G234⟩ := id F233
            have hin234 : ¬ ((1 : Int32) < 0 ∨ c234.slots.size ≤ ((1 : Int32)).toNatClampNeg) := inb_of S234 ⟨by decide, by decide⟩
            have hat234 : c234.slots[((1 : Int32)).toNatClampNeg]? = some (.int (cl.getD 1 0)) := (H234 _ (Nat.lt_of_not_le fun q => hin234 (Or.inr q))).trans (congrArg some (own_gD cl 1))
            refine Go.via (fun t k => Xh227.caload hx (j := (1 : Int32)) (v := (.int (cl.getD 1 0))) (by rw [e227]; exact A234.1) (State.isArrayOf_alike hZ.alike A234.2.1) A234.2.2 hin234 hat234 (g := (mkF m 121 #[.val (.ref ac), .val (.int nn)] [(.int (1 : Int32)), (.ref ac), (.int (1 : Int32)), (.ref b212), (.ref b212), (.ref b204), (.ref b204)])) rfl rfl (hb hby d9_121) t k) ?_
            show Go p.tables e below P T227 (mkF m 122 #[.val (.ref ac), .val (.int nn)] [(.int (cl.getD 1 0)), (.int (1 : Int32)), (.ref b212), (.ref b212), (.ref b204), (.ref b204)])
            have F235 : Exa Z h227 b204 "java/lang/String" := (F224.wr W227)
            have F236 : Fld Z h227 b204 "java/lang/String" "value" "[B" .null := (F225.other W227 (Or.inl ne215))
            have F237 : Fld Z h227 b204 "java/lang/String" "coder" "B" (.int (0 : Int32)) := (F226.other W227 (Or.inl ne215))
            obtain ⟨c238, A238, q238, S238, N238, H238, G238⟩ := id V227
            have hin238 : ¬ ((1 : Int32) < 0 ∨ c238.slots.size ≤ ((1 : Int32)).toNatClampNeg) := inb_of S238 ⟨by decide, by decide⟩
            obtain ⟨T238, h238, X238, e238, W238, st238⟩ := stC Xh227 hx hZ e227 A238 (j := (1 : Int32)) hin238 (g := (mkF m 122 #[.val (.ref ac), .val (.int nn)] [(.int (cl.getD 1 0)), (.int (1 : Int32)), (.ref b212), (.ref b212), (.ref b204), (.ref b204)])) rfl rfl (hb hby d9_122)
            refine Go.via st238 ?_
            have Z239 : n0 ≤ h238.size := Nat.le_trans Z228 (Nat.le_of_eq W238.size.symm)
            have K240 : Keep h0 h238 [] := K229.wr W238 (Or.inr sz217)
            obtain ⟨lc238, Xh238, N241⟩ := own_hide X238 (Fr.snoc X238 N230 g216)
            clear X238
            have O242 : Old Z n0 h238 := O231.wr W238 g216
            have Sf238 := Safe.wr W238 (Safe.arv hZ.alike V227 (by decide)) CR232.1 (Safe.arv hZ.alike V227 (by decide))
            have CR243 := CHr.trans CR232 (CHr.wr W238 (Safe.arv hZ.alike V227 (by decide)) CR232.1)
            have V238 : Arv Z h238 b212 k212 .char (4 : Int32) [(.int (nar .char (cl.getD 0 0))), (.int (nar .char (cl.getD 1 0))), (.int (0 : Int32)), (.int (0 : Int32))] (.int (0 : Int32)) := Arv.set A238 q238 S238 N238 H238 G238 (fits_nar_char _) W238 1 rfl (Nat.le_of_ble_eq_true rfl)
            show Go p.tables e below P T238 (mkF m 123 #[.val (.ref ac), .val (.int nn)] [(.ref b212), (.ref b204), (.ref b204)])
            refine Go.via (fun t k => XS.dup Xh238.here hx rfl (hb hby d9_123) rfl rfl k) ?_
            refine Go.via (fun t k => XS.iconst Xh238.here hx rfl (hb hby d9_124) k) ?_
            refine Go.via (fun t k => XS.aloadN Xh238.here hx rfl (hb hby d9_125) rfl rfl k) ?_
            show Go p.tables e below P T238 (mkF m 126 #[.val (.ref ac), .val (.int nn)] [(.ref ac), (.int (2 : Int32)), (.ref b212), (.ref b212), (.ref b204), (.ref b204)])
            refine Go.via (fun t k => XS.iconst Xh238.here hx rfl (hb hby d9_126) k) ?_
            show Go p.tables e below P T238 (mkF m 127 #[.val (.ref ac), .val (.int nn)] [(.int (2 : Int32)), (.ref ac), (.int (2 : Int32)), (.ref b212), (.ref b212), (.ref b204), (.ref b204)])
            have F244 : Arv Z h238 ac kc .char (8 : Int32) (cl.map Value.int) (.int (0 : Int32)) := (F233.other W238 ne214)
            obtain ⟨c245, A245, q245, S245, N245, H245, G245⟩ := id F244
            have hin245 : ¬ ((2 : Int32) < 0 ∨ c245.slots.size ≤ ((2 : Int32)).toNatClampNeg) := inb_of S245 ⟨by decide, by decide⟩
            have hat245 : c245.slots[((2 : Int32)).toNatClampNeg]? = some (.int (cl.getD 2 0)) := (H245 _ (Nat.lt_of_not_le fun q => hin245 (Or.inr q))).trans (congrArg some (own_gD cl 2))
            refine Go.via (fun t k => Xh238.caload hx (j := (2 : Int32)) (v := (.int (cl.getD 2 0))) (by rw [e238]; exact A245.1) (State.isArrayOf_alike hZ.alike A245.2.1) A245.2.2 hin245 hat245 (g := (mkF m 127 #[.val (.ref ac), .val (.int nn)] [(.int (2 : Int32)), (.ref ac), (.int (2 : Int32)), (.ref b212), (.ref b212), (.ref b204), (.ref b204)])) rfl rfl (hb hby d9_127) t k) ?_
            show Go p.tables e below P T238 (mkF m 128 #[.val (.ref ac), .val (.int nn)] [(.int (cl.getD 2 0)), (.int (2 : Int32)), (.ref b212), (.ref b212), (.ref b204), (.ref b204)])
            have F246 : Exa Z h238 b204 "java/lang/String" := (F235.wr W238)
            have F247 : Fld Z h238 b204 "java/lang/String" "value" "[B" .null := (F236.other W238 (Or.inl ne215))
            have F248 : Fld Z h238 b204 "java/lang/String" "coder" "B" (.int (0 : Int32)) := (F237.other W238 (Or.inl ne215))
            obtain ⟨c249, A249, q249, S249, N249, H249, G249⟩ := id V238
            have hin249 : ¬ ((2 : Int32) < 0 ∨ c249.slots.size ≤ ((2 : Int32)).toNatClampNeg) := inb_of S249 ⟨by decide, by decide⟩
            obtain ⟨T249, h249, X249, e249, W249, st249⟩ := stC Xh238 hx hZ e238 A249 (j := (2 : Int32)) hin249 (g := (mkF m 128 #[.val (.ref ac), .val (.int nn)] [(.int (cl.getD 2 0)), (.int (2 : Int32)), (.ref b212), (.ref b212), (.ref b204), (.ref b204)])) rfl rfl (hb hby d9_128)
            refine Go.via st249 ?_
            have Z250 : n0 ≤ h249.size := Nat.le_trans Z239 (Nat.le_of_eq W249.size.symm)
            have K251 : Keep h0 h249 [] := K240.wr W249 (Or.inr sz217)
            obtain ⟨lc249, Xh249, N252⟩ := own_hide X249 (Fr.snoc X249 N241 g216)
            clear X249
            have O253 : Old Z n0 h249 := O242.wr W249 g216
            have Sf249 := Safe.wr W249 (Safe.arv hZ.alike V238 (by decide)) CR243.1 (Safe.arv hZ.alike V238 (by decide))
            have CR254 := CHr.trans CR243 (CHr.wr W249 (Safe.arv hZ.alike V238 (by decide)) CR243.1)
            have V249 : Arv Z h249 b212 k212 .char (4 : Int32) [(.int (nar .char (cl.getD 0 0))), (.int (nar .char (cl.getD 1 0))), (.int (nar .char (cl.getD 2 0))), (.int (0 : Int32))] (.int (0 : Int32)) := Arv.set A249 q249 S249 N249 H249 G249 (fits_nar_char _) W249 2 rfl (Nat.le_of_ble_eq_true rfl)
            show Go p.tables e below P T249 (mkF m 129 #[.val (.ref ac), .val (.int nn)] [(.ref b212), (.ref b204), (.ref b204)])
            refine Go.via (fun t k => XS.dup Xh249.here hx rfl (hb hby d9_129) rfl rfl k) ?_
            refine Go.via (fun t k => XS.iconst Xh249.here hx rfl (hb hby d9_130) k) ?_
            refine Go.via (fun t k => XS.aloadN Xh249.here hx rfl (hb hby d9_131) rfl rfl k) ?_
            show Go p.tables e below P T249 (mkF m 132 #[.val (.ref ac), .val (.int nn)] [(.ref ac), (.int (3 : Int32)), (.ref b212), (.ref b212), (.ref b204), (.ref b204)])
            refine Go.via (fun t k => XS.iconst Xh249.here hx rfl (hb hby d9_132) k) ?_
            show Go p.tables e below P T249 (mkF m 133 #[.val (.ref ac), .val (.int nn)] [(.int (3 : Int32)), (.ref ac), (.int (3 : Int32)), (.ref b212), (.ref b212), (.ref b204), (.ref b204)])
            have F255 : Arv Z h249 ac kc .char (8 : Int32) (cl.map Value.int) (.int (0 : Int32)) := (F244.other W249 ne214)
            obtain ⟨c256, A256, q256, S256, N256, H256, G256⟩ := id F255
            have hin256 : ¬ ((3 : Int32) < 0 ∨ c256.slots.size ≤ ((3 : Int32)).toNatClampNeg) := inb_of S256 ⟨by decide, by decide⟩
            have hat256 : c256.slots[((3 : Int32)).toNatClampNeg]? = some (.int (cl.getD 3 0)) := (H256 _ (Nat.lt_of_not_le fun q => hin256 (Or.inr q))).trans (congrArg some (own_gD cl 3))
            refine Go.via (fun t k => Xh249.caload hx (j := (3 : Int32)) (v := (.int (cl.getD 3 0))) (by rw [e249]; exact A256.1) (State.isArrayOf_alike hZ.alike A256.2.1) A256.2.2 hin256 hat256 (g := (mkF m 133 #[.val (.ref ac), .val (.int nn)] [(.int (3 : Int32)), (.ref ac), (.int (3 : Int32)), (.ref b212), (.ref b212), (.ref b204), (.ref b204)])) rfl rfl (hb hby d9_133) t k) ?_
            show Go p.tables e below P T249 (mkF m 134 #[.val (.ref ac), .val (.int nn)] [(.int (cl.getD 3 0)), (.int (3 : Int32)), (.ref b212), (.ref b212), (.ref b204), (.ref b204)])
            have F257 : Exa Z h249 b204 "java/lang/String" := (F246.wr W249)
            have F258 : Fld Z h249 b204 "java/lang/String" "value" "[B" .null := (F247.other W249 (Or.inl ne215))
            have F259 : Fld Z h249 b204 "java/lang/String" "coder" "B" (.int (0 : Int32)) := (F248.other W249 (Or.inl ne215))
            obtain ⟨c260, A260, q260, S260, N260, H260, G260⟩ := id V249
            have hin260 : ¬ ((3 : Int32) < 0 ∨ c260.slots.size ≤ ((3 : Int32)).toNatClampNeg) := inb_of S260 ⟨by decide, by decide⟩
            obtain ⟨T260, h260, X260, e260, W260, st260⟩ := stC Xh249 hx hZ e249 A260 (j := (3 : Int32)) hin260 (g := (mkF m 134 #[.val (.ref ac), .val (.int nn)] [(.int (cl.getD 3 0)), (.int (3 : Int32)), (.ref b212), (.ref b212), (.ref b204), (.ref b204)])) rfl rfl (hb hby d9_134)
            refine Go.via st260 ?_
            have Z261 : n0 ≤ h260.size := Nat.le_trans Z250 (Nat.le_of_eq W260.size.symm)
            have K262 : Keep h0 h260 [] := K251.wr W260 (Or.inr sz217)
            obtain ⟨lc260, Xh260, N263⟩ := own_hide X260 (Fr.snoc X260 N252 g216)
            clear X260
            have O264 : Old Z n0 h260 := O253.wr W260 g216
            have Sf260 := Safe.wr W260 (Safe.arv hZ.alike V249 (by decide)) CR254.1 (Safe.arv hZ.alike V249 (by decide))
            have CR265 := CHr.trans CR254 (CHr.wr W260 (Safe.arv hZ.alike V249 (by decide)) CR254.1)
            have V260 : Arv Z h260 b212 k212 .char (4 : Int32) [(.int (nar .char (cl.getD 0 0))), (.int (nar .char (cl.getD 1 0))), (.int (nar .char (cl.getD 2 0))), (.int (nar .char (cl.getD 3 0)))] (.int (0 : Int32)) := Arv.set A260 q260 S260 N260 H260 G260 (fits_nar_char _) W260 3 rfl (Nat.le_of_ble_eq_true rfl)
            show Go p.tables e below P T260 (mkF m 135 #[.val (.ref ac), .val (.int nn)] [(.ref b212), (.ref b204), (.ref b204)])
            have F266 : Exa Z h260 b204 "java/lang/String" := (F257.wr W260)
            have F267 : Fld Z h260 b204 "java/lang/String" "value" "[B" .null := (F258.other W260 (Or.inl ne215))
            have F268 : Fld Z h260 b204 "java/lang/String" "coder" "B" (.int (0 : Int32)) := (F259.other W260 (Or.inl ne215))
            have F269 : Arv Z h260 ac kc .char (8 : Int32) (cl.map Value.int) (.int (0 : Int32)) := (F255.other W260 ne214)
            obtain ⟨_, _, ⟨T270, L270, k270, n270⟩, -, X270, ⟨Lc270, hQ270, l270, y270, z270⟩, st270⟩ := Xh260.specialBack hx (y := (⟨"java/lang/String", "<init>", "([C)V"⟩ : MethodName)) rfl hown (mvT hZ (hw _ (List.mem_of_getElem? (i := 53) rfl))) (mvT hZ (hw _ (List.mem_of_getElem? (i := 54) rfl))) (mvT hZ (hw _ (List.mem_of_getElem? (i := 55) rfl))) (by decide) (StrChars.Road.backV (W := 1) hZ (own_ws hw) (kI := 4) (hw _ (List.mem_of_getElem? (i := 2) rfl)) (cs := ([(nar .char (cl.getD 0 0)), (nar .char (cl.getD 1 0)), (nar .char (cl.getD 2 0)), (nar .char (cl.getD 3 0))] : List Int32)) (bs := ([((nar .char (cl.getD 0 0))).toInt8.toInt32, ((nar .char (cl.getD 1 0))).toInt8.toInt32, ((nar .char (cl.getD 2 0))).toInt8.toInt32, ((nar .char (cl.getD 3 0))).toInt8.toInt32] : List Int32)) (n := 4) g206 Z261 F266 F267 F268 V260 (P1.ext O264.2) hcs rfl rfl (by decide) (by decide) (own_alC (own_hp (hcl 0)) (own_alC (own_hp (hcl 1)) (own_alC (own_hp (hcl 2)) (own_alC (own_hp (hcl 3)) own_al0)))) rfl (by decide) (by decide)) (g := (mkF m 135 #[.val (.ref ac), .val (.int nn)] [(.ref b212), (.ref b204), (.ref b204)])) rfl (by rw [hml]; rfl) (Steps.refl _) (a := b204) (argsL := [(.ref b212)]) (rest := [(.ref b204)]) (lenOf own_pd8 rfl) rfl (by show 2 * 0 + _ ≤ _; exact Nat.le_of_eq rfl) (hb hby d9_135) (fun _ _ => ⟨rfl, e260, (by decide : 2 + 1 ≤ _), (by decide : 8 + 4 ≤ _)⟩)
            dsimp only [Pt.U, Pt.locs, Pt.cells, Pt.slots] at X270 l270 y270 z270 st270 hQ270
            subst l270 y270 z270
            obtain ⟨rfl, Nq270, K270, Ex270, Fc270, t270, kb270, -, lt270, ne270, Fv270, Va270⟩ := hQ270
            obtain ⟨lc270, Xh270, N270⟩ := own_hide X270 (Fr.app N263 Nq270)
            clear X270
            refine Go.hop st270 ?_
            have ne271 : ac ≠ t270 := Nat.ne_of_lt (Nat.lt_of_lt_of_le F269.lt lt270)
            have ne272 : b204 ≠ t270 := Nat.ne_of_lt (Nat.lt_of_lt_of_le F266.lt lt270)
            have ne273 : b212 ≠ t270 := Nat.ne_of_lt (Nat.lt_of_lt_of_le V260.lt lt270)
            have g274 : n0 ≤ t270 := Nat.le_trans Z261 lt270
            have sz275 : h0.size ≤ t270 := Nat.le_trans K262.1 lt270
            have Z276 : n0 ≤ T270.heap.size := Nat.le_trans Z261 K270.1
            have K277 : Keep h0 T270.heap [] := K262.trans K270 (own_allC (Or.inr sz207) own_all0)
            have CR278 := CHr.trans CR265 (CHr.keep K270 (sfS (own_safeS hZ.alike F266 F267) sf0) CR265.1)
            have O279 : Old Z n0 T270.heap := O264.keep K270 (own_allC g206 own_all0)
            have Vt270 : Arv Z T270.heap t270 kb270 .byte (4 : Int32) [(.int ((nar .char (cl.getD 0 0))).toInt8.toInt32), (.int ((nar .char (cl.getD 1 0))).toInt8.toInt32), (.int ((nar .char (cl.getD 2 0))).toInt8.toInt32), (.int ((nar .char (cl.getD 3 0))).toInt8.toInt32)] (.int (0 : Int32)) := Va270
            show Go p.tables e below P T270 (mkF m 138 #[.val (.ref ac), .val (.int nn)] [(.ref b204)])
            have Vr281 : Arv Z T270.heap t270 kb270 .byte (own_lg ([((nar .char (cl.getD 0 0))).toInt8.toInt32, ((nar .char (cl.getD 1 0))).toInt8.toInt32, ((nar .char (cl.getD 2 0))).toInt8.toInt32, ((nar .char (cl.getD 3 0))).toInt8.toInt32] : List Int32)) (([((nar .char (cl.getD 0 0))).toInt8.toInt32, ((nar .char (cl.getD 1 0))).toInt8.toInt32, ((nar .char (cl.getD 2 0))).toInt8.toInt32, ((nar .char (cl.getD 3 0))).toInt8.toInt32] : List Int32).map Value.int) (.int (0 : Int32)) := by
              rw [show own_lg ([((nar .char (cl.getD 0 0))).toInt8.toInt32, ((nar .char (cl.getD 1 0))).toInt8.toInt32, ((nar .char (cl.getD 2 0))).toInt8.toInt32, ((nar .char (cl.getD 3 0))).toInt8.toInt32] : List Int32) = (4 : Int32) from rfl]; exact Vt270
            obtain ⟨fs, hr, hrun, hended, hend⟩ := Xh270.leaveW hS0 (by exact (Nat.zero_le _)) (v := some (.ref b204)) (fun h => by rw [Bd.returns] at h; cases h)
            have hCf : CHr Z consts_1 s.vm s.heap (T270.setFrames fs).vm (T270.setFrames fs).heap := by
              rw [hh]
              show CHr Z consts_1 s.vm h0 T270.vm T270.heap
              exact CHr.trans CR278 (CHv.at Xh270 hZ (own_EW hw) CR278.1)
            refine ⟨_, _, retA Xh270 hx Bd.returns rfl rfl rfl (hb hby d9_138) hr, hrun, hended, hP _ _ ⟨_, _, rfl, ?_, hCf, own_rew hend (by decide) (by decide)⟩⟩
            show Q9 Z ac nn kc cl cs h0 n0 _ T270.heap _
            exact ⟨b204, t270, kb270, ([((nar .char (cl.getD 0 0))).toInt8.toInt32, ((nar .char (cl.getD 1 0))).toInt8.toInt32, ((nar .char (cl.getD 2 0))).toInt8.toInt32, ((nar .char (cl.getD 3 0))).toInt8.toInt32] : List Int32), rfl, N270, K277, sz207, Ex270, Fv270, Fc270, Vr281, (by simp), Vr281.lt, ne272⟩
          · refine Go.via (fun t k => XS.icmpYes X0.here hx rfl (pc0 := 101) (pc' := 139) rfl (hb hby d9_101) rfl (feq hc203).2 (by decide) (by decide) k) ?_
            show Go p.tables e below P s₁ (mkF m 139 #[.val (.ref ac), .val (.int nn)] [])
            refine Go.via (fun t k => XS.iloadN X0.here hx rfl (hb hby d9_139) rfl k) ?_
            refine Go.via (fun t k => XS.iconst X0.here hx rfl (hb hby d9_140) k) ?_
            show Go p.tables e below P s₁ (mkF m 141 #[.val (.ref ac), .val (.int nn)] [(.int (5 : Int32)), (.int nn)])
            by_cases hc282 : nn = (5 : Int32)
            · refine Go.via (fun t k => XS.icmpNo X0.here hx rfl (hb hby d9_141) rfl (teq hc282).2 k) ?_
              show Go p.tables e below P s₁ (mkF m 144 #[.val (.ref ac), .val (.int nn)] [])
              obtain ⟨T283, h283, X283, e283, E283, A283, D283, -, st283⟩ := newO X0 hx hZ hown (hw _ (List.mem_of_getElem? (i := 52) rfl)) (hw _ (List.mem_of_getElem? (i := 2) rfl)) (hw _ (List.mem_of_getElem? (i := 1) rfl)) e0 (g := (mkF m 144 #[.val (.ref ac), .val (.int nn)] [])) rfl (hb hby d9_144) (by decide) (by decide)
              obtain ⟨b283, g283⟩ : ∃ z, z = h0.size := ⟨_, rfl⟩
              rw [← g283] at A283 D283 st283
              refine Go.via st283 ?_
              have ne284 : ac ≠ b283 := Nat.ne_of_lt (Nat.lt_of_lt_of_le P3.lt (Nat.le_of_eq g283.symm))
              have g285 : n0 ≤ b283 := Nat.le_trans Z0 (Nat.le_of_eq g283.symm)
              have sz286 : h0.size ≤ b283 := Nat.le_trans K0.1 (Nat.le_of_eq g283.symm)
              have Z287 : n0 ≤ h283.size := Nat.le_trans Z0 E283.1
              have K288 : Keep h0 h283 [] := K0.ext E283
              have O289 : Old Z n0 h283 := O0.ext E283
              have CR290 := CHr.trans CR0 (CHr.ext E283 CR0.1)
              show Go p.tables e below P T283 (mkF m 147 #[.val (.ref ac), .val (.int nn)] [(.ref b283)])
              refine Go.via (fun t k => XS.dup X283.here hx rfl (hb hby d9_147) rfl rfl k) ?_
              refine Go.via (fun t k => XS.iconst X283.here hx rfl (hb hby d9_148) k) ?_
              show Go p.tables e below P T283 (mkF m 149 #[.val (.ref ac), .val (.int nn)] [(.int (5 : Int32)), (.ref b283), (.ref b283)])
              have F292 : Arv Z h283 ac kc .char (8 : Int32) (cl.map Value.int) (.int (0 : Int32)) := (P3.ext E283)
              obtain ⟨T291, h291, k291, X291, e291, E291, A291, st291⟩ := newP X283 hx hZ (hw _ (List.mem_of_getElem? (i := 8) rfl)) e283 (g := (mkF m 149 #[.val (.ref ac), .val (.int nn)] [(.int (5 : Int32)), (.ref b283), (.ref b283)])) rfl (hb hby d9_149) rfl (by decide) (cap := 5) (by decide) (by decide) (by decide) (by decide)
              obtain ⟨b291, g291⟩ : ∃ z, z = h283.size := ⟨_, rfl⟩
              rw [← g291] at A291 st291
              refine Go.via st291 ?_
              have ne293 : ac ≠ b291 := Nat.ne_of_lt (Nat.lt_of_lt_of_le F292.lt (Nat.le_of_eq g291.symm))
              have ne294 : b283 ≠ b291 := Nat.ne_of_lt (Nat.lt_of_lt_of_le A283.lt (Nat.le_of_eq g291.symm))
              have g295 : n0 ≤ b291 := Nat.le_trans Z287 (Nat.le_of_eq g291.symm)
              have sz296 : h0.size ≤ b291 := Nat.le_trans K288.1 (Nat.le_of_eq g291.symm)
              have Z297 : n0 ≤ h291.size := Nat.le_trans Z287 E291.1
              have K298 : Keep h0 h291 [] := K288.ext E291
              have O299 : Old Z n0 h291 := O289.ext E291
              have CR300 := CHr.trans CR290 (CHr.ext E291 CR290.1)
              have V291 : Arv Z h291 b291 k291 .char (5 : Int32) [(.int (0 : Int32)), (.int (0 : Int32)), (.int (0 : Int32)), (.int (0 : Int32)), (.int (0 : Int32))] (.int (0 : Int32)) := (Arv.new A291 (by decide)).pad (pad_rep [] (.int (0 : Int32)) 5)
              show Go p.tables e below P T291 (mkF m 151 #[.val (.ref ac), .val (.int nn)] [(.ref b291), (.ref b283), (.ref b283)])
              refine Go.via (fun t k => XS.dup X291.here hx rfl (hb hby d9_151) rfl rfl k) ?_
              refine Go.via (fun t k => XS.iconst X291.here hx rfl (hb hby d9_152) k) ?_
              refine Go.via (fun t k => XS.aloadN X291.here hx rfl (hb hby d9_153) rfl rfl k) ?_
              show Go p.tables e below P T291 (mkF m 154 #[.val (.ref ac), .val (.int nn)] [(.ref ac), (.int (0 : Int32)), (.ref b291), (.ref b291), (.ref b283), (.ref b283)])
              refine Go.via (fun t k => XS.iconst X291.here hx rfl (hb hby d9_154) k) ?_
              show Go p.tables e below P T291 (mkF m 155 #[.val (.ref ac), .val (.int nn)] [(.int (0 : Int32)), (.ref ac), (.int (0 : Int32)), (.ref b291), (.ref b291), (.ref b283), (.ref b283)])
              have F301 : Arv Z h291 ac kc .char (8 : Int32) (cl.map Value.int) (.int (0 : Int32)) := (F292.ext E291)
              obtain ⟨c302, A302, q302, S302, N302, H302, G302⟩ := id F301
              have hin302 : ¬ ((0 : Int32) < 0 ∨ c302.slots.size ≤ ((0 : Int32)).toNatClampNeg) := inb_of S302 ⟨by decide, by decide⟩
              have hat302 : c302.slots[((0 : Int32)).toNatClampNeg]? = some (.int (cl.getD 0 0)) := (H302 _ (Nat.lt_of_not_le fun q => hin302 (Or.inr q))).trans (congrArg some (own_gD cl 0))
              refine Go.via (fun t k => X291.caload hx (j := (0 : Int32)) (v := (.int (cl.getD 0 0))) (by rw [e291]; exact A302.1) (State.isArrayOf_alike hZ.alike A302.2.1) A302.2.2 hin302 hat302 (g := (mkF m 155 #[.val (.ref ac), .val (.int nn)] [(.int (0 : Int32)), (.ref ac), (.int (0 : Int32)), (.ref b291), (.ref b291), (.ref b283), (.ref b283)])) rfl rfl (hb hby d9_155) t k) ?_
              show Go p.tables e below P T291 (mkF m 156 #[.val (.ref ac), .val (.int nn)] [(.int (cl.getD 0 0)), (.int (0 : Int32)), (.ref b291), (.ref b291), (.ref b283), (.ref b283)])
              have F303 : Exa Z h291 b283 "java/lang/String" := (A283.ext E291)
              have F304 : Fld Z h291 b283 "java/lang/String" "value" "[B" .null := ((D283 (Or.inr (hw _ (List.mem_of_getElem? (i := 4) rfl))) (ty := (.array .byte)) (by decide) : Fld Z h283 b283 "java/lang/String" "value" "[B" .null).ext E291)
              have F305 : Fld Z h291 b283 "java/lang/String" "coder" "B" (.int (0 : Int32)) := ((D283 (Or.inr (hw _ (List.mem_of_getElem? (i := 5) rfl))) (ty := .byte) (by decide) : Fld Z h283 b283 "java/lang/String" "coder" "B" (.int (0 : Int32))).ext E291)
              obtain ⟨c306, A306, q306, S306, N306, H306, G306⟩ := id V291
              have hin306 : ¬ ((0 : Int32) < 0 ∨ c306.slots.size ≤ ((0 : Int32)).toNatClampNeg) := inb_of S306 ⟨by decide, by decide⟩
              obtain ⟨T306, h306, X306, e306, W306, st306⟩ := stC X291 hx hZ e291 A306 (j := (0 : Int32)) hin306 (g := (mkF m 156 #[.val (.ref ac), .val (.int nn)] [(.int (cl.getD 0 0)), (.int (0 : Int32)), (.ref b291), (.ref b291), (.ref b283), (.ref b283)])) rfl rfl (hb hby d9_156)
              refine Go.via st306 ?_
              have Z307 : n0 ≤ h306.size := Nat.le_trans Z297 (Nat.le_of_eq W306.size.symm)
              have K308 : Keep h0 h306 [] := K298.wr W306 (Or.inr sz296)
              obtain ⟨lc306, Xh306, N309⟩ := own_hide X306 (Fr.snoc X306 N0 g295)
              clear X306
              have O310 : Old Z n0 h306 := O299.wr W306 g295
              have Sf306 := Safe.wr W306 (Safe.arv hZ.alike V291 (by decide)) CR300.1 (Safe.arv hZ.alike V291 (by decide))
              have CR311 := CHr.trans CR300 (CHr.wr W306 (Safe.arv hZ.alike V291 (by decide)) CR300.1)
              have V306 : Arv Z h306 b291 k291 .char (5 : Int32) [(.int (nar .char (cl.getD 0 0))), (.int (0 : Int32)), (.int (0 : Int32)), (.int (0 : Int32)), (.int (0 : Int32))] (.int (0 : Int32)) := Arv.set A306 q306 S306 N306 H306 G306 (fits_nar_char _) W306 0 rfl (Nat.le_of_ble_eq_true rfl)
              show Go p.tables e below P T306 (mkF m 157 #[.val (.ref ac), .val (.int nn)] [(.ref b291), (.ref b283), (.ref b283)])
              refine Go.via (fun t k => XS.dup Xh306.here hx rfl (hb hby d9_157) rfl rfl k) ?_
              refine Go.via (fun t k => XS.iconst Xh306.here hx rfl (hb hby d9_158) k) ?_
              refine Go.via (fun t k => XS.aloadN Xh306.here hx rfl (hb hby d9_159) rfl rfl k) ?_
              show Go p.tables e below P T306 (mkF m 160 #[.val (.ref ac), .val (.int nn)] [(.ref ac), (.int (1 : Int32)), (.ref b291), (.ref b291), (.ref b283), (.ref b283)])
              refine Go.via (fun t k => XS.iconst Xh306.here hx rfl (hb hby d9_160) k) ?_
              show Go p.tables e below P T306 (mkF m 161 #[.val (.ref ac), .val (.int nn)] [(.int (1 : Int32)), (.ref ac), (.int (1 : Int32)), (.ref b291), (.ref b291), (.ref b283), (.ref b283)])
              have F312 : Arv Z h306 ac kc .char (8 : Int32) (cl.map Value.int) (.int (0 : Int32)) := (F301.other W306 ne293)
              obtain ⟨c313, A313, q313, S313, N313, H313, G313⟩ := id F312
              have hin313 : ¬ ((1 : Int32) < 0 ∨ c313.slots.size ≤ ((1 : Int32)).toNatClampNeg) := inb_of S313 ⟨by decide, by decide⟩
              have hat313 : c313.slots[((1 : Int32)).toNatClampNeg]? = some (.int (cl.getD 1 0)) := (H313 _ (Nat.lt_of_not_le fun q => hin313 (Or.inr q))).trans (congrArg some (own_gD cl 1))
              refine Go.via (fun t k => Xh306.caload hx (j := (1 : Int32)) (v := (.int (cl.getD 1 0))) (by rw [e306]; exact A313.1) (State.isArrayOf_alike hZ.alike A313.2.1) A313.2.2 hin313 hat313 (g := (mkF m 161 #[.val (.ref ac), .val (.int nn)] [(.int (1 : Int32)), (.ref ac), (.int (1 : Int32)), (.ref b291), (.ref b291), (.ref b283), (.ref b283)])) rfl rfl (hb hby d9_161) t k) ?_
              show Go p.tables e below P T306 (mkF m 162 #[.val (.ref ac), .val (.int nn)] [(.int (cl.getD 1 0)), (.int (1 : Int32)), (.ref b291), (.ref b291), (.ref b283), (.ref b283)])
              have F314 : Exa Z h306 b283 "java/lang/String" := (F303.wr W306)
              have F315 : Fld Z h306 b283 "java/lang/String" "value" "[B" .null := (F304.other W306 (Or.inl ne294))
              have F316 : Fld Z h306 b283 "java/lang/String" "coder" "B" (.int (0 : Int32)) := (F305.other W306 (Or.inl ne294))
              obtain ⟨c317, A317, q317, S317, N317, H317, G317⟩ := id V306
              have hin317 : ¬ ((1 : Int32) < 0 ∨ c317.slots.size ≤ ((1 : Int32)).toNatClampNeg) := inb_of S317 ⟨by decide, by decide⟩
              obtain ⟨T317, h317, X317, e317, W317, st317⟩ := stC Xh306 hx hZ e306 A317 (j := (1 : Int32)) hin317 (g := (mkF m 162 #[.val (.ref ac), .val (.int nn)] [(.int (cl.getD 1 0)), (.int (1 : Int32)), (.ref b291), (.ref b291), (.ref b283), (.ref b283)])) rfl rfl (hb hby d9_162)
              refine Go.via st317 ?_
              have Z318 : n0 ≤ h317.size := Nat.le_trans Z307 (Nat.le_of_eq W317.size.symm)
              have K319 : Keep h0 h317 [] := K308.wr W317 (Or.inr sz296)
              obtain ⟨lc317, Xh317, N320⟩ := own_hide X317 (Fr.snoc X317 N309 g295)
              clear X317
              have O321 : Old Z n0 h317 := O310.wr W317 g295
              have Sf317 := Safe.wr W317 (Safe.arv hZ.alike V306 (by decide)) CR311.1 (Safe.arv hZ.alike V306 (by decide))
              have CR322 := CHr.trans CR311 (CHr.wr W317 (Safe.arv hZ.alike V306 (by decide)) CR311.1)
              have V317 : Arv Z h317 b291 k291 .char (5 : Int32) [(.int (nar .char (cl.getD 0 0))), (.int (nar .char (cl.getD 1 0))), (.int (0 : Int32)), (.int (0 : Int32)), (.int (0 : Int32))] (.int (0 : Int32)) := Arv.set A317 q317 S317 N317 H317 G317 (fits_nar_char _) W317 1 rfl (Nat.le_of_ble_eq_true rfl)
              show Go p.tables e below P T317 (mkF m 163 #[.val (.ref ac), .val (.int nn)] [(.ref b291), (.ref b283), (.ref b283)])
              refine Go.via (fun t k => XS.dup Xh317.here hx rfl (hb hby d9_163) rfl rfl k) ?_
              refine Go.via (fun t k => XS.iconst Xh317.here hx rfl (hb hby d9_164) k) ?_
              refine Go.via (fun t k => XS.aloadN Xh317.here hx rfl (hb hby d9_165) rfl rfl k) ?_
              show Go p.tables e below P T317 (mkF m 166 #[.val (.ref ac), .val (.int nn)] [(.ref ac), (.int (2 : Int32)), (.ref b291), (.ref b291), (.ref b283), (.ref b283)])
              refine Go.via (fun t k => XS.iconst Xh317.here hx rfl (hb hby d9_166) k) ?_
              show Go p.tables e below P T317 (mkF m 167 #[.val (.ref ac), .val (.int nn)] [(.int (2 : Int32)), (.ref ac), (.int (2 : Int32)), (.ref b291), (.ref b291), (.ref b283), (.ref b283)])
              have F323 : Arv Z h317 ac kc .char (8 : Int32) (cl.map Value.int) (.int (0 : Int32)) := (F312.other W317 ne293)
              obtain ⟨c324, A324, q324, S324, N324, H324, G324⟩ := id F323
              have hin324 : ¬ ((2 : Int32) < 0 ∨ c324.slots.size ≤ ((2 : Int32)).toNatClampNeg) := inb_of S324 ⟨by decide, by decide⟩
              have hat324 : c324.slots[((2 : Int32)).toNatClampNeg]? = some (.int (cl.getD 2 0)) := (H324 _ (Nat.lt_of_not_le fun q => hin324 (Or.inr q))).trans (congrArg some (own_gD cl 2))
              refine Go.via (fun t k => Xh317.caload hx (j := (2 : Int32)) (v := (.int (cl.getD 2 0))) (by rw [e317]; exact A324.1) (State.isArrayOf_alike hZ.alike A324.2.1) A324.2.2 hin324 hat324 (g := (mkF m 167 #[.val (.ref ac), .val (.int nn)] [(.int (2 : Int32)), (.ref ac), (.int (2 : Int32)), (.ref b291), (.ref b291), (.ref b283), (.ref b283)])) rfl rfl (hb hby d9_167) t k) ?_
              show Go p.tables e below P T317 (mkF m 168 #[.val (.ref ac), .val (.int nn)] [(.int (cl.getD 2 0)), (.int (2 : Int32)), (.ref b291), (.ref b291), (.ref b283), (.ref b283)])
              have F325 : Exa Z h317 b283 "java/lang/String" := (F314.wr W317)
              have F326 : Fld Z h317 b283 "java/lang/String" "value" "[B" .null := (F315.other W317 (Or.inl ne294))
              have F327 : Fld Z h317 b283 "java/lang/String" "coder" "B" (.int (0 : Int32)) := (F316.other W317 (Or.inl ne294))
              obtain ⟨c328, A328, q328, S328, N328, H328, G328⟩ := id V317
              have hin328 : ¬ ((2 : Int32) < 0 ∨ c328.slots.size ≤ ((2 : Int32)).toNatClampNeg) := inb_of S328 ⟨by decide, by decide⟩
              obtain ⟨T328, h328, X328, e328, W328, st328⟩ := stC Xh317 hx hZ e317 A328 (j := (2 : Int32)) hin328 (g := (mkF m 168 #[.val (.ref ac), .val (.int nn)] [(.int (cl.getD 2 0)), (.int (2 : Int32)), (.ref b291), (.ref b291), (.ref b283), (.ref b283)])) rfl rfl (hb hby d9_168)
              refine Go.via st328 ?_
              have Z329 : n0 ≤ h328.size := Nat.le_trans Z318 (Nat.le_of_eq W328.size.symm)
              have K330 : Keep h0 h328 [] := K319.wr W328 (Or.inr sz296)
              obtain ⟨lc328, Xh328, N331⟩ := own_hide X328 (Fr.snoc X328 N320 g295)
              clear X328
              have O332 : Old Z n0 h328 := O321.wr W328 g295
              have Sf328 := Safe.wr W328 (Safe.arv hZ.alike V317 (by decide)) CR322.1 (Safe.arv hZ.alike V317 (by decide))
              have CR333 := CHr.trans CR322 (CHr.wr W328 (Safe.arv hZ.alike V317 (by decide)) CR322.1)
              have V328 : Arv Z h328 b291 k291 .char (5 : Int32) [(.int (nar .char (cl.getD 0 0))), (.int (nar .char (cl.getD 1 0))), (.int (nar .char (cl.getD 2 0))), (.int (0 : Int32)), (.int (0 : Int32))] (.int (0 : Int32)) := Arv.set A328 q328 S328 N328 H328 G328 (fits_nar_char _) W328 2 rfl (Nat.le_of_ble_eq_true rfl)
              show Go p.tables e below P T328 (mkF m 169 #[.val (.ref ac), .val (.int nn)] [(.ref b291), (.ref b283), (.ref b283)])
              refine Go.via (fun t k => XS.dup Xh328.here hx rfl (hb hby d9_169) rfl rfl k) ?_
              refine Go.via (fun t k => XS.iconst Xh328.here hx rfl (hb hby d9_170) k) ?_
              refine Go.via (fun t k => XS.aloadN Xh328.here hx rfl (hb hby d9_171) rfl rfl k) ?_
              show Go p.tables e below P T328 (mkF m 172 #[.val (.ref ac), .val (.int nn)] [(.ref ac), (.int (3 : Int32)), (.ref b291), (.ref b291), (.ref b283), (.ref b283)])
              refine Go.via (fun t k => XS.iconst Xh328.here hx rfl (hb hby d9_172) k) ?_
              show Go p.tables e below P T328 (mkF m 173 #[.val (.ref ac), .val (.int nn)] [(.int (3 : Int32)), (.ref ac), (.int (3 : Int32)), (.ref b291), (.ref b291), (.ref b283), (.ref b283)])
              have F334 : Arv Z h328 ac kc .char (8 : Int32) (cl.map Value.int) (.int (0 : Int32)) := (F323.other W328 ne293)
              obtain ⟨c335, A335, q335, S335, N335, H335, G335⟩ := id F334
              have hin335 : ¬ ((3 : Int32) < 0 ∨ c335.slots.size ≤ ((3 : Int32)).toNatClampNeg) := inb_of S335 ⟨by decide, by decide⟩
              have hat335 : c335.slots[((3 : Int32)).toNatClampNeg]? = some (.int (cl.getD 3 0)) := (H335 _ (Nat.lt_of_not_le fun q => hin335 (Or.inr q))).trans (congrArg some (own_gD cl 3))
              refine Go.via (fun t k => Xh328.caload hx (j := (3 : Int32)) (v := (.int (cl.getD 3 0))) (by rw [e328]; exact A335.1) (State.isArrayOf_alike hZ.alike A335.2.1) A335.2.2 hin335 hat335 (g := (mkF m 173 #[.val (.ref ac), .val (.int nn)] [(.int (3 : Int32)), (.ref ac), (.int (3 : Int32)), (.ref b291), (.ref b291), (.ref b283), (.ref b283)])) rfl rfl (hb hby d9_173) t k) ?_
              show Go p.tables e below P T328 (mkF m 174 #[.val (.ref ac), .val (.int nn)] [(.int (cl.getD 3 0)), (.int (3 : Int32)), (.ref b291), (.ref b291), (.ref b283), (.ref b283)])
              have F336 : Exa Z h328 b283 "java/lang/String" := (F325.wr W328)
              have F337 : Fld Z h328 b283 "java/lang/String" "value" "[B" .null := (F326.other W328 (Or.inl ne294))
              have F338 : Fld Z h328 b283 "java/lang/String" "coder" "B" (.int (0 : Int32)) := (F327.other W328 (Or.inl ne294))
              obtain ⟨c339, A339, q339, S339, N339, H339, G339⟩ := id V328
              have hin339 : ¬ ((3 : Int32) < 0 ∨ c339.slots.size ≤ ((3 : Int32)).toNatClampNeg) := inb_of S339 ⟨by decide, by decide⟩
              obtain ⟨T339, h339, X339, e339, W339, st339⟩ := stC Xh328 hx hZ e328 A339 (j := (3 : Int32)) hin339 (g := (mkF m 174 #[.val (.ref ac), .val (.int nn)] [(.int (cl.getD 3 0)), (.int (3 : Int32)), (.ref b291), (.ref b291), (.ref b283), (.ref b283)])) rfl rfl (hb hby d9_174)
              refine Go.via st339 ?_
              have Z340 : n0 ≤ h339.size := Nat.le_trans Z329 (Nat.le_of_eq W339.size.symm)
              have K341 : Keep h0 h339 [] := K330.wr W339 (Or.inr sz296)
              obtain ⟨lc339, Xh339, N342⟩ := own_hide X339 (Fr.snoc X339 N331 g295)
              clear X339
              have O343 : Old Z n0 h339 := O332.wr W339 g295
              have Sf339 := Safe.wr W339 (Safe.arv hZ.alike V328 (by decide)) CR333.1 (Safe.arv hZ.alike V328 (by decide))
              have CR344 := CHr.trans CR333 (CHr.wr W339 (Safe.arv hZ.alike V328 (by decide)) CR333.1)
              have V339 : Arv Z h339 b291 k291 .char (5 : Int32) [(.int (nar .char (cl.getD 0 0))), (.int (nar .char (cl.getD 1 0))), (.int (nar .char (cl.getD 2 0))), (.int (nar .char (cl.getD 3 0))), (.int (0 : Int32))] (.int (0 : Int32)) := Arv.set A339 q339 S339 N339 H339 G339 (fits_nar_char _) W339 3 rfl (Nat.le_of_ble_eq_true rfl)
              show Go p.tables e below P T339 (mkF m 175 #[.val (.ref ac), .val (.int nn)] [(.ref b291), (.ref b283), (.ref b283)])
              refine Go.via (fun t k => XS.dup Xh339.here hx rfl (hb hby d9_175) rfl rfl k) ?_
              refine Go.via (fun t k => XS.iconst Xh339.here hx rfl (hb hby d9_176) k) ?_
              refine Go.via (fun t k => XS.aloadN Xh339.here hx rfl (hb hby d9_177) rfl rfl k) ?_
              show Go p.tables e below P T339 (mkF m 178 #[.val (.ref ac), .val (.int nn)] [(.ref ac), (.int (4 : Int32)), (.ref b291), (.ref b291), (.ref b283), (.ref b283)])
              refine Go.via (fun t k => XS.iconst Xh339.here hx rfl (hb hby d9_178) k) ?_
              show Go p.tables e below P T339 (mkF m 179 #[.val (.ref ac), .val (.int nn)] [(.int (4 : Int32)), (.ref ac), (.int (4 : Int32)), (.ref b291), (.ref b291), (.ref b283), (.ref b283)])
              have F345 : Arv Z h339 ac kc .char (8 : Int32) (cl.map Value.int) (.int (0 : Int32)) := (F334.other W339 ne293)
              obtain ⟨c346, A346, q346, S346, N346, H346, G346⟩ := id F345
              have hin346 : ¬ ((4 : Int32) < 0 ∨ c346.slots.size ≤ ((4 : Int32)).toNatClampNeg) := inb_of S346 ⟨by decide, by decide⟩
              have hat346 : c346.slots[((4 : Int32)).toNatClampNeg]? = some (.int (cl.getD 4 0)) := (H346 _ (Nat.lt_of_not_le fun q => hin346 (Or.inr q))).trans (congrArg some (own_gD cl 4))
              refine Go.via (fun t k => Xh339.caload hx (j := (4 : Int32)) (v := (.int (cl.getD 4 0))) (by rw [e339]; exact A346.1) (State.isArrayOf_alike hZ.alike A346.2.1) A346.2.2 hin346 hat346 (g := (mkF m 179 #[.val (.ref ac), .val (.int nn)] [(.int (4 : Int32)), (.ref ac), (.int (4 : Int32)), (.ref b291), (.ref b291), (.ref b283), (.ref b283)])) rfl rfl (hb hby d9_179) t k) ?_
              show Go p.tables e below P T339 (mkF m 180 #[.val (.ref ac), .val (.int nn)] [(.int (cl.getD 4 0)), (.int (4 : Int32)), (.ref b291), (.ref b291), (.ref b283), (.ref b283)])
              have F347 : Exa Z h339 b283 "java/lang/String" := (F336.wr W339)
              have F348 : Fld Z h339 b283 "java/lang/String" "value" "[B" .null := (F337.other W339 (Or.inl ne294))
              have F349 : Fld Z h339 b283 "java/lang/String" "coder" "B" (.int (0 : Int32)) := (F338.other W339 (Or.inl ne294))
              obtain ⟨c350, A350, q350, S350, N350, H350, G350⟩ := id V339
              have hin350 : ¬ ((4 : Int32) < 0 ∨ c350.slots.size ≤ ((4 : Int32)).toNatClampNeg) := inb_of S350 ⟨by decide, by decide⟩
              obtain ⟨T350, h350, X350, e350, W350, st350⟩ := stC Xh339 hx hZ e339 A350 (j := (4 : Int32)) hin350 (g := (mkF m 180 #[.val (.ref ac), .val (.int nn)] [(.int (cl.getD 4 0)), (.int (4 : Int32)), (.ref b291), (.ref b291), (.ref b283), (.ref b283)])) rfl rfl (hb hby d9_180)
              refine Go.via st350 ?_
              have Z351 : n0 ≤ h350.size := Nat.le_trans Z340 (Nat.le_of_eq W350.size.symm)
              have K352 : Keep h0 h350 [] := K341.wr W350 (Or.inr sz296)
              obtain ⟨lc350, Xh350, N353⟩ := own_hide X350 (Fr.snoc X350 N342 g295)
              clear X350
              have O354 : Old Z n0 h350 := O343.wr W350 g295
              have Sf350 := Safe.wr W350 (Safe.arv hZ.alike V339 (by decide)) CR344.1 (Safe.arv hZ.alike V339 (by decide))
              have CR355 := CHr.trans CR344 (CHr.wr W350 (Safe.arv hZ.alike V339 (by decide)) CR344.1)
              have V350 : Arv Z h350 b291 k291 .char (5 : Int32) [(.int (nar .char (cl.getD 0 0))), (.int (nar .char (cl.getD 1 0))), (.int (nar .char (cl.getD 2 0))), (.int (nar .char (cl.getD 3 0))), (.int (nar .char (cl.getD 4 0)))] (.int (0 : Int32)) := Arv.set A350 q350 S350 N350 H350 G350 (fits_nar_char _) W350 4 rfl (Nat.le_of_ble_eq_true rfl)
              show Go p.tables e below P T350 (mkF m 181 #[.val (.ref ac), .val (.int nn)] [(.ref b291), (.ref b283), (.ref b283)])
              have F356 : Exa Z h350 b283 "java/lang/String" := (F347.wr W350)
              have F357 : Fld Z h350 b283 "java/lang/String" "value" "[B" .null := (F348.other W350 (Or.inl ne294))
              have F358 : Fld Z h350 b283 "java/lang/String" "coder" "B" (.int (0 : Int32)) := (F349.other W350 (Or.inl ne294))
              have F359 : Arv Z h350 ac kc .char (8 : Int32) (cl.map Value.int) (.int (0 : Int32)) := (F345.other W350 ne293)
              obtain ⟨_, _, ⟨T360, L360, k360, n360⟩, -, X360, ⟨Lc360, hQ360, l360, y360, z360⟩, st360⟩ := Xh350.specialBack hx (y := (⟨"java/lang/String", "<init>", "([C)V"⟩ : MethodName)) rfl hown (mvT hZ (hw _ (List.mem_of_getElem? (i := 53) rfl))) (mvT hZ (hw _ (List.mem_of_getElem? (i := 54) rfl))) (mvT hZ (hw _ (List.mem_of_getElem? (i := 55) rfl))) (by decide) (StrChars.Road.backV (W := 1) hZ (own_ws hw) (kI := 4) (hw _ (List.mem_of_getElem? (i := 2) rfl)) (cs := ([(nar .char (cl.getD 0 0)), (nar .char (cl.getD 1 0)), (nar .char (cl.getD 2 0)), (nar .char (cl.getD 3 0)), (nar .char (cl.getD 4 0))] : List Int32)) (bs := ([((nar .char (cl.getD 0 0))).toInt8.toInt32, ((nar .char (cl.getD 1 0))).toInt8.toInt32, ((nar .char (cl.getD 2 0))).toInt8.toInt32, ((nar .char (cl.getD 3 0))).toInt8.toInt32, ((nar .char (cl.getD 4 0))).toInt8.toInt32] : List Int32)) (n := 5) g285 Z351 F356 F357 F358 V350 (P1.ext O354.2) hcs rfl rfl (by decide) (by decide) (own_alC (own_hp (hcl 0)) (own_alC (own_hp (hcl 1)) (own_alC (own_hp (hcl 2)) (own_alC (own_hp (hcl 3)) (own_alC (own_hp (hcl 4)) own_al0))))) rfl (by decide) (by decide)) (g := (mkF m 181 #[.val (.ref ac), .val (.int nn)] [(.ref b291), (.ref b283), (.ref b283)])) rfl (by rw [hml]; rfl) (Steps.refl _) (a := b283) (argsL := [(.ref b291)]) (rest := [(.ref b283)]) (lenOf own_pd8 rfl) rfl (by show 2 * 0 + _ ≤ _; exact Nat.le_of_eq rfl) (hb hby d9_181) (fun _ _ => ⟨rfl, e350, (by decide : 2 + 1 ≤ _), (by decide : 9 + 5 ≤ _)⟩)
              dsimp only [Pt.U, Pt.locs, Pt.cells, Pt.slots] at X360 l360 y360 z360 st360 hQ360
              subst l360 y360 z360
              obtain ⟨rfl, Nq360, K360, Ex360, Fc360, t360, kb360, -, lt360, ne360, Fv360, Va360⟩ := hQ360
              obtain ⟨lc360, Xh360, N360⟩ := own_hide X360 (Fr.app N353 Nq360)
              clear X360
              refine Go.hop st360 ?_
              have ne361 : ac ≠ t360 := Nat.ne_of_lt (Nat.lt_of_lt_of_le F359.lt lt360)
              have ne362 : b283 ≠ t360 := Nat.ne_of_lt (Nat.lt_of_lt_of_le F356.lt lt360)
              have ne363 : b291 ≠ t360 := Nat.ne_of_lt (Nat.lt_of_lt_of_le V350.lt lt360)
              have g364 : n0 ≤ t360 := Nat.le_trans Z351 lt360
              have sz365 : h0.size ≤ t360 := Nat.le_trans K352.1 lt360
              have Z366 : n0 ≤ T360.heap.size := Nat.le_trans Z351 K360.1
              have K367 : Keep h0 T360.heap [] := K352.trans K360 (own_allC (Or.inr sz286) own_all0)
              have CR368 := CHr.trans CR355 (CHr.keep K360 (sfS (own_safeS hZ.alike F356 F357) sf0) CR355.1)
              have O369 : Old Z n0 T360.heap := O354.keep K360 (own_allC g285 own_all0)
              have Vt360 : Arv Z T360.heap t360 kb360 .byte (5 : Int32) [(.int ((nar .char (cl.getD 0 0))).toInt8.toInt32), (.int ((nar .char (cl.getD 1 0))).toInt8.toInt32), (.int ((nar .char (cl.getD 2 0))).toInt8.toInt32), (.int ((nar .char (cl.getD 3 0))).toInt8.toInt32), (.int ((nar .char (cl.getD 4 0))).toInt8.toInt32)] (.int (0 : Int32)) := Va360
              show Go p.tables e below P T360 (mkF m 184 #[.val (.ref ac), .val (.int nn)] [(.ref b283)])
              have Vr371 : Arv Z T360.heap t360 kb360 .byte (own_lg ([((nar .char (cl.getD 0 0))).toInt8.toInt32, ((nar .char (cl.getD 1 0))).toInt8.toInt32, ((nar .char (cl.getD 2 0))).toInt8.toInt32, ((nar .char (cl.getD 3 0))).toInt8.toInt32, ((nar .char (cl.getD 4 0))).toInt8.toInt32] : List Int32)) (([((nar .char (cl.getD 0 0))).toInt8.toInt32, ((nar .char (cl.getD 1 0))).toInt8.toInt32, ((nar .char (cl.getD 2 0))).toInt8.toInt32, ((nar .char (cl.getD 3 0))).toInt8.toInt32, ((nar .char (cl.getD 4 0))).toInt8.toInt32] : List Int32).map Value.int) (.int (0 : Int32)) := by
                rw [show own_lg ([((nar .char (cl.getD 0 0))).toInt8.toInt32, ((nar .char (cl.getD 1 0))).toInt8.toInt32, ((nar .char (cl.getD 2 0))).toInt8.toInt32, ((nar .char (cl.getD 3 0))).toInt8.toInt32, ((nar .char (cl.getD 4 0))).toInt8.toInt32] : List Int32) = (5 : Int32) from rfl]; exact Vt360
              obtain ⟨fs, hr, hrun, hended, hend⟩ := Xh360.leaveW hS0 (by exact (Nat.zero_le _)) (v := some (.ref b283)) (fun h => by rw [Bd.returns] at h; cases h)
              have hCf : CHr Z consts_1 s.vm s.heap (T360.setFrames fs).vm (T360.setFrames fs).heap := by
                rw [hh]
                show CHr Z consts_1 s.vm h0 T360.vm T360.heap
                exact CHr.trans CR368 (CHv.at Xh360 hZ (own_EW hw) CR368.1)
              refine ⟨_, _, retA Xh360 hx Bd.returns rfl rfl rfl (hb hby d9_184) hr, hrun, hended, hP _ _ ⟨_, _, rfl, ?_, hCf, own_rew hend (by decide) (by decide)⟩⟩
              show Q9 Z ac nn kc cl cs h0 n0 _ T360.heap _
              exact ⟨b283, t360, kb360, ([((nar .char (cl.getD 0 0))).toInt8.toInt32, ((nar .char (cl.getD 1 0))).toInt8.toInt32, ((nar .char (cl.getD 2 0))).toInt8.toInt32, ((nar .char (cl.getD 3 0))).toInt8.toInt32, ((nar .char (cl.getD 4 0))).toInt8.toInt32] : List Int32), rfl, N360, K367, sz286, Ex360, Fv360, Fc360, Vr371, (by simp), Vr371.lt, ne362⟩
            · refine Go.via (fun t k => XS.icmpYes X0.here hx rfl (pc0 := 141) (pc' := 185) rfl (hb hby d9_141) rfl (feq hc282).2 (by decide) (by decide) k) ?_
              show Go p.tables e below P s₁ (mkF m 185 #[.val (.ref ac), .val (.int nn)] [])
              refine Go.via (fun t k => XS.iloadN X0.here hx rfl (hb hby d9_185) rfl k) ?_
              refine Go.via (fun t k => XS.bipush X0.here hx rfl (hb hby d9_186) k) ?_
              show Go p.tables e below P s₁ (mkF m 188 #[.val (.ref ac), .val (.int nn)] [(.int (6 : Int32)), (.int nn)])
              by_cases hc372 : nn = (6 : Int32)
              · refine Go.via (fun t k => XS.icmpNo X0.here hx rfl (hb hby d9_188) rfl (teq hc372).2 k) ?_
                show Go p.tables e below P s₁ (mkF m 191 #[.val (.ref ac), .val (.int nn)] [])
                obtain ⟨T373, h373, X373, e373, E373, A373, D373, -, st373⟩ := newO X0 hx hZ hown (hw _ (List.mem_of_getElem? (i := 52) rfl)) (hw _ (List.mem_of_getElem? (i := 2) rfl)) (hw _ (List.mem_of_getElem? (i := 1) rfl)) e0 (g := (mkF m 191 #[.val (.ref ac), .val (.int nn)] [])) rfl (hb hby d9_191) (by decide) (by decide)
                obtain ⟨b373, g373⟩ : ∃ z, z = h0.size := ⟨_, rfl⟩
                rw [← g373] at A373 D373 st373
                refine Go.via st373 ?_
                have ne374 : ac ≠ b373 := Nat.ne_of_lt (Nat.lt_of_lt_of_le P3.lt (Nat.le_of_eq g373.symm))
                have g375 : n0 ≤ b373 := Nat.le_trans Z0 (Nat.le_of_eq g373.symm)
                have sz376 : h0.size ≤ b373 := Nat.le_trans K0.1 (Nat.le_of_eq g373.symm)
                have Z377 : n0 ≤ h373.size := Nat.le_trans Z0 E373.1
                have K378 : Keep h0 h373 [] := K0.ext E373
                have O379 : Old Z n0 h373 := O0.ext E373
                have CR380 := CHr.trans CR0 (CHr.ext E373 CR0.1)
                show Go p.tables e below P T373 (mkF m 194 #[.val (.ref ac), .val (.int nn)] [(.ref b373)])
                refine Go.via (fun t k => XS.dup X373.here hx rfl (hb hby d9_194) rfl rfl k) ?_
                refine Go.via (fun t k => XS.bipush X373.here hx rfl (hb hby d9_195) k) ?_
                show Go p.tables e below P T373 (mkF m 197 #[.val (.ref ac), .val (.int nn)] [(.int (6 : Int32)), (.ref b373), (.ref b373)])
                have F382 : Arv Z h373 ac kc .char (8 : Int32) (cl.map Value.int) (.int (0 : Int32)) := (P3.ext E373)
                obtain ⟨T381, h381, k381, X381, e381, E381, A381, st381⟩ := newP X373 hx hZ (hw _ (List.mem_of_getElem? (i := 8) rfl)) e373 (g := (mkF m 197 #[.val (.ref ac), .val (.int nn)] [(.int (6 : Int32)), (.ref b373), (.ref b373)])) rfl (hb hby d9_197) rfl (by decide) (cap := 6) (by decide) (by decide) (by decide) (by decide)
                obtain ⟨b381, g381⟩ : ∃ z, z = h373.size := ⟨_, rfl⟩
                rw [← g381] at A381 st381
                refine Go.via st381 ?_
                have ne383 : ac ≠ b381 := Nat.ne_of_lt (Nat.lt_of_lt_of_le F382.lt (Nat.le_of_eq g381.symm))
                have ne384 : b373 ≠ b381 := Nat.ne_of_lt (Nat.lt_of_lt_of_le A373.lt (Nat.le_of_eq g381.symm))
                have g385 : n0 ≤ b381 := Nat.le_trans Z377 (Nat.le_of_eq g381.symm)
                have sz386 : h0.size ≤ b381 := Nat.le_trans K378.1 (Nat.le_of_eq g381.symm)
                have Z387 : n0 ≤ h381.size := Nat.le_trans Z377 E381.1
                have K388 : Keep h0 h381 [] := K378.ext E381
                have O389 : Old Z n0 h381 := O379.ext E381
                have CR390 := CHr.trans CR380 (CHr.ext E381 CR380.1)
                have V381 : Arv Z h381 b381 k381 .char (6 : Int32) [(.int (0 : Int32)), (.int (0 : Int32)), (.int (0 : Int32)), (.int (0 : Int32)), (.int (0 : Int32)), (.int (0 : Int32))] (.int (0 : Int32)) := (Arv.new A381 (by decide)).pad (pad_rep [] (.int (0 : Int32)) 6)
                show Go p.tables e below P T381 (mkF m 199 #[.val (.ref ac), .val (.int nn)] [(.ref b381), (.ref b373), (.ref b373)])
                refine Go.via (fun t k => XS.dup X381.here hx rfl (hb hby d9_199) rfl rfl k) ?_
                refine Go.via (fun t k => XS.iconst X381.here hx rfl (hb hby d9_200) k) ?_
                refine Go.via (fun t k => XS.aloadN X381.here hx rfl (hb hby d9_201) rfl rfl k) ?_
                show Go p.tables e below P T381 (mkF m 202 #[.val (.ref ac), .val (.int nn)] [(.ref ac), (.int (0 : Int32)), (.ref b381), (.ref b381), (.ref b373), (.ref b373)])
                refine Go.via (fun t k => XS.iconst X381.here hx rfl (hb hby d9_202) k) ?_
                show Go p.tables e below P T381 (mkF m 203 #[.val (.ref ac), .val (.int nn)] [(.int (0 : Int32)), (.ref ac), (.int (0 : Int32)), (.ref b381), (.ref b381), (.ref b373), (.ref b373)])
                have F391 : Arv Z h381 ac kc .char (8 : Int32) (cl.map Value.int) (.int (0 : Int32)) := (F382.ext E381)
                obtain ⟨c392, A392, q392, S392, N392, H392, G392⟩ := id F391
                have hin392 : ¬ ((0 : Int32) < 0 ∨ c392.slots.size ≤ ((0 : Int32)).toNatClampNeg) := inb_of S392 ⟨by decide, by decide⟩
                have hat392 : c392.slots[((0 : Int32)).toNatClampNeg]? = some (.int (cl.getD 0 0)) := (H392 _ (Nat.lt_of_not_le fun q => hin392 (Or.inr q))).trans (congrArg some (own_gD cl 0))
                refine Go.via (fun t k => X381.caload hx (j := (0 : Int32)) (v := (.int (cl.getD 0 0))) (by rw [e381]; exact A392.1) (State.isArrayOf_alike hZ.alike A392.2.1) A392.2.2 hin392 hat392 (g := (mkF m 203 #[.val (.ref ac), .val (.int nn)] [(.int (0 : Int32)), (.ref ac), (.int (0 : Int32)), (.ref b381), (.ref b381), (.ref b373), (.ref b373)])) rfl rfl (hb hby d9_203) t k) ?_
                show Go p.tables e below P T381 (mkF m 204 #[.val (.ref ac), .val (.int nn)] [(.int (cl.getD 0 0)), (.int (0 : Int32)), (.ref b381), (.ref b381), (.ref b373), (.ref b373)])
                have F393 : Exa Z h381 b373 "java/lang/String" := (A373.ext E381)
                have F394 : Fld Z h381 b373 "java/lang/String" "value" "[B" .null := ((D373 (Or.inr (hw _ (List.mem_of_getElem? (i := 4) rfl))) (ty := (.array .byte)) (by decide) : Fld Z h373 b373 "java/lang/String" "value" "[B" .null).ext E381)
                have F395 : Fld Z h381 b373 "java/lang/String" "coder" "B" (.int (0 : Int32)) := ((D373 (Or.inr (hw _ (List.mem_of_getElem? (i := 5) rfl))) (ty := .byte) (by decide) : Fld Z h373 b373 "java/lang/String" "coder" "B" (.int (0 : Int32))).ext E381)
                obtain ⟨c396, A396, q396, S396, N396, H396, G396⟩ := id V381
                have hin396 : ¬ ((0 : Int32) < 0 ∨ c396.slots.size ≤ ((0 : Int32)).toNatClampNeg) := inb_of S396 ⟨by decide, by decide⟩
                obtain ⟨T396, h396, X396, e396, W396, st396⟩ := stC X381 hx hZ e381 A396 (j := (0 : Int32)) hin396 (g := (mkF m 204 #[.val (.ref ac), .val (.int nn)] [(.int (cl.getD 0 0)), (.int (0 : Int32)), (.ref b381), (.ref b381), (.ref b373), (.ref b373)])) rfl rfl (hb hby d9_204)
                refine Go.via st396 ?_
                have Z397 : n0 ≤ h396.size := Nat.le_trans Z387 (Nat.le_of_eq W396.size.symm)
                have K398 : Keep h0 h396 [] := K388.wr W396 (Or.inr sz386)
                obtain ⟨lc396, Xh396, N399⟩ := own_hide X396 (Fr.snoc X396 N0 g385)
                clear X396
                have O400 : Old Z n0 h396 := O389.wr W396 g385
                have Sf396 := Safe.wr W396 (Safe.arv hZ.alike V381 (by decide)) CR390.1 (Safe.arv hZ.alike V381 (by decide))
                have CR401 := CHr.trans CR390 (CHr.wr W396 (Safe.arv hZ.alike V381 (by decide)) CR390.1)
                have V396 : Arv Z h396 b381 k381 .char (6 : Int32) [(.int (nar .char (cl.getD 0 0))), (.int (0 : Int32)), (.int (0 : Int32)), (.int (0 : Int32)), (.int (0 : Int32)), (.int (0 : Int32))] (.int (0 : Int32)) := Arv.set A396 q396 S396 N396 H396 G396 (fits_nar_char _) W396 0 rfl (Nat.le_of_ble_eq_true rfl)
                show Go p.tables e below P T396 (mkF m 205 #[.val (.ref ac), .val (.int nn)] [(.ref b381), (.ref b373), (.ref b373)])
                refine Go.via (fun t k => XS.dup Xh396.here hx rfl (hb hby d9_205) rfl rfl k) ?_
                refine Go.via (fun t k => XS.iconst Xh396.here hx rfl (hb hby d9_206) k) ?_
                refine Go.via (fun t k => XS.aloadN Xh396.here hx rfl (hb hby d9_207) rfl rfl k) ?_
                show Go p.tables e below P T396 (mkF m 208 #[.val (.ref ac), .val (.int nn)] [(.ref ac), (.int (1 : Int32)), (.ref b381), (.ref b381), (.ref b373), (.ref b373)])
                refine Go.via (fun t k => XS.iconst Xh396.here hx rfl (hb hby d9_208) k) ?_
                show Go p.tables e below P T396 (mkF m 209 #[.val (.ref ac), .val (.int nn)] [(.int (1 : Int32)), (.ref ac), (.int (1 : Int32)), (.ref b381), (.ref b381), (.ref b373), (.ref b373)])
                have F402 : Arv Z h396 ac kc .char (8 : Int32) (cl.map Value.int) (.int (0 : Int32)) := (F391.other W396 ne383)
                obtain ⟨c403, A403, q403, S403, N403, H403, G403⟩ := id F402
                have hin403 : ¬ ((1 : Int32) < 0 ∨ c403.slots.size ≤ ((1 : Int32)).toNatClampNeg) := inb_of S403 ⟨by decide, by decide⟩
                have hat403 : c403.slots[((1 : Int32)).toNatClampNeg]? = some (.int (cl.getD 1 0)) := (H403 _ (Nat.lt_of_not_le fun q => hin403 (Or.inr q))).trans (congrArg some (own_gD cl 1))
                refine Go.via (fun t k => Xh396.caload hx (j := (1 : Int32)) (v := (.int (cl.getD 1 0))) (by rw [e396]; exact A403.1) (State.isArrayOf_alike hZ.alike A403.2.1) A403.2.2 hin403 hat403 (g := (mkF m 209 #[.val (.ref ac), .val (.int nn)] [(.int (1 : Int32)), (.ref ac), (.int (1 : Int32)), (.ref b381), (.ref b381), (.ref b373), (.ref b373)])) rfl rfl (hb hby d9_209) t k) ?_
                show Go p.tables e below P T396 (mkF m 210 #[.val (.ref ac), .val (.int nn)] [(.int (cl.getD 1 0)), (.int (1 : Int32)), (.ref b381), (.ref b381), (.ref b373), (.ref b373)])
                have F404 : Exa Z h396 b373 "java/lang/String" := (F393.wr W396)
                have F405 : Fld Z h396 b373 "java/lang/String" "value" "[B" .null := (F394.other W396 (Or.inl ne384))
                have F406 : Fld Z h396 b373 "java/lang/String" "coder" "B" (.int (0 : Int32)) := (F395.other W396 (Or.inl ne384))
                obtain ⟨c407, A407, q407, S407, N407, H407, G407⟩ := id V396
                have hin407 : ¬ ((1 : Int32) < 0 ∨ c407.slots.size ≤ ((1 : Int32)).toNatClampNeg) := inb_of S407 ⟨by decide, by decide⟩
                obtain ⟨T407, h407, X407, e407, W407, st407⟩ := stC Xh396 hx hZ e396 A407 (j := (1 : Int32)) hin407 (g := (mkF m 210 #[.val (.ref ac), .val (.int nn)] [(.int (cl.getD 1 0)), (.int (1 : Int32)), (.ref b381), (.ref b381), (.ref b373), (.ref b373)])) rfl rfl (hb hby d9_210)
                refine Go.via st407 ?_
                have Z408 : n0 ≤ h407.size := Nat.le_trans Z397 (Nat.le_of_eq W407.size.symm)
                have K409 : Keep h0 h407 [] := K398.wr W407 (Or.inr sz386)
                obtain ⟨lc407, Xh407, N410⟩ := own_hide X407 (Fr.snoc X407 N399 g385)
                clear X407
                have O411 : Old Z n0 h407 := O400.wr W407 g385
                have Sf407 := Safe.wr W407 (Safe.arv hZ.alike V396 (by decide)) CR401.1 (Safe.arv hZ.alike V396 (by decide))
                have CR412 := CHr.trans CR401 (CHr.wr W407 (Safe.arv hZ.alike V396 (by decide)) CR401.1)
                have V407 : Arv Z h407 b381 k381 .char (6 : Int32) [(.int (nar .char (cl.getD 0 0))), (.int (nar .char (cl.getD 1 0))), (.int (0 : Int32)), (.int (0 : Int32)), (.int (0 : Int32)), (.int (0 : Int32))] (.int (0 : Int32)) := Arv.set A407 q407 S407 N407 H407 G407 (fits_nar_char _) W407 1 rfl (Nat.le_of_ble_eq_true rfl)
                show Go p.tables e below P T407 (mkF m 211 #[.val (.ref ac), .val (.int nn)] [(.ref b381), (.ref b373), (.ref b373)])
                refine Go.via (fun t k => XS.dup Xh407.here hx rfl (hb hby d9_211) rfl rfl k) ?_
                refine Go.via (fun t k => XS.iconst Xh407.here hx rfl (hb hby d9_212) k) ?_
                refine Go.via (fun t k => XS.aloadN Xh407.here hx rfl (hb hby d9_213) rfl rfl k) ?_
                show Go p.tables e below P T407 (mkF m 214 #[.val (.ref ac), .val (.int nn)] [(.ref ac), (.int (2 : Int32)), (.ref b381), (.ref b381), (.ref b373), (.ref b373)])
                refine Go.via (fun t k => XS.iconst Xh407.here hx rfl (hb hby d9_214) k) ?_
                show Go p.tables e below P T407 (mkF m 215 #[.val (.ref ac), .val (.int nn)] [(.int (2 : Int32)), (.ref ac), (.int (2 : Int32)), (.ref b381), (.ref b381), (.ref b373), (.ref b373)])
                have F413 : Arv Z h407 ac kc .char (8 : Int32) (cl.map Value.int) (.int (0 : Int32)) := (F402.other W407 ne383)
                obtain ⟨c414, A414, q414, S414, N414, H414, G414⟩ := id F413
                have hin414 : ¬ ((2 : Int32) < 0 ∨ c414.slots.size ≤ ((2 : Int32)).toNatClampNeg) := inb_of S414 ⟨by decide, by decide⟩
                have hat414 : c414.slots[((2 : Int32)).toNatClampNeg]? = some (.int (cl.getD 2 0)) := (H414 _ (Nat.lt_of_not_le fun q => hin414 (Or.inr q))).trans (congrArg some (own_gD cl 2))
                refine Go.via (fun t k => Xh407.caload hx (j := (2 : Int32)) (v := (.int (cl.getD 2 0))) (by rw [e407]; exact A414.1) (State.isArrayOf_alike hZ.alike A414.2.1) A414.2.2 hin414 hat414 (g := (mkF m 215 #[.val (.ref ac), .val (.int nn)] [(.int (2 : Int32)), (.ref ac), (.int (2 : Int32)), (.ref b381), (.ref b381), (.ref b373), (.ref b373)])) rfl rfl (hb hby d9_215) t k) ?_
                show Go p.tables e below P T407 (mkF m 216 #[.val (.ref ac), .val (.int nn)] [(.int (cl.getD 2 0)), (.int (2 : Int32)), (.ref b381), (.ref b381), (.ref b373), (.ref b373)])
                have F415 : Exa Z h407 b373 "java/lang/String" := (F404.wr W407)
                have F416 : Fld Z h407 b373 "java/lang/String" "value" "[B" .null := (F405.other W407 (Or.inl ne384))
                have F417 : Fld Z h407 b373 "java/lang/String" "coder" "B" (.int (0 : Int32)) := (F406.other W407 (Or.inl ne384))
                obtain ⟨c418, A418, q418, S418, N418, H418, G418⟩ := id V407
                have hin418 : ¬ ((2 : Int32) < 0 ∨ c418.slots.size ≤ ((2 : Int32)).toNatClampNeg) := inb_of S418 ⟨by decide, by decide⟩
                obtain ⟨T418, h418, X418, e418, W418, st418⟩ := stC Xh407 hx hZ e407 A418 (j := (2 : Int32)) hin418 (g := (mkF m 216 #[.val (.ref ac), .val (.int nn)] [(.int (cl.getD 2 0)), (.int (2 : Int32)), (.ref b381), (.ref b381), (.ref b373), (.ref b373)])) rfl rfl (hb hby d9_216)
                refine Go.via st418 ?_
                have Z419 : n0 ≤ h418.size := Nat.le_trans Z408 (Nat.le_of_eq W418.size.symm)
                have K420 : Keep h0 h418 [] := K409.wr W418 (Or.inr sz386)
                obtain ⟨lc418, Xh418, N421⟩ := own_hide X418 (Fr.snoc X418 N410 g385)
                clear X418
                have O422 : Old Z n0 h418 := O411.wr W418 g385
                have Sf418 := Safe.wr W418 (Safe.arv hZ.alike V407 (by decide)) CR412.1 (Safe.arv hZ.alike V407 (by decide))
                have CR423 := CHr.trans CR412 (CHr.wr W418 (Safe.arv hZ.alike V407 (by decide)) CR412.1)
                have V418 : Arv Z h418 b381 k381 .char (6 : Int32) [(.int (nar .char (cl.getD 0 0))), (.int (nar .char (cl.getD 1 0))), (.int (nar .char (cl.getD 2 0))), (.int (0 : Int32)), (.int (0 : Int32)), (.int (0 : Int32))] (.int (0 : Int32)) := Arv.set A418 q418 S418 N418 H418 G418 (fits_nar_char _) W418 2 rfl (Nat.le_of_ble_eq_true rfl)
                show Go p.tables e below P T418 (mkF m 217 #[.val (.ref ac), .val (.int nn)] [(.ref b381), (.ref b373), (.ref b373)])
                refine Go.via (fun t k => XS.dup Xh418.here hx rfl (hb hby d9_217) rfl rfl k) ?_
                refine Go.via (fun t k => XS.iconst Xh418.here hx rfl (hb hby d9_218) k) ?_
                refine Go.via (fun t k => XS.aloadN Xh418.here hx rfl (hb hby d9_219) rfl rfl k) ?_
                show Go p.tables e below P T418 (mkF m 220 #[.val (.ref ac), .val (.int nn)] [(.ref ac), (.int (3 : Int32)), (.ref b381), (.ref b381), (.ref b373), (.ref b373)])
                refine Go.via (fun t k => XS.iconst Xh418.here hx rfl (hb hby d9_220) k) ?_
                show Go p.tables e below P T418 (mkF m 221 #[.val (.ref ac), .val (.int nn)] [(.int (3 : Int32)), (.ref ac), (.int (3 : Int32)), (.ref b381), (.ref b381), (.ref b373), (.ref b373)])
                have F424 : Arv Z h418 ac kc .char (8 : Int32) (cl.map Value.int) (.int (0 : Int32)) := (F413.other W418 ne383)
                obtain ⟨c425, A425, q425, S425, N425, H425, G425⟩ := id F424
                have hin425 : ¬ ((3 : Int32) < 0 ∨ c425.slots.size ≤ ((3 : Int32)).toNatClampNeg) := inb_of S425 ⟨by decide, by decide⟩
                have hat425 : c425.slots[((3 : Int32)).toNatClampNeg]? = some (.int (cl.getD 3 0)) := (H425 _ (Nat.lt_of_not_le fun q => hin425 (Or.inr q))).trans (congrArg some (own_gD cl 3))
                refine Go.via (fun t k => Xh418.caload hx (j := (3 : Int32)) (v := (.int (cl.getD 3 0))) (by rw [e418]; exact A425.1) (State.isArrayOf_alike hZ.alike A425.2.1) A425.2.2 hin425 hat425 (g := (mkF m 221 #[.val (.ref ac), .val (.int nn)] [(.int (3 : Int32)), (.ref ac), (.int (3 : Int32)), (.ref b381), (.ref b381), (.ref b373), (.ref b373)])) rfl rfl (hb hby d9_221) t k) ?_
                show Go p.tables e below P T418 (mkF m 222 #[.val (.ref ac), .val (.int nn)] [(.int (cl.getD 3 0)), (.int (3 : Int32)), (.ref b381), (.ref b381), (.ref b373), (.ref b373)])
                have F426 : Exa Z h418 b373 "java/lang/String" := (F415.wr W418)
                have F427 : Fld Z h418 b373 "java/lang/String" "value" "[B" .null := (F416.other W418 (Or.inl ne384))
                have F428 : Fld Z h418 b373 "java/lang/String" "coder" "B" (.int (0 : Int32)) := (F417.other W418 (Or.inl ne384))
                obtain ⟨c429, A429, q429, S429, N429, H429, G429⟩ := id V418
                have hin429 : ¬ ((3 : Int32) < 0 ∨ c429.slots.size ≤ ((3 : Int32)).toNatClampNeg) := inb_of S429 ⟨by decide, by decide⟩
                obtain ⟨T429, h429, X429, e429, W429, st429⟩ := stC Xh418 hx hZ e418 A429 (j := (3 : Int32)) hin429 (g := (mkF m 222 #[.val (.ref ac), .val (.int nn)] [(.int (cl.getD 3 0)), (.int (3 : Int32)), (.ref b381), (.ref b381), (.ref b373), (.ref b373)])) rfl rfl (hb hby d9_222)
                refine Go.via st429 ?_
                have Z430 : n0 ≤ h429.size := Nat.le_trans Z419 (Nat.le_of_eq W429.size.symm)
                have K431 : Keep h0 h429 [] := K420.wr W429 (Or.inr sz386)
                obtain ⟨lc429, Xh429, N432⟩ := own_hide X429 (Fr.snoc X429 N421 g385)
                clear X429
                have O433 : Old Z n0 h429 := O422.wr W429 g385
                have Sf429 := Safe.wr W429 (Safe.arv hZ.alike V418 (by decide)) CR423.1 (Safe.arv hZ.alike V418 (by decide))
                have CR434 := CHr.trans CR423 (CHr.wr W429 (Safe.arv hZ.alike V418 (by decide)) CR423.1)
                have V429 : Arv Z h429 b381 k381 .char (6 : Int32) [(.int (nar .char (cl.getD 0 0))), (.int (nar .char (cl.getD 1 0))), (.int (nar .char (cl.getD 2 0))), (.int (nar .char (cl.getD 3 0))), (.int (0 : Int32)), (.int (0 : Int32))] (.int (0 : Int32)) := Arv.set A429 q429 S429 N429 H429 G429 (fits_nar_char _) W429 3 rfl (Nat.le_of_ble_eq_true rfl)
                show Go p.tables e below P T429 (mkF m 223 #[.val (.ref ac), .val (.int nn)] [(.ref b381), (.ref b373), (.ref b373)])
                refine Go.via (fun t k => XS.dup Xh429.here hx rfl (hb hby d9_223) rfl rfl k) ?_
                refine Go.via (fun t k => XS.iconst Xh429.here hx rfl (hb hby d9_224) k) ?_
                refine Go.via (fun t k => XS.aloadN Xh429.here hx rfl (hb hby d9_225) rfl rfl k) ?_
                show Go p.tables e below P T429 (mkF m 226 #[.val (.ref ac), .val (.int nn)] [(.ref ac), (.int (4 : Int32)), (.ref b381), (.ref b381), (.ref b373), (.ref b373)])
                refine Go.via (fun t k => XS.iconst Xh429.here hx rfl (hb hby d9_226) k) ?_
                show Go p.tables e below P T429 (mkF m 227 #[.val (.ref ac), .val (.int nn)] [(.int (4 : Int32)), (.ref ac), (.int (4 : Int32)), (.ref b381), (.ref b381), (.ref b373), (.ref b373)])
                have F435 : Arv Z h429 ac kc .char (8 : Int32) (cl.map Value.int) (.int (0 : Int32)) := (F424.other W429 ne383)
                obtain ⟨c436, A436, q436, S436, N436, H436, G436⟩ := id F435
                have hin436 : ¬ ((4 : Int32) < 0 ∨ c436.slots.size ≤ ((4 : Int32)).toNatClampNeg) := inb_of S436 ⟨by decide, by decide⟩
                have hat436 : c436.slots[((4 : Int32)).toNatClampNeg]? = some (.int (cl.getD 4 0)) := (H436 _ (Nat.lt_of_not_le fun q => hin436 (Or.inr q))).trans (congrArg some (own_gD cl 4))
                refine Go.via (fun t k => Xh429.caload hx (j := (4 : Int32)) (v := (.int (cl.getD 4 0))) (by rw [e429]; exact A436.1) (State.isArrayOf_alike hZ.alike A436.2.1) A436.2.2 hin436 hat436 (g := (mkF m 227 #[.val (.ref ac), .val (.int nn)] [(.int (4 : Int32)), (.ref ac), (.int (4 : Int32)), (.ref b381), (.ref b381), (.ref b373), (.ref b373)])) rfl rfl (hb hby d9_227) t k) ?_
                show Go p.tables e below P T429 (mkF m 228 #[.val (.ref ac), .val (.int nn)] [(.int (cl.getD 4 0)), (.int (4 : Int32)), (.ref b381), (.ref b381), (.ref b373), (.ref b373)])
                have F437 : Exa Z h429 b373 "java/lang/String" := (F426.wr W429)
                have F438 : Fld Z h429 b373 "java/lang/String" "value" "[B" .null := (F427.other W429 (Or.inl ne384))
                have F439 : Fld Z h429 b373 "java/lang/String" "coder" "B" (.int (0 : Int32)) := (F428.other W429 (Or.inl ne384))
                obtain ⟨c440, A440, q440, S440, N440, H440, G440⟩ := id V429
                have hin440 : ¬ ((4 : Int32) < 0 ∨ c440.slots.size ≤ ((4 : Int32)).toNatClampNeg) := inb_of S440 ⟨by decide, by decide⟩
                obtain ⟨T440, h440, X440, e440, W440, st440⟩ := stC Xh429 hx hZ e429 A440 (j := (4 : Int32)) hin440 (g := (mkF m 228 #[.val (.ref ac), .val (.int nn)] [(.int (cl.getD 4 0)), (.int (4 : Int32)), (.ref b381), (.ref b381), (.ref b373), (.ref b373)])) rfl rfl (hb hby d9_228)
                refine Go.via st440 ?_
                have Z441 : n0 ≤ h440.size := Nat.le_trans Z430 (Nat.le_of_eq W440.size.symm)
                have K442 : Keep h0 h440 [] := K431.wr W440 (Or.inr sz386)
                obtain ⟨lc440, Xh440, N443⟩ := own_hide X440 (Fr.snoc X440 N432 g385)
                clear X440
                have O444 : Old Z n0 h440 := O433.wr W440 g385
                have Sf440 := Safe.wr W440 (Safe.arv hZ.alike V429 (by decide)) CR434.1 (Safe.arv hZ.alike V429 (by decide))
                have CR445 := CHr.trans CR434 (CHr.wr W440 (Safe.arv hZ.alike V429 (by decide)) CR434.1)
                have V440 : Arv Z h440 b381 k381 .char (6 : Int32) [(.int (nar .char (cl.getD 0 0))), (.int (nar .char (cl.getD 1 0))), (.int (nar .char (cl.getD 2 0))), (.int (nar .char (cl.getD 3 0))), (.int (nar .char (cl.getD 4 0))), (.int (0 : Int32))] (.int (0 : Int32)) := Arv.set A440 q440 S440 N440 H440 G440 (fits_nar_char _) W440 4 rfl (Nat.le_of_ble_eq_true rfl)
                show Go p.tables e below P T440 (mkF m 229 #[.val (.ref ac), .val (.int nn)] [(.ref b381), (.ref b373), (.ref b373)])
                refine Go.via (fun t k => XS.dup Xh440.here hx rfl (hb hby d9_229) rfl rfl k) ?_
                refine Go.via (fun t k => XS.iconst Xh440.here hx rfl (hb hby d9_230) k) ?_
                refine Go.via (fun t k => XS.aloadN Xh440.here hx rfl (hb hby d9_231) rfl rfl k) ?_
                show Go p.tables e below P T440 (mkF m 232 #[.val (.ref ac), .val (.int nn)] [(.ref ac), (.int (5 : Int32)), (.ref b381), (.ref b381), (.ref b373), (.ref b373)])
                refine Go.via (fun t k => XS.iconst Xh440.here hx rfl (hb hby d9_232) k) ?_
                show Go p.tables e below P T440 (mkF m 233 #[.val (.ref ac), .val (.int nn)] [(.int (5 : Int32)), (.ref ac), (.int (5 : Int32)), (.ref b381), (.ref b381), (.ref b373), (.ref b373)])
                have F446 : Arv Z h440 ac kc .char (8 : Int32) (cl.map Value.int) (.int (0 : Int32)) := (F435.other W440 ne383)
                obtain ⟨c447, A447, q447, S447, N447, H447, G447⟩ := id F446
                have hin447 : ¬ ((5 : Int32) < 0 ∨ c447.slots.size ≤ ((5 : Int32)).toNatClampNeg) := inb_of S447 ⟨by decide, by decide⟩
                have hat447 : c447.slots[((5 : Int32)).toNatClampNeg]? = some (.int (cl.getD 5 0)) := (H447 _ (Nat.lt_of_not_le fun q => hin447 (Or.inr q))).trans (congrArg some (own_gD cl 5))
                refine Go.via (fun t k => Xh440.caload hx (j := (5 : Int32)) (v := (.int (cl.getD 5 0))) (by rw [e440]; exact A447.1) (State.isArrayOf_alike hZ.alike A447.2.1) A447.2.2 hin447 hat447 (g := (mkF m 233 #[.val (.ref ac), .val (.int nn)] [(.int (5 : Int32)), (.ref ac), (.int (5 : Int32)), (.ref b381), (.ref b381), (.ref b373), (.ref b373)])) rfl rfl (hb hby d9_233) t k) ?_
                show Go p.tables e below P T440 (mkF m 234 #[.val (.ref ac), .val (.int nn)] [(.int (cl.getD 5 0)), (.int (5 : Int32)), (.ref b381), (.ref b381), (.ref b373), (.ref b373)])
                have F448 : Exa Z h440 b373 "java/lang/String" := (F437.wr W440)
                have F449 : Fld Z h440 b373 "java/lang/String" "value" "[B" .null := (F438.other W440 (Or.inl ne384))
                have F450 : Fld Z h440 b373 "java/lang/String" "coder" "B" (.int (0 : Int32)) := (F439.other W440 (Or.inl ne384))
                obtain ⟨c451, A451, q451, S451, N451, H451, G451⟩ := id V440
                have hin451 : ¬ ((5 : Int32) < 0 ∨ c451.slots.size ≤ ((5 : Int32)).toNatClampNeg) := inb_of S451 ⟨by decide, by decide⟩
                obtain ⟨T451, h451, X451, e451, W451, st451⟩ := stC Xh440 hx hZ e440 A451 (j := (5 : Int32)) hin451 (g := (mkF m 234 #[.val (.ref ac), .val (.int nn)] [(.int (cl.getD 5 0)), (.int (5 : Int32)), (.ref b381), (.ref b381), (.ref b373), (.ref b373)])) rfl rfl (hb hby d9_234)
                refine Go.via st451 ?_
                have Z452 : n0 ≤ h451.size := Nat.le_trans Z441 (Nat.le_of_eq W451.size.symm)
                have K453 : Keep h0 h451 [] := K442.wr W451 (Or.inr sz386)
                obtain ⟨lc451, Xh451, N454⟩ := own_hide X451 (Fr.snoc X451 N443 g385)
                clear X451
                have O455 : Old Z n0 h451 := O444.wr W451 g385
                have Sf451 := Safe.wr W451 (Safe.arv hZ.alike V440 (by decide)) CR445.1 (Safe.arv hZ.alike V440 (by decide))
                have CR456 := CHr.trans CR445 (CHr.wr W451 (Safe.arv hZ.alike V440 (by decide)) CR445.1)
                have V451 : Arv Z h451 b381 k381 .char (6 : Int32) [(.int (nar .char (cl.getD 0 0))), (.int (nar .char (cl.getD 1 0))), (.int (nar .char (cl.getD 2 0))), (.int (nar .char (cl.getD 3 0))), (.int (nar .char (cl.getD 4 0))), (.int (nar .char (cl.getD 5 0)))] (.int (0 : Int32)) := Arv.set A451 q451 S451 N451 H451 G451 (fits_nar_char _) W451 5 rfl (Nat.le_of_ble_eq_true rfl)
                show Go p.tables e below P T451 (mkF m 235 #[.val (.ref ac), .val (.int nn)] [(.ref b381), (.ref b373), (.ref b373)])
                have F457 : Exa Z h451 b373 "java/lang/String" := (F448.wr W451)
                have F458 : Fld Z h451 b373 "java/lang/String" "value" "[B" .null := (F449.other W451 (Or.inl ne384))
                have F459 : Fld Z h451 b373 "java/lang/String" "coder" "B" (.int (0 : Int32)) := (F450.other W451 (Or.inl ne384))
                have F460 : Arv Z h451 ac kc .char (8 : Int32) (cl.map Value.int) (.int (0 : Int32)) := (F446.other W451 ne383)
                obtain ⟨_, _, ⟨T461, L461, k461, n461⟩, -, X461, ⟨Lc461, hQ461, l461, y461, z461⟩, st461⟩ := Xh451.specialBack hx (y := (⟨"java/lang/String", "<init>", "([C)V"⟩ : MethodName)) rfl hown (mvT hZ (hw _ (List.mem_of_getElem? (i := 53) rfl))) (mvT hZ (hw _ (List.mem_of_getElem? (i := 54) rfl))) (mvT hZ (hw _ (List.mem_of_getElem? (i := 55) rfl))) (by decide) (StrChars.Road.backV (W := 1) hZ (own_ws hw) (kI := 4) (hw _ (List.mem_of_getElem? (i := 2) rfl)) (cs := ([(nar .char (cl.getD 0 0)), (nar .char (cl.getD 1 0)), (nar .char (cl.getD 2 0)), (nar .char (cl.getD 3 0)), (nar .char (cl.getD 4 0)), (nar .char (cl.getD 5 0))] : List Int32)) (bs := ([((nar .char (cl.getD 0 0))).toInt8.toInt32, ((nar .char (cl.getD 1 0))).toInt8.toInt32, ((nar .char (cl.getD 2 0))).toInt8.toInt32, ((nar .char (cl.getD 3 0))).toInt8.toInt32, ((nar .char (cl.getD 4 0))).toInt8.toInt32, ((nar .char (cl.getD 5 0))).toInt8.toInt32] : List Int32)) (n := 6) g375 Z452 F457 F458 F459 V451 (P1.ext O455.2) hcs rfl rfl (by decide) (by decide) (own_alC (own_hp (hcl 0)) (own_alC (own_hp (hcl 1)) (own_alC (own_hp (hcl 2)) (own_alC (own_hp (hcl 3)) (own_alC (own_hp (hcl 4)) (own_alC (own_hp (hcl 5)) own_al0)))))) rfl (by decide) (by decide)) (g := (mkF m 235 #[.val (.ref ac), .val (.int nn)] [(.ref b381), (.ref b373), (.ref b373)])) rfl (by rw [hml]; rfl) (Steps.refl _) (a := b373) (argsL := [(.ref b381)]) (rest := [(.ref b373)]) (lenOf own_pd8 rfl) rfl (by show 2 * 0 + _ ≤ _; exact Nat.le_of_eq rfl) (hb hby d9_235) (fun _ _ => ⟨rfl, e451, (by decide : 2 + 1 ≤ _), (by decide : 10 + 6 ≤ _)⟩)
                dsimp only [Pt.U, Pt.locs, Pt.cells, Pt.slots] at X461 l461 y461 z461 st461 hQ461
                subst l461 y461 z461
                obtain ⟨rfl, Nq461, K461, Ex461, Fc461, t461, kb461, -, lt461, ne461, Fv461, Va461⟩ := hQ461
                obtain ⟨lc461, Xh461, N461⟩ := own_hide X461 (Fr.app N454 Nq461)
                clear X461
                refine Go.hop st461 ?_
                have ne462 : ac ≠ t461 := Nat.ne_of_lt (Nat.lt_of_lt_of_le F460.lt lt461)
                have ne463 : b373 ≠ t461 := Nat.ne_of_lt (Nat.lt_of_lt_of_le F457.lt lt461)
                have ne464 : b381 ≠ t461 := Nat.ne_of_lt (Nat.lt_of_lt_of_le V451.lt lt461)
                have g465 : n0 ≤ t461 := Nat.le_trans Z452 lt461
                have sz466 : h0.size ≤ t461 := Nat.le_trans K453.1 lt461
                have Z467 : n0 ≤ T461.heap.size := Nat.le_trans Z452 K461.1
                have K468 : Keep h0 T461.heap [] := K453.trans K461 (own_allC (Or.inr sz376) own_all0)
                have CR469 := CHr.trans CR456 (CHr.keep K461 (sfS (own_safeS hZ.alike F457 F458) sf0) CR456.1)
                have O470 : Old Z n0 T461.heap := O455.keep K461 (own_allC g375 own_all0)
                have Vt461 : Arv Z T461.heap t461 kb461 .byte (6 : Int32) [(.int ((nar .char (cl.getD 0 0))).toInt8.toInt32), (.int ((nar .char (cl.getD 1 0))).toInt8.toInt32), (.int ((nar .char (cl.getD 2 0))).toInt8.toInt32), (.int ((nar .char (cl.getD 3 0))).toInt8.toInt32), (.int ((nar .char (cl.getD 4 0))).toInt8.toInt32), (.int ((nar .char (cl.getD 5 0))).toInt8.toInt32)] (.int (0 : Int32)) := Va461
                show Go p.tables e below P T461 (mkF m 238 #[.val (.ref ac), .val (.int nn)] [(.ref b373)])
                have Vr472 : Arv Z T461.heap t461 kb461 .byte (own_lg ([((nar .char (cl.getD 0 0))).toInt8.toInt32, ((nar .char (cl.getD 1 0))).toInt8.toInt32, ((nar .char (cl.getD 2 0))).toInt8.toInt32, ((nar .char (cl.getD 3 0))).toInt8.toInt32, ((nar .char (cl.getD 4 0))).toInt8.toInt32, ((nar .char (cl.getD 5 0))).toInt8.toInt32] : List Int32)) (([((nar .char (cl.getD 0 0))).toInt8.toInt32, ((nar .char (cl.getD 1 0))).toInt8.toInt32, ((nar .char (cl.getD 2 0))).toInt8.toInt32, ((nar .char (cl.getD 3 0))).toInt8.toInt32, ((nar .char (cl.getD 4 0))).toInt8.toInt32, ((nar .char (cl.getD 5 0))).toInt8.toInt32] : List Int32).map Value.int) (.int (0 : Int32)) := by
                  rw [show own_lg ([((nar .char (cl.getD 0 0))).toInt8.toInt32, ((nar .char (cl.getD 1 0))).toInt8.toInt32, ((nar .char (cl.getD 2 0))).toInt8.toInt32, ((nar .char (cl.getD 3 0))).toInt8.toInt32, ((nar .char (cl.getD 4 0))).toInt8.toInt32, ((nar .char (cl.getD 5 0))).toInt8.toInt32] : List Int32) = (6 : Int32) from rfl]; exact Vt461
                obtain ⟨fs, hr, hrun, hended, hend⟩ := Xh461.leaveW hS0 (by exact (Nat.zero_le _)) (v := some (.ref b373)) (fun h => by rw [Bd.returns] at h; cases h)
                have hCf : CHr Z consts_1 s.vm s.heap (T461.setFrames fs).vm (T461.setFrames fs).heap := by
                  rw [hh]
                  show CHr Z consts_1 s.vm h0 T461.vm T461.heap
                  exact CHr.trans CR469 (CHv.at Xh461 hZ (own_EW hw) CR469.1)
                refine ⟨_, _, retA Xh461 hx Bd.returns rfl rfl rfl (hb hby d9_238) hr, hrun, hended, hP _ _ ⟨_, _, rfl, ?_, hCf, own_rew hend (by decide) (by decide)⟩⟩
                show Q9 Z ac nn kc cl cs h0 n0 _ T461.heap _
                exact ⟨b373, t461, kb461, ([((nar .char (cl.getD 0 0))).toInt8.toInt32, ((nar .char (cl.getD 1 0))).toInt8.toInt32, ((nar .char (cl.getD 2 0))).toInt8.toInt32, ((nar .char (cl.getD 3 0))).toInt8.toInt32, ((nar .char (cl.getD 4 0))).toInt8.toInt32, ((nar .char (cl.getD 5 0))).toInt8.toInt32] : List Int32), rfl, N461, K468, sz376, Ex461, Fv461, Fc461, Vr472, (by simp), Vr472.lt, ne463⟩
              · refine Go.via (fun t k => XS.icmpYes X0.here hx rfl (pc0 := 188) (pc' := 239) rfl (hb hby d9_188) rfl (feq hc372).2 (by decide) (by decide) k) ?_
                show Go p.tables e below P s₁ (mkF m 239 #[.val (.ref ac), .val (.int nn)] [])
                refine Go.via (fun t k => XS.iloadN X0.here hx rfl (hb hby d9_239) rfl k) ?_
                refine Go.via (fun t k => XS.bipush X0.here hx rfl (hb hby d9_240) k) ?_
                show Go p.tables e below P s₁ (mkF m 242 #[.val (.ref ac), .val (.int nn)] [(.int (7 : Int32)), (.int nn)])
                by_cases hc473 : nn = (7 : Int32)
                · refine Go.via (fun t k => XS.icmpNo X0.here hx rfl (hb hby d9_242) rfl (teq hc473).2 k) ?_
                  show Go p.tables e below P s₁ (mkF m 245 #[.val (.ref ac), .val (.int nn)] [])
                  obtain ⟨T474, h474, X474, e474, E474, A474, D474, -, st474⟩ := newO X0 hx hZ hown (hw _ (List.mem_of_getElem? (i := 52) rfl)) (hw _ (List.mem_of_getElem? (i := 2) rfl)) (hw _ (List.mem_of_getElem? (i := 1) rfl)) e0 (g := (mkF m 245 #[.val (.ref ac), .val (.int nn)] [])) rfl (hb hby d9_245) (by decide) (by decide)
                  obtain ⟨b474, g474⟩ : ∃ z, z = h0.size := ⟨_, rfl⟩
                  rw [← g474] at A474 D474 st474
                  refine Go.via st474 ?_
                  have ne475 : ac ≠ b474 := Nat.ne_of_lt (Nat.lt_of_lt_of_le P3.lt (Nat.le_of_eq g474.symm))
                  have g476 : n0 ≤ b474 := Nat.le_trans Z0 (Nat.le_of_eq g474.symm)
                  have sz477 : h0.size ≤ b474 := Nat.le_trans K0.1 (Nat.le_of_eq g474.symm)
                  have Z478 : n0 ≤ h474.size := Nat.le_trans Z0 E474.1
                  have K479 : Keep h0 h474 [] := K0.ext E474
                  have O480 : Old Z n0 h474 := O0.ext E474
                  have CR481 := CHr.trans CR0 (CHr.ext E474 CR0.1)
                  show Go p.tables e below P T474 (mkF m 248 #[.val (.ref ac), .val (.int nn)] [(.ref b474)])
                  refine Go.via (fun t k => XS.dup X474.here hx rfl (hb hby d9_248) rfl rfl k) ?_
                  refine Go.via (fun t k => XS.bipush X474.here hx rfl (hb hby d9_249) k) ?_
                  show Go p.tables e below P T474 (mkF m 251 #[.val (.ref ac), .val (.int nn)] [(.int (7 : Int32)), (.ref b474), (.ref b474)])
                  have F483 : Arv Z h474 ac kc .char (8 : Int32) (cl.map Value.int) (.int (0 : Int32)) := (P3.ext E474)
                  obtain ⟨T482, h482, k482, X482, e482, E482, A482, st482⟩ := newP X474 hx hZ (hw _ (List.mem_of_getElem? (i := 8) rfl)) e474 (g := (mkF m 251 #[.val (.ref ac), .val (.int nn)] [(.int (7 : Int32)), (.ref b474), (.ref b474)])) rfl (hb hby d9_251) rfl (by decide) (cap := 7) (by decide) (by decide) (by decide) (by decide)
                  obtain ⟨b482, g482⟩ : ∃ z, z = h474.size := ⟨_, rfl⟩
                  rw [← g482] at A482 st482
                  refine Go.via st482 ?_
                  have ne484 : ac ≠ b482 := Nat.ne_of_lt (Nat.lt_of_lt_of_le F483.lt (Nat.le_of_eq g482.symm))
                  have ne485 : b474 ≠ b482 := Nat.ne_of_lt (Nat.lt_of_lt_of_le A474.lt (Nat.le_of_eq g482.symm))
                  have g486 : n0 ≤ b482 := Nat.le_trans Z478 (Nat.le_of_eq g482.symm)
                  have sz487 : h0.size ≤ b482 := Nat.le_trans K479.1 (Nat.le_of_eq g482.symm)
                  have Z488 : n0 ≤ h482.size := Nat.le_trans Z478 E482.1
                  have K489 : Keep h0 h482 [] := K479.ext E482
                  have O490 : Old Z n0 h482 := O480.ext E482
                  have CR491 := CHr.trans CR481 (CHr.ext E482 CR481.1)
                  have V482 : Arv Z h482 b482 k482 .char (7 : Int32) [(.int (0 : Int32)), (.int (0 : Int32)), (.int (0 : Int32)), (.int (0 : Int32)), (.int (0 : Int32)), (.int (0 : Int32)), (.int (0 : Int32))] (.int (0 : Int32)) := (Arv.new A482 (by decide)).pad (pad_rep [] (.int (0 : Int32)) 7)
                  show Go p.tables e below P T482 (mkF m 253 #[.val (.ref ac), .val (.int nn)] [(.ref b482), (.ref b474), (.ref b474)])
                  refine Go.via (fun t k => XS.dup X482.here hx rfl (hb hby d9_253) rfl rfl k) ?_
                  refine Go.via (fun t k => XS.iconst X482.here hx rfl (hb hby d9_254) k) ?_
                  refine Go.via (fun t k => XS.aloadN X482.here hx rfl (hb hby d9_255) rfl rfl k) ?_
                  show Go p.tables e below P T482 (mkF m 256 #[.val (.ref ac), .val (.int nn)] [(.ref ac), (.int (0 : Int32)), (.ref b482), (.ref b482), (.ref b474), (.ref b474)])
                  refine Go.via (fun t k => XS.iconst X482.here hx rfl (hb hby d9_256) k) ?_
                  show Go p.tables e below P T482 (mkF m 257 #[.val (.ref ac), .val (.int nn)] [(.int (0 : Int32)), (.ref ac), (.int (0 : Int32)), (.ref b482), (.ref b482), (.ref b474), (.ref b474)])
                  have F492 : Arv Z h482 ac kc .char (8 : Int32) (cl.map Value.int) (.int (0 : Int32)) := (F483.ext E482)
                  obtain ⟨c493, A493, q493, S493, N493, H493, G493⟩ := id F492
                  have hin493 : ¬ ((0 : Int32) < 0 ∨ c493.slots.size ≤ ((0 : Int32)).toNatClampNeg) := inb_of S493 ⟨by decide, by decide⟩
                  have hat493 : c493.slots[((0 : Int32)).toNatClampNeg]? = some (.int (cl.getD 0 0)) := (H493 _ (Nat.lt_of_not_le fun q => hin493 (Or.inr q))).trans (congrArg some (own_gD cl 0))
                  refine Go.via (fun t k => X482.caload hx (j := (0 : Int32)) (v := (.int (cl.getD 0 0))) (by rw [e482]; exact A493.1) (State.isArrayOf_alike hZ.alike A493.2.1) A493.2.2 hin493 hat493 (g := (mkF m 257 #[.val (.ref ac), .val (.int nn)] [(.int (0 : Int32)), (.ref ac), (.int (0 : Int32)), (.ref b482), (.ref b482), (.ref b474), (.ref b474)])) rfl rfl (hb hby d9_257) t k) ?_
                  show Go p.tables e below P T482 (mkF m 258 #[.val (.ref ac), .val (.int nn)] [(.int (cl.getD 0 0)), (.int (0 : Int32)), (.ref b482), (.ref b482), (.ref b474), (.ref b474)])
                  have F494 : Exa Z h482 b474 "java/lang/String" := (A474.ext E482)
                  have F495 : Fld Z h482 b474 "java/lang/String" "value" "[B" .null := ((D474 (Or.inr (hw _ (List.mem_of_getElem? (i := 4) rfl))) (ty := (.array .byte)) (by decide) : Fld Z h474 b474 "java/lang/String" "value" "[B" .null).ext E482)
                  have F496 : Fld Z h482 b474 "java/lang/String" "coder" "B" (.int (0 : Int32)) := ((D474 (Or.inr (hw _ (List.mem_of_getElem? (i := 5) rfl))) (ty := .byte) (by decide) : Fld Z h474 b474 "java/lang/String" "coder" "B" (.int (0 : Int32))).ext E482)
                  obtain ⟨c497, A497, q497, S497, N497, H497, G497⟩ := id V482
                  have hin497 : ¬ ((0 : Int32) < 0 ∨ c497.slots.size ≤ ((0 : Int32)).toNatClampNeg) := inb_of S497 ⟨by decide, by decide⟩
                  obtain ⟨T497, h497, X497, e497, W497, st497⟩ := stC X482 hx hZ e482 A497 (j := (0 : Int32)) hin497 (g := (mkF m 258 #[.val (.ref ac), .val (.int nn)] [(.int (cl.getD 0 0)), (.int (0 : Int32)), (.ref b482), (.ref b482), (.ref b474), (.ref b474)])) rfl rfl (hb hby d9_258)
                  refine Go.via st497 ?_
                  have Z498 : n0 ≤ h497.size := Nat.le_trans Z488 (Nat.le_of_eq W497.size.symm)
                  have K499 : Keep h0 h497 [] := K489.wr W497 (Or.inr sz487)
                  obtain ⟨lc497, Xh497, N500⟩ := own_hide X497 (Fr.snoc X497 N0 g486)
                  clear X497
                  have O501 : Old Z n0 h497 := O490.wr W497 g486
                  have Sf497 := Safe.wr W497 (Safe.arv hZ.alike V482 (by decide)) CR491.1 (Safe.arv hZ.alike V482 (by decide))
                  have CR502 := CHr.trans CR491 (CHr.wr W497 (Safe.arv hZ.alike V482 (by decide)) CR491.1)
                  have V497 : Arv Z h497 b482 k482 .char (7 : Int32) [(.int (nar .char (cl.getD 0 0))), (.int (0 : Int32)), (.int (0 : Int32)), (.int (0 : Int32)), (.int (0 : Int32)), (.int (0 : Int32)), (.int (0 : Int32))] (.int (0 : Int32)) := Arv.set A497 q497 S497 N497 H497 G497 (fits_nar_char _) W497 0 rfl (Nat.le_of_ble_eq_true rfl)
                  show Go p.tables e below P T497 (mkF m 259 #[.val (.ref ac), .val (.int nn)] [(.ref b482), (.ref b474), (.ref b474)])
                  refine Go.via (fun t k => XS.dup Xh497.here hx rfl (hb hby d9_259) rfl rfl k) ?_
                  refine Go.via (fun t k => XS.iconst Xh497.here hx rfl (hb hby d9_260) k) ?_
                  refine Go.via (fun t k => XS.aloadN Xh497.here hx rfl (hb hby d9_261) rfl rfl k) ?_
                  show Go p.tables e below P T497 (mkF m 262 #[.val (.ref ac), .val (.int nn)] [(.ref ac), (.int (1 : Int32)), (.ref b482), (.ref b482), (.ref b474), (.ref b474)])
                  refine Go.via (fun t k => XS.iconst Xh497.here hx rfl (hb hby d9_262) k) ?_
                  show Go p.tables e below P T497 (mkF m 263 #[.val (.ref ac), .val (.int nn)] [(.int (1 : Int32)), (.ref ac), (.int (1 : Int32)), (.ref b482), (.ref b482), (.ref b474), (.ref b474)])
                  have F503 : Arv Z h497 ac kc .char (8 : Int32) (cl.map Value.int) (.int (0 : Int32)) := (F492.other W497 ne484)
                  obtain ⟨c504, A504, q504, S504, N504, H504, G504⟩ := id F503
                  have hin504 : ¬ ((1 : Int32) < 0 ∨ c504.slots.size ≤ ((1 : Int32)).toNatClampNeg) := inb_of S504 ⟨by decide, by decide⟩
                  have hat504 : c504.slots[((1 : Int32)).toNatClampNeg]? = some (.int (cl.getD 1 0)) := (H504 _ (Nat.lt_of_not_le fun q => hin504 (Or.inr q))).trans (congrArg some (own_gD cl 1))
                  refine Go.via (fun t k => Xh497.caload hx (j := (1 : Int32)) (v := (.int (cl.getD 1 0))) (by rw [e497]; exact A504.1) (State.isArrayOf_alike hZ.alike A504.2.1) A504.2.2 hin504 hat504 (g := (mkF m 263 #[.val (.ref ac), .val (.int nn)] [(.int (1 : Int32)), (.ref ac), (.int (1 : Int32)), (.ref b482), (.ref b482), (.ref b474), (.ref b474)])) rfl rfl (hb hby d9_263) t k) ?_
                  show Go p.tables e below P T497 (mkF m 264 #[.val (.ref ac), .val (.int nn)] [(.int (cl.getD 1 0)), (.int (1 : Int32)), (.ref b482), (.ref b482), (.ref b474), (.ref b474)])
                  have F505 : Exa Z h497 b474 "java/lang/String" := (F494.wr W497)
                  have F506 : Fld Z h497 b474 "java/lang/String" "value" "[B" .null := (F495.other W497 (Or.inl ne485))
                  have F507 : Fld Z h497 b474 "java/lang/String" "coder" "B" (.int (0 : Int32)) := (F496.other W497 (Or.inl ne485))
                  obtain ⟨c508, A508, q508, S508, N508, H508, G508⟩ := id V497
                  have hin508 : ¬ ((1 : Int32) < 0 ∨ c508.slots.size ≤ ((1 : Int32)).toNatClampNeg) := inb_of S508 ⟨by decide, by decide⟩
                  obtain ⟨T508, h508, X508, e508, W508, st508⟩ := stC Xh497 hx hZ e497 A508 (j := (1 : Int32)) hin508 (g := (mkF m 264 #[.val (.ref ac), .val (.int nn)] [(.int (cl.getD 1 0)), (.int (1 : Int32)), (.ref b482), (.ref b482), (.ref b474), (.ref b474)])) rfl rfl (hb hby d9_264)
                  refine Go.via st508 ?_
                  have Z509 : n0 ≤ h508.size := Nat.le_trans Z498 (Nat.le_of_eq W508.size.symm)
                  have K510 : Keep h0 h508 [] := K499.wr W508 (Or.inr sz487)
                  obtain ⟨lc508, Xh508, N511⟩ := own_hide X508 (Fr.snoc X508 N500 g486)
                  clear X508
                  have O512 : Old Z n0 h508 := O501.wr W508 g486
                  have Sf508 := Safe.wr W508 (Safe.arv hZ.alike V497 (by decide)) CR502.1 (Safe.arv hZ.alike V497 (by decide))
                  have CR513 := CHr.trans CR502 (CHr.wr W508 (Safe.arv hZ.alike V497 (by decide)) CR502.1)
                  have V508 : Arv Z h508 b482 k482 .char (7 : Int32) [(.int (nar .char (cl.getD 0 0))), (.int (nar .char (cl.getD 1 0))), (.int (0 : Int32)), (.int (0 : Int32)), (.int (0 : Int32)), (.int (0 : Int32)), (.int (0 : Int32))] (.int (0 : Int32)) := Arv.set A508 q508 S508 N508 H508 G508 (fits_nar_char _) W508 1 rfl (Nat.le_of_ble_eq_true rfl)
                  show Go p.tables e below P T508 (mkF m 265 #[.val (.ref ac), .val (.int nn)] [(.ref b482), (.ref b474), (.ref b474)])
                  refine Go.via (fun t k => XS.dup Xh508.here hx rfl (hb hby d9_265) rfl rfl k) ?_
                  refine Go.via (fun t k => XS.iconst Xh508.here hx rfl (hb hby d9_266) k) ?_
                  refine Go.via (fun t k => XS.aloadN Xh508.here hx rfl (hb hby d9_267) rfl rfl k) ?_
                  show Go p.tables e below P T508 (mkF m 268 #[.val (.ref ac), .val (.int nn)] [(.ref ac), (.int (2 : Int32)), (.ref b482), (.ref b482), (.ref b474), (.ref b474)])
                  refine Go.via (fun t k => XS.iconst Xh508.here hx rfl (hb hby d9_268) k) ?_
                  show Go p.tables e below P T508 (mkF m 269 #[.val (.ref ac), .val (.int nn)] [(.int (2 : Int32)), (.ref ac), (.int (2 : Int32)), (.ref b482), (.ref b482), (.ref b474), (.ref b474)])
                  have F514 : Arv Z h508 ac kc .char (8 : Int32) (cl.map Value.int) (.int (0 : Int32)) := (F503.other W508 ne484)
                  obtain ⟨c515, A515, q515, S515, N515, H515, G515⟩ := id F514
                  have hin515 : ¬ ((2 : Int32) < 0 ∨ c515.slots.size ≤ ((2 : Int32)).toNatClampNeg) := inb_of S515 ⟨by decide, by decide⟩
                  have hat515 : c515.slots[((2 : Int32)).toNatClampNeg]? = some (.int (cl.getD 2 0)) := (H515 _ (Nat.lt_of_not_le fun q => hin515 (Or.inr q))).trans (congrArg some (own_gD cl 2))
                  refine Go.via (fun t k => Xh508.caload hx (j := (2 : Int32)) (v := (.int (cl.getD 2 0))) (by rw [e508]; exact A515.1) (State.isArrayOf_alike hZ.alike A515.2.1) A515.2.2 hin515 hat515 (g := (mkF m 269 #[.val (.ref ac), .val (.int nn)] [(.int (2 : Int32)), (.ref ac), (.int (2 : Int32)), (.ref b482), (.ref b482), (.ref b474), (.ref b474)])) rfl rfl (hb hby d9_269) t k) ?_
                  show Go p.tables e below P T508 (mkF m 270 #[.val (.ref ac), .val (.int nn)] [(.int (cl.getD 2 0)), (.int (2 : Int32)), (.ref b482), (.ref b482), (.ref b474), (.ref b474)])
                  have F516 : Exa Z h508 b474 "java/lang/String" := (F505.wr W508)
                  have F517 : Fld Z h508 b474 "java/lang/String" "value" "[B" .null := (F506.other W508 (Or.inl ne485))
                  have F518 : Fld Z h508 b474 "java/lang/String" "coder" "B" (.int (0 : Int32)) := (F507.other W508 (Or.inl ne485))
                  obtain ⟨c519, A519, q519, S519, N519, H519, G519⟩ := id V508
                  have hin519 : ¬ ((2 : Int32) < 0 ∨ c519.slots.size ≤ ((2 : Int32)).toNatClampNeg) := inb_of S519 ⟨by decide, by decide⟩
                  obtain ⟨T519, h519, X519, e519, W519, st519⟩ := stC Xh508 hx hZ e508 A519 (j := (2 : Int32)) hin519 (g := (mkF m 270 #[.val (.ref ac), .val (.int nn)] [(.int (cl.getD 2 0)), (.int (2 : Int32)), (.ref b482), (.ref b482), (.ref b474), (.ref b474)])) rfl rfl (hb hby d9_270)
                  refine Go.via st519 ?_
                  have Z520 : n0 ≤ h519.size := Nat.le_trans Z509 (Nat.le_of_eq W519.size.symm)
                  have K521 : Keep h0 h519 [] := K510.wr W519 (Or.inr sz487)
                  obtain ⟨lc519, Xh519, N522⟩ := own_hide X519 (Fr.snoc X519 N511 g486)
                  clear X519
                  have O523 : Old Z n0 h519 := O512.wr W519 g486
                  have Sf519 := Safe.wr W519 (Safe.arv hZ.alike V508 (by decide)) CR513.1 (Safe.arv hZ.alike V508 (by decide))
                  have CR524 := CHr.trans CR513 (CHr.wr W519 (Safe.arv hZ.alike V508 (by decide)) CR513.1)
                  have V519 : Arv Z h519 b482 k482 .char (7 : Int32) [(.int (nar .char (cl.getD 0 0))), (.int (nar .char (cl.getD 1 0))), (.int (nar .char (cl.getD 2 0))), (.int (0 : Int32)), (.int (0 : Int32)), (.int (0 : Int32)), (.int (0 : Int32))] (.int (0 : Int32)) := Arv.set A519 q519 S519 N519 H519 G519 (fits_nar_char _) W519 2 rfl (Nat.le_of_ble_eq_true rfl)
                  show Go p.tables e below P T519 (mkF m 271 #[.val (.ref ac), .val (.int nn)] [(.ref b482), (.ref b474), (.ref b474)])
                  refine Go.via (fun t k => XS.dup Xh519.here hx rfl (hb hby d9_271) rfl rfl k) ?_
                  refine Go.via (fun t k => XS.iconst Xh519.here hx rfl (hb hby d9_272) k) ?_
                  refine Go.via (fun t k => XS.aloadN Xh519.here hx rfl (hb hby d9_273) rfl rfl k) ?_
                  show Go p.tables e below P T519 (mkF m 274 #[.val (.ref ac), .val (.int nn)] [(.ref ac), (.int (3 : Int32)), (.ref b482), (.ref b482), (.ref b474), (.ref b474)])
                  refine Go.via (fun t k => XS.iconst Xh519.here hx rfl (hb hby d9_274) k) ?_
                  show Go p.tables e below P T519 (mkF m 275 #[.val (.ref ac), .val (.int nn)] [(.int (3 : Int32)), (.ref ac), (.int (3 : Int32)), (.ref b482), (.ref b482), (.ref b474), (.ref b474)])
                  have F525 : Arv Z h519 ac kc .char (8 : Int32) (cl.map Value.int) (.int (0 : Int32)) := (F514.other W519 ne484)
                  obtain ⟨c526, A526, q526, S526, N526, H526, G526⟩ := id F525
                  have hin526 : ¬ ((3 : Int32) < 0 ∨ c526.slots.size ≤ ((3 : Int32)).toNatClampNeg) := inb_of S526 ⟨by decide, by decide⟩
                  have hat526 : c526.slots[((3 : Int32)).toNatClampNeg]? = some (.int (cl.getD 3 0)) := (H526 _ (Nat.lt_of_not_le fun q => hin526 (Or.inr q))).trans (congrArg some (own_gD cl 3))
                  refine Go.via (fun t k => Xh519.caload hx (j := (3 : Int32)) (v := (.int (cl.getD 3 0))) (by rw [e519]; exact A526.1) (State.isArrayOf_alike hZ.alike A526.2.1) A526.2.2 hin526 hat526 (g := (mkF m 275 #[.val (.ref ac), .val (.int nn)] [(.int (3 : Int32)), (.ref ac), (.int (3 : Int32)), (.ref b482), (.ref b482), (.ref b474), (.ref b474)])) rfl rfl (hb hby d9_275) t k) ?_
                  show Go p.tables e below P T519 (mkF m 276 #[.val (.ref ac), .val (.int nn)] [(.int (cl.getD 3 0)), (.int (3 : Int32)), (.ref b482), (.ref b482), (.ref b474), (.ref b474)])
                  have F527 : Exa Z h519 b474 "java/lang/String" := (F516.wr W519)
                  have F528 : Fld Z h519 b474 "java/lang/String" "value" "[B" .null := (F517.other W519 (Or.inl ne485))
                  have F529 : Fld Z h519 b474 "java/lang/String" "coder" "B" (.int (0 : Int32)) := (F518.other W519 (Or.inl ne485))
                  obtain ⟨c530, A530, q530, S530, N530, H530, G530⟩ := id V519
                  have hin530 : ¬ ((3 : Int32) < 0 ∨ c530.slots.size ≤ ((3 : Int32)).toNatClampNeg) := inb_of S530 ⟨by decide, by decide⟩
                  obtain ⟨T530, h530, X530, e530, W530, st530⟩ := stC Xh519 hx hZ e519 A530 (j := (3 : Int32)) hin530 (g := (mkF m 276 #[.val (.ref ac), .val (.int nn)] [(.int (cl.getD 3 0)), (.int (3 : Int32)), (.ref b482), (.ref b482), (.ref b474), (.ref b474)])) rfl rfl (hb hby d9_276)
                  refine Go.via st530 ?_
                  have Z531 : n0 ≤ h530.size := Nat.le_trans Z520 (Nat.le_of_eq W530.size.symm)
                  have K532 : Keep h0 h530 [] := K521.wr W530 (Or.inr sz487)
                  obtain ⟨lc530, Xh530, N533⟩ := own_hide X530 (Fr.snoc X530 N522 g486)
                  clear X530
                  have O534 : Old Z n0 h530 := O523.wr W530 g486
                  have Sf530 := Safe.wr W530 (Safe.arv hZ.alike V519 (by decide)) CR524.1 (Safe.arv hZ.alike V519 (by decide))
                  have CR535 := CHr.trans CR524 (CHr.wr W530 (Safe.arv hZ.alike V519 (by decide)) CR524.1)
                  have V530 : Arv Z h530 b482 k482 .char (7 : Int32) [(.int (nar .char (cl.getD 0 0))), (.int (nar .char (cl.getD 1 0))), (.int (nar .char (cl.getD 2 0))), (.int (nar .char (cl.getD 3 0))), (.int (0 : Int32)), (.int (0 : Int32)), (.int (0 : Int32))] (.int (0 : Int32)) := Arv.set A530 q530 S530 N530 H530 G530 (fits_nar_char _) W530 3 rfl (Nat.le_of_ble_eq_true rfl)
                  show Go p.tables e below P T530 (mkF m 277 #[.val (.ref ac), .val (.int nn)] [(.ref b482), (.ref b474), (.ref b474)])
                  refine Go.via (fun t k => XS.dup Xh530.here hx rfl (hb hby d9_277) rfl rfl k) ?_
                  refine Go.via (fun t k => XS.iconst Xh530.here hx rfl (hb hby d9_278) k) ?_
                  refine Go.via (fun t k => XS.aloadN Xh530.here hx rfl (hb hby d9_279) rfl rfl k) ?_
                  show Go p.tables e below P T530 (mkF m 280 #[.val (.ref ac), .val (.int nn)] [(.ref ac), (.int (4 : Int32)), (.ref b482), (.ref b482), (.ref b474), (.ref b474)])
                  refine Go.via (fun t k => XS.iconst Xh530.here hx rfl (hb hby d9_280) k) ?_
                  show Go p.tables e below P T530 (mkF m 281 #[.val (.ref ac), .val (.int nn)] [(.int (4 : Int32)), (.ref ac), (.int (4 : Int32)), (.ref b482), (.ref b482), (.ref b474), (.ref b474)])
                  have F536 : Arv Z h530 ac kc .char (8 : Int32) (cl.map Value.int) (.int (0 : Int32)) := (F525.other W530 ne484)
                  obtain ⟨c537, A537, q537, S537, N537, H537, G537⟩ := id F536
                  have hin537 : ¬ ((4 : Int32) < 0 ∨ c537.slots.size ≤ ((4 : Int32)).toNatClampNeg) := inb_of S537 ⟨by decide, by decide⟩
                  have hat537 : c537.slots[((4 : Int32)).toNatClampNeg]? = some (.int (cl.getD 4 0)) := (H537 _ (Nat.lt_of_not_le fun q => hin537 (Or.inr q))).trans (congrArg some (own_gD cl 4))
                  refine Go.via (fun t k => Xh530.caload hx (j := (4 : Int32)) (v := (.int (cl.getD 4 0))) (by rw [e530]; exact A537.1) (State.isArrayOf_alike hZ.alike A537.2.1) A537.2.2 hin537 hat537 (g := (mkF m 281 #[.val (.ref ac), .val (.int nn)] [(.int (4 : Int32)), (.ref ac), (.int (4 : Int32)), (.ref b482), (.ref b482), (.ref b474), (.ref b474)])) rfl rfl (hb hby d9_281) t k) ?_
                  show Go p.tables e below P T530 (mkF m 282 #[.val (.ref ac), .val (.int nn)] [(.int (cl.getD 4 0)), (.int (4 : Int32)), (.ref b482), (.ref b482), (.ref b474), (.ref b474)])
                  have F538 : Exa Z h530 b474 "java/lang/String" := (F527.wr W530)
                  have F539 : Fld Z h530 b474 "java/lang/String" "value" "[B" .null := (F528.other W530 (Or.inl ne485))
                  have F540 : Fld Z h530 b474 "java/lang/String" "coder" "B" (.int (0 : Int32)) := (F529.other W530 (Or.inl ne485))
                  obtain ⟨c541, A541, q541, S541, N541, H541, G541⟩ := id V530
                  have hin541 : ¬ ((4 : Int32) < 0 ∨ c541.slots.size ≤ ((4 : Int32)).toNatClampNeg) := inb_of S541 ⟨by decide, by decide⟩
                  obtain ⟨T541, h541, X541, e541, W541, st541⟩ := stC Xh530 hx hZ e530 A541 (j := (4 : Int32)) hin541 (g := (mkF m 282 #[.val (.ref ac), .val (.int nn)] [(.int (cl.getD 4 0)), (.int (4 : Int32)), (.ref b482), (.ref b482), (.ref b474), (.ref b474)])) rfl rfl (hb hby d9_282)
                  refine Go.via st541 ?_
                  have Z542 : n0 ≤ h541.size := Nat.le_trans Z531 (Nat.le_of_eq W541.size.symm)
                  have K543 : Keep h0 h541 [] := K532.wr W541 (Or.inr sz487)
                  obtain ⟨lc541, Xh541, N544⟩ := own_hide X541 (Fr.snoc X541 N533 g486)
                  clear X541
                  have O545 : Old Z n0 h541 := O534.wr W541 g486
                  have Sf541 := Safe.wr W541 (Safe.arv hZ.alike V530 (by decide)) CR535.1 (Safe.arv hZ.alike V530 (by decide))
                  have CR546 := CHr.trans CR535 (CHr.wr W541 (Safe.arv hZ.alike V530 (by decide)) CR535.1)
                  have V541 : Arv Z h541 b482 k482 .char (7 : Int32) [(.int (nar .char (cl.getD 0 0))), (.int (nar .char (cl.getD 1 0))), (.int (nar .char (cl.getD 2 0))), (.int (nar .char (cl.getD 3 0))), (.int (nar .char (cl.getD 4 0))), (.int (0 : Int32)), (.int (0 : Int32))] (.int (0 : Int32)) := Arv.set A541 q541 S541 N541 H541 G541 (fits_nar_char _) W541 4 rfl (Nat.le_of_ble_eq_true rfl)
                  show Go p.tables e below P T541 (mkF m 283 #[.val (.ref ac), .val (.int nn)] [(.ref b482), (.ref b474), (.ref b474)])
                  refine Go.via (fun t k => XS.dup Xh541.here hx rfl (hb hby d9_283) rfl rfl k) ?_
                  refine Go.via (fun t k => XS.iconst Xh541.here hx rfl (hb hby d9_284) k) ?_
                  refine Go.via (fun t k => XS.aloadN Xh541.here hx rfl (hb hby d9_285) rfl rfl k) ?_
                  show Go p.tables e below P T541 (mkF m 286 #[.val (.ref ac), .val (.int nn)] [(.ref ac), (.int (5 : Int32)), (.ref b482), (.ref b482), (.ref b474), (.ref b474)])
                  refine Go.via (fun t k => XS.iconst Xh541.here hx rfl (hb hby d9_286) k) ?_
                  show Go p.tables e below P T541 (mkF m 287 #[.val (.ref ac), .val (.int nn)] [(.int (5 : Int32)), (.ref ac), (.int (5 : Int32)), (.ref b482), (.ref b482), (.ref b474), (.ref b474)])
                  have F547 : Arv Z h541 ac kc .char (8 : Int32) (cl.map Value.int) (.int (0 : Int32)) := (F536.other W541 ne484)
                  obtain ⟨c548, A548, q548, S548, N548, H548, G548⟩ := id F547
                  have hin548 : ¬ ((5 : Int32) < 0 ∨ c548.slots.size ≤ ((5 : Int32)).toNatClampNeg) := inb_of S548 ⟨by decide, by decide⟩
                  have hat548 : c548.slots[((5 : Int32)).toNatClampNeg]? = some (.int (cl.getD 5 0)) := (H548 _ (Nat.lt_of_not_le fun q => hin548 (Or.inr q))).trans (congrArg some (own_gD cl 5))
                  refine Go.via (fun t k => Xh541.caload hx (j := (5 : Int32)) (v := (.int (cl.getD 5 0))) (by rw [e541]; exact A548.1) (State.isArrayOf_alike hZ.alike A548.2.1) A548.2.2 hin548 hat548 (g := (mkF m 287 #[.val (.ref ac), .val (.int nn)] [(.int (5 : Int32)), (.ref ac), (.int (5 : Int32)), (.ref b482), (.ref b482), (.ref b474), (.ref b474)])) rfl rfl (hb hby d9_287) t k) ?_
                  show Go p.tables e below P T541 (mkF m 288 #[.val (.ref ac), .val (.int nn)] [(.int (cl.getD 5 0)), (.int (5 : Int32)), (.ref b482), (.ref b482), (.ref b474), (.ref b474)])
                  have F549 : Exa Z h541 b474 "java/lang/String" := (F538.wr W541)
                  have F550 : Fld Z h541 b474 "java/lang/String" "value" "[B" .null := (F539.other W541 (Or.inl ne485))
                  have F551 : Fld Z h541 b474 "java/lang/String" "coder" "B" (.int (0 : Int32)) := (F540.other W541 (Or.inl ne485))
                  obtain ⟨c552, A552, q552, S552, N552, H552, G552⟩ := id V541
                  have hin552 : ¬ ((5 : Int32) < 0 ∨ c552.slots.size ≤ ((5 : Int32)).toNatClampNeg) := inb_of S552 ⟨by decide, by decide⟩
                  obtain ⟨T552, h552, X552, e552, W552, st552⟩ := stC Xh541 hx hZ e541 A552 (j := (5 : Int32)) hin552 (g := (mkF m 288 #[.val (.ref ac), .val (.int nn)] [(.int (cl.getD 5 0)), (.int (5 : Int32)), (.ref b482), (.ref b482), (.ref b474), (.ref b474)])) rfl rfl (hb hby d9_288)
                  refine Go.via st552 ?_
                  have Z553 : n0 ≤ h552.size := Nat.le_trans Z542 (Nat.le_of_eq W552.size.symm)
                  have K554 : Keep h0 h552 [] := K543.wr W552 (Or.inr sz487)
                  obtain ⟨lc552, Xh552, N555⟩ := own_hide X552 (Fr.snoc X552 N544 g486)
                  clear X552
                  have O556 : Old Z n0 h552 := O545.wr W552 g486
                  have Sf552 := Safe.wr W552 (Safe.arv hZ.alike V541 (by decide)) CR546.1 (Safe.arv hZ.alike V541 (by decide))
                  have CR557 := CHr.trans CR546 (CHr.wr W552 (Safe.arv hZ.alike V541 (by decide)) CR546.1)
                  have V552 : Arv Z h552 b482 k482 .char (7 : Int32) [(.int (nar .char (cl.getD 0 0))), (.int (nar .char (cl.getD 1 0))), (.int (nar .char (cl.getD 2 0))), (.int (nar .char (cl.getD 3 0))), (.int (nar .char (cl.getD 4 0))), (.int (nar .char (cl.getD 5 0))), (.int (0 : Int32))] (.int (0 : Int32)) := Arv.set A552 q552 S552 N552 H552 G552 (fits_nar_char _) W552 5 rfl (Nat.le_of_ble_eq_true rfl)
                  show Go p.tables e below P T552 (mkF m 289 #[.val (.ref ac), .val (.int nn)] [(.ref b482), (.ref b474), (.ref b474)])
                  refine Go.via (fun t k => XS.dup Xh552.here hx rfl (hb hby d9_289) rfl rfl k) ?_
                  refine Go.via (fun t k => XS.bipush Xh552.here hx rfl (hb hby d9_290) k) ?_
                  refine Go.via (fun t k => XS.aloadN Xh552.here hx rfl (hb hby d9_292) rfl rfl k) ?_
                  show Go p.tables e below P T552 (mkF m 293 #[.val (.ref ac), .val (.int nn)] [(.ref ac), (.int (6 : Int32)), (.ref b482), (.ref b482), (.ref b474), (.ref b474)])
                  refine Go.via (fun t k => XS.bipush Xh552.here hx rfl (hb hby d9_293) k) ?_
                  show Go p.tables e below P T552 (mkF m 295 #[.val (.ref ac), .val (.int nn)] [(.int (6 : Int32)), (.ref ac), (.int (6 : Int32)), (.ref b482), (.ref b482), (.ref b474), (.ref b474)])
                  have F558 : Arv Z h552 ac kc .char (8 : Int32) (cl.map Value.int) (.int (0 : Int32)) := (F547.other W552 ne484)
                  obtain ⟨c559, A559, q559, S559, N559, H559, G559⟩ := id F558
                  have hin559 : ¬ ((6 : Int32) < 0 ∨ c559.slots.size ≤ ((6 : Int32)).toNatClampNeg) := inb_of S559 ⟨by decide, by decide⟩
                  have hat559 : c559.slots[((6 : Int32)).toNatClampNeg]? = some (.int (cl.getD 6 0)) := (H559 _ (Nat.lt_of_not_le fun q => hin559 (Or.inr q))).trans (congrArg some (own_gD cl 6))
                  refine Go.via (fun t k => Xh552.caload hx (j := (6 : Int32)) (v := (.int (cl.getD 6 0))) (by rw [e552]; exact A559.1) (State.isArrayOf_alike hZ.alike A559.2.1) A559.2.2 hin559 hat559 (g := (mkF m 295 #[.val (.ref ac), .val (.int nn)] [(.int (6 : Int32)), (.ref ac), (.int (6 : Int32)), (.ref b482), (.ref b482), (.ref b474), (.ref b474)])) rfl rfl (hb hby d9_295) t k) ?_
                  show Go p.tables e below P T552 (mkF m 296 #[.val (.ref ac), .val (.int nn)] [(.int (cl.getD 6 0)), (.int (6 : Int32)), (.ref b482), (.ref b482), (.ref b474), (.ref b474)])
                  have F560 : Exa Z h552 b474 "java/lang/String" := (F549.wr W552)
                  have F561 : Fld Z h552 b474 "java/lang/String" "value" "[B" .null := (F550.other W552 (Or.inl ne485))
                  have F562 : Fld Z h552 b474 "java/lang/String" "coder" "B" (.int (0 : Int32)) := (F551.other W552 (Or.inl ne485))
                  obtain ⟨c563, A563, q563, S563, N563, H563, G563⟩ := id V552
                  have hin563 : ¬ ((6 : Int32) < 0 ∨ c563.slots.size ≤ ((6 : Int32)).toNatClampNeg) := inb_of S563 ⟨by decide, by decide⟩
                  obtain ⟨T563, h563, X563, e563, W563, st563⟩ := stC Xh552 hx hZ e552 A563 (j := (6 : Int32)) hin563 (g := (mkF m 296 #[.val (.ref ac), .val (.int nn)] [(.int (cl.getD 6 0)), (.int (6 : Int32)), (.ref b482), (.ref b482), (.ref b474), (.ref b474)])) rfl rfl (hb hby d9_296)
                  refine Go.via st563 ?_
                  have Z564 : n0 ≤ h563.size := Nat.le_trans Z553 (Nat.le_of_eq W563.size.symm)
                  have K565 : Keep h0 h563 [] := K554.wr W563 (Or.inr sz487)
                  obtain ⟨lc563, Xh563, N566⟩ := own_hide X563 (Fr.snoc X563 N555 g486)
                  clear X563
                  have O567 : Old Z n0 h563 := O556.wr W563 g486
                  have Sf563 := Safe.wr W563 (Safe.arv hZ.alike V552 (by decide)) CR557.1 (Safe.arv hZ.alike V552 (by decide))
                  have CR568 := CHr.trans CR557 (CHr.wr W563 (Safe.arv hZ.alike V552 (by decide)) CR557.1)
                  have V563 : Arv Z h563 b482 k482 .char (7 : Int32) [(.int (nar .char (cl.getD 0 0))), (.int (nar .char (cl.getD 1 0))), (.int (nar .char (cl.getD 2 0))), (.int (nar .char (cl.getD 3 0))), (.int (nar .char (cl.getD 4 0))), (.int (nar .char (cl.getD 5 0))), (.int (nar .char (cl.getD 6 0)))] (.int (0 : Int32)) := Arv.set A563 q563 S563 N563 H563 G563 (fits_nar_char _) W563 6 rfl (Nat.le_of_ble_eq_true rfl)
                  show Go p.tables e below P T563 (mkF m 297 #[.val (.ref ac), .val (.int nn)] [(.ref b482), (.ref b474), (.ref b474)])
                  have F569 : Exa Z h563 b474 "java/lang/String" := (F560.wr W563)
                  have F570 : Fld Z h563 b474 "java/lang/String" "value" "[B" .null := (F561.other W563 (Or.inl ne485))
                  have F571 : Fld Z h563 b474 "java/lang/String" "coder" "B" (.int (0 : Int32)) := (F562.other W563 (Or.inl ne485))
                  have F572 : Arv Z h563 ac kc .char (8 : Int32) (cl.map Value.int) (.int (0 : Int32)) := (F558.other W563 ne484)
                  obtain ⟨_, _, ⟨T573, L573, k573, n573⟩, -, X573, ⟨Lc573, hQ573, l573, y573, z573⟩, st573⟩ := Xh563.specialBack hx (y := (⟨"java/lang/String", "<init>", "([C)V"⟩ : MethodName)) rfl hown (mvT hZ (hw _ (List.mem_of_getElem? (i := 53) rfl))) (mvT hZ (hw _ (List.mem_of_getElem? (i := 54) rfl))) (mvT hZ (hw _ (List.mem_of_getElem? (i := 55) rfl))) (by decide) (StrChars.Road.backV (W := 1) hZ (own_ws hw) (kI := 4) (hw _ (List.mem_of_getElem? (i := 2) rfl)) (cs := ([(nar .char (cl.getD 0 0)), (nar .char (cl.getD 1 0)), (nar .char (cl.getD 2 0)), (nar .char (cl.getD 3 0)), (nar .char (cl.getD 4 0)), (nar .char (cl.getD 5 0)), (nar .char (cl.getD 6 0))] : List Int32)) (bs := ([((nar .char (cl.getD 0 0))).toInt8.toInt32, ((nar .char (cl.getD 1 0))).toInt8.toInt32, ((nar .char (cl.getD 2 0))).toInt8.toInt32, ((nar .char (cl.getD 3 0))).toInt8.toInt32, ((nar .char (cl.getD 4 0))).toInt8.toInt32, ((nar .char (cl.getD 5 0))).toInt8.toInt32, ((nar .char (cl.getD 6 0))).toInt8.toInt32] : List Int32)) (n := 7) g476 Z564 F569 F570 F571 V563 (P1.ext O567.2) hcs rfl rfl (by decide) (by decide) (own_alC (own_hp (hcl 0)) (own_alC (own_hp (hcl 1)) (own_alC (own_hp (hcl 2)) (own_alC (own_hp (hcl 3)) (own_alC (own_hp (hcl 4)) (own_alC (own_hp (hcl 5)) (own_alC (own_hp (hcl 6)) own_al0))))))) rfl (by decide) (by decide)) (g := (mkF m 297 #[.val (.ref ac), .val (.int nn)] [(.ref b482), (.ref b474), (.ref b474)])) rfl (by rw [hml]; rfl) (Steps.refl _) (a := b474) (argsL := [(.ref b482)]) (rest := [(.ref b474)]) (lenOf own_pd8 rfl) rfl (by show 2 * 0 + _ ≤ _; exact Nat.le_of_eq rfl) (hb hby d9_297) (fun _ _ => ⟨rfl, e563, (by decide : 2 + 1 ≤ _), (by decide : 11 + 7 ≤ _)⟩)
                  dsimp only [Pt.U, Pt.locs, Pt.cells, Pt.slots] at X573 l573 y573 z573 st573 hQ573
                  subst l573 y573 z573
                  obtain ⟨rfl, Nq573, K573, Ex573, Fc573, t573, kb573, -, lt573, ne573, Fv573, Va573⟩ := hQ573
                  obtain ⟨lc573, Xh573, N573⟩ := own_hide X573 (Fr.app N566 Nq573)
                  clear X573
                  refine Go.hop st573 ?_
                  have ne574 : ac ≠ t573 := Nat.ne_of_lt (Nat.lt_of_lt_of_le F572.lt lt573)
                  have ne575 : b474 ≠ t573 := Nat.ne_of_lt (Nat.lt_of_lt_of_le F569.lt lt573)
                  have ne576 : b482 ≠ t573 := Nat.ne_of_lt (Nat.lt_of_lt_of_le V563.lt lt573)
                  have g577 : n0 ≤ t573 := Nat.le_trans Z564 lt573
                  have sz578 : h0.size ≤ t573 := Nat.le_trans K565.1 lt573
                  have Z579 : n0 ≤ T573.heap.size := Nat.le_trans Z564 K573.1
                  have K580 : Keep h0 T573.heap [] := K565.trans K573 (own_allC (Or.inr sz477) own_all0)
                  have CR581 := CHr.trans CR568 (CHr.keep K573 (sfS (own_safeS hZ.alike F569 F570) sf0) CR568.1)
                  have O582 : Old Z n0 T573.heap := O567.keep K573 (own_allC g476 own_all0)
                  have Vt573 : Arv Z T573.heap t573 kb573 .byte (7 : Int32) [(.int ((nar .char (cl.getD 0 0))).toInt8.toInt32), (.int ((nar .char (cl.getD 1 0))).toInt8.toInt32), (.int ((nar .char (cl.getD 2 0))).toInt8.toInt32), (.int ((nar .char (cl.getD 3 0))).toInt8.toInt32), (.int ((nar .char (cl.getD 4 0))).toInt8.toInt32), (.int ((nar .char (cl.getD 5 0))).toInt8.toInt32), (.int ((nar .char (cl.getD 6 0))).toInt8.toInt32)] (.int (0 : Int32)) := Va573
                  show Go p.tables e below P T573 (mkF m 300 #[.val (.ref ac), .val (.int nn)] [(.ref b474)])
                  have Vr584 : Arv Z T573.heap t573 kb573 .byte (own_lg ([((nar .char (cl.getD 0 0))).toInt8.toInt32, ((nar .char (cl.getD 1 0))).toInt8.toInt32, ((nar .char (cl.getD 2 0))).toInt8.toInt32, ((nar .char (cl.getD 3 0))).toInt8.toInt32, ((nar .char (cl.getD 4 0))).toInt8.toInt32, ((nar .char (cl.getD 5 0))).toInt8.toInt32, ((nar .char (cl.getD 6 0))).toInt8.toInt32] : List Int32)) (([((nar .char (cl.getD 0 0))).toInt8.toInt32, ((nar .char (cl.getD 1 0))).toInt8.toInt32, ((nar .char (cl.getD 2 0))).toInt8.toInt32, ((nar .char (cl.getD 3 0))).toInt8.toInt32, ((nar .char (cl.getD 4 0))).toInt8.toInt32, ((nar .char (cl.getD 5 0))).toInt8.toInt32, ((nar .char (cl.getD 6 0))).toInt8.toInt32] : List Int32).map Value.int) (.int (0 : Int32)) := by
                    rw [show own_lg ([((nar .char (cl.getD 0 0))).toInt8.toInt32, ((nar .char (cl.getD 1 0))).toInt8.toInt32, ((nar .char (cl.getD 2 0))).toInt8.toInt32, ((nar .char (cl.getD 3 0))).toInt8.toInt32, ((nar .char (cl.getD 4 0))).toInt8.toInt32, ((nar .char (cl.getD 5 0))).toInt8.toInt32, ((nar .char (cl.getD 6 0))).toInt8.toInt32] : List Int32) = (7 : Int32) from rfl]; exact Vt573
                  obtain ⟨fs, hr, hrun, hended, hend⟩ := Xh573.leaveW hS0 (by exact (Nat.zero_le _)) (v := some (.ref b474)) (fun h => by rw [Bd.returns] at h; cases h)
                  have hCf : CHr Z consts_1 s.vm s.heap (T573.setFrames fs).vm (T573.setFrames fs).heap := by
                    rw [hh]
                    show CHr Z consts_1 s.vm h0 T573.vm T573.heap
                    exact CHr.trans CR581 (CHv.at Xh573 hZ (own_EW hw) CR581.1)
                  refine ⟨_, _, retA Xh573 hx Bd.returns rfl rfl rfl (hb hby d9_300) hr, hrun, hended, hP _ _ ⟨_, _, rfl, ?_, hCf, own_rew hend (by decide) (by decide)⟩⟩
                  show Q9 Z ac nn kc cl cs h0 n0 _ T573.heap _
                  exact ⟨b474, t573, kb573, ([((nar .char (cl.getD 0 0))).toInt8.toInt32, ((nar .char (cl.getD 1 0))).toInt8.toInt32, ((nar .char (cl.getD 2 0))).toInt8.toInt32, ((nar .char (cl.getD 3 0))).toInt8.toInt32, ((nar .char (cl.getD 4 0))).toInt8.toInt32, ((nar .char (cl.getD 5 0))).toInt8.toInt32, ((nar .char (cl.getD 6 0))).toInt8.toInt32] : List Int32), rfl, N573, K580, sz477, Ex573, Fv573, Fc573, Vr584, (by simp), Vr584.lt, ne575⟩
                · refine Go.via (fun t k => XS.icmpYes X0.here hx rfl (pc0 := 242) (pc' := 301) rfl (hb hby d9_242) rfl (feq hc473).2 (by decide) (by decide) k) ?_
                  show Go p.tables e below P s₁ (mkF m 301 #[.val (.ref ac), .val (.int nn)] [])
                  obtain ⟨T585, h585, X585, e585, E585, A585, D585, -, st585⟩ := newO X0 hx hZ hown (hw _ (List.mem_of_getElem? (i := 52) rfl)) (hw _ (List.mem_of_getElem? (i := 2) rfl)) (hw _ (List.mem_of_getElem? (i := 1) rfl)) e0 (g := (mkF m 301 #[.val (.ref ac), .val (.int nn)] [])) rfl (hb hby d9_301) (by decide) (by decide)
                  obtain ⟨b585, g585⟩ : ∃ z, z = h0.size := ⟨_, rfl⟩
                  rw [← g585] at A585 D585 st585
                  refine Go.via st585 ?_
                  have ne586 : ac ≠ b585 := Nat.ne_of_lt (Nat.lt_of_lt_of_le P3.lt (Nat.le_of_eq g585.symm))
                  have g587 : n0 ≤ b585 := Nat.le_trans Z0 (Nat.le_of_eq g585.symm)
                  have sz588 : h0.size ≤ b585 := Nat.le_trans K0.1 (Nat.le_of_eq g585.symm)
                  have Z589 : n0 ≤ h585.size := Nat.le_trans Z0 E585.1
                  have K590 : Keep h0 h585 [] := K0.ext E585
                  have O591 : Old Z n0 h585 := O0.ext E585
                  have CR592 := CHr.trans CR0 (CHr.ext E585 CR0.1)
                  show Go p.tables e below P T585 (mkF m 304 #[.val (.ref ac), .val (.int nn)] [(.ref b585)])
                  refine Go.via (fun t k => XS.dup X585.here hx rfl (hb hby d9_304) rfl rfl k) ?_
                  refine Go.via (fun t k => XS.bipush X585.here hx rfl (hb hby d9_305) k) ?_
                  show Go p.tables e below P T585 (mkF m 307 #[.val (.ref ac), .val (.int nn)] [(.int (8 : Int32)), (.ref b585), (.ref b585)])
                  have F594 : Arv Z h585 ac kc .char (8 : Int32) (cl.map Value.int) (.int (0 : Int32)) := (P3.ext E585)
                  obtain ⟨T593, h593, k593, X593, e593, E593, A593, st593⟩ := newP X585 hx hZ (hw _ (List.mem_of_getElem? (i := 8) rfl)) e585 (g := (mkF m 307 #[.val (.ref ac), .val (.int nn)] [(.int (8 : Int32)), (.ref b585), (.ref b585)])) rfl (hb hby d9_307) rfl (by decide) (cap := 8) (by decide) (by decide) (by decide) (by decide)
                  obtain ⟨b593, g593⟩ : ∃ z, z = h585.size := ⟨_, rfl⟩
                  rw [← g593] at A593 st593
                  refine Go.via st593 ?_
                  have ne595 : ac ≠ b593 := Nat.ne_of_lt (Nat.lt_of_lt_of_le F594.lt (Nat.le_of_eq g593.symm))
                  have ne596 : b585 ≠ b593 := Nat.ne_of_lt (Nat.lt_of_lt_of_le A585.lt (Nat.le_of_eq g593.symm))
                  have g597 : n0 ≤ b593 := Nat.le_trans Z589 (Nat.le_of_eq g593.symm)
                  have sz598 : h0.size ≤ b593 := Nat.le_trans K590.1 (Nat.le_of_eq g593.symm)
                  have Z599 : n0 ≤ h593.size := Nat.le_trans Z589 E593.1
                  have K600 : Keep h0 h593 [] := K590.ext E593
                  have O601 : Old Z n0 h593 := O591.ext E593
                  have CR602 := CHr.trans CR592 (CHr.ext E593 CR592.1)
                  have V593 : Arv Z h593 b593 k593 .char (8 : Int32) [(.int (0 : Int32)), (.int (0 : Int32)), (.int (0 : Int32)), (.int (0 : Int32)), (.int (0 : Int32)), (.int (0 : Int32)), (.int (0 : Int32)), (.int (0 : Int32))] (.int (0 : Int32)) := (Arv.new A593 (by decide)).pad (pad_rep [] (.int (0 : Int32)) 8)
                  show Go p.tables e below P T593 (mkF m 309 #[.val (.ref ac), .val (.int nn)] [(.ref b593), (.ref b585), (.ref b585)])
                  refine Go.via (fun t k => XS.dup X593.here hx rfl (hb hby d9_309) rfl rfl k) ?_
                  refine Go.via (fun t k => XS.iconst X593.here hx rfl (hb hby d9_310) k) ?_
                  refine Go.via (fun t k => XS.aloadN X593.here hx rfl (hb hby d9_311) rfl rfl k) ?_
                  show Go p.tables e below P T593 (mkF m 312 #[.val (.ref ac), .val (.int nn)] [(.ref ac), (.int (0 : Int32)), (.ref b593), (.ref b593), (.ref b585), (.ref b585)])
                  refine Go.via (fun t k => XS.iconst X593.here hx rfl (hb hby d9_312) k) ?_
                  show Go p.tables e below P T593 (mkF m 313 #[.val (.ref ac), .val (.int nn)] [(.int (0 : Int32)), (.ref ac), (.int (0 : Int32)), (.ref b593), (.ref b593), (.ref b585), (.ref b585)])
                  have F603 : Arv Z h593 ac kc .char (8 : Int32) (cl.map Value.int) (.int (0 : Int32)) := (F594.ext E593)
                  obtain ⟨c604, A604, q604, S604, N604, H604, G604⟩ := id F603
                  have hin604 : ¬ ((0 : Int32) < 0 ∨ c604.slots.size ≤ ((0 : Int32)).toNatClampNeg) := inb_of S604 ⟨by decide, by decide⟩
                  have hat604 : c604.slots[((0 : Int32)).toNatClampNeg]? = some (.int (cl.getD 0 0)) := (H604 _ (Nat.lt_of_not_le fun q => hin604 (Or.inr q))).trans (congrArg some (own_gD cl 0))
                  refine Go.via (fun t k => X593.caload hx (j := (0 : Int32)) (v := (.int (cl.getD 0 0))) (by rw [e593]; exact A604.1) (State.isArrayOf_alike hZ.alike A604.2.1) A604.2.2 hin604 hat604 (g := (mkF m 313 #[.val (.ref ac), .val (.int nn)] [(.int (0 : Int32)), (.ref ac), (.int (0 : Int32)), (.ref b593), (.ref b593), (.ref b585), (.ref b585)])) rfl rfl (hb hby d9_313) t k) ?_
                  show Go p.tables e below P T593 (mkF m 314 #[.val (.ref ac), .val (.int nn)] [(.int (cl.getD 0 0)), (.int (0 : Int32)), (.ref b593), (.ref b593), (.ref b585), (.ref b585)])
                  have F605 : Exa Z h593 b585 "java/lang/String" := (A585.ext E593)
                  have F606 : Fld Z h593 b585 "java/lang/String" "value" "[B" .null := ((D585 (Or.inr (hw _ (List.mem_of_getElem? (i := 4) rfl))) (ty := (.array .byte)) (by decide) : Fld Z h585 b585 "java/lang/String" "value" "[B" .null).ext E593)
                  have F607 : Fld Z h593 b585 "java/lang/String" "coder" "B" (.int (0 : Int32)) := ((D585 (Or.inr (hw _ (List.mem_of_getElem? (i := 5) rfl))) (ty := .byte) (by decide) : Fld Z h585 b585 "java/lang/String" "coder" "B" (.int (0 : Int32))).ext E593)
                  obtain ⟨c608, A608, q608, S608, N608, H608, G608⟩ := id V593
                  have hin608 : ¬ ((0 : Int32) < 0 ∨ c608.slots.size ≤ ((0 : Int32)).toNatClampNeg) := inb_of S608 ⟨by decide, by decide⟩
                  obtain ⟨T608, h608, X608, e608, W608, st608⟩ := stC X593 hx hZ e593 A608 (j := (0 : Int32)) hin608 (g := (mkF m 314 #[.val (.ref ac), .val (.int nn)] [(.int (cl.getD 0 0)), (.int (0 : Int32)), (.ref b593), (.ref b593), (.ref b585), (.ref b585)])) rfl rfl (hb hby d9_314)
                  refine Go.via st608 ?_
                  have Z609 : n0 ≤ h608.size := Nat.le_trans Z599 (Nat.le_of_eq W608.size.symm)
                  have K610 : Keep h0 h608 [] := K600.wr W608 (Or.inr sz598)
                  obtain ⟨lc608, Xh608, N611⟩ := own_hide X608 (Fr.snoc X608 N0 g597)
                  clear X608
                  have O612 : Old Z n0 h608 := O601.wr W608 g597
                  have Sf608 := Safe.wr W608 (Safe.arv hZ.alike V593 (by decide)) CR602.1 (Safe.arv hZ.alike V593 (by decide))
                  have CR613 := CHr.trans CR602 (CHr.wr W608 (Safe.arv hZ.alike V593 (by decide)) CR602.1)
                  have V608 : Arv Z h608 b593 k593 .char (8 : Int32) [(.int (nar .char (cl.getD 0 0))), (.int (0 : Int32)), (.int (0 : Int32)), (.int (0 : Int32)), (.int (0 : Int32)), (.int (0 : Int32)), (.int (0 : Int32)), (.int (0 : Int32))] (.int (0 : Int32)) := Arv.set A608 q608 S608 N608 H608 G608 (fits_nar_char _) W608 0 rfl (Nat.le_of_ble_eq_true rfl)
                  show Go p.tables e below P T608 (mkF m 315 #[.val (.ref ac), .val (.int nn)] [(.ref b593), (.ref b585), (.ref b585)])
                  refine Go.via (fun t k => XS.dup Xh608.here hx rfl (hb hby d9_315) rfl rfl k) ?_
                  refine Go.via (fun t k => XS.iconst Xh608.here hx rfl (hb hby d9_316) k) ?_
                  refine Go.via (fun t k => XS.aloadN Xh608.here hx rfl (hb hby d9_317) rfl rfl k) ?_
                  show Go p.tables e below P T608 (mkF m 318 #[.val (.ref ac), .val (.int nn)] [(.ref ac), (.int (1 : Int32)), (.ref b593), (.ref b593), (.ref b585), (.ref b585)])
                  refine Go.via (fun t k => XS.iconst Xh608.here hx rfl (hb hby d9_318) k) ?_
                  show Go p.tables e below P T608 (mkF m 319 #[.val (.ref ac), .val (.int nn)] [(.int (1 : Int32)), (.ref ac), (.int (1 : Int32)), (.ref b593), (.ref b593), (.ref b585), (.ref b585)])
                  have F614 : Arv Z h608 ac kc .char (8 : Int32) (cl.map Value.int) (.int (0 : Int32)) := (F603.other W608 ne595)
                  obtain ⟨c615, A615, q615, S615, N615, H615, G615⟩ := id F614
                  have hin615 : ¬ ((1 : Int32) < 0 ∨ c615.slots.size ≤ ((1 : Int32)).toNatClampNeg) := inb_of S615 ⟨by decide, by decide⟩
                  have hat615 : c615.slots[((1 : Int32)).toNatClampNeg]? = some (.int (cl.getD 1 0)) := (H615 _ (Nat.lt_of_not_le fun q => hin615 (Or.inr q))).trans (congrArg some (own_gD cl 1))
                  refine Go.via (fun t k => Xh608.caload hx (j := (1 : Int32)) (v := (.int (cl.getD 1 0))) (by rw [e608]; exact A615.1) (State.isArrayOf_alike hZ.alike A615.2.1) A615.2.2 hin615 hat615 (g := (mkF m 319 #[.val (.ref ac), .val (.int nn)] [(.int (1 : Int32)), (.ref ac), (.int (1 : Int32)), (.ref b593), (.ref b593), (.ref b585), (.ref b585)])) rfl rfl (hb hby d9_319) t k) ?_
                  show Go p.tables e below P T608 (mkF m 320 #[.val (.ref ac), .val (.int nn)] [(.int (cl.getD 1 0)), (.int (1 : Int32)), (.ref b593), (.ref b593), (.ref b585), (.ref b585)])
                  have F616 : Exa Z h608 b585 "java/lang/String" := (F605.wr W608)
                  have F617 : Fld Z h608 b585 "java/lang/String" "value" "[B" .null := (F606.other W608 (Or.inl ne596))
                  have F618 : Fld Z h608 b585 "java/lang/String" "coder" "B" (.int (0 : Int32)) := (F607.other W608 (Or.inl ne596))
                  obtain ⟨c619, A619, q619, S619, N619, H619, G619⟩ := id V608
                  have hin619 : ¬ ((1 : Int32) < 0 ∨ c619.slots.size ≤ ((1 : Int32)).toNatClampNeg) := inb_of S619 ⟨by decide, by decide⟩
                  obtain ⟨T619, h619, X619, e619, W619, st619⟩ := stC Xh608 hx hZ e608 A619 (j := (1 : Int32)) hin619 (g := (mkF m 320 #[.val (.ref ac), .val (.int nn)] [(.int (cl.getD 1 0)), (.int (1 : Int32)), (.ref b593), (.ref b593), (.ref b585), (.ref b585)])) rfl rfl (hb hby d9_320)
                  refine Go.via st619 ?_
                  have Z620 : n0 ≤ h619.size := Nat.le_trans Z609 (Nat.le_of_eq W619.size.symm)
                  have K621 : Keep h0 h619 [] := K610.wr W619 (Or.inr sz598)
                  obtain ⟨lc619, Xh619, N622⟩ := own_hide X619 (Fr.snoc X619 N611 g597)
                  clear X619
                  have O623 : Old Z n0 h619 := O612.wr W619 g597
                  have Sf619 := Safe.wr W619 (Safe.arv hZ.alike V608 (by decide)) CR613.1 (Safe.arv hZ.alike V608 (by decide))
                  have CR624 := CHr.trans CR613 (CHr.wr W619 (Safe.arv hZ.alike V608 (by decide)) CR613.1)
                  have V619 : Arv Z h619 b593 k593 .char (8 : Int32) [(.int (nar .char (cl.getD 0 0))), (.int (nar .char (cl.getD 1 0))), (.int (0 : Int32)), (.int (0 : Int32)), (.int (0 : Int32)), (.int (0 : Int32)), (.int (0 : Int32)), (.int (0 : Int32))] (.int (0 : Int32)) := Arv.set A619 q619 S619 N619 H619 G619 (fits_nar_char _) W619 1 rfl (Nat.le_of_ble_eq_true rfl)
                  show Go p.tables e below P T619 (mkF m 321 #[.val (.ref ac), .val (.int nn)] [(.ref b593), (.ref b585), (.ref b585)])
                  refine Go.via (fun t k => XS.dup Xh619.here hx rfl (hb hby d9_321) rfl rfl k) ?_
                  refine Go.via (fun t k => XS.iconst Xh619.here hx rfl (hb hby d9_322) k) ?_
                  refine Go.via (fun t k => XS.aloadN Xh619.here hx rfl (hb hby d9_323) rfl rfl k) ?_
                  show Go p.tables e below P T619 (mkF m 324 #[.val (.ref ac), .val (.int nn)] [(.ref ac), (.int (2 : Int32)), (.ref b593), (.ref b593), (.ref b585), (.ref b585)])
                  refine Go.via (fun t k => XS.iconst Xh619.here hx rfl (hb hby d9_324) k) ?_
                  show Go p.tables e below P T619 (mkF m 325 #[.val (.ref ac), .val (.int nn)] [(.int (2 : Int32)), (.ref ac), (.int (2 : Int32)), (.ref b593), (.ref b593), (.ref b585), (.ref b585)])
                  have F625 : Arv Z h619 ac kc .char (8 : Int32) (cl.map Value.int) (.int (0 : Int32)) := (F614.other W619 ne595)
                  obtain ⟨c626, A626, q626, S626, N626, H626, G626⟩ := id F625
                  have hin626 : ¬ ((2 : Int32) < 0 ∨ c626.slots.size ≤ ((2 : Int32)).toNatClampNeg) := inb_of S626 ⟨by decide, by decide⟩
                  have hat626 : c626.slots[((2 : Int32)).toNatClampNeg]? = some (.int (cl.getD 2 0)) := (H626 _ (Nat.lt_of_not_le fun q => hin626 (Or.inr q))).trans (congrArg some (own_gD cl 2))
                  refine Go.via (fun t k => Xh619.caload hx (j := (2 : Int32)) (v := (.int (cl.getD 2 0))) (by rw [e619]; exact A626.1) (State.isArrayOf_alike hZ.alike A626.2.1) A626.2.2 hin626 hat626 (g := (mkF m 325 #[.val (.ref ac), .val (.int nn)] [(.int (2 : Int32)), (.ref ac), (.int (2 : Int32)), (.ref b593), (.ref b593), (.ref b585), (.ref b585)])) rfl rfl (hb hby d9_325) t k) ?_
                  show Go p.tables e below P T619 (mkF m 326 #[.val (.ref ac), .val (.int nn)] [(.int (cl.getD 2 0)), (.int (2 : Int32)), (.ref b593), (.ref b593), (.ref b585), (.ref b585)])
                  have F627 : Exa Z h619 b585 "java/lang/String" := (F616.wr W619)
                  have F628 : Fld Z h619 b585 "java/lang/String" "value" "[B" .null := (F617.other W619 (Or.inl ne596))
                  have F629 : Fld Z h619 b585 "java/lang/String" "coder" "B" (.int (0 : Int32)) := (F618.other W619 (Or.inl ne596))
                  obtain ⟨c630, A630, q630, S630, N630, H630, G630⟩ := id V619
                  have hin630 : ¬ ((2 : Int32) < 0 ∨ c630.slots.size ≤ ((2 : Int32)).toNatClampNeg) := inb_of S630 ⟨by decide, by decide⟩
                  obtain ⟨T630, h630, X630, e630, W630, st630⟩ := stC Xh619 hx hZ e619 A630 (j := (2 : Int32)) hin630 (g := (mkF m 326 #[.val (.ref ac), .val (.int nn)] [(.int (cl.getD 2 0)), (.int (2 : Int32)), (.ref b593), (.ref b593), (.ref b585), (.ref b585)])) rfl rfl (hb hby d9_326)
                  refine Go.via st630 ?_
                  have Z631 : n0 ≤ h630.size := Nat.le_trans Z620 (Nat.le_of_eq W630.size.symm)
                  have K632 : Keep h0 h630 [] := K621.wr W630 (Or.inr sz598)
                  obtain ⟨lc630, Xh630, N633⟩ := own_hide X630 (Fr.snoc X630 N622 g597)
                  clear X630
                  have O634 : Old Z n0 h630 := O623.wr W630 g597
                  have Sf630 := Safe.wr W630 (Safe.arv hZ.alike V619 (by decide)) CR624.1 (Safe.arv hZ.alike V619 (by decide))
                  have CR635 := CHr.trans CR624 (CHr.wr W630 (Safe.arv hZ.alike V619 (by decide)) CR624.1)
                  have V630 : Arv Z h630 b593 k593 .char (8 : Int32) [(.int (nar .char (cl.getD 0 0))), (.int (nar .char (cl.getD 1 0))), (.int (nar .char (cl.getD 2 0))), (.int (0 : Int32)), (.int (0 : Int32)), (.int (0 : Int32)), (.int (0 : Int32)), (.int (0 : Int32))] (.int (0 : Int32)) := Arv.set A630 q630 S630 N630 H630 G630 (fits_nar_char _) W630 2 rfl (Nat.le_of_ble_eq_true rfl)
                  show Go p.tables e below P T630 (mkF m 327 #[.val (.ref ac), .val (.int nn)] [(.ref b593), (.ref b585), (.ref b585)])
                  refine Go.via (fun t k => XS.dup Xh630.here hx rfl (hb hby d9_327) rfl rfl k) ?_
                  refine Go.via (fun t k => XS.iconst Xh630.here hx rfl (hb hby d9_328) k) ?_
                  refine Go.via (fun t k => XS.aloadN Xh630.here hx rfl (hb hby d9_329) rfl rfl k) ?_
                  show Go p.tables e below P T630 (mkF m 330 #[.val (.ref ac), .val (.int nn)] [(.ref ac), (.int (3 : Int32)), (.ref b593), (.ref b593), (.ref b585), (.ref b585)])
                  refine Go.via (fun t k => XS.iconst Xh630.here hx rfl (hb hby d9_330) k) ?_
                  show Go p.tables e below P T630 (mkF m 331 #[.val (.ref ac), .val (.int nn)] [(.int (3 : Int32)), (.ref ac), (.int (3 : Int32)), (.ref b593), (.ref b593), (.ref b585), (.ref b585)])
                  have F636 : Arv Z h630 ac kc .char (8 : Int32) (cl.map Value.int) (.int (0 : Int32)) := (F625.other W630 ne595)
                  obtain ⟨c637, A637, q637, S637, N637, H637, G637⟩ := id F636
                  have hin637 : ¬ ((3 : Int32) < 0 ∨ c637.slots.size ≤ ((3 : Int32)).toNatClampNeg) := inb_of S637 ⟨by decide, by decide⟩
                  have hat637 : c637.slots[((3 : Int32)).toNatClampNeg]? = some (.int (cl.getD 3 0)) := (H637 _ (Nat.lt_of_not_le fun q => hin637 (Or.inr q))).trans (congrArg some (own_gD cl 3))
                  refine Go.via (fun t k => Xh630.caload hx (j := (3 : Int32)) (v := (.int (cl.getD 3 0))) (by rw [e630]; exact A637.1) (State.isArrayOf_alike hZ.alike A637.2.1) A637.2.2 hin637 hat637 (g := (mkF m 331 #[.val (.ref ac), .val (.int nn)] [(.int (3 : Int32)), (.ref ac), (.int (3 : Int32)), (.ref b593), (.ref b593), (.ref b585), (.ref b585)])) rfl rfl (hb hby d9_331) t k) ?_
                  show Go p.tables e below P T630 (mkF m 332 #[.val (.ref ac), .val (.int nn)] [(.int (cl.getD 3 0)), (.int (3 : Int32)), (.ref b593), (.ref b593), (.ref b585), (.ref b585)])
                  have F638 : Exa Z h630 b585 "java/lang/String" := (F627.wr W630)
                  have F639 : Fld Z h630 b585 "java/lang/String" "value" "[B" .null := (F628.other W630 (Or.inl ne596))
                  have F640 : Fld Z h630 b585 "java/lang/String" "coder" "B" (.int (0 : Int32)) := (F629.other W630 (Or.inl ne596))
                  obtain ⟨c641, A641, q641, S641, N641, H641, G641⟩ := id V630
                  have hin641 : ¬ ((3 : Int32) < 0 ∨ c641.slots.size ≤ ((3 : Int32)).toNatClampNeg) := inb_of S641 ⟨by decide, by decide⟩
                  obtain ⟨T641, h641, X641, e641, W641, st641⟩ := stC Xh630 hx hZ e630 A641 (j := (3 : Int32)) hin641 (g := (mkF m 332 #[.val (.ref ac), .val (.int nn)] [(.int (cl.getD 3 0)), (.int (3 : Int32)), (.ref b593), (.ref b593), (.ref b585), (.ref b585)])) rfl rfl (hb hby d9_332)
                  refine Go.via st641 ?_
                  have Z642 : n0 ≤ h641.size := Nat.le_trans Z631 (Nat.le_of_eq W641.size.symm)
                  have K643 : Keep h0 h641 [] := K632.wr W641 (Or.inr sz598)
                  obtain ⟨lc641, Xh641, N644⟩ := own_hide X641 (Fr.snoc X641 N633 g597)
                  clear X641
                  have O645 : Old Z n0 h641 := O634.wr W641 g597
                  have Sf641 := Safe.wr W641 (Safe.arv hZ.alike V630 (by decide)) CR635.1 (Safe.arv hZ.alike V630 (by decide))
                  have CR646 := CHr.trans CR635 (CHr.wr W641 (Safe.arv hZ.alike V630 (by decide)) CR635.1)
                  have V641 : Arv Z h641 b593 k593 .char (8 : Int32) [(.int (nar .char (cl.getD 0 0))), (.int (nar .char (cl.getD 1 0))), (.int (nar .char (cl.getD 2 0))), (.int (nar .char (cl.getD 3 0))), (.int (0 : Int32)), (.int (0 : Int32)), (.int (0 : Int32)), (.int (0 : Int32))] (.int (0 : Int32)) := Arv.set A641 q641 S641 N641 H641 G641 (fits_nar_char _) W641 3 rfl (Nat.le_of_ble_eq_true rfl)
                  show Go p.tables e below P T641 (mkF m 333 #[.val (.ref ac), .val (.int nn)] [(.ref b593), (.ref b585), (.ref b585)])
                  refine Go.via (fun t k => XS.dup Xh641.here hx rfl (hb hby d9_333) rfl rfl k) ?_
                  refine Go.via (fun t k => XS.iconst Xh641.here hx rfl (hb hby d9_334) k) ?_
                  refine Go.via (fun t k => XS.aloadN Xh641.here hx rfl (hb hby d9_335) rfl rfl k) ?_
                  show Go p.tables e below P T641 (mkF m 336 #[.val (.ref ac), .val (.int nn)] [(.ref ac), (.int (4 : Int32)), (.ref b593), (.ref b593), (.ref b585), (.ref b585)])
                  refine Go.via (fun t k => XS.iconst Xh641.here hx rfl (hb hby d9_336) k) ?_
                  show Go p.tables e below P T641 (mkF m 337 #[.val (.ref ac), .val (.int nn)] [(.int (4 : Int32)), (.ref ac), (.int (4 : Int32)), (.ref b593), (.ref b593), (.ref b585), (.ref b585)])
                  have F647 : Arv Z h641 ac kc .char (8 : Int32) (cl.map Value.int) (.int (0 : Int32)) := (F636.other W641 ne595)
                  obtain ⟨c648, A648, q648, S648, N648, H648, G648⟩ := id F647
                  have hin648 : ¬ ((4 : Int32) < 0 ∨ c648.slots.size ≤ ((4 : Int32)).toNatClampNeg) := inb_of S648 ⟨by decide, by decide⟩
                  have hat648 : c648.slots[((4 : Int32)).toNatClampNeg]? = some (.int (cl.getD 4 0)) := (H648 _ (Nat.lt_of_not_le fun q => hin648 (Or.inr q))).trans (congrArg some (own_gD cl 4))
                  refine Go.via (fun t k => Xh641.caload hx (j := (4 : Int32)) (v := (.int (cl.getD 4 0))) (by rw [e641]; exact A648.1) (State.isArrayOf_alike hZ.alike A648.2.1) A648.2.2 hin648 hat648 (g := (mkF m 337 #[.val (.ref ac), .val (.int nn)] [(.int (4 : Int32)), (.ref ac), (.int (4 : Int32)), (.ref b593), (.ref b593), (.ref b585), (.ref b585)])) rfl rfl (hb hby d9_337) t k) ?_
                  show Go p.tables e below P T641 (mkF m 338 #[.val (.ref ac), .val (.int nn)] [(.int (cl.getD 4 0)), (.int (4 : Int32)), (.ref b593), (.ref b593), (.ref b585), (.ref b585)])
                  have F649 : Exa Z h641 b585 "java/lang/String" := (F638.wr W641)
                  have F650 : Fld Z h641 b585 "java/lang/String" "value" "[B" .null := (F639.other W641 (Or.inl ne596))
                  have F651 : Fld Z h641 b585 "java/lang/String" "coder" "B" (.int (0 : Int32)) := (F640.other W641 (Or.inl ne596))
                  obtain ⟨c652, A652, q652, S652, N652, H652, G652⟩ := id V641
                  have hin652 : ¬ ((4 : Int32) < 0 ∨ c652.slots.size ≤ ((4 : Int32)).toNatClampNeg) := inb_of S652 ⟨by decide, by decide⟩
                  obtain ⟨T652, h652, X652, e652, W652, st652⟩ := stC Xh641 hx hZ e641 A652 (j := (4 : Int32)) hin652 (g := (mkF m 338 #[.val (.ref ac), .val (.int nn)] [(.int (cl.getD 4 0)), (.int (4 : Int32)), (.ref b593), (.ref b593), (.ref b585), (.ref b585)])) rfl rfl (hb hby d9_338)
                  refine Go.via st652 ?_
                  have Z653 : n0 ≤ h652.size := Nat.le_trans Z642 (Nat.le_of_eq W652.size.symm)
                  have K654 : Keep h0 h652 [] := K643.wr W652 (Or.inr sz598)
                  obtain ⟨lc652, Xh652, N655⟩ := own_hide X652 (Fr.snoc X652 N644 g597)
                  clear X652
                  have O656 : Old Z n0 h652 := O645.wr W652 g597
                  have Sf652 := Safe.wr W652 (Safe.arv hZ.alike V641 (by decide)) CR646.1 (Safe.arv hZ.alike V641 (by decide))
                  have CR657 := CHr.trans CR646 (CHr.wr W652 (Safe.arv hZ.alike V641 (by decide)) CR646.1)
                  have V652 : Arv Z h652 b593 k593 .char (8 : Int32) [(.int (nar .char (cl.getD 0 0))), (.int (nar .char (cl.getD 1 0))), (.int (nar .char (cl.getD 2 0))), (.int (nar .char (cl.getD 3 0))), (.int (nar .char (cl.getD 4 0))), (.int (0 : Int32)), (.int (0 : Int32)), (.int (0 : Int32))] (.int (0 : Int32)) := Arv.set A652 q652 S652 N652 H652 G652 (fits_nar_char _) W652 4 rfl (Nat.le_of_ble_eq_true rfl)
                  show Go p.tables e below P T652 (mkF m 339 #[.val (.ref ac), .val (.int nn)] [(.ref b593), (.ref b585), (.ref b585)])
                  refine Go.via (fun t k => XS.dup Xh652.here hx rfl (hb hby d9_339) rfl rfl k) ?_
                  refine Go.via (fun t k => XS.iconst Xh652.here hx rfl (hb hby d9_340) k) ?_
                  refine Go.via (fun t k => XS.aloadN Xh652.here hx rfl (hb hby d9_341) rfl rfl k) ?_
                  show Go p.tables e below P T652 (mkF m 342 #[.val (.ref ac), .val (.int nn)] [(.ref ac), (.int (5 : Int32)), (.ref b593), (.ref b593), (.ref b585), (.ref b585)])
                  refine Go.via (fun t k => XS.iconst Xh652.here hx rfl (hb hby d9_342) k) ?_
                  show Go p.tables e below P T652 (mkF m 343 #[.val (.ref ac), .val (.int nn)] [(.int (5 : Int32)), (.ref ac), (.int (5 : Int32)), (.ref b593), (.ref b593), (.ref b585), (.ref b585)])
                  have F658 : Arv Z h652 ac kc .char (8 : Int32) (cl.map Value.int) (.int (0 : Int32)) := (F647.other W652 ne595)
                  obtain ⟨c659, A659, q659, S659, N659, H659, G659⟩ := id F658
                  have hin659 : ¬ ((5 : Int32) < 0 ∨ c659.slots.size ≤ ((5 : Int32)).toNatClampNeg) := inb_of S659 ⟨by decide, by decide⟩
                  have hat659 : c659.slots[((5 : Int32)).toNatClampNeg]? = some (.int (cl.getD 5 0)) := (H659 _ (Nat.lt_of_not_le fun q => hin659 (Or.inr q))).trans (congrArg some (own_gD cl 5))
                  refine Go.via (fun t k => Xh652.caload hx (j := (5 : Int32)) (v := (.int (cl.getD 5 0))) (by rw [e652]; exact A659.1) (State.isArrayOf_alike hZ.alike A659.2.1) A659.2.2 hin659 hat659 (g := (mkF m 343 #[.val (.ref ac), .val (.int nn)] [(.int (5 : Int32)), (.ref ac), (.int (5 : Int32)), (.ref b593), (.ref b593), (.ref b585), (.ref b585)])) rfl rfl (hb hby d9_343) t k) ?_
                  show Go p.tables e below P T652 (mkF m 344 #[.val (.ref ac), .val (.int nn)] [(.int (cl.getD 5 0)), (.int (5 : Int32)), (.ref b593), (.ref b593), (.ref b585), (.ref b585)])
                  have F660 : Exa Z h652 b585 "java/lang/String" := (F649.wr W652)
                  have F661 : Fld Z h652 b585 "java/lang/String" "value" "[B" .null := (F650.other W652 (Or.inl ne596))
                  have F662 : Fld Z h652 b585 "java/lang/String" "coder" "B" (.int (0 : Int32)) := (F651.other W652 (Or.inl ne596))
                  obtain ⟨c663, A663, q663, S663, N663, H663, G663⟩ := id V652
                  have hin663 : ¬ ((5 : Int32) < 0 ∨ c663.slots.size ≤ ((5 : Int32)).toNatClampNeg) := inb_of S663 ⟨by decide, by decide⟩
                  obtain ⟨T663, h663, X663, e663, W663, st663⟩ := stC Xh652 hx hZ e652 A663 (j := (5 : Int32)) hin663 (g := (mkF m 344 #[.val (.ref ac), .val (.int nn)] [(.int (cl.getD 5 0)), (.int (5 : Int32)), (.ref b593), (.ref b593), (.ref b585), (.ref b585)])) rfl rfl (hb hby d9_344)
                  refine Go.via st663 ?_
                  have Z664 : n0 ≤ h663.size := Nat.le_trans Z653 (Nat.le_of_eq W663.size.symm)
                  have K665 : Keep h0 h663 [] := K654.wr W663 (Or.inr sz598)
                  obtain ⟨lc663, Xh663, N666⟩ := own_hide X663 (Fr.snoc X663 N655 g597)
                  clear X663
                  have O667 : Old Z n0 h663 := O656.wr W663 g597
                  have Sf663 := Safe.wr W663 (Safe.arv hZ.alike V652 (by decide)) CR657.1 (Safe.arv hZ.alike V652 (by decide))
                  have CR668 := CHr.trans CR657 (CHr.wr W663 (Safe.arv hZ.alike V652 (by decide)) CR657.1)
                  have V663 : Arv Z h663 b593 k593 .char (8 : Int32) [(.int (nar .char (cl.getD 0 0))), (.int (nar .char (cl.getD 1 0))), (.int (nar .char (cl.getD 2 0))), (.int (nar .char (cl.getD 3 0))), (.int (nar .char (cl.getD 4 0))), (.int (nar .char (cl.getD 5 0))), (.int (0 : Int32)), (.int (0 : Int32))] (.int (0 : Int32)) := Arv.set A663 q663 S663 N663 H663 G663 (fits_nar_char _) W663 5 rfl (Nat.le_of_ble_eq_true rfl)
                  show Go p.tables e below P T663 (mkF m 345 #[.val (.ref ac), .val (.int nn)] [(.ref b593), (.ref b585), (.ref b585)])
                  refine Go.via (fun t k => XS.dup Xh663.here hx rfl (hb hby d9_345) rfl rfl k) ?_
                  refine Go.via (fun t k => XS.bipush Xh663.here hx rfl (hb hby d9_346) k) ?_
                  refine Go.via (fun t k => XS.aloadN Xh663.here hx rfl (hb hby d9_348) rfl rfl k) ?_
                  show Go p.tables e below P T663 (mkF m 349 #[.val (.ref ac), .val (.int nn)] [(.ref ac), (.int (6 : Int32)), (.ref b593), (.ref b593), (.ref b585), (.ref b585)])
                  refine Go.via (fun t k => XS.bipush Xh663.here hx rfl (hb hby d9_349) k) ?_
                  show Go p.tables e below P T663 (mkF m 351 #[.val (.ref ac), .val (.int nn)] [(.int (6 : Int32)), (.ref ac), (.int (6 : Int32)), (.ref b593), (.ref b593), (.ref b585), (.ref b585)])
                  have F669 : Arv Z h663 ac kc .char (8 : Int32) (cl.map Value.int) (.int (0 : Int32)) := (F658.other W663 ne595)
                  obtain ⟨c670, A670, q670, S670, N670, H670, G670⟩ := id F669
                  have hin670 : ¬ ((6 : Int32) < 0 ∨ c670.slots.size ≤ ((6 : Int32)).toNatClampNeg) := inb_of S670 ⟨by decide, by decide⟩
                  have hat670 : c670.slots[((6 : Int32)).toNatClampNeg]? = some (.int (cl.getD 6 0)) := (H670 _ (Nat.lt_of_not_le fun q => hin670 (Or.inr q))).trans (congrArg some (own_gD cl 6))
                  refine Go.via (fun t k => Xh663.caload hx (j := (6 : Int32)) (v := (.int (cl.getD 6 0))) (by rw [e663]; exact A670.1) (State.isArrayOf_alike hZ.alike A670.2.1) A670.2.2 hin670 hat670 (g := (mkF m 351 #[.val (.ref ac), .val (.int nn)] [(.int (6 : Int32)), (.ref ac), (.int (6 : Int32)), (.ref b593), (.ref b593), (.ref b585), (.ref b585)])) rfl rfl (hb hby d9_351) t k) ?_
                  show Go p.tables e below P T663 (mkF m 352 #[.val (.ref ac), .val (.int nn)] [(.int (cl.getD 6 0)), (.int (6 : Int32)), (.ref b593), (.ref b593), (.ref b585), (.ref b585)])
                  have F671 : Exa Z h663 b585 "java/lang/String" := (F660.wr W663)
                  have F672 : Fld Z h663 b585 "java/lang/String" "value" "[B" .null := (F661.other W663 (Or.inl ne596))
                  have F673 : Fld Z h663 b585 "java/lang/String" "coder" "B" (.int (0 : Int32)) := (F662.other W663 (Or.inl ne596))
                  obtain ⟨c674, A674, q674, S674, N674, H674, G674⟩ := id V663
                  have hin674 : ¬ ((6 : Int32) < 0 ∨ c674.slots.size ≤ ((6 : Int32)).toNatClampNeg) := inb_of S674 ⟨by decide, by decide⟩
                  obtain ⟨T674, h674, X674, e674, W674, st674⟩ := stC Xh663 hx hZ e663 A674 (j := (6 : Int32)) hin674 (g := (mkF m 352 #[.val (.ref ac), .val (.int nn)] [(.int (cl.getD 6 0)), (.int (6 : Int32)), (.ref b593), (.ref b593), (.ref b585), (.ref b585)])) rfl rfl (hb hby d9_352)
                  refine Go.via st674 ?_
                  have Z675 : n0 ≤ h674.size := Nat.le_trans Z664 (Nat.le_of_eq W674.size.symm)
                  have K676 : Keep h0 h674 [] := K665.wr W674 (Or.inr sz598)
                  obtain ⟨lc674, Xh674, N677⟩ := own_hide X674 (Fr.snoc X674 N666 g597)
                  clear X674
                  have O678 : Old Z n0 h674 := O667.wr W674 g597
                  have Sf674 := Safe.wr W674 (Safe.arv hZ.alike V663 (by decide)) CR668.1 (Safe.arv hZ.alike V663 (by decide))
                  have CR679 := CHr.trans CR668 (CHr.wr W674 (Safe.arv hZ.alike V663 (by decide)) CR668.1)
                  have V674 : Arv Z h674 b593 k593 .char (8 : Int32) [(.int (nar .char (cl.getD 0 0))), (.int (nar .char (cl.getD 1 0))), (.int (nar .char (cl.getD 2 0))), (.int (nar .char (cl.getD 3 0))), (.int (nar .char (cl.getD 4 0))), (.int (nar .char (cl.getD 5 0))), (.int (nar .char (cl.getD 6 0))), (.int (0 : Int32))] (.int (0 : Int32)) := Arv.set A674 q674 S674 N674 H674 G674 (fits_nar_char _) W674 6 rfl (Nat.le_of_ble_eq_true rfl)
                  show Go p.tables e below P T674 (mkF m 353 #[.val (.ref ac), .val (.int nn)] [(.ref b593), (.ref b585), (.ref b585)])
                  refine Go.via (fun t k => XS.dup Xh674.here hx rfl (hb hby d9_353) rfl rfl k) ?_
                  refine Go.via (fun t k => XS.bipush Xh674.here hx rfl (hb hby d9_354) k) ?_
                  refine Go.via (fun t k => XS.aloadN Xh674.here hx rfl (hb hby d9_356) rfl rfl k) ?_
                  show Go p.tables e below P T674 (mkF m 357 #[.val (.ref ac), .val (.int nn)] [(.ref ac), (.int (7 : Int32)), (.ref b593), (.ref b593), (.ref b585), (.ref b585)])
                  refine Go.via (fun t k => XS.bipush Xh674.here hx rfl (hb hby d9_357) k) ?_
                  show Go p.tables e below P T674 (mkF m 359 #[.val (.ref ac), .val (.int nn)] [(.int (7 : Int32)), (.ref ac), (.int (7 : Int32)), (.ref b593), (.ref b593), (.ref b585), (.ref b585)])
                  have F680 : Arv Z h674 ac kc .char (8 : Int32) (cl.map Value.int) (.int (0 : Int32)) := (F669.other W674 ne595)
                  obtain ⟨c681, A681, q681, S681, N681, H681, G681⟩ := id F680
                  have hin681 : ¬ ((7 : Int32) < 0 ∨ c681.slots.size ≤ ((7 : Int32)).toNatClampNeg) := inb_of S681 ⟨by decide, by decide⟩
                  have hat681 : c681.slots[((7 : Int32)).toNatClampNeg]? = some (.int (cl.getD 7 0)) := (H681 _ (Nat.lt_of_not_le fun q => hin681 (Or.inr q))).trans (congrArg some (own_gD cl 7))
                  refine Go.via (fun t k => Xh674.caload hx (j := (7 : Int32)) (v := (.int (cl.getD 7 0))) (by rw [e674]; exact A681.1) (State.isArrayOf_alike hZ.alike A681.2.1) A681.2.2 hin681 hat681 (g := (mkF m 359 #[.val (.ref ac), .val (.int nn)] [(.int (7 : Int32)), (.ref ac), (.int (7 : Int32)), (.ref b593), (.ref b593), (.ref b585), (.ref b585)])) rfl rfl (hb hby d9_359) t k) ?_
                  show Go p.tables e below P T674 (mkF m 360 #[.val (.ref ac), .val (.int nn)] [(.int (cl.getD 7 0)), (.int (7 : Int32)), (.ref b593), (.ref b593), (.ref b585), (.ref b585)])
                  have F682 : Exa Z h674 b585 "java/lang/String" := (F671.wr W674)
                  have F683 : Fld Z h674 b585 "java/lang/String" "value" "[B" .null := (F672.other W674 (Or.inl ne596))
                  have F684 : Fld Z h674 b585 "java/lang/String" "coder" "B" (.int (0 : Int32)) := (F673.other W674 (Or.inl ne596))
                  obtain ⟨c685, A685, q685, S685, N685, H685, G685⟩ := id V674
                  have hin685 : ¬ ((7 : Int32) < 0 ∨ c685.slots.size ≤ ((7 : Int32)).toNatClampNeg) := inb_of S685 ⟨by decide, by decide⟩
                  obtain ⟨T685, h685, X685, e685, W685, st685⟩ := stC Xh674 hx hZ e674 A685 (j := (7 : Int32)) hin685 (g := (mkF m 360 #[.val (.ref ac), .val (.int nn)] [(.int (cl.getD 7 0)), (.int (7 : Int32)), (.ref b593), (.ref b593), (.ref b585), (.ref b585)])) rfl rfl (hb hby d9_360)
                  refine Go.via st685 ?_
                  have Z686 : n0 ≤ h685.size := Nat.le_trans Z675 (Nat.le_of_eq W685.size.symm)
                  have K687 : Keep h0 h685 [] := K676.wr W685 (Or.inr sz598)
                  obtain ⟨lc685, Xh685, N688⟩ := own_hide X685 (Fr.snoc X685 N677 g597)
                  clear X685
                  have O689 : Old Z n0 h685 := O678.wr W685 g597
                  have Sf685 := Safe.wr W685 (Safe.arv hZ.alike V674 (by decide)) CR679.1 (Safe.arv hZ.alike V674 (by decide))
                  have CR690 := CHr.trans CR679 (CHr.wr W685 (Safe.arv hZ.alike V674 (by decide)) CR679.1)
                  have V685 : Arv Z h685 b593 k593 .char (8 : Int32) [(.int (nar .char (cl.getD 0 0))), (.int (nar .char (cl.getD 1 0))), (.int (nar .char (cl.getD 2 0))), (.int (nar .char (cl.getD 3 0))), (.int (nar .char (cl.getD 4 0))), (.int (nar .char (cl.getD 5 0))), (.int (nar .char (cl.getD 6 0))), (.int (nar .char (cl.getD 7 0)))] (.int (0 : Int32)) := Arv.set A685 q685 S685 N685 H685 G685 (fits_nar_char _) W685 7 rfl (Nat.le_of_ble_eq_true rfl)
                  show Go p.tables e below P T685 (mkF m 361 #[.val (.ref ac), .val (.int nn)] [(.ref b593), (.ref b585), (.ref b585)])
                  have F691 : Exa Z h685 b585 "java/lang/String" := (F682.wr W685)
                  have F692 : Fld Z h685 b585 "java/lang/String" "value" "[B" .null := (F683.other W685 (Or.inl ne596))
                  have F693 : Fld Z h685 b585 "java/lang/String" "coder" "B" (.int (0 : Int32)) := (F684.other W685 (Or.inl ne596))
                  have F694 : Arv Z h685 ac kc .char (8 : Int32) (cl.map Value.int) (.int (0 : Int32)) := (F680.other W685 ne595)
                  obtain ⟨_, _, ⟨T695, L695, k695, n695⟩, -, X695, ⟨Lc695, hQ695, l695, y695, z695⟩, st695⟩ := Xh685.specialBack hx (y := (⟨"java/lang/String", "<init>", "([C)V"⟩ : MethodName)) rfl hown (mvT hZ (hw _ (List.mem_of_getElem? (i := 53) rfl))) (mvT hZ (hw _ (List.mem_of_getElem? (i := 54) rfl))) (mvT hZ (hw _ (List.mem_of_getElem? (i := 55) rfl))) (by decide) (StrChars.Road.backV (W := 1) hZ (own_ws hw) (kI := 4) (hw _ (List.mem_of_getElem? (i := 2) rfl)) (cs := ([(nar .char (cl.getD 0 0)), (nar .char (cl.getD 1 0)), (nar .char (cl.getD 2 0)), (nar .char (cl.getD 3 0)), (nar .char (cl.getD 4 0)), (nar .char (cl.getD 5 0)), (nar .char (cl.getD 6 0)), (nar .char (cl.getD 7 0))] : List Int32)) (bs := ([((nar .char (cl.getD 0 0))).toInt8.toInt32, ((nar .char (cl.getD 1 0))).toInt8.toInt32, ((nar .char (cl.getD 2 0))).toInt8.toInt32, ((nar .char (cl.getD 3 0))).toInt8.toInt32, ((nar .char (cl.getD 4 0))).toInt8.toInt32, ((nar .char (cl.getD 5 0))).toInt8.toInt32, ((nar .char (cl.getD 6 0))).toInt8.toInt32, ((nar .char (cl.getD 7 0))).toInt8.toInt32] : List Int32)) (n := 8) g587 Z686 F691 F692 F693 V685 (P1.ext O689.2) hcs rfl rfl (by decide) (by decide) (own_alC (own_hp (hcl 0)) (own_alC (own_hp (hcl 1)) (own_alC (own_hp (hcl 2)) (own_alC (own_hp (hcl 3)) (own_alC (own_hp (hcl 4)) (own_alC (own_hp (hcl 5)) (own_alC (own_hp (hcl 6)) (own_alC (own_hp (hcl 7)) own_al0)))))))) rfl (by decide) (by decide)) (g := (mkF m 361 #[.val (.ref ac), .val (.int nn)] [(.ref b593), (.ref b585), (.ref b585)])) rfl (by rw [hml]; rfl) (Steps.refl _) (a := b585) (argsL := [(.ref b593)]) (rest := [(.ref b585)]) (lenOf own_pd8 rfl) rfl (by show 2 * 0 + _ ≤ _; exact Nat.le_of_eq rfl) (hb hby d9_361) (fun _ _ => ⟨rfl, e685, (by decide : 2 + 1 ≤ _), (by decide : 12 + 8 ≤ _)⟩)
                  dsimp only [Pt.U, Pt.locs, Pt.cells, Pt.slots] at X695 l695 y695 z695 st695 hQ695
                  subst l695 y695 z695
                  obtain ⟨rfl, Nq695, K695, Ex695, Fc695, t695, kb695, -, lt695, ne695, Fv695, Va695⟩ := hQ695
                  obtain ⟨lc695, Xh695, N695⟩ := own_hide X695 (Fr.app N688 Nq695)
                  clear X695
                  refine Go.hop st695 ?_
                  have ne696 : ac ≠ t695 := Nat.ne_of_lt (Nat.lt_of_lt_of_le F694.lt lt695)
                  have ne697 : b585 ≠ t695 := Nat.ne_of_lt (Nat.lt_of_lt_of_le F691.lt lt695)
                  have ne698 : b593 ≠ t695 := Nat.ne_of_lt (Nat.lt_of_lt_of_le V685.lt lt695)
                  have g699 : n0 ≤ t695 := Nat.le_trans Z686 lt695
                  have sz700 : h0.size ≤ t695 := Nat.le_trans K687.1 lt695
                  have Z701 : n0 ≤ T695.heap.size := Nat.le_trans Z686 K695.1
                  have K702 : Keep h0 T695.heap [] := K687.trans K695 (own_allC (Or.inr sz588) own_all0)
                  have CR703 := CHr.trans CR690 (CHr.keep K695 (sfS (own_safeS hZ.alike F691 F692) sf0) CR690.1)
                  have O704 : Old Z n0 T695.heap := O689.keep K695 (own_allC g587 own_all0)
                  have Vt695 : Arv Z T695.heap t695 kb695 .byte (8 : Int32) [(.int ((nar .char (cl.getD 0 0))).toInt8.toInt32), (.int ((nar .char (cl.getD 1 0))).toInt8.toInt32), (.int ((nar .char (cl.getD 2 0))).toInt8.toInt32), (.int ((nar .char (cl.getD 3 0))).toInt8.toInt32), (.int ((nar .char (cl.getD 4 0))).toInt8.toInt32), (.int ((nar .char (cl.getD 5 0))).toInt8.toInt32), (.int ((nar .char (cl.getD 6 0))).toInt8.toInt32), (.int ((nar .char (cl.getD 7 0))).toInt8.toInt32)] (.int (0 : Int32)) := Va695
                  show Go p.tables e below P T695 (mkF m 364 #[.val (.ref ac), .val (.int nn)] [(.ref b585)])
                  have Vr706 : Arv Z T695.heap t695 kb695 .byte (own_lg ([((nar .char (cl.getD 0 0))).toInt8.toInt32, ((nar .char (cl.getD 1 0))).toInt8.toInt32, ((nar .char (cl.getD 2 0))).toInt8.toInt32, ((nar .char (cl.getD 3 0))).toInt8.toInt32, ((nar .char (cl.getD 4 0))).toInt8.toInt32, ((nar .char (cl.getD 5 0))).toInt8.toInt32, ((nar .char (cl.getD 6 0))).toInt8.toInt32, ((nar .char (cl.getD 7 0))).toInt8.toInt32] : List Int32)) (([((nar .char (cl.getD 0 0))).toInt8.toInt32, ((nar .char (cl.getD 1 0))).toInt8.toInt32, ((nar .char (cl.getD 2 0))).toInt8.toInt32, ((nar .char (cl.getD 3 0))).toInt8.toInt32, ((nar .char (cl.getD 4 0))).toInt8.toInt32, ((nar .char (cl.getD 5 0))).toInt8.toInt32, ((nar .char (cl.getD 6 0))).toInt8.toInt32, ((nar .char (cl.getD 7 0))).toInt8.toInt32] : List Int32).map Value.int) (.int (0 : Int32)) := by
                    rw [show own_lg ([((nar .char (cl.getD 0 0))).toInt8.toInt32, ((nar .char (cl.getD 1 0))).toInt8.toInt32, ((nar .char (cl.getD 2 0))).toInt8.toInt32, ((nar .char (cl.getD 3 0))).toInt8.toInt32, ((nar .char (cl.getD 4 0))).toInt8.toInt32, ((nar .char (cl.getD 5 0))).toInt8.toInt32, ((nar .char (cl.getD 6 0))).toInt8.toInt32, ((nar .char (cl.getD 7 0))).toInt8.toInt32] : List Int32) = (8 : Int32) from rfl]; exact Vt695
                  obtain ⟨fs, hr, hrun, hended, hend⟩ := Xh695.leaveW hS0 (by exact (Nat.zero_le _)) (v := some (.ref b585)) (fun h => by rw [Bd.returns] at h; cases h)
                  have hCf : CHr Z consts_1 s.vm s.heap (T695.setFrames fs).vm (T695.setFrames fs).heap := by
                    rw [hh]
                    show CHr Z consts_1 s.vm h0 T695.vm T695.heap
                    exact CHr.trans CR703 (CHv.at Xh695 hZ (own_EW hw) CR703.1)
                  refine ⟨_, _, retA Xh695 hx Bd.returns rfl rfl rfl (hb hby d9_364) hr, hrun, hended, hP _ _ ⟨_, _, rfl, ?_, hCf, own_rew hend (by decide) (by decide)⟩⟩
                  show Q9 Z ac nn kc cl cs h0 n0 _ T695.heap _
                  exact ⟨b585, t695, kb695, ([((nar .char (cl.getD 0 0))).toInt8.toInt32, ((nar .char (cl.getD 1 0))).toInt8.toInt32, ((nar .char (cl.getD 2 0))).toInt8.toInt32, ((nar .char (cl.getD 3 0))).toInt8.toInt32, ((nar .char (cl.getD 4 0))).toInt8.toInt32, ((nar .char (cl.getD 5 0))).toInt8.toInt32, ((nar .char (cl.getD 6 0))).toInt8.toInt32, ((nar .char (cl.getD 7 0))).toInt8.toInt32] : List Int32), rfl, N695, K702, sz588, Ex695, Fv695, Fc695, Vr706, (by simp), Vr706.lt, ne697⟩
theorem d17_0 : decode jdk_43_method_13_code 0 = .ok (.aload_n 0, 1) := by decide +kernel
theorem d17_1 : decode jdk_43_method_13_code 1 = .ok (.arraylength, 1) := by decide +kernel
theorem d17_2 : decode jdk_43_method_13_code 2 = .ok (.aload_n 1, 1) := by decide +kernel
theorem d17_3 : decode jdk_43_method_13_code 3 = .ok (.arraylength, 1) := by decide +kernel
theorem d17_4 : decode jdk_43_method_13_code 4 = .ok (.if_icmp .ne 30, 3) := by decide +kernel
theorem d17_7 : decode jdk_43_method_13_code 7 = .ok (.iconst 0, 1) := by decide +kernel
theorem d17_8 : decode jdk_43_method_13_code 8 = .ok (.istore_n 2, 1) := by decide +kernel
theorem d17_9 : decode jdk_43_method_13_code 9 = .ok (.iload_n 2, 1) := by decide +kernel
theorem d17_10 : decode jdk_43_method_13_code 10 = .ok (.aload_n 0, 1) := by decide +kernel
theorem d17_11 : decode jdk_43_method_13_code 11 = .ok (.arraylength, 1) := by decide +kernel
theorem d17_12 : decode jdk_43_method_13_code 12 = .ok (.if_icmp .ge 20, 3) := by decide +kernel
theorem d17_15 : decode jdk_43_method_13_code 15 = .ok (.aload_n 0, 1) := by decide +kernel
theorem d17_16 : decode jdk_43_method_13_code 16 = .ok (.iload_n 2, 1) := by decide +kernel
theorem d17_17 : decode jdk_43_method_13_code 17 = .ok (.baload, 1) := by decide +kernel
theorem d17_18 : decode jdk_43_method_13_code 18 = .ok (.aload_n 1, 1) := by decide +kernel
theorem d17_19 : decode jdk_43_method_13_code 19 = .ok (.iload_n 2, 1) := by decide +kernel
theorem d17_20 : decode jdk_43_method_13_code 20 = .ok (.baload, 1) := by decide +kernel
theorem d17_21 : decode jdk_43_method_13_code 21 = .ok (.if_icmp .eq 5, 3) := by decide +kernel
theorem d17_24 : decode jdk_43_method_13_code 24 = .ok (.iconst 0, 1) := by decide +kernel
theorem d17_25 : decode jdk_43_method_13_code 25 = .ok (.ireturn, 1) := by decide +kernel
theorem d17_26 : decode jdk_43_method_13_code 26 = .ok (.iinc 2 1, 3) := by decide +kernel
theorem d17_29 : decode jdk_43_method_13_code 29 = .ok (.goto (-20), 3) := by decide +kernel
theorem d17_32 : decode jdk_43_method_13_code 32 = .ok (.iconst 1, 1) := by decide +kernel
theorem d17_33 : decode jdk_43_method_13_code 33 = .ok (.ireturn, 1) := by decide +kernel
theorem d17_34 : decode jdk_43_method_13_code 34 = .ok (.iconst 0, 1) := by decide +kernel
theorem d17_35 : decode jdk_43_method_13_code 35 = .ok (.ireturn, 1) := by decide +kernel
theorem ef_17 (m : MethodId) (x0 : Addr) (x1 : Addr) : entryFrame m #[(.ref x0), (.ref x1)] 3 = mkF m 0 #[.val (.ref x0), .val (.ref x1), .unset] [] := by first | (simp [entryFrame, mkF, argsToLocals, Value.category]; done) | rfl
def Q17 (Z : State) (tb : Addr) (tc : Addr) (kk : ClassId) (kc : ClassId) (bx : List Int32) (bz : List Int32) (h0 : Heap) (n0 : Nat) (v : Option Value) (h : Heap) (L : List Loc) : Prop := v = some (.int (if bx = bz then (1 : Int32) else (0 : Int32))) ∧ Fr n0 L ∧ h = h0
set_option maxRecDepth 65536 in
set_option maxHeartbeats 40000000 in
theorem rm17 (l : Launch) (Z : State) (a0 : Array Value) (hw : ∀ d ∈ tables_1, d.before a0 Z = true) (ws : List Jvm.Cond) (tb : Addr) (tc : Addr) (kk : ClassId) (kc : ClassId) (bx : List Int32) (bz : List Int32) (h0 : Heap) (n0 : Nat) (Z0 : n0 ≤ h0.size) (P0 : Arv Z h0 tb kk .byte (own_lg bx) (bx.map Value.int) (.int (0 : Int32))) (P1 : Arv Z h0 tc kc .byte (own_lg bz) (bz.map Value.int) (.int (0 : Int32))) (smx : bx.length ≤ 1000) (smz : bz.length ≤ 1000) :
    MetFree l (⟨"java/lang/StringLatin1", "equals", "([B[B)Z"⟩ : MethodName) (head1 (Jvm.Cond.code (⟨"java/lang/StringLatin1", "equals", "([B[B)Z"⟩ : MethodName) jdk_43_method_13_code 3 (some .boolean) :: ws) ({ frames := 0, cells := 0, slots := 0, locals := 0 } : Room)) (fun a U => a = #[(.ref tb), (.ref tc)] ∧ Z.Warmed39 U.vm ∧ U.heap = h0) (fun _ _ _ _ _ => True) (fun _ U o U' => ∃ v L, o = .returned v ∧ Q17 Z tb tc kk kc bx bz h0 n0 v U'.heap L ∧ FrameEnd U o U' L ({ frames := 0, cells := 0, slots := 0, locals := 0 } : Room).cells ({ frames := 0, cells := 0, slots := 0, locals := 0 } : Room).slots) := by
  refine MetFree.of_bodySF (plainFor_of_name own_pn2) hisR ?_
  intro p e s m args below meth c s₁ Bd hml0 hP hK
  obtain ⟨rfl, hZ, hh⟩ := hP
  have hx := Bd.exec
  have hby := Bd.bytes
  have hml : c.maxLocals = 3 := hml0
  have hown : s.vm.findClass "java/lang/StringLatin1" = some m.cls := findClass_of_methodNamed Bd.named
  have hnm := (name_of_methodNamed Bd.named Bd.method).1
  have X0 : Stand p l e ({ frames := 0, cells := 0, slots := 0, locals := 0 } : Room) s m #[(.ref tb), (.ref tc)] below meth c s₁ [] 0 0 := Stand.of_body Bd
  have e0 : s₁.heap = h0 := by rw [← hh, Bd.state]; rfl
  have N0 := Fr.nil n0
  have K0 : Keep h0 h0 [] := Keep.refl _ _
  suffices GO : ∀ P : Outcome → State → Prop, (∀ o U', (∃ v L, o = .returned v ∧ Q17 Z tb tc kk kc bx bz h0 n0 v U'.heap L ∧ FrameEnd s o U' L ({ frames := 0, cells := 0, slots := 0, locals := 0 } : Room).cells ({ frames := 0, cells := 0, slots := 0, locals := 0 } : Room).slots) → P o U') → Go p.tables e below P s₁ (mkF m 0 #[.val (.ref tb), .val (.ref tc), .unset] []) by
    obtain ⟨s2, o, st, r⟩ := GO _ (fun _ _ q => q)
    exact ⟨s2, o, castTop (ef_17 m tb tc) st, r⟩
  clear hh
  intro P hP
  show Go p.tables e below P s₁ (mkF m 0 #[.val (.ref tb), .val (.ref tc), .unset] [])
  refine Go.via (fun t k => XS.aloadN X0.here hx rfl (hb hby d17_0) rfl rfl k) ?_
  show Go p.tables e below P s₁ (mkF m 1 #[.val (.ref tb), .val (.ref tc), .unset] [(.ref tb)])
  obtain ⟨c1, A1, -, S1, N1, -, -⟩ := id P0
  refine Go.via (fun t k => X0.arraylength hx (by rw [e0]; exact A1.1) (State.isArrayOf_alike hZ.alike A1.2.1) (g := (mkF m 1 #[.val (.ref tb), .val (.ref tc), .unset] [(.ref tb)])) rfl rfl (hb hby d17_1) t (by rw [len_of S1 N1]; exact k)) ?_
  show Go p.tables e below P s₁ (mkF m 2 #[.val (.ref tb), .val (.ref tc), .unset] [(.int (own_lg bx))])
  refine Go.via (fun t k => XS.aloadN X0.here hx rfl (hb hby d17_2) rfl rfl k) ?_
  show Go p.tables e below P s₁ (mkF m 3 #[.val (.ref tb), .val (.ref tc), .unset] [(.ref tc), (.int (own_lg bx))])
  obtain ⟨c2, A2, -, S2, N2, -, -⟩ := id P1
  refine Go.via (fun t k => X0.arraylength hx (by rw [e0]; exact A2.1) (State.isArrayOf_alike hZ.alike A2.2.1) (g := (mkF m 3 #[.val (.ref tb), .val (.ref tc), .unset] [(.ref tc), (.int (own_lg bx))])) rfl rfl (hb hby d17_3) t (by rw [len_of S2 N2]; exact k)) ?_
  show Go p.tables e below P s₁ (mkF m 4 #[.val (.ref tb), .val (.ref tc), .unset] [(.int (own_lg bz)), (.int (own_lg bx))])
  by_cases hc3 : (own_lg bx) = (own_lg bz)
  · refine Go.via (fun t k => XS.icmpNo X0.here hx rfl (hb hby d17_4) rfl (teq hc3).2 k) ?_
    show Go p.tables e below P s₁ (mkF m 7 #[.val (.ref tb), .val (.ref tc), .unset] [])
    refine Go.via (fun t k => XS.iconst X0.here hx rfl (hb hby d17_7) k) ?_
    refine Go.via (fun t k => XS.istoreN X0.here hx rfl (hb hby d17_8) rfl (l' := #[.val (.ref tb), .val (.ref tc), .val (.int (0 : Int32))]) rfl k) ?_
    have LP4 : ∀ (k4 : Nat) (T4 : State) (locs4 : List Loc) (i : Nat) (x2 : Int32), Stand p l e ({ frames := 0, cells := 0, slots := 0, locals := 0 } : Room) s m #[(.ref tb), (.ref tc)] below meth c T4 locs4 0 0 → T4.heap = h0 → Fr n0 locs4 → i ≤ bx.length → x2 = i.toInt32 → (∀ j, j < i → bx.getD j 0 = bz.getD j 0) → bx.length - i < k4 → Go p.tables e below P T4 (mkF m 9 #[.val (.ref tb), .val (.ref tc), .val (.int x2)] []) := by
      intro k4
      induction k4 with
      | zero => intro T4 locs4 i x2 X4 e4 N4 hi hx2 hpre hk; exact absurd hk (Nat.not_lt_zero _)
      | succ k4 ih4 =>
        intro T4 locs4 i x2 X4 e4 N4 hi hx2 hpre hk
        show Go p.tables e below P T4 (mkF m 9 #[.val (.ref tb), .val (.ref tc), .val (.int x2)] [])
        refine Go.via (fun t k => XS.iloadN X4.here hx rfl (hb hby d17_9) rfl k) ?_
        refine Go.via (fun t k => XS.aloadN X4.here hx rfl (hb hby d17_10) rfl rfl k) ?_
        show Go p.tables e below P T4 (mkF m 11 #[.val (.ref tb), .val (.ref tc), .val (.int x2)] [(.ref tb), (.int x2)])
        obtain ⟨c5, A5, -, S5, N5, -, -⟩ := id P0
        refine Go.via (fun t k => X4.arraylength hx (by rw [e4]; exact A5.1) (State.isArrayOf_alike hZ.alike A5.2.1) (g := (mkF m 11 #[.val (.ref tb), .val (.ref tc), .val (.int x2)] [(.ref tb), (.int x2)])) rfl rfl (hb hby d17_11) t (by rw [len_of S5 N5]; exact k)) ?_
        show Go p.tables e below P T4 (mkF m 12 #[.val (.ref tb), .val (.ref tc), .val (.int x2)] [(.int (own_lg bx)), (.int x2)])
        by_cases hc6 : x2 < (own_lg bx)
        · refine Go.via (fun t k => XS.icmpNo X4.here hx rfl (hb hby d17_12) rfl (tlt hc6).2.1 k) ?_
          show Go p.tables e below P T4 (mkF m 15 #[.val (.ref tb), .val (.ref tc), .val (.int x2)] [])
          have hlt : i < bx.length := (own_ltN (by omega) (by omega)).mp (by rw [← hx2]; exact hc6)
          refine Go.via (fun t k => XS.aloadN X4.here hx rfl (hb hby d17_15) rfl rfl k) ?_
          refine Go.via (fun t k => XS.iloadN X4.here hx rfl (hb hby d17_16) rfl k) ?_
          show Go p.tables e below P T4 (mkF m 17 #[.val (.ref tb), .val (.ref tc), .val (.int x2)] [(.int x2), (.ref tb)])
          obtain ⟨c7, A7, q7, S7, N7, H7, G7⟩ := id P0
          have hin7 : ¬ (x2 < 0 ∨ c7.slots.size ≤ (x2).toNatClampNeg) := inb_of S7 ⟨by rw [hx2]; exact own_nneg (by omega), by rw [hx2]; exact (own_ltN (by omega) (by omega)).mpr hlt⟩
          have hat7 : c7.slots[(x2).toNatClampNeg]? = some (.int (bx.getD i 0)) := (H7 _ (Nat.lt_of_not_le fun q => hin7 (Or.inr q))).trans (congrArg some (by rw [hx2, own_clamp (by omega)]; exact own_gD bx i))
          refine Go.via (fun t k => X4.baloadBytes hx (j := x2) (v := (.int (bx.getD i 0))) (by rw [e4]; exact A7.1) (State.isArrayOf_alike hZ.alike A7.2.1) A7.2.2 hin7 hat7 (g := (mkF m 17 #[.val (.ref tb), .val (.ref tc), .val (.int x2)] [(.int x2), (.ref tb)])) rfl rfl (hb hby d17_17) t k) ?_
          show Go p.tables e below P T4 (mkF m 18 #[.val (.ref tb), .val (.ref tc), .val (.int x2)] [(.int (bx.getD i 0))])
          refine Go.via (fun t k => XS.aloadN X4.here hx rfl (hb hby d17_18) rfl rfl k) ?_
          refine Go.via (fun t k => XS.iloadN X4.here hx rfl (hb hby d17_19) rfl k) ?_
          show Go p.tables e below P T4 (mkF m 20 #[.val (.ref tb), .val (.ref tc), .val (.int x2)] [(.int x2), (.ref tc), (.int (bx.getD i 0))])
          obtain ⟨c8, A8, q8, S8, N8, H8, G8⟩ := id P1
          have hin8 : ¬ (x2 < 0 ∨ c8.slots.size ≤ (x2).toNatClampNeg) := inb_of S8 ⟨by rw [hx2]; exact own_nneg (by omega), by rw [hx2]; exact (own_ltN (by omega) (by omega)).mpr ((own_lgj smx smz hc3) ▸ hlt)⟩
          have hat8 : c8.slots[(x2).toNatClampNeg]? = some (.int (bz.getD i 0)) := (H8 _ (Nat.lt_of_not_le fun q => hin8 (Or.inr q))).trans (congrArg some (by rw [hx2, own_clamp (by omega)]; exact own_gD bz i))
          refine Go.via (fun t k => X4.baloadBytes hx (j := x2) (v := (.int (bz.getD i 0))) (by rw [e4]; exact A8.1) (State.isArrayOf_alike hZ.alike A8.2.1) A8.2.2 hin8 hat8 (g := (mkF m 20 #[.val (.ref tb), .val (.ref tc), .val (.int x2)] [(.int x2), (.ref tc), (.int (bx.getD i 0))])) rfl rfl (hb hby d17_20) t k) ?_
          show Go p.tables e below P T4 (mkF m 21 #[.val (.ref tb), .val (.ref tc), .val (.int x2)] [(.int (bz.getD i 0)), (.int (bx.getD i 0))])
          by_cases hc9 : (bx.getD i 0) = (bz.getD i 0)
          · refine Go.via (fun t k => XS.icmpYes X4.here hx rfl (pc0 := 21) (pc' := 26) rfl (hb hby d17_21) rfl (teq hc9).1 (by decide) (by decide) k) ?_
            show Go p.tables e below P T4 (mkF m 26 #[.val (.ref tb), .val (.ref tc), .val (.int x2)] [])
            refine Go.via (fun t k => XS.iinc X4.here hx rfl (hb hby d17_26) rfl (l' := #[.val (.ref tb), .val (.ref tc), .val (.int (x2 + (1 : Int32)))]) rfl k) ?_
            show Go p.tables e below P T4 (mkF m 29 #[.val (.ref tb), .val (.ref tc), .val (.int (x2 + (1 : Int32)))] [])
            refine Go.via (fun t k => XS.goto X4.here hx rfl (pc0 := 29) (pc' := 9) rfl (hb hby d17_29) (by decide) (by decide) k) ?_
            exact ih4 T4 _ (i + 1) (x2 + (1 : Int32)) X4 e4 N4 hlt (by rw [hx2]; exact own_succ i) (own_pre hpre hc9) (by omega)
          · refine Go.via (fun t k => XS.icmpNo X4.here hx rfl (hb hby d17_21) rfl (feq hc9).1 k) ?_
            show Go p.tables e below P T4 (mkF m 24 #[.val (.ref tb), .val (.ref tc), .val (.int x2)] [])
            refine Go.via (fun t k => XS.iconst X4.here hx rfl (hb hby d17_24) k) ?_
            show Go p.tables e below P T4 (mkF m 25 #[.val (.ref tb), .val (.ref tc), .val (.int x2)] [(.int (0 : Int32))])
            obtain ⟨fs, hr, hrun, hended, hW, hsame⟩ := X4.leave (v := some (.int (if bx = bz then (1 : Int32) else (0 : Int32)))) (fun h => by rw [Bd.returns] at h; cases h)
            refine ⟨_, _, retZ X4 hx (t := .boolean) Bd.returns (by simp) (hb hby d17_25) (show nar .boolean (0 : Int32) = _ from (if_neg (fun q => hc9 (by rw [q]))).symm) hr, hrun, hended, hP _ _ ⟨_, _, rfl, ?_, ⟨_, rfl⟩, hW, hsame.mono (by decide) (by decide)⟩⟩
            show Q17 Z tb tc kk kc bx bz h0 n0 _ T4.heap _
            rw [e4]
            exact ⟨rfl, N4, rfl⟩
        · refine Go.via (fun t k => XS.icmpYes X4.here hx rfl (pc0 := 12) (pc' := 32) rfl (hb hby d17_12) rfl (flt hc6).2.1 (by decide) (by decide) k) ?_
          show Go p.tables e below P T4 (mkF m 32 #[.val (.ref tb), .val (.ref tc), .val (.int x2)] [])
          refine Go.via (fun t k => XS.iconst X4.here hx rfl (hb hby d17_32) k) ?_
          show Go p.tables e below P T4 (mkF m 33 #[.val (.ref tb), .val (.ref tc), .val (.int x2)] [(.int (1 : Int32))])
          have hge : ¬ i < bx.length := fun r => hc6 (by rw [hx2]; exact (own_ltN (by omega) (by omega)).mpr r)
          obtain ⟨fs, hr, hrun, hended, hW, hsame⟩ := X4.leave (v := some (.int (if bx = bz then (1 : Int32) else (0 : Int32)))) (fun h => by rw [Bd.returns] at h; cases h)
          refine ⟨_, _, retZ X4 hx (t := .boolean) Bd.returns (by simp) (hb hby d17_33) (show nar .boolean (1 : Int32) = _ from (if_pos (own_eqg (own_lgj smx smz hc3) (fun j q => hpre j (by omega)))).symm) hr, hrun, hended, hP _ _ ⟨_, _, rfl, ?_, ⟨_, rfl⟩, hW, hsame.mono (by decide) (by decide)⟩⟩
          show Q17 Z tb tc kk kc bx bz h0 n0 _ T4.heap _
          rw [e4]
          exact ⟨rfl, N4, rfl⟩
    exact LP4 _ s₁ _ 0 (0 : Int32) X0 e0 N0 (Nat.zero_le _) rfl (fun _ q => nomatch q) (Nat.lt_succ_self _)
  · refine Go.via (fun t k => XS.icmpYes X0.here hx rfl (pc0 := 4) (pc' := 34) rfl (hb hby d17_4) rfl (feq hc3).2 (by decide) (by decide) k) ?_
    show Go p.tables e below P s₁ (mkF m 34 #[.val (.ref tb), .val (.ref tc), .unset] [])
    refine Go.via (fun t k => XS.iconst X0.here hx rfl (hb hby d17_34) k) ?_
    show Go p.tables e below P s₁ (mkF m 35 #[.val (.ref tb), .val (.ref tc), .unset] [(.int (0 : Int32))])
    obtain ⟨fs, hr, hrun, hended, hW, hsame⟩ := X0.leave (v := some (.int (if bx = bz then (1 : Int32) else (0 : Int32)))) (fun h => by rw [Bd.returns] at h; cases h)
    refine ⟨_, _, retZ X0 hx (t := .boolean) Bd.returns (by simp) (hb hby d17_35) (show nar .boolean (0 : Int32) = _ from (if_neg (fun q => hc3 (congrArg own_lg q))).symm) hr, hrun, hended, hP _ _ ⟨_, _, rfl, ?_, ⟨_, rfl⟩, hW, hsame.mono (by decide) (by decide)⟩⟩
    show Q17 Z tb tc kk kc bx bz h0 n0 _ s₁.heap _
    rw [e0]
    exact ⟨rfl, N0, rfl⟩
theorem own_pd9 : parseMethodDescriptor "([B[B)Z" = some ⟨[(.array .byte), (.array .byte)], some .boolean⟩ := by decide +kernel
theorem d16_0 : decode jdk_42_method_66_code 0 = .ok (.aload_n 0, 1) := by decide +kernel
theorem d16_1 : decode jdk_42_method_66_code 1 = .ok (.aload_n 1, 1) := by decide +kernel
theorem d16_2 : decode jdk_42_method_66_code 2 = .ok (.if_acmp .ne 5, 3) := by decide +kernel
theorem d16_5 : decode jdk_42_method_66_code 5 = .ok (.iconst 1, 1) := by decide +kernel
theorem d16_6 : decode jdk_42_method_66_code 6 = .ok (.ireturn, 1) := by decide +kernel
theorem d16_7 : decode jdk_42_method_66_code 7 = .ok (.aload_n 1, 1) := by decide +kernel
theorem d16_8 : decode jdk_42_method_66_code 8 = .ok (.instanceof 10, 3) := by decide +kernel
theorem d16_11 : decode jdk_42_method_66_code 11 = .ok (.ifCond .eq 43, 3) := by decide +kernel
theorem d16_14 : decode jdk_42_method_66_code 14 = .ok (.aload_n 1, 1) := by decide +kernel
theorem d16_15 : decode jdk_42_method_66_code 15 = .ok (.checkcast 10, 3) := by decide +kernel
theorem d16_18 : decode jdk_42_method_66_code 18 = .ok (.astore_n 2, 1) := by decide +kernel
theorem d16_19 : decode jdk_42_method_66_code 19 = .ok (.getstatic 38, 3) := by decide +kernel
theorem d16_22 : decode jdk_42_method_66_code 22 = .ok (.ifCond .eq 14, 3) := by decide +kernel
theorem d16_25 : decode jdk_42_method_66_code 25 = .ok (.aload_n 0, 1) := by decide +kernel
theorem d16_26 : decode jdk_42_method_66_code 26 = .ok (.getfield 15, 3) := by decide +kernel
theorem d16_29 : decode jdk_42_method_66_code 29 = .ok (.aload_n 2, 1) := by decide +kernel
theorem d16_30 : decode jdk_42_method_66_code 30 = .ok (.getfield 15, 3) := by decide +kernel
theorem d16_33 : decode jdk_42_method_66_code 33 = .ok (.if_icmp .ne 21, 3) := by decide +kernel
theorem d16_36 : decode jdk_42_method_66_code 36 = .ok (.aload_n 0, 1) := by decide +kernel
theorem d16_37 : decode jdk_42_method_66_code 37 = .ok (.getfield 9, 3) := by decide +kernel
theorem d16_40 : decode jdk_42_method_66_code 40 = .ok (.aload_n 2, 1) := by decide +kernel
theorem d16_41 : decode jdk_42_method_66_code 41 = .ok (.getfield 9, 3) := by decide +kernel
theorem d16_44 : decode jdk_42_method_66_code 44 = .ok (.invokestatic 541, 3) := by decide +kernel
theorem d16_47 : decode jdk_42_method_66_code 47 = .ok (.ifCond .eq 7, 3) := by decide +kernel
theorem d16_50 : decode jdk_42_method_66_code 50 = .ok (.iconst 1, 1) := by decide +kernel
theorem d16_51 : decode jdk_42_method_66_code 51 = .ok (.goto 4, 3) := by decide +kernel
theorem d16_54 : decode jdk_42_method_66_code 54 = .ok (.iconst 0, 1) := by decide +kernel
theorem d16_55 : decode jdk_42_method_66_code 55 = .ok (.ireturn, 1) := by decide +kernel
theorem ef_16 (m : MethodId) (x0 : Addr) (x1 : Addr) : entryFrame m #[(.ref x0), (.ref x1)] 3 = mkF m 0 #[.val (.ref x0), .val (.ref x1), .unset] [] := by first | (simp [entryFrame, mkF, argsToLocals, Value.category]; done) | rfl
def Q16 (Z : State) (so : Addr) (sq : Addr) (cs : Int32) (tb : Addr) (tc : Addr) (kk : ClassId) (kc : ClassId) (bx : List Int32) (bz : List Int32) (h0 : Heap) (n0 : Nat) (v : Option Value) (h : Heap) (L : List Loc) : Prop := v = some (.int (if bx = bz then (1 : Int32) else (0 : Int32))) ∧ Fr n0 L ∧ h = h0
set_option maxRecDepth 65536 in
set_option maxHeartbeats 40000000 in
theorem rm16 (l : Launch) (Z : State) (a0 : Array Value) (hw : ∀ d ∈ tables_1, d.before a0 Z = true) (ws : List Jvm.Cond) (so : Addr) (sq : Addr) (cs : Int32) (tb : Addr) (tc : Addr) (kk : ClassId) (kc : ClassId) (bx : List Int32) (bz : List Int32) (h0 : Heap) (n0 : Nat) (Z0 : n0 ≤ h0.size) (O0 : Old Z n0 h0) (P1 : Sta Z Z.heap "java/lang/String" "COMPACT_STRINGS" "Z" (.int cs)) (hcs : ¬ cs = (0 : Int32)) (P3 : Exa Z h0 so "java/lang/String") (P4 : Fld Z h0 so "java/lang/String" "value" "[B" (.ref tb)) (P5 : Fld Z h0 so "java/lang/String" "coder" "B" (.int (0 : Int32))) (P6 : Arv Z h0 tb kk .byte (own_lg bx) (bx.map Value.int) (.int (0 : Int32))) (P7 : Exa Z h0 sq "java/lang/String") (P8 : Fld Z h0 sq "java/lang/String" "value" "[B" (.ref tc)) (P9 : Fld Z h0 sq "java/lang/String" "coder" "B" (.int (0 : Int32))) (P10 : Arv Z h0 tc kc .byte (own_lg bz) (bz.map Value.int) (.int (0 : Int32))) (smx : bx.length ≤ 1000) (smz : bz.length ≤ 1000) (hsm_ : so = sq → bx = bz) :
    MetFree l (⟨"java/lang/String", "equals", "(Ljava/lang/Object;)Z"⟩ : MethodName) (head1 (Jvm.Cond.code (⟨"java/lang/String", "equals", "(Ljava/lang/Object;)Z"⟩ : MethodName) jdk_42_method_66_code 3 (some .boolean) :: ws) ({ frames := 1, cells := 0, slots := 0, locals := 14 } : Room)) (fun a U => a = #[(.ref so), (.ref sq)] ∧ Z.Warmed39 U.vm ∧ U.heap = h0) (fun _ _ _ _ _ => True) (fun _ U o U' => ∃ v L, o = .returned v ∧ Q16 Z so sq cs tb tc kk kc bx bz h0 n0 v U'.heap L ∧ FrameEnd U o U' L ({ frames := 1, cells := 0, slots := 0, locals := 14 } : Room).cells ({ frames := 1, cells := 0, slots := 0, locals := 14 } : Room).slots) := by
  refine MetFree.of_bodySF (plainFor_of_name own_pn0) hisR ?_
  intro p e s m args below meth c s₁ Bd hml0 hP hK
  obtain ⟨rfl, hZ, hh⟩ := hP
  have hx := Bd.exec
  have hby := Bd.bytes
  have hml : c.maxLocals = 3 := hml0
  have hown : s.vm.findClass "java/lang/String" = some m.cls := findClass_of_methodNamed Bd.named
  have hnm := (name_of_methodNamed Bd.named Bd.method).1
  have X0 : Stand p l e ({ frames := 1, cells := 0, slots := 0, locals := 14 } : Room) s m #[(.ref so), (.ref sq)] below meth c s₁ [] 0 0 := Stand.of_body Bd
  have e0 : s₁.heap = h0 := by rw [← hh, Bd.state]; rfl
  have N0 := Fr.nil n0
  have K0 : Keep h0 h0 [] := Keep.refl _ _
  suffices GO : ∀ P : Outcome → State → Prop, (∀ o U', (∃ v L, o = .returned v ∧ Q16 Z so sq cs tb tc kk kc bx bz h0 n0 v U'.heap L ∧ FrameEnd s o U' L ({ frames := 1, cells := 0, slots := 0, locals := 14 } : Room).cells ({ frames := 1, cells := 0, slots := 0, locals := 14 } : Room).slots) → P o U') → Go p.tables e below P s₁ (mkF m 0 #[.val (.ref so), .val (.ref sq), .unset] []) by
    obtain ⟨s2, o, st, r⟩ := GO _ (fun _ _ q => q)
    exact ⟨s2, o, castTop (ef_16 m so sq) st, r⟩
  clear hh
  intro P hP
  show Go p.tables e below P s₁ (mkF m 0 #[.val (.ref so), .val (.ref sq), .unset] [])
  refine Go.via (fun t k => XS.aloadN X0.here hx rfl (hb hby d16_0) rfl rfl k) ?_
  refine Go.via (fun t k => XS.aloadN X0.here hx rfl (hb hby d16_1) rfl rfl k) ?_
  show Go p.tables e below P s₁ (mkF m 2 #[.val (.ref so), .val (.ref sq), .unset] [(.ref sq), (.ref so)])
  by_cases hc1 : ((.ref so) : Value) = (.ref sq)
  · refine Go.via (fun t k => Jvm.RoadKit.acmp (g := (mkF m 2 #[.val (.ref so), .val (.ref sq), .unset] [(.ref sq), (.ref so)])) X0 hx rfl rfl rfl (pc0 := 2) (pc' := 5) (same := true) rfl (hb hby d16_2) rfl (decide_eq_true hc1) (by decide) (by decide) k) ?_
    show Go p.tables e below P s₁ (mkF m 5 #[.val (.ref so), .val (.ref sq), .unset] [])
    refine Go.via (fun t k => XS.iconst X0.here hx rfl (hb hby d16_5) k) ?_
    show Go p.tables e below P s₁ (mkF m 6 #[.val (.ref so), .val (.ref sq), .unset] [(.int (1 : Int32))])
    obtain ⟨fs, hr, hrun, hended, hW, hsame⟩ := X0.leave (v := some (.int (if bx = bz then (1 : Int32) else (0 : Int32)))) (fun h => by rw [Bd.returns] at h; cases h)
    refine ⟨_, _, retZ X0 hx (t := .boolean) Bd.returns (by simp) (hb hby d16_6) (show nar .boolean (1 : Int32) = _ from (if_pos (hsm_ (Value.ref.inj hc1))).symm) hr, hrun, hended, hP _ _ ⟨_, _, rfl, ?_, ⟨_, rfl⟩, hW, hsame.mono (by decide) (by decide)⟩⟩
    show Q16 Z so sq cs tb tc kk kc bx bz h0 n0 _ s₁.heap _
    rw [e0]
    exact ⟨rfl, N0, rfl⟩
  · refine Go.via (fun t k => Jvm.RoadKit.acmp (g := (mkF m 2 #[.val (.ref so), .val (.ref sq), .unset] [(.ref sq), (.ref so)])) X0 hx rfl rfl rfl (pc0 := 2) (pc' := 7) (same := false) rfl (hb hby d16_2) rfl (decide_eq_false hc1) (by decide) (by decide) k) ?_
    show Go p.tables e below P s₁ (mkF m 7 #[.val (.ref so), .val (.ref sq), .unset] [])
    refine Go.via (fun t k => XS.aloadN X0.here hx rfl (hb hby d16_7) rfl rfl k) ?_
    show Go p.tables e below P s₁ (mkF m 8 #[.val (.ref so), .val (.ref sq), .unset] [(.ref sq)])
    obtain ⟨T3, X3, e3, st3⟩ := instY X0 hx hZ hown (hw _ (List.mem_of_getElem? (i := 78) rfl)) e0 (Ins.self P7) (g := (mkF m 8 #[.val (.ref so), .val (.ref sq), .unset] [(.ref sq)])) rfl rfl (hb hby d16_8)
    refine Go.via st3 ?_
    show Go p.tables e below P T3 (mkF m 11 #[.val (.ref so), .val (.ref sq), .unset] [(.int (1 : Int32))])
    refine Go.via (fun t k => XS.ifNo X3.here hx rfl (hb hby d16_11) rfl ((if0 _ _).trans (feq (by decide : ¬ ((1 : Int32) = (0 : Int32)))).1) k) ?_
    show Go p.tables e below P T3 (mkF m 14 #[.val (.ref so), .val (.ref sq), .unset] [])
    refine Go.via (fun t k => XS.aloadN X3.here hx rfl (hb hby d16_14) rfl rfl k) ?_
    show Go p.tables e below P T3 (mkF m 15 #[.val (.ref so), .val (.ref sq), .unset] [(.ref sq)])
    obtain ⟨T4, X4, e4, st4⟩ := castY X3 hx hZ hown (hw _ (List.mem_of_getElem? (i := 78) rfl)) e3 (Ins.self P7) (g := (mkF m 15 #[.val (.ref so), .val (.ref sq), .unset] [(.ref sq)])) rfl rfl (hb hby d16_15)
    refine Go.via st4 ?_
    show Go p.tables e below P T4 (mkF m 18 #[.val (.ref so), .val (.ref sq), .unset] [(.ref sq)])
    refine Go.via (fun t k => XS.astoreN X4.here hx rfl (hb hby d16_18) rfl rfl (l' := #[.val (.ref so), .val (.ref sq), .val (.ref sq)]) rfl k) ?_
    show Go p.tables e below P T4 (mkF m 19 #[.val (.ref so), .val (.ref sq), .val (.ref sq)] [])
    obtain ⟨T5, X5, e5, st5⟩ := getS2 X4 hx hZ hown (host := "") (Or.inl (hw _ (List.mem_of_getElem? (i := 24) rfl))) Via.refl e4 (P1.ext O0.2) (g := (mkF m 19 #[.val (.ref so), .val (.ref sq), .val (.ref sq)] [])) rfl (hb hby d16_19)
    refine Go.via st5 ?_
    show Go p.tables e below P T5 (mkF m 22 #[.val (.ref so), .val (.ref sq), .val (.ref sq)] [(.int cs)])
    refine Go.via (fun t k => XS.ifNo X5.here hx rfl (hb hby d16_22) rfl ((if0 _ _).trans (feq hcs).1) k) ?_
    show Go p.tables e below P T5 (mkF m 25 #[.val (.ref so), .val (.ref sq), .val (.ref sq)] [])
    refine Go.via (fun t k => XS.aloadN X5.here hx rfl (hb hby d16_25) rfl rfl k) ?_
    show Go p.tables e below P T5 (mkF m 26 #[.val (.ref so), .val (.ref sq), .val (.ref sq)] [(.ref so)])
    obtain ⟨T6, X6, e6, st6⟩ := getF X5 hx hZ hown (host := "") (Or.inl (hw _ (List.mem_of_getElem? (i := 25) rfl))) Via.refl e5 P5 (g := (mkF m 26 #[.val (.ref so), .val (.ref sq), .val (.ref sq)] [(.ref so)])) rfl rfl (hb hby d16_26)
    refine Go.via st6 ?_
    show Go p.tables e below P T6 (mkF m 29 #[.val (.ref so), .val (.ref sq), .val (.ref sq)] [(.int (0 : Int32))])
    refine Go.via (fun t k => XS.aloadN X6.here hx rfl (hb hby d16_29) rfl rfl k) ?_
    show Go p.tables e below P T6 (mkF m 30 #[.val (.ref so), .val (.ref sq), .val (.ref sq)] [(.ref sq), (.int (0 : Int32))])
    obtain ⟨T7, X7, e7, st7⟩ := getF X6 hx hZ hown (host := "") (Or.inl (hw _ (List.mem_of_getElem? (i := 25) rfl))) Via.refl e6 P9 (g := (mkF m 30 #[.val (.ref so), .val (.ref sq), .val (.ref sq)] [(.ref sq), (.int (0 : Int32))])) rfl rfl (hb hby d16_30)
    refine Go.via st7 ?_
    show Go p.tables e below P T7 (mkF m 33 #[.val (.ref so), .val (.ref sq), .val (.ref sq)] [(.int (0 : Int32)), (.int (0 : Int32))])
    refine Go.via (fun t k => XS.icmpNo X7.here hx rfl (hb hby d16_33) rfl (teq (rfl : (0 : Int32) = (0 : Int32))).2 k) ?_
    show Go p.tables e below P T7 (mkF m 36 #[.val (.ref so), .val (.ref sq), .val (.ref sq)] [])
    refine Go.via (fun t k => XS.aloadN X7.here hx rfl (hb hby d16_36) rfl rfl k) ?_
    show Go p.tables e below P T7 (mkF m 37 #[.val (.ref so), .val (.ref sq), .val (.ref sq)] [(.ref so)])
    obtain ⟨T8, X8, e8, st8⟩ := getF X7 hx hZ hown (host := "") (Or.inl (hw _ (List.mem_of_getElem? (i := 18) rfl))) Via.refl e7 P4 (g := (mkF m 37 #[.val (.ref so), .val (.ref sq), .val (.ref sq)] [(.ref so)])) rfl rfl (hb hby d16_37)
    refine Go.via st8 ?_
    show Go p.tables e below P T8 (mkF m 40 #[.val (.ref so), .val (.ref sq), .val (.ref sq)] [(.ref tb)])
    refine Go.via (fun t k => XS.aloadN X8.here hx rfl (hb hby d16_40) rfl rfl k) ?_
    show Go p.tables e below P T8 (mkF m 41 #[.val (.ref so), .val (.ref sq), .val (.ref sq)] [(.ref sq), (.ref tb)])
    obtain ⟨T9, X9, e9, st9⟩ := getF X8 hx hZ hown (host := "") (Or.inl (hw _ (List.mem_of_getElem? (i := 18) rfl))) Via.refl e8 P8 (g := (mkF m 41 #[.val (.ref so), .val (.ref sq), .val (.ref sq)] [(.ref sq), (.ref tb)])) rfl rfl (hb hby d16_41)
    refine Go.via st9 ?_
    show Go p.tables e below P T9 (mkF m 44 #[.val (.ref so), .val (.ref sq), .val (.ref sq)] [(.ref tc), (.ref tb)])
    obtain ⟨_, _, ⟨T10, L10, k10, n10⟩, -, X10, ⟨Lc10, hQ10, l10, y10, z10⟩, st10⟩ := Jvm.LawKit.callS X9 hx (y := (⟨"java/lang/StringLatin1", "equals", "([B[B)Z"⟩ : MethodName)) hown (mvT hZ (hw _ (List.mem_of_getElem? (i := 79) rfl))) (mvT hZ (hw _ (List.mem_of_getElem? (i := 80) rfl))) (mvT hZ (hw _ (List.mem_of_getElem? (i := 38) rfl))) (mvT hZ (hw _ (List.mem_of_getElem? (i := 81) rfl))) (by decide) (backOf (W := 0) (rm17 l Z a0 hw [] tb tc kk kc bx bz h0 n0 Z0 P6 P10 (by first | assumption | decide | omega : bx.length ≤ 1000) (by first | assumption | decide | omega : bz.length ≤ 1000)) hZ (hw _ (List.mem_of_getElem? (i := 81) rfl)) (hw _ (List.mem_of_getElem? (i := 38) rfl)) (by decide) (by decide)) (g := (mkF m 44 #[.val (.ref so), .val (.ref sq), .val (.ref sq)] [(.ref tc), (.ref tb)])) rfl (by rw [hml]; rfl) (argsL := [(.ref tb), (.ref tc)]) (rest := []) (lenOf own_pd9 rfl) rfl (by show 2 * 0 + _ ≤ _; exact Nat.le_of_eq rfl) (hb hby d16_44) (fun _ _ => ⟨rfl, e9, (by decide : 0 + 0 ≤ _), (by decide : 0 + 0 ≤ _)⟩)
    dsimp only [Pt.U, Pt.locs, Pt.cells, Pt.slots] at X10 l10 y10 z10 st10 hQ10
    subst l10 y10 z10
    obtain ⟨rfl, Nq10, hh10⟩ := hQ10
    obtain ⟨lc10, Xh10, N10⟩ := own_hide X10 (Fr.app N0 Nq10)
    clear X10
    refine Go.via st10 ?_
    show Go p.tables e below P T10 (mkF m 47 #[.val (.ref so), .val (.ref sq), .val (.ref sq)] [(.int (if bx = bz then (1 : Int32) else (0 : Int32)))])
    by_cases hc11 : (if bx = bz then (1 : Int32) else (0 : Int32)) = (0 : Int32)
    · refine Go.via (fun t k => XS.ifYes Xh10.here hx rfl (pc0 := 47) (pc' := 54) rfl (hb hby d16_47) rfl ((if0 _ _).trans (teq hc11).1) (by decide) (by decide) k) ?_
      show Go p.tables e below P T10 (mkF m 54 #[.val (.ref so), .val (.ref sq), .val (.ref sq)] [])
      refine Go.via (fun t k => XS.iconst Xh10.here hx rfl (hb hby d16_54) k) ?_
      show Go p.tables e below P T10 (mkF m 55 #[.val (.ref so), .val (.ref sq), .val (.ref sq)] [(.int (0 : Int32))])
      obtain ⟨fs, hr, hrun, hended, hW, hsame⟩ := Xh10.leave (v := some (.int (if bx = bz then (1 : Int32) else (0 : Int32)))) (fun h => by rw [Bd.returns] at h; cases h)
      refine ⟨_, _, retZ Xh10 hx (t := .boolean) Bd.returns (by simp) (hb hby d16_55) (show nar .boolean (0 : Int32) = _ from (if_neg (own_i0 hc11)).symm) hr, hrun, hended, hP _ _ ⟨_, _, rfl, ?_, ⟨_, rfl⟩, hW, hsame.mono (by decide) (by decide)⟩⟩
      show Q16 Z so sq cs tb tc kk kc bx bz h0 n0 _ T10.heap _
      rw [hh10]
      exact ⟨rfl, N10, rfl⟩
    · refine Go.via (fun t k => XS.ifNo Xh10.here hx rfl (hb hby d16_47) rfl ((if0 _ _).trans (feq hc11).1) k) ?_
      show Go p.tables e below P T10 (mkF m 50 #[.val (.ref so), .val (.ref sq), .val (.ref sq)] [])
      refine Go.via (fun t k => XS.iconst Xh10.here hx rfl (hb hby d16_50) k) ?_
      refine Go.via (fun t k => XS.goto Xh10.here hx rfl (pc0 := 51) (pc' := 55) rfl (hb hby d16_51) (by decide) (by decide) k) ?_
      show Go p.tables e below P T10 (mkF m 55 #[.val (.ref so), .val (.ref sq), .val (.ref sq)] [(.int (1 : Int32))])
      obtain ⟨fs, hr, hrun, hended, hW, hsame⟩ := Xh10.leave (v := some (.int (if bx = bz then (1 : Int32) else (0 : Int32)))) (fun h => by rw [Bd.returns] at h; cases h)
      refine ⟨_, _, retZ Xh10 hx (t := .boolean) Bd.returns (by simp) (hb hby d16_55) (show nar .boolean (1 : Int32) = _ from (if_pos (own_i1 hc11)).symm) hr, hrun, hended, hP _ _ ⟨_, _, rfl, ?_, ⟨_, rfl⟩, hW, hsame.mono (by decide) (by decide)⟩⟩
      show Q16 Z so sq cs tb tc kk kc bx bz h0 n0 _ T10.heap _
      rw [hh10]
      exact ⟨rfl, N10, rfl⟩
theorem ef_16n (m : MethodId) (x0 : Addr) : entryFrame m #[(.ref x0), .null] 3 = mkF m 0 #[.val (.ref x0), .val .null, .unset] [] := by first | (simp [entryFrame, mkF, argsToLocals, Value.category]; done) | rfl
def Q16n (Z : State) (so : Addr) (h0 : Heap) (n0 : Nat) (v : Option Value) (h : Heap) (L : List Loc) : Prop := v = some (.int (0 : Int32)) ∧ Fr n0 L ∧ h = h0
set_option maxRecDepth 65536 in
set_option maxHeartbeats 40000000 in
theorem rm16n (l : Launch) (Z : State) (a0 : Array Value) (hw : ∀ d ∈ tables_1, d.before a0 Z = true) (ws : List Jvm.Cond) (so : Addr) (h0 : Heap) (n0 : Nat) (Z0 : n0 ≤ h0.size) :
    MetFree l (⟨"java/lang/String", "equals", "(Ljava/lang/Object;)Z"⟩ : MethodName) (head1 (Jvm.Cond.code (⟨"java/lang/String", "equals", "(Ljava/lang/Object;)Z"⟩ : MethodName) jdk_42_method_66_code 3 (some .boolean) :: ws) ({ frames := 0, cells := 0, slots := 0, locals := 0 } : Room)) (fun a U => a = #[(.ref so), .null] ∧ Z.Warmed39 U.vm ∧ U.heap = h0) (fun _ _ _ _ _ => True) (fun _ U o U' => ∃ v L, o = .returned v ∧ Q16n Z so h0 n0 v U'.heap L ∧ FrameEnd U o U' L ({ frames := 0, cells := 0, slots := 0, locals := 0 } : Room).cells ({ frames := 0, cells := 0, slots := 0, locals := 0 } : Room).slots) := by
  refine MetFree.of_bodySF (plainFor_of_name own_pn0) hisR ?_
  intro p e s m args below meth c s₁ Bd hml0 hP hK
  obtain ⟨rfl, hZ, hh⟩ := hP
  have hx := Bd.exec
  have hby := Bd.bytes
  have hml : c.maxLocals = 3 := hml0
  have hown : s.vm.findClass "java/lang/String" = some m.cls := findClass_of_methodNamed Bd.named
  have hnm := (name_of_methodNamed Bd.named Bd.method).1
  have X0 : Stand p l e ({ frames := 0, cells := 0, slots := 0, locals := 0 } : Room) s m #[(.ref so), .null] below meth c s₁ [] 0 0 := Stand.of_body Bd
  have e0 : s₁.heap = h0 := by rw [← hh, Bd.state]; rfl
  have N0 := Fr.nil n0
  have K0 : Keep h0 h0 [] := Keep.refl _ _
  suffices GO : ∀ P : Outcome → State → Prop, (∀ o U', (∃ v L, o = .returned v ∧ Q16n Z so h0 n0 v U'.heap L ∧ FrameEnd s o U' L ({ frames := 0, cells := 0, slots := 0, locals := 0 } : Room).cells ({ frames := 0, cells := 0, slots := 0, locals := 0 } : Room).slots) → P o U') → Go p.tables e below P s₁ (mkF m 0 #[.val (.ref so), .val .null, .unset] []) by
    obtain ⟨s2, o, st, r⟩ := GO _ (fun _ _ q => q)
    exact ⟨s2, o, castTop (ef_16n m so) st, r⟩
  clear hh
  intro P hP
  show Go p.tables e below P s₁ (mkF m 0 #[.val (.ref so), .val .null, .unset] [])
  refine Go.via (fun t k => XS.aloadN X0.here hx rfl (hb hby d16_0) rfl rfl k) ?_
  refine Go.via (fun t k => XS.aloadN X0.here hx rfl (hb hby d16_1) rfl rfl k) ?_
  show Go p.tables e below P s₁ (mkF m 2 #[.val (.ref so), .val .null, .unset] [.null, (.ref so)])
  refine Go.via (fun t k => Jvm.RoadKit.acmp (g := (mkF m 2 #[.val (.ref so), .val .null, .unset] [.null, (.ref so)])) X0 hx rfl rfl rfl (pc0 := 2) (pc' := 7) (same := false) rfl (hb hby d16_2) rfl (decide_eq_false nofun) (by decide) (by decide) k) ?_
  show Go p.tables e below P s₁ (mkF m 7 #[.val (.ref so), .val .null, .unset] [])
  refine Go.via (fun t k => XS.aloadN X0.here hx rfl (hb hby d16_7) rfl rfl k) ?_
  show Go p.tables e below P s₁ (mkF m 8 #[.val (.ref so), .val .null, .unset] [.null])
  refine Go.via (fun t k => X0.instanceofNull hx (g := (mkF m 8 #[.val (.ref so), .val .null, .unset] [.null])) rfl rfl (hb hby d16_8) t k) ?_
  show Go p.tables e below P s₁ (mkF m 11 #[.val (.ref so), .val .null, .unset] [(.int (0 : Int32))])
  refine Go.via (fun t k => XS.ifYes X0.here hx rfl (pc0 := 11) (pc' := 54) rfl (hb hby d16_11) rfl ((if0 _ _).trans (teq (rfl : (0 : Int32) = (0 : Int32))).1) (by decide) (by decide) k) ?_
  show Go p.tables e below P s₁ (mkF m 54 #[.val (.ref so), .val .null, .unset] [])
  refine Go.via (fun t k => XS.iconst X0.here hx rfl (hb hby d16_54) k) ?_
  show Go p.tables e below P s₁ (mkF m 55 #[.val (.ref so), .val .null, .unset] [(.int (0 : Int32))])
  obtain ⟨fs, hr, hrun, hended, hW, hsame⟩ := X0.leave (v := some (.int (0 : Int32))) (fun h => by rw [Bd.returns] at h; cases h)
  refine ⟨_, _, retZ X0 hx (t := .boolean) Bd.returns (by simp) (hb hby d16_55) rfl hr, hrun, hended, hP _ _ ⟨_, _, rfl, ?_, ⟨_, rfl⟩, hW, hsame.mono (by decide) (by decide)⟩⟩
  show Q16n Z so h0 n0 _ s₁.heap _
  rw [e0]
  exact ⟨rfl, N0, rfl⟩
theorem own_pn4 : plainName "com/example/tri3/tri3/StageKind" = true := by first | (simp [plainName, overriddenIn]; done) | decide +kernel
theorem d19_0 : decode prog_28_method_1_code 0 = .ok (.getstatic 16, 3) := by decide +kernel
theorem d19_3 : decode prog_28_method_1_code 3 = .ok (.invokevirtual 20, 3) := by decide +kernel
theorem d19_6 : decode prog_28_method_1_code 6 = .ok (.checkcast 21, 3) := by decide +kernel
theorem d19_9 : decode prog_28_method_1_code 9 = .ok (.areturn, 1) := by decide +kernel
theorem ef_19 (m : MethodId)  : entryFrame m #[] 0 = mkF m 0 #[] [] := by first | (simp [entryFrame, mkF, argsToLocals, Value.category]; done) | rfl
def Q19 (Z : State) (va : Addr) (kva : ClassId) (aF : Addr) (aC : Addr) (aS : Addr) (aD : Addr) (h0 : Heap) (n0 : Nat) (v : Option Value) (h : Heap) (L : List Loc) : Prop := ∃ (r : Addr), v = some (.ref r) ∧ Fr n0 L ∧ Keep h0 h [] ∧ h0.size ≤ r ∧ Arv Z h r kva (.object "com/example/tri3/tri3/StageKind") (4 : Int32) [(.ref aF), (.ref aC), (.ref aS), (.ref aD)] .null ∧ Exa Z h r "[Lcom/example/tri3/tri3/StageKind;"
set_option maxRecDepth 65536 in
set_option maxHeartbeats 40000000 in
theorem rm19 (l : Launch) (Z : State) (a0 : Array Value) (hw : ∀ d ∈ tables_1, d.before a0 Z = true) (ws : List Jvm.Cond) (va : Addr) (kva : ClassId) (aF : Addr) (aC : Addr) (aS : Addr) (aD : Addr) (h0 : Heap) (n0 : Nat) (Z0 : n0 ≤ h0.size) (O0 : Old Z n0 h0) (P1 : Sta Z Z.heap "com/example/tri3/tri3/StageKind" "$VALUES" "[Lcom/example/tri3/tri3/StageKind;" (.ref va)) (P2 : Arv Z Z.heap va kva (.object "com/example/tri3/tri3/StageKind") (4 : Int32) [(.ref aF), (.ref aC), (.ref aS), (.ref aD)] .null) (P3 : Exa Z Z.heap va "[Lcom/example/tri3/tri3/StageKind;") :
    MetFree l (⟨"com/example/tri3/tri3/StageKind", "values", "()[Lcom/example/tri3/tri3/StageKind;"⟩ : MethodName) (head1 (Jvm.Cond.code (⟨"com/example/tri3/tri3/StageKind", "values", "()[Lcom/example/tri3/tri3/StageKind;"⟩ : MethodName) prog_28_method_1_code 0 (some (.array (.object "com/example/tri3/tri3/StageKind"))) :: ws) ({ frames := 1, cells := 1, slots := 4, locals := 14 } : Room)) (fun a U => a = #[] ∧ Z.Warmed39 U.vm ∧ U.heap = h0) (fun _ _ _ _ _ => True) (fun _ U o U' => ∃ v L, o = .returned v ∧ Q19 Z va kva aF aC aS aD h0 n0 v U'.heap L ∧ FrameEnd U o U' L ({ frames := 1, cells := 1, slots := 4, locals := 14 } : Room).cells ({ frames := 1, cells := 1, slots := 4, locals := 14 } : Room).slots) := by
  refine MetFree.of_bodySF (plainFor_of_name own_pn4) hisR ?_
  intro p e s m args below meth c s₁ Bd hml0 hP hK
  obtain ⟨rfl, hZ, hh⟩ := hP
  have hx := Bd.exec
  have hby := Bd.bytes
  have hml : c.maxLocals = 0 := hml0
  have hown : s.vm.findClass "com/example/tri3/tri3/StageKind" = some m.cls := findClass_of_methodNamed Bd.named
  have hnm := (name_of_methodNamed Bd.named Bd.method).1
  have X0 : Stand p l e ({ frames := 1, cells := 1, slots := 4, locals := 14 } : Room) s m #[] below meth c s₁ [] 0 0 := Stand.of_body Bd
  have e0 : s₁.heap = h0 := by rw [← hh, Bd.state]; rfl
  have N0 := Fr.nil n0
  have K0 : Keep h0 h0 [] := Keep.refl _ _
  suffices GO : ∀ P : Outcome → State → Prop, (∀ o U', (∃ v L, o = .returned v ∧ Q19 Z va kva aF aC aS aD h0 n0 v U'.heap L ∧ FrameEnd s o U' L ({ frames := 1, cells := 1, slots := 4, locals := 14 } : Room).cells ({ frames := 1, cells := 1, slots := 4, locals := 14 } : Room).slots) → P o U') → Go p.tables e below P s₁ (mkF m 0 #[] []) by
    obtain ⟨s2, o, st, r⟩ := GO _ (fun _ _ q => q)
    exact ⟨s2, o, castTop (ef_19 m ) st, r⟩
  clear hh
  intro P hP
  show Go p.tables e below P s₁ (mkF m 0 #[] [])
  obtain ⟨T1, X1, e1, st1⟩ := getS2 X0 hx hZ hown (host := "") (Or.inl (hw _ (List.mem_of_getElem? (i := 91) rfl))) Via.refl e0 (P1.ext O0.2) (g := (mkF m 0 #[] [])) rfl (hb hby d19_0)
  refine Go.via st1 ?_
  show Go p.tables e below P T1 (mkF m 3 #[] [(.ref va)])
  obtain ⟨T2, h2, X2, e2, E2, V2, B2, st2⟩ := cloneH X1 hx hZ hown (hw _ (List.mem_of_getElem? (i := 93) rfl)) (hw _ (List.mem_of_getElem? (i := 94) rfl)) (hw _ (List.mem_of_getElem? (i := 98) rfl)) (hw _ (List.mem_of_getElem? (i := 96) rfl)) (hw _ (List.mem_of_getElem? (i := 97) rfl)) (hw _ (List.mem_of_getElem? (i := 99) rfl)) e1 (Arv.arh (P2.ext O0.2)) (P3.ext O0.2) (g := (mkF m 3 #[] [(.ref va)])) rfl (by rw [hml]; rfl) rfl (hb hby d19_3) (by decide) (W := 0) (by show 2 * 0 + _ ≤ _; exact Nat.le_of_eq rfl) (by decide) (cap := 4) (by decide) (by decide) (by decide)
  obtain ⟨b2, g2⟩ : ∃ z, z = h0.size := ⟨_, rfl⟩
  rw [← g2] at V2 B2 st2
  refine Go.via st2 ?_
  have g3 : n0 ≤ b2 := Nat.le_trans Z0 (Nat.le_of_eq g2.symm)
  have sz4 : h0.size ≤ b2 := Nat.le_trans K0.1 (Nat.le_of_eq g2.symm)
  have Z5 : n0 ≤ h2.size := Nat.le_trans Z0 E2.1
  have K6 : Keep h0 h2 [] := K0.ext E2
  have O7 : Old Z n0 h2 := O0.ext E2
  have Vc2 : Arv Z h2 b2 kva (.object "com/example/tri3/tri3/StageKind") (4 : Int32) [(.ref aF), (.ref aC), (.ref aS), (.ref aD)] .null := V2
  show Go p.tables e below P T2 (mkF m 6 #[] [(.ref b2)])
  obtain ⟨T8, X8, e8, st8⟩ := castY X2 hx hZ hown (hw _ (List.mem_of_getElem? (i := 104) rfl)) e2 (Ins.self B2) (g := (mkF m 6 #[] [(.ref b2)])) rfl rfl (hb hby d19_6)
  refine Go.via st8 ?_
  show Go p.tables e below P T8 (mkF m 9 #[] [(.ref b2)])
  obtain ⟨fs, hr, hrun, hended, hW, hsame⟩ := X8.leave (v := some (.ref b2)) (fun h => by rw [Bd.returns] at h; cases h)
  refine ⟨_, _, retA X8 hx Bd.returns rfl rfl rfl (hb hby d19_9) hr, hrun, hended, hP _ _ ⟨_, _, rfl, ?_, ⟨_, rfl⟩, hW, hsame.mono (by decide) (by decide)⟩⟩
  show Q19 Z va kva aF aC aS aD h0 n0 _ T8.heap _
  rw [e8]
  exact ⟨b2, rfl, N0, K6, sz4, Vc2, B2⟩
theorem own_pd10 : parseMethodDescriptor "()[Lcom/example/tri3/tri3/StageKind;" = some ⟨[], some (.array (.object "com/example/tri3/tri3/StageKind"))⟩ := by decide +kernel
theorem own_pd11 : parseMethodDescriptor "(Ljava/lang/Object;)Z" = some ⟨[(.object "java/lang/Object")], some .boolean⟩ := by decide +kernel
theorem d18_0 : decode prog_28_method_4_code 0 = .ok (.invokestatic 39, 3) := by decide +kernel
theorem d18_3 : decode prog_28_method_4_code 3 = .ok (.astore_n 1, 1) := by decide +kernel
theorem d18_4 : decode prog_28_method_4_code 4 = .ok (.aload_n 1, 1) := by decide +kernel
theorem d18_5 : decode prog_28_method_4_code 5 = .ok (.arraylength, 1) := by decide +kernel
theorem d18_6 : decode prog_28_method_4_code 6 = .ok (.istore_n 2, 1) := by decide +kernel
theorem d18_7 : decode prog_28_method_4_code 7 = .ok (.iconst 0, 1) := by decide +kernel
theorem d18_8 : decode prog_28_method_4_code 8 = .ok (.istore_n 3, 1) := by decide +kernel
theorem d18_9 : decode prog_28_method_4_code 9 = .ok (.iload_n 3, 1) := by decide +kernel
theorem d18_10 : decode prog_28_method_4_code 10 = .ok (.iload_n 2, 1) := by decide +kernel
theorem d18_11 : decode prog_28_method_4_code 11 = .ok (.if_icmp .ge 29, 3) := by decide +kernel
theorem d18_14 : decode prog_28_method_4_code 14 = .ok (.aload_n 1, 1) := by decide +kernel
theorem d18_15 : decode prog_28_method_4_code 15 = .ok (.iload_n 3, 1) := by decide +kernel
theorem d18_16 : decode prog_28_method_4_code 16 = .ok (.aaload, 1) := by decide +kernel
theorem d18_17 : decode prog_28_method_4_code 17 = .ok (.astore 4, 2) := by decide +kernel
theorem d18_19 : decode prog_28_method_4_code 19 = .ok (.aload 4, 2) := by decide +kernel
theorem d18_21 : decode prog_28_method_4_code 21 = .ok (.getfield 35, 3) := by decide +kernel
theorem d18_24 : decode prog_28_method_4_code 24 = .ok (.aload_n 0, 1) := by decide +kernel
theorem d18_25 : decode prog_28_method_4_code 25 = .ok (.invokevirtual 43, 3) := by decide +kernel
theorem d18_28 : decode prog_28_method_4_code 28 = .ok (.ifCond .eq 6, 3) := by decide +kernel
theorem d18_31 : decode prog_28_method_4_code 31 = .ok (.aload 4, 2) := by decide +kernel
theorem d18_33 : decode prog_28_method_4_code 33 = .ok (.areturn, 1) := by decide +kernel
theorem ef_18v0 (m : MethodId) (x0 : Addr) : entryFrame m #[(.ref x0)] 5 = mkF m 0 #[.val (.ref x0), .unset, .unset, .unset, .unset] [] := by first | (simp [entryFrame, mkF, argsToLocals, Value.category]; done) | rfl
def Q18v0 (Z : State) (so : Addr) (cs : Int32) (tb : Addr) (kk : ClassId) (bx : List Int32) (va : Addr) (kva : ClassId) (aF : Addr) (sF : Addr) (tF : Addr) (kF : ClassId) (aC : Addr) (sC : Addr) (tC : Addr) (kC : ClassId) (aS : Addr) (sS : Addr) (tS : Addr) (kS : ClassId) (aD : Addr) (sD : Addr) (tD : Addr) (kD : ClassId) (h0 : Heap) (n0 : Nat) (v : Option Value) (h : Heap) (L : List Loc) : Prop := v = some (.ref aF) ∧ Fr n0 L ∧ Keep h0 h []
set_option maxRecDepth 65536 in
set_option maxHeartbeats 40000000 in
theorem rm18v0 (l : Launch) (Z : State) (a0 : Array Value) (hw : ∀ d ∈ tables_1, d.before a0 Z = true) (ws : List Jvm.Cond) (so : Addr) (cs : Int32) (tb : Addr) (kk : ClassId) (bx : List Int32) (va : Addr) (kva : ClassId) (aF : Addr) (sF : Addr) (tF : Addr) (kF : ClassId) (aC : Addr) (sC : Addr) (tC : Addr) (kC : ClassId) (aS : Addr) (sS : Addr) (tS : Addr) (kS : ClassId) (aD : Addr) (sD : Addr) (tD : Addr) (kD : ClassId) (h0 : Heap) (n0 : Nat) (Z0 : n0 ≤ h0.size) (O0 : Old Z n0 h0) (P1 : Sta Z Z.heap "java/lang/String" "COMPACT_STRINGS" "Z" (.int cs)) (hcs : ¬ cs = (0 : Int32)) (P3 : Sta Z Z.heap "com/example/tri3/tri3/StageKind" "$VALUES" "[Lcom/example/tri3/tri3/StageKind;" (.ref va)) (P4 : Arv Z Z.heap va kva (.object "com/example/tri3/tri3/StageKind") (4 : Int32) [(.ref aF), (.ref aC), (.ref aS), (.ref aD)] .null) (P5 : Exa Z Z.heap va "[Lcom/example/tri3/tri3/StageKind;") (P6 : Exa Z Z.heap aF "com/example/tri3/tri3/StageKind") (P7 : Fld Z Z.heap aF "com/example/tri3/tri3/StageKind" "fileName" "Ljava/lang/String;" (.ref sF)) (P8 : Exa Z Z.heap sF "java/lang/String") (P9 : Fld Z Z.heap sF "java/lang/String" "value" "[B" (.ref tF)) (P10 : Fld Z Z.heap sF "java/lang/String" "coder" "B" (.int (0 : Int32))) (P11 : Arv Z Z.heap tF kF .byte (own_lg ([(102 : Int32), (101 : Int32), (116 : Int32), (99 : Int32), (104 : Int32)] : List Int32)) (([(102 : Int32), (101 : Int32), (116 : Int32), (99 : Int32), (104 : Int32)] : List Int32).map Value.int) (.int (0 : Int32))) (P12 : Exa Z Z.heap aC "com/example/tri3/tri3/StageKind") (P13 : Fld Z Z.heap aC "com/example/tri3/tri3/StageKind" "fileName" "Ljava/lang/String;" (.ref sC)) (P14 : Exa Z Z.heap sC "java/lang/String") (P15 : Fld Z Z.heap sC "java/lang/String" "value" "[B" (.ref tC)) (P16 : Fld Z Z.heap sC "java/lang/String" "coder" "B" (.int (0 : Int32))) (P17 : Arv Z Z.heap tC kC .byte (own_lg ([(99 : Int32), (97 : Int32), (108 : Int32), (108 : Int32)] : List Int32)) (([(99 : Int32), (97 : Int32), (108 : Int32), (108 : Int32)] : List Int32).map Value.int) (.int (0 : Int32))) (P18 : Exa Z Z.heap aS "com/example/tri3/tri3/StageKind") (P19 : Fld Z Z.heap aS "com/example/tri3/tri3/StageKind" "fileName" "Ljava/lang/String;" (.ref sS)) (P20 : Exa Z Z.heap sS "java/lang/String") (P21 : Fld Z Z.heap sS "java/lang/String" "value" "[B" (.ref tS)) (P22 : Fld Z Z.heap sS "java/lang/String" "coder" "B" (.int (0 : Int32))) (P23 : Arv Z Z.heap tS kS .byte (own_lg ([(115 : Int32), (113 : Int32), (108 : Int32)] : List Int32)) (([(115 : Int32), (113 : Int32), (108 : Int32)] : List Int32).map Value.int) (.int (0 : Int32))) (P24 : Exa Z Z.heap aD "com/example/tri3/tri3/StageKind") (P25 : Fld Z Z.heap aD "com/example/tri3/tri3/StageKind" "fileName" "Ljava/lang/String;" (.ref sD)) (P26 : Exa Z Z.heap sD "java/lang/String") (P27 : Fld Z Z.heap sD "java/lang/String" "value" "[B" (.ref tD)) (P28 : Fld Z Z.heap sD "java/lang/String" "coder" "B" (.int (0 : Int32))) (P29 : Arv Z Z.heap tD kD .byte (own_lg ([(100 : Int32), (101 : Int32), (108 : Int32), (105 : Int32), (118 : Int32), (101 : Int32), (114 : Int32)] : List Int32)) (([(100 : Int32), (101 : Int32), (108 : Int32), (105 : Int32), (118 : Int32), (101 : Int32), (114 : Int32)] : List Int32).map Value.int) (.int (0 : Int32))) (P30 : Exa Z h0 so "java/lang/String") (P31 : Fld Z h0 so "java/lang/String" "value" "[B" (.ref tb)) (P32 : Fld Z h0 so "java/lang/String" "coder" "B" (.int (0 : Int32))) (P33 : Arv Z h0 tb kk .byte (own_lg bx) (bx.map Value.int) (.int (0 : Int32))) (smx : bx.length ≤ 1000) (hc_ : bx = ([(102 : Int32), (101 : Int32), (116 : Int32), (99 : Int32), (104 : Int32)] : List Int32)) :
    MetFree l (⟨"com/example/tri3/tri3/StageKind", "named", "(Ljava/lang/String;)Lcom/example/tri3/tri3/StageKind;"⟩ : MethodName) (head1 (Jvm.Cond.code (⟨"com/example/tri3/tri3/StageKind", "named", "(Ljava/lang/String;)Lcom/example/tri3/tri3/StageKind;"⟩ : MethodName) prog_28_method_4_code 5 (some (.object "com/example/tri3/tri3/StageKind")) :: ws) ({ frames := 2, cells := 1, slots := 4, locals := 28 } : Room)) (fun a U => a = #[(.ref so)] ∧ Z.Warmed39 U.vm ∧ U.heap = h0) (fun _ _ _ _ _ => True) (fun _ U o U' => ∃ v L, o = .returned v ∧ Q18v0 Z so cs tb kk bx va kva aF sF tF kF aC sC tC kC aS sS tS kS aD sD tD kD h0 n0 v U'.heap L ∧ FrameEnd U o U' L ({ frames := 2, cells := 1, slots := 4, locals := 28 } : Room).cells ({ frames := 2, cells := 1, slots := 4, locals := 28 } : Room).slots) := by
  refine MetFree.of_bodySF (plainFor_of_name own_pn4) hisR ?_
  intro p e s m args below meth c s₁ Bd hml0 hP hK
  obtain ⟨rfl, hZ, hh⟩ := hP
  have hx := Bd.exec
  have hby := Bd.bytes
  have hml : c.maxLocals = 5 := hml0
  have hown : s.vm.findClass "com/example/tri3/tri3/StageKind" = some m.cls := findClass_of_methodNamed Bd.named
  have hnm := (name_of_methodNamed Bd.named Bd.method).1
  have X0 : Stand p l e ({ frames := 2, cells := 1, slots := 4, locals := 28 } : Room) s m #[(.ref so)] below meth c s₁ [] 0 0 := Stand.of_body Bd
  have e0 : s₁.heap = h0 := by rw [← hh, Bd.state]; rfl
  have N0 := Fr.nil n0
  have K0 : Keep h0 h0 [] := Keep.refl _ _
  suffices GO : ∀ P : Outcome → State → Prop, (∀ o U', (∃ v L, o = .returned v ∧ Q18v0 Z so cs tb kk bx va kva aF sF tF kF aC sC tC kC aS sS tS kS aD sD tD kD h0 n0 v U'.heap L ∧ FrameEnd s o U' L ({ frames := 2, cells := 1, slots := 4, locals := 28 } : Room).cells ({ frames := 2, cells := 1, slots := 4, locals := 28 } : Room).slots) → P o U') → Go p.tables e below P s₁ (mkF m 0 #[.val (.ref so), .unset, .unset, .unset, .unset] []) by
    obtain ⟨s2, o, st, r⟩ := GO _ (fun _ _ q => q)
    exact ⟨s2, o, castTop (ef_18v0 m so) st, r⟩
  clear hh
  intro P hP
  show Go p.tables e below P s₁ (mkF m 0 #[.val (.ref so), .unset, .unset, .unset, .unset] [])
  obtain ⟨_, _, ⟨T1, L1, k1, n1⟩, -, X1, ⟨Lc1, hQ1, l1, y1, z1⟩, st1⟩ := Jvm.LawKit.callS X0 hx (y := (⟨"com/example/tri3/tri3/StageKind", "values", "()[Lcom/example/tri3/tri3/StageKind;"⟩ : MethodName)) hown (mvT hZ (hw _ (List.mem_of_getElem? (i := 88) rfl))) (mvT hZ (hw _ (List.mem_of_getElem? (i := 89) rfl))) (mvT hZ (hw _ (List.mem_of_getElem? (i := 83) rfl))) (mvT hZ (hw _ (List.mem_of_getElem? (i := 90) rfl))) (by decide) (backOf (W := 0) (rm19 l Z a0 hw [] va kva aF aC aS aD h0 n0 Z0 O0 P3 P4 P5) hZ (hw _ (List.mem_of_getElem? (i := 90) rfl)) (hw _ (List.mem_of_getElem? (i := 83) rfl)) (by decide) (by decide)) (g := (mkF m 0 #[.val (.ref so), .unset, .unset, .unset, .unset] [])) rfl (by rw [hml]; rfl) (argsL := []) (rest := []) (lenOf own_pd10 rfl) rfl (by show 2 * 0 + _ ≤ _; exact Nat.le_of_eq rfl) (hb hby d18_0) (fun _ _ => ⟨rfl, e0, (by decide : 0 + 1 ≤ _), (by decide : 0 + 4 ≤ _)⟩)
  dsimp only [Pt.U, Pt.locs, Pt.cells, Pt.slots] at X1 l1 y1 z1 st1 hQ1
  subst l1 y1 z1
  obtain ⟨r_1, rfl, Nq1, K1, fr1_r, u1_0, u1_1⟩ := hQ1
  obtain ⟨lc1, Xh1, N1⟩ := own_hide X1 (Fr.app N0 Nq1)
  clear X1
  refine Go.via st1 ?_
  have ne2 : so ≠ r_1 := Nat.ne_of_lt (Nat.lt_of_lt_of_le P30.lt fr1_r)
  have ne3 : tb ≠ r_1 := Nat.ne_of_lt (Nat.lt_of_lt_of_le P33.lt fr1_r)
  have g4 : n0 ≤ r_1 := Nat.le_trans Z0 fr1_r
  have sz5 : h0.size ≤ r_1 := Nat.le_trans K0.1 fr1_r
  have Z6 : n0 ≤ T1.heap.size := Nat.le_trans Z0 K1.1
  have K7 : Keep h0 T1.heap [] := K0.trans K1 own_all0
  have O8 : Old Z n0 T1.heap := O0.keep K1 own_all0
  show Go p.tables e below P T1 (mkF m 3 #[.val (.ref so), .unset, .unset, .unset, .unset] [(.ref r_1)])
  refine Go.via (fun t k => XS.astoreN Xh1.here hx rfl (hb hby d18_3) rfl rfl (l' := #[.val (.ref so), .val (.ref r_1), .unset, .unset, .unset]) rfl k) ?_
  refine Go.via (fun t k => XS.aloadN Xh1.here hx rfl (hb hby d18_4) rfl rfl k) ?_
  show Go p.tables e below P T1 (mkF m 5 #[.val (.ref so), .val (.ref r_1), .unset, .unset, .unset] [(.ref r_1)])
  obtain ⟨c9, A9, -, S9, N9, -, -⟩ := id u1_0
  refine Go.via (fun t k => Xh1.arraylength hx (by exact A9.1) (State.isArrayOf_alike hZ.alike A9.2.1) (g := (mkF m 5 #[.val (.ref so), .val (.ref r_1), .unset, .unset, .unset] [(.ref r_1)])) rfl rfl (hb hby d18_5) t (by rw [len_of S9 N9]; exact k)) ?_
  show Go p.tables e below P T1 (mkF m 6 #[.val (.ref so), .val (.ref r_1), .unset, .unset, .unset] [(.int (4 : Int32))])
  refine Go.via (fun t k => XS.istoreN Xh1.here hx rfl (hb hby d18_6) rfl (l' := #[.val (.ref so), .val (.ref r_1), .val (.int (4 : Int32)), .unset, .unset]) rfl k) ?_
  refine Go.via (fun t k => XS.iconst Xh1.here hx rfl (hb hby d18_7) k) ?_
  refine Go.via (fun t k => XS.istoreN Xh1.here hx rfl (hb hby d18_8) rfl (l' := #[.val (.ref so), .val (.ref r_1), .val (.int (4 : Int32)), .val (.int (0 : Int32)), .unset]) rfl k) ?_
  show Go p.tables e below P T1 (mkF m 9 #[.val (.ref so), .val (.ref r_1), .val (.int (4 : Int32)), .val (.int (0 : Int32)), .unset] [])
  refine Go.via (fun t k => XS.iloadN Xh1.here hx rfl (hb hby d18_9) rfl k) ?_
  refine Go.via (fun t k => XS.iloadN Xh1.here hx rfl (hb hby d18_10) rfl k) ?_
  show Go p.tables e below P T1 (mkF m 11 #[.val (.ref so), .val (.ref r_1), .val (.int (4 : Int32)), .val (.int (0 : Int32)), .unset] [(.int (4 : Int32)), (.int (0 : Int32))])
  refine Go.via (fun t k => XS.icmpNo Xh1.here hx rfl (hb hby d18_11) rfl (tlt (by decide : (0 : Int32) < (4 : Int32))).2.1 k) ?_
  show Go p.tables e below P T1 (mkF m 14 #[.val (.ref so), .val (.ref r_1), .val (.int (4 : Int32)), .val (.int (0 : Int32)), .unset] [])
  refine Go.via (fun t k => XS.aloadN Xh1.here hx rfl (hb hby d18_14) rfl rfl k) ?_
  refine Go.via (fun t k => XS.iloadN Xh1.here hx rfl (hb hby d18_15) rfl k) ?_
  show Go p.tables e below P T1 (mkF m 16 #[.val (.ref so), .val (.ref r_1), .val (.int (4 : Int32)), .val (.int (0 : Int32)), .unset] [(.int (0 : Int32)), (.ref r_1)])
  obtain ⟨c10, A10, q10, S10, N10, H10, G10⟩ := id u1_0
  have hin10 : ¬ ((0 : Int32) < 0 ∨ c10.slots.size ≤ ((0 : Int32)).toNatClampNeg) := inb_of S10 ⟨by decide, by decide⟩
  have hat10 : c10.slots[((0 : Int32)).toNatClampNeg]? = some (.ref aF) := (H10 _ (Nat.lt_of_not_le fun q => hin10 (Or.inr q))).trans (congrArg some rfl)
  refine Go.via (fun t k => Xh1.aaload hx (j := (0 : Int32)) (v := (.ref aF)) (by exact A10.1) (State.isArrayOf_alike hZ.alike A10.2.1) rfl A10.2.2 hin10 hat10 (g := (mkF m 16 #[.val (.ref so), .val (.ref r_1), .val (.int (4 : Int32)), .val (.int (0 : Int32)), .unset] [(.int (0 : Int32)), (.ref r_1)])) rfl rfl (hb hby d18_16) t k) ?_
  show Go p.tables e below P T1 (mkF m 17 #[.val (.ref so), .val (.ref r_1), .val (.int (4 : Int32)), .val (.int (0 : Int32)), .unset] [(.ref aF)])
  refine Go.via (fun t k => XS.astore Xh1.here hx rfl (hb hby d18_17) rfl rfl (l' := #[.val (.ref so), .val (.ref r_1), .val (.int (4 : Int32)), .val (.int (0 : Int32)), .val (.ref aF)]) rfl k) ?_
  refine Go.via (fun t k => XS.aload Xh1.here hx rfl (hb hby d18_19) rfl rfl k) ?_
  show Go p.tables e below P T1 (mkF m 21 #[.val (.ref so), .val (.ref r_1), .val (.int (4 : Int32)), .val (.int (0 : Int32)), .val (.ref aF)] [(.ref aF)])
  obtain ⟨T11, X11, e11, st11⟩ := getF Xh1 hx hZ hown (host := "") (Or.inl (hw _ (List.mem_of_getElem? (i := 106) rfl))) Via.refl rfl (P7.ext O8.2) (g := (mkF m 21 #[.val (.ref so), .val (.ref r_1), .val (.int (4 : Int32)), .val (.int (0 : Int32)), .val (.ref aF)] [(.ref aF)])) rfl rfl (hb hby d18_21)
  refine Go.via st11 ?_
  show Go p.tables e below P T11 (mkF m 24 #[.val (.ref so), .val (.ref r_1), .val (.int (4 : Int32)), .val (.int (0 : Int32)), .val (.ref aF)] [(.ref sF)])
  refine Go.via (fun t k => XS.aloadN X11.here hx rfl (hb hby d18_24) rfl rfl k) ?_
  show Go p.tables e below P T11 (mkF m 25 #[.val (.ref so), .val (.ref r_1), .val (.int (4 : Int32)), .val (.int (0 : Int32)), .val (.ref aF)] [(.ref so), (.ref sF)])
  have F12 : Exa Z T1.heap so "java/lang/String" := (P30.keep K1)
  have F13 : Fld Z T1.heap so "java/lang/String" "value" "[B" (.ref tb) := (P31.keep K1 own_nin0)
  have F14 : Fld Z T1.heap so "java/lang/String" "coder" "B" (.int (0 : Int32)) := (P32.keep K1 own_nin0)
  have F15 : Arv Z T1.heap tb kk .byte (own_lg bx) (bx.map Value.int) (.int (0 : Int32)) := (P33.keep K1 own_nin0)
  obtain ⟨cq16, kq16, q16a, q16b, q16c⟩ := isOf hZ e11 (P8.ext O8.2)
  obtain ⟨_, _, ⟨T16, L16, k16, n16⟩, -, X16, ⟨Lc16, hQ16, l16, y16, z16⟩, st16⟩ := X11.virtualBack hx (y := (⟨"java/lang/String", "equals", "(Ljava/lang/Object;)Z"⟩ : MethodName)) (z := (⟨"java/lang/String", "equals", "(Ljava/lang/Object;)Z"⟩ : MethodName)) hown (mvT hZ (hw _ (List.mem_of_getElem? (i := 108) rfl))) (mvT hZ (hw _ (List.mem_of_getElem? (i := 74) rfl))) (notFace_of_selects (args := #[]) (mvT hZ (hw _ (List.mem_of_getElem? (i := 76) rfl)))) (mvT hZ (hw _ (List.mem_of_getElem? (i := 76) rfl))) (mvT hZ (hw _ (List.mem_of_getElem? (i := 75) rfl))) (by decide) (backOf (W := 0) (rm16 l Z a0 hw [] sF so cs tF tb kF kk ([(102 : Int32), (101 : Int32), (116 : Int32), (99 : Int32), (104 : Int32)] : List Int32) bx T1.heap n0 Z6 O8 P1 (by first | assumption | decide | omega : ¬ cs = (0 : Int32)) (P8.ext O8.2) (P9.ext O8.2) (P10.ext O8.2) (P11.ext O8.2) F12 F13 F14 F15 (by decide) smx (own_sfun (P9.ext O8.2) F13 (P11.ext O8.2) F15 (by first | assumption | decide) (by first | assumption | decide))) hZ (hw _ (List.mem_of_getElem? (i := 77) rfl)) (hw _ (List.mem_of_getElem? (i := 1) rfl)) (by decide) (by decide)) q16a q16c (g := (mkF m 25 #[.val (.ref so), .val (.ref r_1), .val (.int (4 : Int32)), .val (.int (0 : Int32)), .val (.ref aF)] [(.ref so), (.ref sF)])) rfl (by rw [hml]; rfl) (Steps.refl _) (argsL := [(.ref so)]) (rest := []) (lenOf own_pd11 rfl) rfl (by show 2 * 0 + _ ≤ _; exact Nat.le_of_eq rfl) (hb hby d18_25) (fun _ _ => ⟨rfl, e11, (by decide : 1 + 0 ≤ _), (by decide : 4 + 0 ≤ _)⟩)
  dsimp only [Pt.U, Pt.locs, Pt.cells, Pt.slots] at X16 l16 y16 z16 st16 hQ16
  subst l16 y16 z16
  obtain ⟨rfl, Nq16, hh16⟩ := hQ16
  obtain ⟨lc16, Xh16, N16⟩ := own_hide X16 (Fr.app N1 Nq16)
  clear X16
  refine Go.hop st16 ?_
  show Go p.tables e below P T16 (mkF m 28 #[.val (.ref so), .val (.ref r_1), .val (.int (4 : Int32)), .val (.int (0 : Int32)), .val (.ref aF)] [(.int (if ([(102 : Int32), (101 : Int32), (116 : Int32), (99 : Int32), (104 : Int32)] : List Int32) = bx then (1 : Int32) else (0 : Int32)))])
  refine Go.via (fun t k => XS.ifNo Xh16.here hx rfl (hb hby d18_28) rfl ((if0 _ _).trans (feq (fun q => own_i0 q hc_.symm)).1) k) ?_
  show Go p.tables e below P T16 (mkF m 31 #[.val (.ref so), .val (.ref r_1), .val (.int (4 : Int32)), .val (.int (0 : Int32)), .val (.ref aF)] [])
  refine Go.via (fun t k => XS.aload Xh16.here hx rfl (hb hby d18_31) rfl rfl k) ?_
  show Go p.tables e below P T16 (mkF m 33 #[.val (.ref so), .val (.ref r_1), .val (.int (4 : Int32)), .val (.int (0 : Int32)), .val (.ref aF)] [(.ref aF)])
  obtain ⟨fs, hr, hrun, hended, hW, hsame⟩ := Xh16.leave (v := some (.ref aF)) (fun h => by rw [Bd.returns] at h; cases h)
  refine ⟨_, _, retA Xh16 hx Bd.returns rfl rfl rfl (hb hby d18_33) hr, hrun, hended, hP _ _ ⟨_, _, rfl, ?_, ⟨_, rfl⟩, hW, hsame.mono (by decide) (by decide)⟩⟩
  show Q18v0 Z so cs tb kk bx va kva aF sF tF kF aC sC tC kC aS sS tS kS aD sD tD kD h0 n0 _ T16.heap _
  rw [hh16]
  exact ⟨rfl, N16, K7⟩
theorem d18_34 : decode prog_28_method_4_code 34 = .ok (.iinc 3 1, 3) := by decide +kernel
theorem d18_37 : decode prog_28_method_4_code 37 = .ok (.goto (-28), 3) := by decide +kernel
theorem ef_18v1 (m : MethodId) (x0 : Addr) : entryFrame m #[(.ref x0)] 5 = mkF m 0 #[.val (.ref x0), .unset, .unset, .unset, .unset] [] := by first | (simp [entryFrame, mkF, argsToLocals, Value.category]; done) | rfl
def Q18v1 (Z : State) (so : Addr) (cs : Int32) (tb : Addr) (kk : ClassId) (bx : List Int32) (va : Addr) (kva : ClassId) (aF : Addr) (sF : Addr) (tF : Addr) (kF : ClassId) (aC : Addr) (sC : Addr) (tC : Addr) (kC : ClassId) (aS : Addr) (sS : Addr) (tS : Addr) (kS : ClassId) (aD : Addr) (sD : Addr) (tD : Addr) (kD : ClassId) (h0 : Heap) (n0 : Nat) (v : Option Value) (h : Heap) (L : List Loc) : Prop := v = some (.ref aC) ∧ Fr n0 L ∧ Keep h0 h []
set_option maxRecDepth 65536 in
set_option maxHeartbeats 40000000 in
theorem rm18v1 (l : Launch) (Z : State) (a0 : Array Value) (hw : ∀ d ∈ tables_1, d.before a0 Z = true) (ws : List Jvm.Cond) (so : Addr) (cs : Int32) (tb : Addr) (kk : ClassId) (bx : List Int32) (va : Addr) (kva : ClassId) (aF : Addr) (sF : Addr) (tF : Addr) (kF : ClassId) (aC : Addr) (sC : Addr) (tC : Addr) (kC : ClassId) (aS : Addr) (sS : Addr) (tS : Addr) (kS : ClassId) (aD : Addr) (sD : Addr) (tD : Addr) (kD : ClassId) (h0 : Heap) (n0 : Nat) (Z0 : n0 ≤ h0.size) (O0 : Old Z n0 h0) (P1 : Sta Z Z.heap "java/lang/String" "COMPACT_STRINGS" "Z" (.int cs)) (hcs : ¬ cs = (0 : Int32)) (P3 : Sta Z Z.heap "com/example/tri3/tri3/StageKind" "$VALUES" "[Lcom/example/tri3/tri3/StageKind;" (.ref va)) (P4 : Arv Z Z.heap va kva (.object "com/example/tri3/tri3/StageKind") (4 : Int32) [(.ref aF), (.ref aC), (.ref aS), (.ref aD)] .null) (P5 : Exa Z Z.heap va "[Lcom/example/tri3/tri3/StageKind;") (P6 : Exa Z Z.heap aF "com/example/tri3/tri3/StageKind") (P7 : Fld Z Z.heap aF "com/example/tri3/tri3/StageKind" "fileName" "Ljava/lang/String;" (.ref sF)) (P8 : Exa Z Z.heap sF "java/lang/String") (P9 : Fld Z Z.heap sF "java/lang/String" "value" "[B" (.ref tF)) (P10 : Fld Z Z.heap sF "java/lang/String" "coder" "B" (.int (0 : Int32))) (P11 : Arv Z Z.heap tF kF .byte (own_lg ([(102 : Int32), (101 : Int32), (116 : Int32), (99 : Int32), (104 : Int32)] : List Int32)) (([(102 : Int32), (101 : Int32), (116 : Int32), (99 : Int32), (104 : Int32)] : List Int32).map Value.int) (.int (0 : Int32))) (P12 : Exa Z Z.heap aC "com/example/tri3/tri3/StageKind") (P13 : Fld Z Z.heap aC "com/example/tri3/tri3/StageKind" "fileName" "Ljava/lang/String;" (.ref sC)) (P14 : Exa Z Z.heap sC "java/lang/String") (P15 : Fld Z Z.heap sC "java/lang/String" "value" "[B" (.ref tC)) (P16 : Fld Z Z.heap sC "java/lang/String" "coder" "B" (.int (0 : Int32))) (P17 : Arv Z Z.heap tC kC .byte (own_lg ([(99 : Int32), (97 : Int32), (108 : Int32), (108 : Int32)] : List Int32)) (([(99 : Int32), (97 : Int32), (108 : Int32), (108 : Int32)] : List Int32).map Value.int) (.int (0 : Int32))) (P18 : Exa Z Z.heap aS "com/example/tri3/tri3/StageKind") (P19 : Fld Z Z.heap aS "com/example/tri3/tri3/StageKind" "fileName" "Ljava/lang/String;" (.ref sS)) (P20 : Exa Z Z.heap sS "java/lang/String") (P21 : Fld Z Z.heap sS "java/lang/String" "value" "[B" (.ref tS)) (P22 : Fld Z Z.heap sS "java/lang/String" "coder" "B" (.int (0 : Int32))) (P23 : Arv Z Z.heap tS kS .byte (own_lg ([(115 : Int32), (113 : Int32), (108 : Int32)] : List Int32)) (([(115 : Int32), (113 : Int32), (108 : Int32)] : List Int32).map Value.int) (.int (0 : Int32))) (P24 : Exa Z Z.heap aD "com/example/tri3/tri3/StageKind") (P25 : Fld Z Z.heap aD "com/example/tri3/tri3/StageKind" "fileName" "Ljava/lang/String;" (.ref sD)) (P26 : Exa Z Z.heap sD "java/lang/String") (P27 : Fld Z Z.heap sD "java/lang/String" "value" "[B" (.ref tD)) (P28 : Fld Z Z.heap sD "java/lang/String" "coder" "B" (.int (0 : Int32))) (P29 : Arv Z Z.heap tD kD .byte (own_lg ([(100 : Int32), (101 : Int32), (108 : Int32), (105 : Int32), (118 : Int32), (101 : Int32), (114 : Int32)] : List Int32)) (([(100 : Int32), (101 : Int32), (108 : Int32), (105 : Int32), (118 : Int32), (101 : Int32), (114 : Int32)] : List Int32).map Value.int) (.int (0 : Int32))) (P30 : Exa Z h0 so "java/lang/String") (P31 : Fld Z h0 so "java/lang/String" "value" "[B" (.ref tb)) (P32 : Fld Z h0 so "java/lang/String" "coder" "B" (.int (0 : Int32))) (P33 : Arv Z h0 tb kk .byte (own_lg bx) (bx.map Value.int) (.int (0 : Int32))) (smx : bx.length ≤ 1000) (hc_ : bx = ([(99 : Int32), (97 : Int32), (108 : Int32), (108 : Int32)] : List Int32)) :
    MetFree l (⟨"com/example/tri3/tri3/StageKind", "named", "(Ljava/lang/String;)Lcom/example/tri3/tri3/StageKind;"⟩ : MethodName) (head1 (Jvm.Cond.code (⟨"com/example/tri3/tri3/StageKind", "named", "(Ljava/lang/String;)Lcom/example/tri3/tri3/StageKind;"⟩ : MethodName) prog_28_method_4_code 5 (some (.object "com/example/tri3/tri3/StageKind")) :: ws) ({ frames := 2, cells := 1, slots := 4, locals := 28 } : Room)) (fun a U => a = #[(.ref so)] ∧ Z.Warmed39 U.vm ∧ U.heap = h0) (fun _ _ _ _ _ => True) (fun _ U o U' => ∃ v L, o = .returned v ∧ Q18v1 Z so cs tb kk bx va kva aF sF tF kF aC sC tC kC aS sS tS kS aD sD tD kD h0 n0 v U'.heap L ∧ FrameEnd U o U' L ({ frames := 2, cells := 1, slots := 4, locals := 28 } : Room).cells ({ frames := 2, cells := 1, slots := 4, locals := 28 } : Room).slots) := by
  refine MetFree.of_bodySF (plainFor_of_name own_pn4) hisR ?_
  intro p e s m args below meth c s₁ Bd hml0 hP hK
  obtain ⟨rfl, hZ, hh⟩ := hP
  have hx := Bd.exec
  have hby := Bd.bytes
  have hml : c.maxLocals = 5 := hml0
  have hown : s.vm.findClass "com/example/tri3/tri3/StageKind" = some m.cls := findClass_of_methodNamed Bd.named
  have hnm := (name_of_methodNamed Bd.named Bd.method).1
  have X0 : Stand p l e ({ frames := 2, cells := 1, slots := 4, locals := 28 } : Room) s m #[(.ref so)] below meth c s₁ [] 0 0 := Stand.of_body Bd
  have e0 : s₁.heap = h0 := by rw [← hh, Bd.state]; rfl
  have N0 := Fr.nil n0
  have K0 : Keep h0 h0 [] := Keep.refl _ _
  suffices GO : ∀ P : Outcome → State → Prop, (∀ o U', (∃ v L, o = .returned v ∧ Q18v1 Z so cs tb kk bx va kva aF sF tF kF aC sC tC kC aS sS tS kS aD sD tD kD h0 n0 v U'.heap L ∧ FrameEnd s o U' L ({ frames := 2, cells := 1, slots := 4, locals := 28 } : Room).cells ({ frames := 2, cells := 1, slots := 4, locals := 28 } : Room).slots) → P o U') → Go p.tables e below P s₁ (mkF m 0 #[.val (.ref so), .unset, .unset, .unset, .unset] []) by
    obtain ⟨s2, o, st, r⟩ := GO _ (fun _ _ q => q)
    exact ⟨s2, o, castTop (ef_18v1 m so) st, r⟩
  clear hh
  intro P hP
  show Go p.tables e below P s₁ (mkF m 0 #[.val (.ref so), .unset, .unset, .unset, .unset] [])
  obtain ⟨_, _, ⟨T1, L1, k1, n1⟩, -, X1, ⟨Lc1, hQ1, l1, y1, z1⟩, st1⟩ := Jvm.LawKit.callS X0 hx (y := (⟨"com/example/tri3/tri3/StageKind", "values", "()[Lcom/example/tri3/tri3/StageKind;"⟩ : MethodName)) hown (mvT hZ (hw _ (List.mem_of_getElem? (i := 88) rfl))) (mvT hZ (hw _ (List.mem_of_getElem? (i := 89) rfl))) (mvT hZ (hw _ (List.mem_of_getElem? (i := 83) rfl))) (mvT hZ (hw _ (List.mem_of_getElem? (i := 90) rfl))) (by decide) (backOf (W := 0) (rm19 l Z a0 hw [] va kva aF aC aS aD h0 n0 Z0 O0 P3 P4 P5) hZ (hw _ (List.mem_of_getElem? (i := 90) rfl)) (hw _ (List.mem_of_getElem? (i := 83) rfl)) (by decide) (by decide)) (g := (mkF m 0 #[.val (.ref so), .unset, .unset, .unset, .unset] [])) rfl (by rw [hml]; rfl) (argsL := []) (rest := []) (lenOf own_pd10 rfl) rfl (by show 2 * 0 + _ ≤ _; exact Nat.le_of_eq rfl) (hb hby d18_0) (fun _ _ => ⟨rfl, e0, (by decide : 0 + 1 ≤ _), (by decide : 0 + 4 ≤ _)⟩)
  dsimp only [Pt.U, Pt.locs, Pt.cells, Pt.slots] at X1 l1 y1 z1 st1 hQ1
  subst l1 y1 z1
  obtain ⟨r_1, rfl, Nq1, K1, fr1_r, u1_0, u1_1⟩ := hQ1
  obtain ⟨lc1, Xh1, N1⟩ := own_hide X1 (Fr.app N0 Nq1)
  clear X1
  refine Go.via st1 ?_
  have ne2 : so ≠ r_1 := Nat.ne_of_lt (Nat.lt_of_lt_of_le P30.lt fr1_r)
  have ne3 : tb ≠ r_1 := Nat.ne_of_lt (Nat.lt_of_lt_of_le P33.lt fr1_r)
  have g4 : n0 ≤ r_1 := Nat.le_trans Z0 fr1_r
  have sz5 : h0.size ≤ r_1 := Nat.le_trans K0.1 fr1_r
  have Z6 : n0 ≤ T1.heap.size := Nat.le_trans Z0 K1.1
  have K7 : Keep h0 T1.heap [] := K0.trans K1 own_all0
  have O8 : Old Z n0 T1.heap := O0.keep K1 own_all0
  show Go p.tables e below P T1 (mkF m 3 #[.val (.ref so), .unset, .unset, .unset, .unset] [(.ref r_1)])
  refine Go.via (fun t k => XS.astoreN Xh1.here hx rfl (hb hby d18_3) rfl rfl (l' := #[.val (.ref so), .val (.ref r_1), .unset, .unset, .unset]) rfl k) ?_
  refine Go.via (fun t k => XS.aloadN Xh1.here hx rfl (hb hby d18_4) rfl rfl k) ?_
  show Go p.tables e below P T1 (mkF m 5 #[.val (.ref so), .val (.ref r_1), .unset, .unset, .unset] [(.ref r_1)])
  obtain ⟨c9, A9, -, S9, N9, -, -⟩ := id u1_0
  refine Go.via (fun t k => Xh1.arraylength hx (by exact A9.1) (State.isArrayOf_alike hZ.alike A9.2.1) (g := (mkF m 5 #[.val (.ref so), .val (.ref r_1), .unset, .unset, .unset] [(.ref r_1)])) rfl rfl (hb hby d18_5) t (by rw [len_of S9 N9]; exact k)) ?_
  show Go p.tables e below P T1 (mkF m 6 #[.val (.ref so), .val (.ref r_1), .unset, .unset, .unset] [(.int (4 : Int32))])
  refine Go.via (fun t k => XS.istoreN Xh1.here hx rfl (hb hby d18_6) rfl (l' := #[.val (.ref so), .val (.ref r_1), .val (.int (4 : Int32)), .unset, .unset]) rfl k) ?_
  refine Go.via (fun t k => XS.iconst Xh1.here hx rfl (hb hby d18_7) k) ?_
  refine Go.via (fun t k => XS.istoreN Xh1.here hx rfl (hb hby d18_8) rfl (l' := #[.val (.ref so), .val (.ref r_1), .val (.int (4 : Int32)), .val (.int (0 : Int32)), .unset]) rfl k) ?_
  show Go p.tables e below P T1 (mkF m 9 #[.val (.ref so), .val (.ref r_1), .val (.int (4 : Int32)), .val (.int (0 : Int32)), .unset] [])
  refine Go.via (fun t k => XS.iloadN Xh1.here hx rfl (hb hby d18_9) rfl k) ?_
  refine Go.via (fun t k => XS.iloadN Xh1.here hx rfl (hb hby d18_10) rfl k) ?_
  show Go p.tables e below P T1 (mkF m 11 #[.val (.ref so), .val (.ref r_1), .val (.int (4 : Int32)), .val (.int (0 : Int32)), .unset] [(.int (4 : Int32)), (.int (0 : Int32))])
  refine Go.via (fun t k => XS.icmpNo Xh1.here hx rfl (hb hby d18_11) rfl (tlt (by decide : (0 : Int32) < (4 : Int32))).2.1 k) ?_
  show Go p.tables e below P T1 (mkF m 14 #[.val (.ref so), .val (.ref r_1), .val (.int (4 : Int32)), .val (.int (0 : Int32)), .unset] [])
  refine Go.via (fun t k => XS.aloadN Xh1.here hx rfl (hb hby d18_14) rfl rfl k) ?_
  refine Go.via (fun t k => XS.iloadN Xh1.here hx rfl (hb hby d18_15) rfl k) ?_
  show Go p.tables e below P T1 (mkF m 16 #[.val (.ref so), .val (.ref r_1), .val (.int (4 : Int32)), .val (.int (0 : Int32)), .unset] [(.int (0 : Int32)), (.ref r_1)])
  obtain ⟨c10, A10, q10, S10, N10, H10, G10⟩ := id u1_0
  have hin10 : ¬ ((0 : Int32) < 0 ∨ c10.slots.size ≤ ((0 : Int32)).toNatClampNeg) := inb_of S10 ⟨by decide, by decide⟩
  have hat10 : c10.slots[((0 : Int32)).toNatClampNeg]? = some (.ref aF) := (H10 _ (Nat.lt_of_not_le fun q => hin10 (Or.inr q))).trans (congrArg some rfl)
  refine Go.via (fun t k => Xh1.aaload hx (j := (0 : Int32)) (v := (.ref aF)) (by exact A10.1) (State.isArrayOf_alike hZ.alike A10.2.1) rfl A10.2.2 hin10 hat10 (g := (mkF m 16 #[.val (.ref so), .val (.ref r_1), .val (.int (4 : Int32)), .val (.int (0 : Int32)), .unset] [(.int (0 : Int32)), (.ref r_1)])) rfl rfl (hb hby d18_16) t k) ?_
  show Go p.tables e below P T1 (mkF m 17 #[.val (.ref so), .val (.ref r_1), .val (.int (4 : Int32)), .val (.int (0 : Int32)), .unset] [(.ref aF)])
  refine Go.via (fun t k => XS.astore Xh1.here hx rfl (hb hby d18_17) rfl rfl (l' := #[.val (.ref so), .val (.ref r_1), .val (.int (4 : Int32)), .val (.int (0 : Int32)), .val (.ref aF)]) rfl k) ?_
  refine Go.via (fun t k => XS.aload Xh1.here hx rfl (hb hby d18_19) rfl rfl k) ?_
  show Go p.tables e below P T1 (mkF m 21 #[.val (.ref so), .val (.ref r_1), .val (.int (4 : Int32)), .val (.int (0 : Int32)), .val (.ref aF)] [(.ref aF)])
  obtain ⟨T11, X11, e11, st11⟩ := getF Xh1 hx hZ hown (host := "") (Or.inl (hw _ (List.mem_of_getElem? (i := 106) rfl))) Via.refl rfl (P7.ext O8.2) (g := (mkF m 21 #[.val (.ref so), .val (.ref r_1), .val (.int (4 : Int32)), .val (.int (0 : Int32)), .val (.ref aF)] [(.ref aF)])) rfl rfl (hb hby d18_21)
  refine Go.via st11 ?_
  show Go p.tables e below P T11 (mkF m 24 #[.val (.ref so), .val (.ref r_1), .val (.int (4 : Int32)), .val (.int (0 : Int32)), .val (.ref aF)] [(.ref sF)])
  refine Go.via (fun t k => XS.aloadN X11.here hx rfl (hb hby d18_24) rfl rfl k) ?_
  show Go p.tables e below P T11 (mkF m 25 #[.val (.ref so), .val (.ref r_1), .val (.int (4 : Int32)), .val (.int (0 : Int32)), .val (.ref aF)] [(.ref so), (.ref sF)])
  have F12 : Exa Z T1.heap so "java/lang/String" := (P30.keep K1)
  have F13 : Fld Z T1.heap so "java/lang/String" "value" "[B" (.ref tb) := (P31.keep K1 own_nin0)
  have F14 : Fld Z T1.heap so "java/lang/String" "coder" "B" (.int (0 : Int32)) := (P32.keep K1 own_nin0)
  have F15 : Arv Z T1.heap tb kk .byte (own_lg bx) (bx.map Value.int) (.int (0 : Int32)) := (P33.keep K1 own_nin0)
  obtain ⟨cq16, kq16, q16a, q16b, q16c⟩ := isOf hZ e11 (P8.ext O8.2)
  obtain ⟨_, _, ⟨T16, L16, k16, n16⟩, -, X16, ⟨Lc16, hQ16, l16, y16, z16⟩, st16⟩ := X11.virtualBack hx (y := (⟨"java/lang/String", "equals", "(Ljava/lang/Object;)Z"⟩ : MethodName)) (z := (⟨"java/lang/String", "equals", "(Ljava/lang/Object;)Z"⟩ : MethodName)) hown (mvT hZ (hw _ (List.mem_of_getElem? (i := 108) rfl))) (mvT hZ (hw _ (List.mem_of_getElem? (i := 74) rfl))) (notFace_of_selects (args := #[]) (mvT hZ (hw _ (List.mem_of_getElem? (i := 76) rfl)))) (mvT hZ (hw _ (List.mem_of_getElem? (i := 76) rfl))) (mvT hZ (hw _ (List.mem_of_getElem? (i := 75) rfl))) (by decide) (backOf (W := 0) (rm16 l Z a0 hw [] sF so cs tF tb kF kk ([(102 : Int32), (101 : Int32), (116 : Int32), (99 : Int32), (104 : Int32)] : List Int32) bx T1.heap n0 Z6 O8 P1 (by first | assumption | decide | omega : ¬ cs = (0 : Int32)) (P8.ext O8.2) (P9.ext O8.2) (P10.ext O8.2) (P11.ext O8.2) F12 F13 F14 F15 (by decide) smx (own_sfun (P9.ext O8.2) F13 (P11.ext O8.2) F15 (by first | assumption | decide) (by first | assumption | decide))) hZ (hw _ (List.mem_of_getElem? (i := 77) rfl)) (hw _ (List.mem_of_getElem? (i := 1) rfl)) (by decide) (by decide)) q16a q16c (g := (mkF m 25 #[.val (.ref so), .val (.ref r_1), .val (.int (4 : Int32)), .val (.int (0 : Int32)), .val (.ref aF)] [(.ref so), (.ref sF)])) rfl (by rw [hml]; rfl) (Steps.refl _) (argsL := [(.ref so)]) (rest := []) (lenOf own_pd11 rfl) rfl (by show 2 * 0 + _ ≤ _; exact Nat.le_of_eq rfl) (hb hby d18_25) (fun _ _ => ⟨rfl, e11, (by decide : 1 + 0 ≤ _), (by decide : 4 + 0 ≤ _)⟩)
  dsimp only [Pt.U, Pt.locs, Pt.cells, Pt.slots] at X16 l16 y16 z16 st16 hQ16
  subst l16 y16 z16
  obtain ⟨rfl, Nq16, hh16⟩ := hQ16
  obtain ⟨lc16, Xh16, N16⟩ := own_hide X16 (Fr.app N1 Nq16)
  clear X16
  refine Go.hop st16 ?_
  show Go p.tables e below P T16 (mkF m 28 #[.val (.ref so), .val (.ref r_1), .val (.int (4 : Int32)), .val (.int (0 : Int32)), .val (.ref aF)] [(.int (if ([(102 : Int32), (101 : Int32), (116 : Int32), (99 : Int32), (104 : Int32)] : List Int32) = bx then (1 : Int32) else (0 : Int32)))])
  refine Go.via (fun t k => XS.ifYes Xh16.here hx rfl (pc0 := 28) (pc' := 34) rfl (hb hby d18_28) rfl ((if0 _ _).trans (teq (if_neg (fun q => absurd (q.trans hc_) (by decide)))).1) (by decide) (by decide) k) ?_
  show Go p.tables e below P T16 (mkF m 34 #[.val (.ref so), .val (.ref r_1), .val (.int (4 : Int32)), .val (.int (0 : Int32)), .val (.ref aF)] [])
  refine Go.via (fun t k => XS.iinc Xh16.here hx rfl (hb hby d18_34) rfl (l' := #[.val (.ref so), .val (.ref r_1), .val (.int (4 : Int32)), .val (.int ((0 : Int32) + (1 : Int32))), .val (.ref aF)]) rfl k) ?_
  show Go p.tables e below P T16 (mkF m 37 #[.val (.ref so), .val (.ref r_1), .val (.int (4 : Int32)), .val (.int ((0 : Int32) + (1 : Int32))), .val (.ref aF)] [])
  refine Go.via (fun t k => XS.goto Xh16.here hx rfl (pc0 := 37) (pc' := 9) rfl (hb hby d18_37) (by decide) (by decide) k) ?_
  refine Go.via (fun t k => XS.iloadN Xh16.here hx rfl (hb hby d18_9) rfl k) ?_
  refine Go.via (fun t k => XS.iloadN Xh16.here hx rfl (hb hby d18_10) rfl k) ?_
  show Go p.tables e below P T16 (mkF m 11 #[.val (.ref so), .val (.ref r_1), .val (.int (4 : Int32)), .val (.int ((0 : Int32) + (1 : Int32))), .val (.ref aF)] [(.int (4 : Int32)), (.int ((0 : Int32) + (1 : Int32)))])
  refine Go.via (fun t k => XS.icmpNo Xh16.here hx rfl (hb hby d18_11) rfl (tlt (by decide : ((0 : Int32) + (1 : Int32)) < (4 : Int32))).2.1 k) ?_
  show Go p.tables e below P T16 (mkF m 14 #[.val (.ref so), .val (.ref r_1), .val (.int (4 : Int32)), .val (.int ((0 : Int32) + (1 : Int32))), .val (.ref aF)] [])
  refine Go.via (fun t k => XS.aloadN Xh16.here hx rfl (hb hby d18_14) rfl rfl k) ?_
  refine Go.via (fun t k => XS.iloadN Xh16.here hx rfl (hb hby d18_15) rfl k) ?_
  show Go p.tables e below P T16 (mkF m 16 #[.val (.ref so), .val (.ref r_1), .val (.int (4 : Int32)), .val (.int ((0 : Int32) + (1 : Int32))), .val (.ref aF)] [(.int ((0 : Int32) + (1 : Int32))), (.ref r_1)])
  obtain ⟨c17, A17, q17, S17, N17, H17, G17⟩ := id u1_0
  have hin17 : ¬ (((0 : Int32) + (1 : Int32)) < 0 ∨ c17.slots.size ≤ (((0 : Int32) + (1 : Int32))).toNatClampNeg) := inb_of S17 ⟨by decide, by decide⟩
  have hat17 : c17.slots[(((0 : Int32) + (1 : Int32))).toNatClampNeg]? = some (.ref aC) := (H17 _ (Nat.lt_of_not_le fun q => hin17 (Or.inr q))).trans (congrArg some rfl)
  refine Go.via (fun t k => Xh16.aaload hx (j := ((0 : Int32) + (1 : Int32))) (v := (.ref aC)) (by rw [hh16]; exact A17.1) (State.isArrayOf_alike hZ.alike A17.2.1) rfl A17.2.2 hin17 hat17 (g := (mkF m 16 #[.val (.ref so), .val (.ref r_1), .val (.int (4 : Int32)), .val (.int ((0 : Int32) + (1 : Int32))), .val (.ref aF)] [(.int ((0 : Int32) + (1 : Int32))), (.ref r_1)])) rfl rfl (hb hby d18_16) t k) ?_
  show Go p.tables e below P T16 (mkF m 17 #[.val (.ref so), .val (.ref r_1), .val (.int (4 : Int32)), .val (.int ((0 : Int32) + (1 : Int32))), .val (.ref aF)] [(.ref aC)])
  refine Go.via (fun t k => XS.astore Xh16.here hx rfl (hb hby d18_17) rfl rfl (l' := #[.val (.ref so), .val (.ref r_1), .val (.int (4 : Int32)), .val (.int ((0 : Int32) + (1 : Int32))), .val (.ref aC)]) rfl k) ?_
  refine Go.via (fun t k => XS.aload Xh16.here hx rfl (hb hby d18_19) rfl rfl k) ?_
  show Go p.tables e below P T16 (mkF m 21 #[.val (.ref so), .val (.ref r_1), .val (.int (4 : Int32)), .val (.int ((0 : Int32) + (1 : Int32))), .val (.ref aC)] [(.ref aC)])
  obtain ⟨T18, X18, e18, st18⟩ := getF Xh16 hx hZ hown (host := "") (Or.inl (hw _ (List.mem_of_getElem? (i := 106) rfl))) Via.refl hh16 (P13.ext O8.2) (g := (mkF m 21 #[.val (.ref so), .val (.ref r_1), .val (.int (4 : Int32)), .val (.int ((0 : Int32) + (1 : Int32))), .val (.ref aC)] [(.ref aC)])) rfl rfl (hb hby d18_21)
  refine Go.via st18 ?_
  show Go p.tables e below P T18 (mkF m 24 #[.val (.ref so), .val (.ref r_1), .val (.int (4 : Int32)), .val (.int ((0 : Int32) + (1 : Int32))), .val (.ref aC)] [(.ref sC)])
  refine Go.via (fun t k => XS.aloadN X18.here hx rfl (hb hby d18_24) rfl rfl k) ?_
  show Go p.tables e below P T18 (mkF m 25 #[.val (.ref so), .val (.ref r_1), .val (.int (4 : Int32)), .val (.int ((0 : Int32) + (1 : Int32))), .val (.ref aC)] [(.ref so), (.ref sC)])
  obtain ⟨cq19, kq19, q19a, q19b, q19c⟩ := isOf hZ e18 (P14.ext O8.2)
  obtain ⟨_, _, ⟨T19, L19, k19, n19⟩, -, X19, ⟨Lc19, hQ19, l19, y19, z19⟩, st19⟩ := X18.virtualBack hx (y := (⟨"java/lang/String", "equals", "(Ljava/lang/Object;)Z"⟩ : MethodName)) (z := (⟨"java/lang/String", "equals", "(Ljava/lang/Object;)Z"⟩ : MethodName)) hown (mvT hZ (hw _ (List.mem_of_getElem? (i := 108) rfl))) (mvT hZ (hw _ (List.mem_of_getElem? (i := 74) rfl))) (notFace_of_selects (args := #[]) (mvT hZ (hw _ (List.mem_of_getElem? (i := 76) rfl)))) (mvT hZ (hw _ (List.mem_of_getElem? (i := 76) rfl))) (mvT hZ (hw _ (List.mem_of_getElem? (i := 75) rfl))) (by decide) (backOf (W := 0) (rm16 l Z a0 hw [] sC so cs tC tb kC kk ([(99 : Int32), (97 : Int32), (108 : Int32), (108 : Int32)] : List Int32) bx T1.heap n0 Z6 O8 P1 (by first | assumption | decide | omega : ¬ cs = (0 : Int32)) (P14.ext O8.2) (P15.ext O8.2) (P16.ext O8.2) (P17.ext O8.2) F12 F13 F14 F15 (by decide) smx (own_sfun (P15.ext O8.2) F13 (P17.ext O8.2) F15 (by first | assumption | decide) (by first | assumption | decide))) hZ (hw _ (List.mem_of_getElem? (i := 77) rfl)) (hw _ (List.mem_of_getElem? (i := 1) rfl)) (by decide) (by decide)) q19a q19c (g := (mkF m 25 #[.val (.ref so), .val (.ref r_1), .val (.int (4 : Int32)), .val (.int ((0 : Int32) + (1 : Int32))), .val (.ref aC)] [(.ref so), (.ref sC)])) rfl (by rw [hml]; rfl) (Steps.refl _) (argsL := [(.ref so)]) (rest := []) (lenOf own_pd11 rfl) rfl (by show 2 * 0 + _ ≤ _; exact Nat.le_of_eq rfl) (hb hby d18_25) (fun _ _ => ⟨rfl, e18, (by decide : 1 + 0 ≤ _), (by decide : 4 + 0 ≤ _)⟩)
  dsimp only [Pt.U, Pt.locs, Pt.cells, Pt.slots] at X19 l19 y19 z19 st19 hQ19
  subst l19 y19 z19
  obtain ⟨rfl, Nq19, hh19⟩ := hQ19
  obtain ⟨lc19, Xh19, N19⟩ := own_hide X19 (Fr.app N16 Nq19)
  clear X19
  refine Go.hop st19 ?_
  show Go p.tables e below P T19 (mkF m 28 #[.val (.ref so), .val (.ref r_1), .val (.int (4 : Int32)), .val (.int ((0 : Int32) + (1 : Int32))), .val (.ref aC)] [(.int (if ([(99 : Int32), (97 : Int32), (108 : Int32), (108 : Int32)] : List Int32) = bx then (1 : Int32) else (0 : Int32)))])
  refine Go.via (fun t k => XS.ifNo Xh19.here hx rfl (hb hby d18_28) rfl ((if0 _ _).trans (feq (fun q => own_i0 q hc_.symm)).1) k) ?_
  show Go p.tables e below P T19 (mkF m 31 #[.val (.ref so), .val (.ref r_1), .val (.int (4 : Int32)), .val (.int ((0 : Int32) + (1 : Int32))), .val (.ref aC)] [])
  refine Go.via (fun t k => XS.aload Xh19.here hx rfl (hb hby d18_31) rfl rfl k) ?_
  show Go p.tables e below P T19 (mkF m 33 #[.val (.ref so), .val (.ref r_1), .val (.int (4 : Int32)), .val (.int ((0 : Int32) + (1 : Int32))), .val (.ref aC)] [(.ref aC)])
  obtain ⟨fs, hr, hrun, hended, hW, hsame⟩ := Xh19.leave (v := some (.ref aC)) (fun h => by rw [Bd.returns] at h; cases h)
  refine ⟨_, _, retA Xh19 hx Bd.returns rfl rfl rfl (hb hby d18_33) hr, hrun, hended, hP _ _ ⟨_, _, rfl, ?_, ⟨_, rfl⟩, hW, hsame.mono (by decide) (by decide)⟩⟩
  show Q18v1 Z so cs tb kk bx va kva aF sF tF kF aC sC tC kC aS sS tS kS aD sD tD kD h0 n0 _ T19.heap _
  rw [hh19]
  exact ⟨rfl, N19, K7⟩
theorem ef_18v2 (m : MethodId) (x0 : Addr) : entryFrame m #[(.ref x0)] 5 = mkF m 0 #[.val (.ref x0), .unset, .unset, .unset, .unset] [] := by first | (simp [entryFrame, mkF, argsToLocals, Value.category]; done) | rfl
def Q18v2 (Z : State) (so : Addr) (cs : Int32) (tb : Addr) (kk : ClassId) (bx : List Int32) (va : Addr) (kva : ClassId) (aF : Addr) (sF : Addr) (tF : Addr) (kF : ClassId) (aC : Addr) (sC : Addr) (tC : Addr) (kC : ClassId) (aS : Addr) (sS : Addr) (tS : Addr) (kS : ClassId) (aD : Addr) (sD : Addr) (tD : Addr) (kD : ClassId) (h0 : Heap) (n0 : Nat) (v : Option Value) (h : Heap) (L : List Loc) : Prop := v = some (.ref aS) ∧ Fr n0 L ∧ Keep h0 h []
set_option maxRecDepth 65536 in
set_option maxHeartbeats 40000000 in
theorem rm18v2 (l : Launch) (Z : State) (a0 : Array Value) (hw : ∀ d ∈ tables_1, d.before a0 Z = true) (ws : List Jvm.Cond) (so : Addr) (cs : Int32) (tb : Addr) (kk : ClassId) (bx : List Int32) (va : Addr) (kva : ClassId) (aF : Addr) (sF : Addr) (tF : Addr) (kF : ClassId) (aC : Addr) (sC : Addr) (tC : Addr) (kC : ClassId) (aS : Addr) (sS : Addr) (tS : Addr) (kS : ClassId) (aD : Addr) (sD : Addr) (tD : Addr) (kD : ClassId) (h0 : Heap) (n0 : Nat) (Z0 : n0 ≤ h0.size) (O0 : Old Z n0 h0) (P1 : Sta Z Z.heap "java/lang/String" "COMPACT_STRINGS" "Z" (.int cs)) (hcs : ¬ cs = (0 : Int32)) (P3 : Sta Z Z.heap "com/example/tri3/tri3/StageKind" "$VALUES" "[Lcom/example/tri3/tri3/StageKind;" (.ref va)) (P4 : Arv Z Z.heap va kva (.object "com/example/tri3/tri3/StageKind") (4 : Int32) [(.ref aF), (.ref aC), (.ref aS), (.ref aD)] .null) (P5 : Exa Z Z.heap va "[Lcom/example/tri3/tri3/StageKind;") (P6 : Exa Z Z.heap aF "com/example/tri3/tri3/StageKind") (P7 : Fld Z Z.heap aF "com/example/tri3/tri3/StageKind" "fileName" "Ljava/lang/String;" (.ref sF)) (P8 : Exa Z Z.heap sF "java/lang/String") (P9 : Fld Z Z.heap sF "java/lang/String" "value" "[B" (.ref tF)) (P10 : Fld Z Z.heap sF "java/lang/String" "coder" "B" (.int (0 : Int32))) (P11 : Arv Z Z.heap tF kF .byte (own_lg ([(102 : Int32), (101 : Int32), (116 : Int32), (99 : Int32), (104 : Int32)] : List Int32)) (([(102 : Int32), (101 : Int32), (116 : Int32), (99 : Int32), (104 : Int32)] : List Int32).map Value.int) (.int (0 : Int32))) (P12 : Exa Z Z.heap aC "com/example/tri3/tri3/StageKind") (P13 : Fld Z Z.heap aC "com/example/tri3/tri3/StageKind" "fileName" "Ljava/lang/String;" (.ref sC)) (P14 : Exa Z Z.heap sC "java/lang/String") (P15 : Fld Z Z.heap sC "java/lang/String" "value" "[B" (.ref tC)) (P16 : Fld Z Z.heap sC "java/lang/String" "coder" "B" (.int (0 : Int32))) (P17 : Arv Z Z.heap tC kC .byte (own_lg ([(99 : Int32), (97 : Int32), (108 : Int32), (108 : Int32)] : List Int32)) (([(99 : Int32), (97 : Int32), (108 : Int32), (108 : Int32)] : List Int32).map Value.int) (.int (0 : Int32))) (P18 : Exa Z Z.heap aS "com/example/tri3/tri3/StageKind") (P19 : Fld Z Z.heap aS "com/example/tri3/tri3/StageKind" "fileName" "Ljava/lang/String;" (.ref sS)) (P20 : Exa Z Z.heap sS "java/lang/String") (P21 : Fld Z Z.heap sS "java/lang/String" "value" "[B" (.ref tS)) (P22 : Fld Z Z.heap sS "java/lang/String" "coder" "B" (.int (0 : Int32))) (P23 : Arv Z Z.heap tS kS .byte (own_lg ([(115 : Int32), (113 : Int32), (108 : Int32)] : List Int32)) (([(115 : Int32), (113 : Int32), (108 : Int32)] : List Int32).map Value.int) (.int (0 : Int32))) (P24 : Exa Z Z.heap aD "com/example/tri3/tri3/StageKind") (P25 : Fld Z Z.heap aD "com/example/tri3/tri3/StageKind" "fileName" "Ljava/lang/String;" (.ref sD)) (P26 : Exa Z Z.heap sD "java/lang/String") (P27 : Fld Z Z.heap sD "java/lang/String" "value" "[B" (.ref tD)) (P28 : Fld Z Z.heap sD "java/lang/String" "coder" "B" (.int (0 : Int32))) (P29 : Arv Z Z.heap tD kD .byte (own_lg ([(100 : Int32), (101 : Int32), (108 : Int32), (105 : Int32), (118 : Int32), (101 : Int32), (114 : Int32)] : List Int32)) (([(100 : Int32), (101 : Int32), (108 : Int32), (105 : Int32), (118 : Int32), (101 : Int32), (114 : Int32)] : List Int32).map Value.int) (.int (0 : Int32))) (P30 : Exa Z h0 so "java/lang/String") (P31 : Fld Z h0 so "java/lang/String" "value" "[B" (.ref tb)) (P32 : Fld Z h0 so "java/lang/String" "coder" "B" (.int (0 : Int32))) (P33 : Arv Z h0 tb kk .byte (own_lg bx) (bx.map Value.int) (.int (0 : Int32))) (smx : bx.length ≤ 1000) (hc_ : bx = ([(115 : Int32), (113 : Int32), (108 : Int32)] : List Int32)) :
    MetFree l (⟨"com/example/tri3/tri3/StageKind", "named", "(Ljava/lang/String;)Lcom/example/tri3/tri3/StageKind;"⟩ : MethodName) (head1 (Jvm.Cond.code (⟨"com/example/tri3/tri3/StageKind", "named", "(Ljava/lang/String;)Lcom/example/tri3/tri3/StageKind;"⟩ : MethodName) prog_28_method_4_code 5 (some (.object "com/example/tri3/tri3/StageKind")) :: ws) ({ frames := 2, cells := 1, slots := 4, locals := 28 } : Room)) (fun a U => a = #[(.ref so)] ∧ Z.Warmed39 U.vm ∧ U.heap = h0) (fun _ _ _ _ _ => True) (fun _ U o U' => ∃ v L, o = .returned v ∧ Q18v2 Z so cs tb kk bx va kva aF sF tF kF aC sC tC kC aS sS tS kS aD sD tD kD h0 n0 v U'.heap L ∧ FrameEnd U o U' L ({ frames := 2, cells := 1, slots := 4, locals := 28 } : Room).cells ({ frames := 2, cells := 1, slots := 4, locals := 28 } : Room).slots) := by
  refine MetFree.of_bodySF (plainFor_of_name own_pn4) hisR ?_
  intro p e s m args below meth c s₁ Bd hml0 hP hK
  obtain ⟨rfl, hZ, hh⟩ := hP
  have hx := Bd.exec
  have hby := Bd.bytes
  have hml : c.maxLocals = 5 := hml0
  have hown : s.vm.findClass "com/example/tri3/tri3/StageKind" = some m.cls := findClass_of_methodNamed Bd.named
  have hnm := (name_of_methodNamed Bd.named Bd.method).1
  have X0 : Stand p l e ({ frames := 2, cells := 1, slots := 4, locals := 28 } : Room) s m #[(.ref so)] below meth c s₁ [] 0 0 := Stand.of_body Bd
  have e0 : s₁.heap = h0 := by rw [← hh, Bd.state]; rfl
  have N0 := Fr.nil n0
  have K0 : Keep h0 h0 [] := Keep.refl _ _
  suffices GO : ∀ P : Outcome → State → Prop, (∀ o U', (∃ v L, o = .returned v ∧ Q18v2 Z so cs tb kk bx va kva aF sF tF kF aC sC tC kC aS sS tS kS aD sD tD kD h0 n0 v U'.heap L ∧ FrameEnd s o U' L ({ frames := 2, cells := 1, slots := 4, locals := 28 } : Room).cells ({ frames := 2, cells := 1, slots := 4, locals := 28 } : Room).slots) → P o U') → Go p.tables e below P s₁ (mkF m 0 #[.val (.ref so), .unset, .unset, .unset, .unset] []) by
    obtain ⟨s2, o, st, r⟩ := GO _ (fun _ _ q => q)
    exact ⟨s2, o, castTop (ef_18v2 m so) st, r⟩
  clear hh
  intro P hP
  show Go p.tables e below P s₁ (mkF m 0 #[.val (.ref so), .unset, .unset, .unset, .unset] [])
  obtain ⟨_, _, ⟨T1, L1, k1, n1⟩, -, X1, ⟨Lc1, hQ1, l1, y1, z1⟩, st1⟩ := Jvm.LawKit.callS X0 hx (y := (⟨"com/example/tri3/tri3/StageKind", "values", "()[Lcom/example/tri3/tri3/StageKind;"⟩ : MethodName)) hown (mvT hZ (hw _ (List.mem_of_getElem? (i := 88) rfl))) (mvT hZ (hw _ (List.mem_of_getElem? (i := 89) rfl))) (mvT hZ (hw _ (List.mem_of_getElem? (i := 83) rfl))) (mvT hZ (hw _ (List.mem_of_getElem? (i := 90) rfl))) (by decide) (backOf (W := 0) (rm19 l Z a0 hw [] va kva aF aC aS aD h0 n0 Z0 O0 P3 P4 P5) hZ (hw _ (List.mem_of_getElem? (i := 90) rfl)) (hw _ (List.mem_of_getElem? (i := 83) rfl)) (by decide) (by decide)) (g := (mkF m 0 #[.val (.ref so), .unset, .unset, .unset, .unset] [])) rfl (by rw [hml]; rfl) (argsL := []) (rest := []) (lenOf own_pd10 rfl) rfl (by show 2 * 0 + _ ≤ _; exact Nat.le_of_eq rfl) (hb hby d18_0) (fun _ _ => ⟨rfl, e0, (by decide : 0 + 1 ≤ _), (by decide : 0 + 4 ≤ _)⟩)
  dsimp only [Pt.U, Pt.locs, Pt.cells, Pt.slots] at X1 l1 y1 z1 st1 hQ1
  subst l1 y1 z1
  obtain ⟨r_1, rfl, Nq1, K1, fr1_r, u1_0, u1_1⟩ := hQ1
  obtain ⟨lc1, Xh1, N1⟩ := own_hide X1 (Fr.app N0 Nq1)
  clear X1
  refine Go.via st1 ?_
  have ne2 : so ≠ r_1 := Nat.ne_of_lt (Nat.lt_of_lt_of_le P30.lt fr1_r)
  have ne3 : tb ≠ r_1 := Nat.ne_of_lt (Nat.lt_of_lt_of_le P33.lt fr1_r)
  have g4 : n0 ≤ r_1 := Nat.le_trans Z0 fr1_r
  have sz5 : h0.size ≤ r_1 := Nat.le_trans K0.1 fr1_r
  have Z6 : n0 ≤ T1.heap.size := Nat.le_trans Z0 K1.1
  have K7 : Keep h0 T1.heap [] := K0.trans K1 own_all0
  have O8 : Old Z n0 T1.heap := O0.keep K1 own_all0
  show Go p.tables e below P T1 (mkF m 3 #[.val (.ref so), .unset, .unset, .unset, .unset] [(.ref r_1)])
  refine Go.via (fun t k => XS.astoreN Xh1.here hx rfl (hb hby d18_3) rfl rfl (l' := #[.val (.ref so), .val (.ref r_1), .unset, .unset, .unset]) rfl k) ?_
  refine Go.via (fun t k => XS.aloadN Xh1.here hx rfl (hb hby d18_4) rfl rfl k) ?_
  show Go p.tables e below P T1 (mkF m 5 #[.val (.ref so), .val (.ref r_1), .unset, .unset, .unset] [(.ref r_1)])
  obtain ⟨c9, A9, -, S9, N9, -, -⟩ := id u1_0
  refine Go.via (fun t k => Xh1.arraylength hx (by exact A9.1) (State.isArrayOf_alike hZ.alike A9.2.1) (g := (mkF m 5 #[.val (.ref so), .val (.ref r_1), .unset, .unset, .unset] [(.ref r_1)])) rfl rfl (hb hby d18_5) t (by rw [len_of S9 N9]; exact k)) ?_
  show Go p.tables e below P T1 (mkF m 6 #[.val (.ref so), .val (.ref r_1), .unset, .unset, .unset] [(.int (4 : Int32))])
  refine Go.via (fun t k => XS.istoreN Xh1.here hx rfl (hb hby d18_6) rfl (l' := #[.val (.ref so), .val (.ref r_1), .val (.int (4 : Int32)), .unset, .unset]) rfl k) ?_
  refine Go.via (fun t k => XS.iconst Xh1.here hx rfl (hb hby d18_7) k) ?_
  refine Go.via (fun t k => XS.istoreN Xh1.here hx rfl (hb hby d18_8) rfl (l' := #[.val (.ref so), .val (.ref r_1), .val (.int (4 : Int32)), .val (.int (0 : Int32)), .unset]) rfl k) ?_
  show Go p.tables e below P T1 (mkF m 9 #[.val (.ref so), .val (.ref r_1), .val (.int (4 : Int32)), .val (.int (0 : Int32)), .unset] [])
  refine Go.via (fun t k => XS.iloadN Xh1.here hx rfl (hb hby d18_9) rfl k) ?_
  refine Go.via (fun t k => XS.iloadN Xh1.here hx rfl (hb hby d18_10) rfl k) ?_
  show Go p.tables e below P T1 (mkF m 11 #[.val (.ref so), .val (.ref r_1), .val (.int (4 : Int32)), .val (.int (0 : Int32)), .unset] [(.int (4 : Int32)), (.int (0 : Int32))])
  refine Go.via (fun t k => XS.icmpNo Xh1.here hx rfl (hb hby d18_11) rfl (tlt (by decide : (0 : Int32) < (4 : Int32))).2.1 k) ?_
  show Go p.tables e below P T1 (mkF m 14 #[.val (.ref so), .val (.ref r_1), .val (.int (4 : Int32)), .val (.int (0 : Int32)), .unset] [])
  refine Go.via (fun t k => XS.aloadN Xh1.here hx rfl (hb hby d18_14) rfl rfl k) ?_
  refine Go.via (fun t k => XS.iloadN Xh1.here hx rfl (hb hby d18_15) rfl k) ?_
  show Go p.tables e below P T1 (mkF m 16 #[.val (.ref so), .val (.ref r_1), .val (.int (4 : Int32)), .val (.int (0 : Int32)), .unset] [(.int (0 : Int32)), (.ref r_1)])
  obtain ⟨c10, A10, q10, S10, N10, H10, G10⟩ := id u1_0
  have hin10 : ¬ ((0 : Int32) < 0 ∨ c10.slots.size ≤ ((0 : Int32)).toNatClampNeg) := inb_of S10 ⟨by decide, by decide⟩
  have hat10 : c10.slots[((0 : Int32)).toNatClampNeg]? = some (.ref aF) := (H10 _ (Nat.lt_of_not_le fun q => hin10 (Or.inr q))).trans (congrArg some rfl)
  refine Go.via (fun t k => Xh1.aaload hx (j := (0 : Int32)) (v := (.ref aF)) (by exact A10.1) (State.isArrayOf_alike hZ.alike A10.2.1) rfl A10.2.2 hin10 hat10 (g := (mkF m 16 #[.val (.ref so), .val (.ref r_1), .val (.int (4 : Int32)), .val (.int (0 : Int32)), .unset] [(.int (0 : Int32)), (.ref r_1)])) rfl rfl (hb hby d18_16) t k) ?_
  show Go p.tables e below P T1 (mkF m 17 #[.val (.ref so), .val (.ref r_1), .val (.int (4 : Int32)), .val (.int (0 : Int32)), .unset] [(.ref aF)])
  refine Go.via (fun t k => XS.astore Xh1.here hx rfl (hb hby d18_17) rfl rfl (l' := #[.val (.ref so), .val (.ref r_1), .val (.int (4 : Int32)), .val (.int (0 : Int32)), .val (.ref aF)]) rfl k) ?_
  refine Go.via (fun t k => XS.aload Xh1.here hx rfl (hb hby d18_19) rfl rfl k) ?_
  show Go p.tables e below P T1 (mkF m 21 #[.val (.ref so), .val (.ref r_1), .val (.int (4 : Int32)), .val (.int (0 : Int32)), .val (.ref aF)] [(.ref aF)])
  obtain ⟨T11, X11, e11, st11⟩ := getF Xh1 hx hZ hown (host := "") (Or.inl (hw _ (List.mem_of_getElem? (i := 106) rfl))) Via.refl rfl (P7.ext O8.2) (g := (mkF m 21 #[.val (.ref so), .val (.ref r_1), .val (.int (4 : Int32)), .val (.int (0 : Int32)), .val (.ref aF)] [(.ref aF)])) rfl rfl (hb hby d18_21)
  refine Go.via st11 ?_
  show Go p.tables e below P T11 (mkF m 24 #[.val (.ref so), .val (.ref r_1), .val (.int (4 : Int32)), .val (.int (0 : Int32)), .val (.ref aF)] [(.ref sF)])
  refine Go.via (fun t k => XS.aloadN X11.here hx rfl (hb hby d18_24) rfl rfl k) ?_
  show Go p.tables e below P T11 (mkF m 25 #[.val (.ref so), .val (.ref r_1), .val (.int (4 : Int32)), .val (.int (0 : Int32)), .val (.ref aF)] [(.ref so), (.ref sF)])
  have F12 : Exa Z T1.heap so "java/lang/String" := (P30.keep K1)
  have F13 : Fld Z T1.heap so "java/lang/String" "value" "[B" (.ref tb) := (P31.keep K1 own_nin0)
  have F14 : Fld Z T1.heap so "java/lang/String" "coder" "B" (.int (0 : Int32)) := (P32.keep K1 own_nin0)
  have F15 : Arv Z T1.heap tb kk .byte (own_lg bx) (bx.map Value.int) (.int (0 : Int32)) := (P33.keep K1 own_nin0)
  obtain ⟨cq16, kq16, q16a, q16b, q16c⟩ := isOf hZ e11 (P8.ext O8.2)
  obtain ⟨_, _, ⟨T16, L16, k16, n16⟩, -, X16, ⟨Lc16, hQ16, l16, y16, z16⟩, st16⟩ := X11.virtualBack hx (y := (⟨"java/lang/String", "equals", "(Ljava/lang/Object;)Z"⟩ : MethodName)) (z := (⟨"java/lang/String", "equals", "(Ljava/lang/Object;)Z"⟩ : MethodName)) hown (mvT hZ (hw _ (List.mem_of_getElem? (i := 108) rfl))) (mvT hZ (hw _ (List.mem_of_getElem? (i := 74) rfl))) (notFace_of_selects (args := #[]) (mvT hZ (hw _ (List.mem_of_getElem? (i := 76) rfl)))) (mvT hZ (hw _ (List.mem_of_getElem? (i := 76) rfl))) (mvT hZ (hw _ (List.mem_of_getElem? (i := 75) rfl))) (by decide) (backOf (W := 0) (rm16 l Z a0 hw [] sF so cs tF tb kF kk ([(102 : Int32), (101 : Int32), (116 : Int32), (99 : Int32), (104 : Int32)] : List Int32) bx T1.heap n0 Z6 O8 P1 (by first | assumption | decide | omega : ¬ cs = (0 : Int32)) (P8.ext O8.2) (P9.ext O8.2) (P10.ext O8.2) (P11.ext O8.2) F12 F13 F14 F15 (by decide) smx (own_sfun (P9.ext O8.2) F13 (P11.ext O8.2) F15 (by first | assumption | decide) (by first | assumption | decide))) hZ (hw _ (List.mem_of_getElem? (i := 77) rfl)) (hw _ (List.mem_of_getElem? (i := 1) rfl)) (by decide) (by decide)) q16a q16c (g := (mkF m 25 #[.val (.ref so), .val (.ref r_1), .val (.int (4 : Int32)), .val (.int (0 : Int32)), .val (.ref aF)] [(.ref so), (.ref sF)])) rfl (by rw [hml]; rfl) (Steps.refl _) (argsL := [(.ref so)]) (rest := []) (lenOf own_pd11 rfl) rfl (by show 2 * 0 + _ ≤ _; exact Nat.le_of_eq rfl) (hb hby d18_25) (fun _ _ => ⟨rfl, e11, (by decide : 1 + 0 ≤ _), (by decide : 4 + 0 ≤ _)⟩)
  dsimp only [Pt.U, Pt.locs, Pt.cells, Pt.slots] at X16 l16 y16 z16 st16 hQ16
  subst l16 y16 z16
  obtain ⟨rfl, Nq16, hh16⟩ := hQ16
  obtain ⟨lc16, Xh16, N16⟩ := own_hide X16 (Fr.app N1 Nq16)
  clear X16
  refine Go.hop st16 ?_
  show Go p.tables e below P T16 (mkF m 28 #[.val (.ref so), .val (.ref r_1), .val (.int (4 : Int32)), .val (.int (0 : Int32)), .val (.ref aF)] [(.int (if ([(102 : Int32), (101 : Int32), (116 : Int32), (99 : Int32), (104 : Int32)] : List Int32) = bx then (1 : Int32) else (0 : Int32)))])
  refine Go.via (fun t k => XS.ifYes Xh16.here hx rfl (pc0 := 28) (pc' := 34) rfl (hb hby d18_28) rfl ((if0 _ _).trans (teq (if_neg (fun q => absurd (q.trans hc_) (by decide)))).1) (by decide) (by decide) k) ?_
  show Go p.tables e below P T16 (mkF m 34 #[.val (.ref so), .val (.ref r_1), .val (.int (4 : Int32)), .val (.int (0 : Int32)), .val (.ref aF)] [])
  refine Go.via (fun t k => XS.iinc Xh16.here hx rfl (hb hby d18_34) rfl (l' := #[.val (.ref so), .val (.ref r_1), .val (.int (4 : Int32)), .val (.int ((0 : Int32) + (1 : Int32))), .val (.ref aF)]) rfl k) ?_
  show Go p.tables e below P T16 (mkF m 37 #[.val (.ref so), .val (.ref r_1), .val (.int (4 : Int32)), .val (.int ((0 : Int32) + (1 : Int32))), .val (.ref aF)] [])
  refine Go.via (fun t k => XS.goto Xh16.here hx rfl (pc0 := 37) (pc' := 9) rfl (hb hby d18_37) (by decide) (by decide) k) ?_
  refine Go.via (fun t k => XS.iloadN Xh16.here hx rfl (hb hby d18_9) rfl k) ?_
  refine Go.via (fun t k => XS.iloadN Xh16.here hx rfl (hb hby d18_10) rfl k) ?_
  show Go p.tables e below P T16 (mkF m 11 #[.val (.ref so), .val (.ref r_1), .val (.int (4 : Int32)), .val (.int ((0 : Int32) + (1 : Int32))), .val (.ref aF)] [(.int (4 : Int32)), (.int ((0 : Int32) + (1 : Int32)))])
  refine Go.via (fun t k => XS.icmpNo Xh16.here hx rfl (hb hby d18_11) rfl (tlt (by decide : ((0 : Int32) + (1 : Int32)) < (4 : Int32))).2.1 k) ?_
  show Go p.tables e below P T16 (mkF m 14 #[.val (.ref so), .val (.ref r_1), .val (.int (4 : Int32)), .val (.int ((0 : Int32) + (1 : Int32))), .val (.ref aF)] [])
  refine Go.via (fun t k => XS.aloadN Xh16.here hx rfl (hb hby d18_14) rfl rfl k) ?_
  refine Go.via (fun t k => XS.iloadN Xh16.here hx rfl (hb hby d18_15) rfl k) ?_
  show Go p.tables e below P T16 (mkF m 16 #[.val (.ref so), .val (.ref r_1), .val (.int (4 : Int32)), .val (.int ((0 : Int32) + (1 : Int32))), .val (.ref aF)] [(.int ((0 : Int32) + (1 : Int32))), (.ref r_1)])
  obtain ⟨c17, A17, q17, S17, N17, H17, G17⟩ := id u1_0
  have hin17 : ¬ (((0 : Int32) + (1 : Int32)) < 0 ∨ c17.slots.size ≤ (((0 : Int32) + (1 : Int32))).toNatClampNeg) := inb_of S17 ⟨by decide, by decide⟩
  have hat17 : c17.slots[(((0 : Int32) + (1 : Int32))).toNatClampNeg]? = some (.ref aC) := (H17 _ (Nat.lt_of_not_le fun q => hin17 (Or.inr q))).trans (congrArg some rfl)
  refine Go.via (fun t k => Xh16.aaload hx (j := ((0 : Int32) + (1 : Int32))) (v := (.ref aC)) (by rw [hh16]; exact A17.1) (State.isArrayOf_alike hZ.alike A17.2.1) rfl A17.2.2 hin17 hat17 (g := (mkF m 16 #[.val (.ref so), .val (.ref r_1), .val (.int (4 : Int32)), .val (.int ((0 : Int32) + (1 : Int32))), .val (.ref aF)] [(.int ((0 : Int32) + (1 : Int32))), (.ref r_1)])) rfl rfl (hb hby d18_16) t k) ?_
  show Go p.tables e below P T16 (mkF m 17 #[.val (.ref so), .val (.ref r_1), .val (.int (4 : Int32)), .val (.int ((0 : Int32) + (1 : Int32))), .val (.ref aF)] [(.ref aC)])
  refine Go.via (fun t k => XS.astore Xh16.here hx rfl (hb hby d18_17) rfl rfl (l' := #[.val (.ref so), .val (.ref r_1), .val (.int (4 : Int32)), .val (.int ((0 : Int32) + (1 : Int32))), .val (.ref aC)]) rfl k) ?_
  refine Go.via (fun t k => XS.aload Xh16.here hx rfl (hb hby d18_19) rfl rfl k) ?_
  show Go p.tables e below P T16 (mkF m 21 #[.val (.ref so), .val (.ref r_1), .val (.int (4 : Int32)), .val (.int ((0 : Int32) + (1 : Int32))), .val (.ref aC)] [(.ref aC)])
  obtain ⟨T18, X18, e18, st18⟩ := getF Xh16 hx hZ hown (host := "") (Or.inl (hw _ (List.mem_of_getElem? (i := 106) rfl))) Via.refl hh16 (P13.ext O8.2) (g := (mkF m 21 #[.val (.ref so), .val (.ref r_1), .val (.int (4 : Int32)), .val (.int ((0 : Int32) + (1 : Int32))), .val (.ref aC)] [(.ref aC)])) rfl rfl (hb hby d18_21)
  refine Go.via st18 ?_
  show Go p.tables e below P T18 (mkF m 24 #[.val (.ref so), .val (.ref r_1), .val (.int (4 : Int32)), .val (.int ((0 : Int32) + (1 : Int32))), .val (.ref aC)] [(.ref sC)])
  refine Go.via (fun t k => XS.aloadN X18.here hx rfl (hb hby d18_24) rfl rfl k) ?_
  show Go p.tables e below P T18 (mkF m 25 #[.val (.ref so), .val (.ref r_1), .val (.int (4 : Int32)), .val (.int ((0 : Int32) + (1 : Int32))), .val (.ref aC)] [(.ref so), (.ref sC)])
  obtain ⟨cq19, kq19, q19a, q19b, q19c⟩ := isOf hZ e18 (P14.ext O8.2)
  obtain ⟨_, _, ⟨T19, L19, k19, n19⟩, -, X19, ⟨Lc19, hQ19, l19, y19, z19⟩, st19⟩ := X18.virtualBack hx (y := (⟨"java/lang/String", "equals", "(Ljava/lang/Object;)Z"⟩ : MethodName)) (z := (⟨"java/lang/String", "equals", "(Ljava/lang/Object;)Z"⟩ : MethodName)) hown (mvT hZ (hw _ (List.mem_of_getElem? (i := 108) rfl))) (mvT hZ (hw _ (List.mem_of_getElem? (i := 74) rfl))) (notFace_of_selects (args := #[]) (mvT hZ (hw _ (List.mem_of_getElem? (i := 76) rfl)))) (mvT hZ (hw _ (List.mem_of_getElem? (i := 76) rfl))) (mvT hZ (hw _ (List.mem_of_getElem? (i := 75) rfl))) (by decide) (backOf (W := 0) (rm16 l Z a0 hw [] sC so cs tC tb kC kk ([(99 : Int32), (97 : Int32), (108 : Int32), (108 : Int32)] : List Int32) bx T1.heap n0 Z6 O8 P1 (by first | assumption | decide | omega : ¬ cs = (0 : Int32)) (P14.ext O8.2) (P15.ext O8.2) (P16.ext O8.2) (P17.ext O8.2) F12 F13 F14 F15 (by decide) smx (own_sfun (P15.ext O8.2) F13 (P17.ext O8.2) F15 (by first | assumption | decide) (by first | assumption | decide))) hZ (hw _ (List.mem_of_getElem? (i := 77) rfl)) (hw _ (List.mem_of_getElem? (i := 1) rfl)) (by decide) (by decide)) q19a q19c (g := (mkF m 25 #[.val (.ref so), .val (.ref r_1), .val (.int (4 : Int32)), .val (.int ((0 : Int32) + (1 : Int32))), .val (.ref aC)] [(.ref so), (.ref sC)])) rfl (by rw [hml]; rfl) (Steps.refl _) (argsL := [(.ref so)]) (rest := []) (lenOf own_pd11 rfl) rfl (by show 2 * 0 + _ ≤ _; exact Nat.le_of_eq rfl) (hb hby d18_25) (fun _ _ => ⟨rfl, e18, (by decide : 1 + 0 ≤ _), (by decide : 4 + 0 ≤ _)⟩)
  dsimp only [Pt.U, Pt.locs, Pt.cells, Pt.slots] at X19 l19 y19 z19 st19 hQ19
  subst l19 y19 z19
  obtain ⟨rfl, Nq19, hh19⟩ := hQ19
  obtain ⟨lc19, Xh19, N19⟩ := own_hide X19 (Fr.app N16 Nq19)
  clear X19
  refine Go.hop st19 ?_
  show Go p.tables e below P T19 (mkF m 28 #[.val (.ref so), .val (.ref r_1), .val (.int (4 : Int32)), .val (.int ((0 : Int32) + (1 : Int32))), .val (.ref aC)] [(.int (if ([(99 : Int32), (97 : Int32), (108 : Int32), (108 : Int32)] : List Int32) = bx then (1 : Int32) else (0 : Int32)))])
  refine Go.via (fun t k => XS.ifYes Xh19.here hx rfl (pc0 := 28) (pc' := 34) rfl (hb hby d18_28) rfl ((if0 _ _).trans (teq (if_neg (fun q => absurd (q.trans hc_) (by decide)))).1) (by decide) (by decide) k) ?_
  show Go p.tables e below P T19 (mkF m 34 #[.val (.ref so), .val (.ref r_1), .val (.int (4 : Int32)), .val (.int ((0 : Int32) + (1 : Int32))), .val (.ref aC)] [])
  refine Go.via (fun t k => XS.iinc Xh19.here hx rfl (hb hby d18_34) rfl (l' := #[.val (.ref so), .val (.ref r_1), .val (.int (4 : Int32)), .val (.int (((0 : Int32) + (1 : Int32)) + (1 : Int32))), .val (.ref aC)]) rfl k) ?_
  show Go p.tables e below P T19 (mkF m 37 #[.val (.ref so), .val (.ref r_1), .val (.int (4 : Int32)), .val (.int (((0 : Int32) + (1 : Int32)) + (1 : Int32))), .val (.ref aC)] [])
  refine Go.via (fun t k => XS.goto Xh19.here hx rfl (pc0 := 37) (pc' := 9) rfl (hb hby d18_37) (by decide) (by decide) k) ?_
  refine Go.via (fun t k => XS.iloadN Xh19.here hx rfl (hb hby d18_9) rfl k) ?_
  refine Go.via (fun t k => XS.iloadN Xh19.here hx rfl (hb hby d18_10) rfl k) ?_
  show Go p.tables e below P T19 (mkF m 11 #[.val (.ref so), .val (.ref r_1), .val (.int (4 : Int32)), .val (.int (((0 : Int32) + (1 : Int32)) + (1 : Int32))), .val (.ref aC)] [(.int (4 : Int32)), (.int (((0 : Int32) + (1 : Int32)) + (1 : Int32)))])
  refine Go.via (fun t k => XS.icmpNo Xh19.here hx rfl (hb hby d18_11) rfl (tlt (by decide : (((0 : Int32) + (1 : Int32)) + (1 : Int32)) < (4 : Int32))).2.1 k) ?_
  show Go p.tables e below P T19 (mkF m 14 #[.val (.ref so), .val (.ref r_1), .val (.int (4 : Int32)), .val (.int (((0 : Int32) + (1 : Int32)) + (1 : Int32))), .val (.ref aC)] [])
  refine Go.via (fun t k => XS.aloadN Xh19.here hx rfl (hb hby d18_14) rfl rfl k) ?_
  refine Go.via (fun t k => XS.iloadN Xh19.here hx rfl (hb hby d18_15) rfl k) ?_
  show Go p.tables e below P T19 (mkF m 16 #[.val (.ref so), .val (.ref r_1), .val (.int (4 : Int32)), .val (.int (((0 : Int32) + (1 : Int32)) + (1 : Int32))), .val (.ref aC)] [(.int (((0 : Int32) + (1 : Int32)) + (1 : Int32))), (.ref r_1)])
  obtain ⟨c20, A20, q20, S20, N20, H20, G20⟩ := id u1_0
  have hin20 : ¬ ((((0 : Int32) + (1 : Int32)) + (1 : Int32)) < 0 ∨ c20.slots.size ≤ ((((0 : Int32) + (1 : Int32)) + (1 : Int32))).toNatClampNeg) := inb_of S20 ⟨by decide, by decide⟩
  have hat20 : c20.slots[((((0 : Int32) + (1 : Int32)) + (1 : Int32))).toNatClampNeg]? = some (.ref aS) := (H20 _ (Nat.lt_of_not_le fun q => hin20 (Or.inr q))).trans (congrArg some rfl)
  refine Go.via (fun t k => Xh19.aaload hx (j := (((0 : Int32) + (1 : Int32)) + (1 : Int32))) (v := (.ref aS)) (by rw [hh19]; exact A20.1) (State.isArrayOf_alike hZ.alike A20.2.1) rfl A20.2.2 hin20 hat20 (g := (mkF m 16 #[.val (.ref so), .val (.ref r_1), .val (.int (4 : Int32)), .val (.int (((0 : Int32) + (1 : Int32)) + (1 : Int32))), .val (.ref aC)] [(.int (((0 : Int32) + (1 : Int32)) + (1 : Int32))), (.ref r_1)])) rfl rfl (hb hby d18_16) t k) ?_
  show Go p.tables e below P T19 (mkF m 17 #[.val (.ref so), .val (.ref r_1), .val (.int (4 : Int32)), .val (.int (((0 : Int32) + (1 : Int32)) + (1 : Int32))), .val (.ref aC)] [(.ref aS)])
  refine Go.via (fun t k => XS.astore Xh19.here hx rfl (hb hby d18_17) rfl rfl (l' := #[.val (.ref so), .val (.ref r_1), .val (.int (4 : Int32)), .val (.int (((0 : Int32) + (1 : Int32)) + (1 : Int32))), .val (.ref aS)]) rfl k) ?_
  refine Go.via (fun t k => XS.aload Xh19.here hx rfl (hb hby d18_19) rfl rfl k) ?_
  show Go p.tables e below P T19 (mkF m 21 #[.val (.ref so), .val (.ref r_1), .val (.int (4 : Int32)), .val (.int (((0 : Int32) + (1 : Int32)) + (1 : Int32))), .val (.ref aS)] [(.ref aS)])
  obtain ⟨T21, X21, e21, st21⟩ := getF Xh19 hx hZ hown (host := "") (Or.inl (hw _ (List.mem_of_getElem? (i := 106) rfl))) Via.refl hh19 (P19.ext O8.2) (g := (mkF m 21 #[.val (.ref so), .val (.ref r_1), .val (.int (4 : Int32)), .val (.int (((0 : Int32) + (1 : Int32)) + (1 : Int32))), .val (.ref aS)] [(.ref aS)])) rfl rfl (hb hby d18_21)
  refine Go.via st21 ?_
  show Go p.tables e below P T21 (mkF m 24 #[.val (.ref so), .val (.ref r_1), .val (.int (4 : Int32)), .val (.int (((0 : Int32) + (1 : Int32)) + (1 : Int32))), .val (.ref aS)] [(.ref sS)])
  refine Go.via (fun t k => XS.aloadN X21.here hx rfl (hb hby d18_24) rfl rfl k) ?_
  show Go p.tables e below P T21 (mkF m 25 #[.val (.ref so), .val (.ref r_1), .val (.int (4 : Int32)), .val (.int (((0 : Int32) + (1 : Int32)) + (1 : Int32))), .val (.ref aS)] [(.ref so), (.ref sS)])
  obtain ⟨cq22, kq22, q22a, q22b, q22c⟩ := isOf hZ e21 (P20.ext O8.2)
  obtain ⟨_, _, ⟨T22, L22, k22, n22⟩, -, X22, ⟨Lc22, hQ22, l22, y22, z22⟩, st22⟩ := X21.virtualBack hx (y := (⟨"java/lang/String", "equals", "(Ljava/lang/Object;)Z"⟩ : MethodName)) (z := (⟨"java/lang/String", "equals", "(Ljava/lang/Object;)Z"⟩ : MethodName)) hown (mvT hZ (hw _ (List.mem_of_getElem? (i := 108) rfl))) (mvT hZ (hw _ (List.mem_of_getElem? (i := 74) rfl))) (notFace_of_selects (args := #[]) (mvT hZ (hw _ (List.mem_of_getElem? (i := 76) rfl)))) (mvT hZ (hw _ (List.mem_of_getElem? (i := 76) rfl))) (mvT hZ (hw _ (List.mem_of_getElem? (i := 75) rfl))) (by decide) (backOf (W := 0) (rm16 l Z a0 hw [] sS so cs tS tb kS kk ([(115 : Int32), (113 : Int32), (108 : Int32)] : List Int32) bx T1.heap n0 Z6 O8 P1 (by first | assumption | decide | omega : ¬ cs = (0 : Int32)) (P20.ext O8.2) (P21.ext O8.2) (P22.ext O8.2) (P23.ext O8.2) F12 F13 F14 F15 (by decide) smx (own_sfun (P21.ext O8.2) F13 (P23.ext O8.2) F15 (by first | assumption | decide) (by first | assumption | decide))) hZ (hw _ (List.mem_of_getElem? (i := 77) rfl)) (hw _ (List.mem_of_getElem? (i := 1) rfl)) (by decide) (by decide)) q22a q22c (g := (mkF m 25 #[.val (.ref so), .val (.ref r_1), .val (.int (4 : Int32)), .val (.int (((0 : Int32) + (1 : Int32)) + (1 : Int32))), .val (.ref aS)] [(.ref so), (.ref sS)])) rfl (by rw [hml]; rfl) (Steps.refl _) (argsL := [(.ref so)]) (rest := []) (lenOf own_pd11 rfl) rfl (by show 2 * 0 + _ ≤ _; exact Nat.le_of_eq rfl) (hb hby d18_25) (fun _ _ => ⟨rfl, e21, (by decide : 1 + 0 ≤ _), (by decide : 4 + 0 ≤ _)⟩)
  dsimp only [Pt.U, Pt.locs, Pt.cells, Pt.slots] at X22 l22 y22 z22 st22 hQ22
  subst l22 y22 z22
  obtain ⟨rfl, Nq22, hh22⟩ := hQ22
  obtain ⟨lc22, Xh22, N22⟩ := own_hide X22 (Fr.app N19 Nq22)
  clear X22
  refine Go.hop st22 ?_
  show Go p.tables e below P T22 (mkF m 28 #[.val (.ref so), .val (.ref r_1), .val (.int (4 : Int32)), .val (.int (((0 : Int32) + (1 : Int32)) + (1 : Int32))), .val (.ref aS)] [(.int (if ([(115 : Int32), (113 : Int32), (108 : Int32)] : List Int32) = bx then (1 : Int32) else (0 : Int32)))])
  refine Go.via (fun t k => XS.ifNo Xh22.here hx rfl (hb hby d18_28) rfl ((if0 _ _).trans (feq (fun q => own_i0 q hc_.symm)).1) k) ?_
  show Go p.tables e below P T22 (mkF m 31 #[.val (.ref so), .val (.ref r_1), .val (.int (4 : Int32)), .val (.int (((0 : Int32) + (1 : Int32)) + (1 : Int32))), .val (.ref aS)] [])
  refine Go.via (fun t k => XS.aload Xh22.here hx rfl (hb hby d18_31) rfl rfl k) ?_
  show Go p.tables e below P T22 (mkF m 33 #[.val (.ref so), .val (.ref r_1), .val (.int (4 : Int32)), .val (.int (((0 : Int32) + (1 : Int32)) + (1 : Int32))), .val (.ref aS)] [(.ref aS)])
  obtain ⟨fs, hr, hrun, hended, hW, hsame⟩ := Xh22.leave (v := some (.ref aS)) (fun h => by rw [Bd.returns] at h; cases h)
  refine ⟨_, _, retA Xh22 hx Bd.returns rfl rfl rfl (hb hby d18_33) hr, hrun, hended, hP _ _ ⟨_, _, rfl, ?_, ⟨_, rfl⟩, hW, hsame.mono (by decide) (by decide)⟩⟩
  show Q18v2 Z so cs tb kk bx va kva aF sF tF kF aC sC tC kC aS sS tS kS aD sD tD kD h0 n0 _ T22.heap _
  rw [hh22]
  exact ⟨rfl, N22, K7⟩
theorem ef_18v3 (m : MethodId) (x0 : Addr) : entryFrame m #[(.ref x0)] 5 = mkF m 0 #[.val (.ref x0), .unset, .unset, .unset, .unset] [] := by first | (simp [entryFrame, mkF, argsToLocals, Value.category]; done) | rfl
def Q18v3 (Z : State) (so : Addr) (cs : Int32) (tb : Addr) (kk : ClassId) (bx : List Int32) (va : Addr) (kva : ClassId) (aF : Addr) (sF : Addr) (tF : Addr) (kF : ClassId) (aC : Addr) (sC : Addr) (tC : Addr) (kC : ClassId) (aS : Addr) (sS : Addr) (tS : Addr) (kS : ClassId) (aD : Addr) (sD : Addr) (tD : Addr) (kD : ClassId) (h0 : Heap) (n0 : Nat) (v : Option Value) (h : Heap) (L : List Loc) : Prop := v = some (.ref aD) ∧ Fr n0 L ∧ Keep h0 h []
set_option maxRecDepth 65536 in
set_option maxHeartbeats 40000000 in
theorem rm18v3 (l : Launch) (Z : State) (a0 : Array Value) (hw : ∀ d ∈ tables_1, d.before a0 Z = true) (ws : List Jvm.Cond) (so : Addr) (cs : Int32) (tb : Addr) (kk : ClassId) (bx : List Int32) (va : Addr) (kva : ClassId) (aF : Addr) (sF : Addr) (tF : Addr) (kF : ClassId) (aC : Addr) (sC : Addr) (tC : Addr) (kC : ClassId) (aS : Addr) (sS : Addr) (tS : Addr) (kS : ClassId) (aD : Addr) (sD : Addr) (tD : Addr) (kD : ClassId) (h0 : Heap) (n0 : Nat) (Z0 : n0 ≤ h0.size) (O0 : Old Z n0 h0) (P1 : Sta Z Z.heap "java/lang/String" "COMPACT_STRINGS" "Z" (.int cs)) (hcs : ¬ cs = (0 : Int32)) (P3 : Sta Z Z.heap "com/example/tri3/tri3/StageKind" "$VALUES" "[Lcom/example/tri3/tri3/StageKind;" (.ref va)) (P4 : Arv Z Z.heap va kva (.object "com/example/tri3/tri3/StageKind") (4 : Int32) [(.ref aF), (.ref aC), (.ref aS), (.ref aD)] .null) (P5 : Exa Z Z.heap va "[Lcom/example/tri3/tri3/StageKind;") (P6 : Exa Z Z.heap aF "com/example/tri3/tri3/StageKind") (P7 : Fld Z Z.heap aF "com/example/tri3/tri3/StageKind" "fileName" "Ljava/lang/String;" (.ref sF)) (P8 : Exa Z Z.heap sF "java/lang/String") (P9 : Fld Z Z.heap sF "java/lang/String" "value" "[B" (.ref tF)) (P10 : Fld Z Z.heap sF "java/lang/String" "coder" "B" (.int (0 : Int32))) (P11 : Arv Z Z.heap tF kF .byte (own_lg ([(102 : Int32), (101 : Int32), (116 : Int32), (99 : Int32), (104 : Int32)] : List Int32)) (([(102 : Int32), (101 : Int32), (116 : Int32), (99 : Int32), (104 : Int32)] : List Int32).map Value.int) (.int (0 : Int32))) (P12 : Exa Z Z.heap aC "com/example/tri3/tri3/StageKind") (P13 : Fld Z Z.heap aC "com/example/tri3/tri3/StageKind" "fileName" "Ljava/lang/String;" (.ref sC)) (P14 : Exa Z Z.heap sC "java/lang/String") (P15 : Fld Z Z.heap sC "java/lang/String" "value" "[B" (.ref tC)) (P16 : Fld Z Z.heap sC "java/lang/String" "coder" "B" (.int (0 : Int32))) (P17 : Arv Z Z.heap tC kC .byte (own_lg ([(99 : Int32), (97 : Int32), (108 : Int32), (108 : Int32)] : List Int32)) (([(99 : Int32), (97 : Int32), (108 : Int32), (108 : Int32)] : List Int32).map Value.int) (.int (0 : Int32))) (P18 : Exa Z Z.heap aS "com/example/tri3/tri3/StageKind") (P19 : Fld Z Z.heap aS "com/example/tri3/tri3/StageKind" "fileName" "Ljava/lang/String;" (.ref sS)) (P20 : Exa Z Z.heap sS "java/lang/String") (P21 : Fld Z Z.heap sS "java/lang/String" "value" "[B" (.ref tS)) (P22 : Fld Z Z.heap sS "java/lang/String" "coder" "B" (.int (0 : Int32))) (P23 : Arv Z Z.heap tS kS .byte (own_lg ([(115 : Int32), (113 : Int32), (108 : Int32)] : List Int32)) (([(115 : Int32), (113 : Int32), (108 : Int32)] : List Int32).map Value.int) (.int (0 : Int32))) (P24 : Exa Z Z.heap aD "com/example/tri3/tri3/StageKind") (P25 : Fld Z Z.heap aD "com/example/tri3/tri3/StageKind" "fileName" "Ljava/lang/String;" (.ref sD)) (P26 : Exa Z Z.heap sD "java/lang/String") (P27 : Fld Z Z.heap sD "java/lang/String" "value" "[B" (.ref tD)) (P28 : Fld Z Z.heap sD "java/lang/String" "coder" "B" (.int (0 : Int32))) (P29 : Arv Z Z.heap tD kD .byte (own_lg ([(100 : Int32), (101 : Int32), (108 : Int32), (105 : Int32), (118 : Int32), (101 : Int32), (114 : Int32)] : List Int32)) (([(100 : Int32), (101 : Int32), (108 : Int32), (105 : Int32), (118 : Int32), (101 : Int32), (114 : Int32)] : List Int32).map Value.int) (.int (0 : Int32))) (P30 : Exa Z h0 so "java/lang/String") (P31 : Fld Z h0 so "java/lang/String" "value" "[B" (.ref tb)) (P32 : Fld Z h0 so "java/lang/String" "coder" "B" (.int (0 : Int32))) (P33 : Arv Z h0 tb kk .byte (own_lg bx) (bx.map Value.int) (.int (0 : Int32))) (smx : bx.length ≤ 1000) (hc_ : bx = ([(100 : Int32), (101 : Int32), (108 : Int32), (105 : Int32), (118 : Int32), (101 : Int32), (114 : Int32)] : List Int32)) :
    MetFree l (⟨"com/example/tri3/tri3/StageKind", "named", "(Ljava/lang/String;)Lcom/example/tri3/tri3/StageKind;"⟩ : MethodName) (head1 (Jvm.Cond.code (⟨"com/example/tri3/tri3/StageKind", "named", "(Ljava/lang/String;)Lcom/example/tri3/tri3/StageKind;"⟩ : MethodName) prog_28_method_4_code 5 (some (.object "com/example/tri3/tri3/StageKind")) :: ws) ({ frames := 2, cells := 1, slots := 4, locals := 28 } : Room)) (fun a U => a = #[(.ref so)] ∧ Z.Warmed39 U.vm ∧ U.heap = h0) (fun _ _ _ _ _ => True) (fun _ U o U' => ∃ v L, o = .returned v ∧ Q18v3 Z so cs tb kk bx va kva aF sF tF kF aC sC tC kC aS sS tS kS aD sD tD kD h0 n0 v U'.heap L ∧ FrameEnd U o U' L ({ frames := 2, cells := 1, slots := 4, locals := 28 } : Room).cells ({ frames := 2, cells := 1, slots := 4, locals := 28 } : Room).slots) := by
  refine MetFree.of_bodySF (plainFor_of_name own_pn4) hisR ?_
  intro p e s m args below meth c s₁ Bd hml0 hP hK
  obtain ⟨rfl, hZ, hh⟩ := hP
  have hx := Bd.exec
  have hby := Bd.bytes
  have hml : c.maxLocals = 5 := hml0
  have hown : s.vm.findClass "com/example/tri3/tri3/StageKind" = some m.cls := findClass_of_methodNamed Bd.named
  have hnm := (name_of_methodNamed Bd.named Bd.method).1
  have X0 : Stand p l e ({ frames := 2, cells := 1, slots := 4, locals := 28 } : Room) s m #[(.ref so)] below meth c s₁ [] 0 0 := Stand.of_body Bd
  have e0 : s₁.heap = h0 := by rw [← hh, Bd.state]; rfl
  have N0 := Fr.nil n0
  have K0 : Keep h0 h0 [] := Keep.refl _ _
  suffices GO : ∀ P : Outcome → State → Prop, (∀ o U', (∃ v L, o = .returned v ∧ Q18v3 Z so cs tb kk bx va kva aF sF tF kF aC sC tC kC aS sS tS kS aD sD tD kD h0 n0 v U'.heap L ∧ FrameEnd s o U' L ({ frames := 2, cells := 1, slots := 4, locals := 28 } : Room).cells ({ frames := 2, cells := 1, slots := 4, locals := 28 } : Room).slots) → P o U') → Go p.tables e below P s₁ (mkF m 0 #[.val (.ref so), .unset, .unset, .unset, .unset] []) by
    obtain ⟨s2, o, st, r⟩ := GO _ (fun _ _ q => q)
    exact ⟨s2, o, castTop (ef_18v3 m so) st, r⟩
  clear hh
  intro P hP
  show Go p.tables e below P s₁ (mkF m 0 #[.val (.ref so), .unset, .unset, .unset, .unset] [])
  obtain ⟨_, _, ⟨T1, L1, k1, n1⟩, -, X1, ⟨Lc1, hQ1, l1, y1, z1⟩, st1⟩ := Jvm.LawKit.callS X0 hx (y := (⟨"com/example/tri3/tri3/StageKind", "values", "()[Lcom/example/tri3/tri3/StageKind;"⟩ : MethodName)) hown (mvT hZ (hw _ (List.mem_of_getElem? (i := 88) rfl))) (mvT hZ (hw _ (List.mem_of_getElem? (i := 89) rfl))) (mvT hZ (hw _ (List.mem_of_getElem? (i := 83) rfl))) (mvT hZ (hw _ (List.mem_of_getElem? (i := 90) rfl))) (by decide) (backOf (W := 0) (rm19 l Z a0 hw [] va kva aF aC aS aD h0 n0 Z0 O0 P3 P4 P5) hZ (hw _ (List.mem_of_getElem? (i := 90) rfl)) (hw _ (List.mem_of_getElem? (i := 83) rfl)) (by decide) (by decide)) (g := (mkF m 0 #[.val (.ref so), .unset, .unset, .unset, .unset] [])) rfl (by rw [hml]; rfl) (argsL := []) (rest := []) (lenOf own_pd10 rfl) rfl (by show 2 * 0 + _ ≤ _; exact Nat.le_of_eq rfl) (hb hby d18_0) (fun _ _ => ⟨rfl, e0, (by decide : 0 + 1 ≤ _), (by decide : 0 + 4 ≤ _)⟩)
  dsimp only [Pt.U, Pt.locs, Pt.cells, Pt.slots] at X1 l1 y1 z1 st1 hQ1
  subst l1 y1 z1
  obtain ⟨r_1, rfl, Nq1, K1, fr1_r, u1_0, u1_1⟩ := hQ1
  obtain ⟨lc1, Xh1, N1⟩ := own_hide X1 (Fr.app N0 Nq1)
  clear X1
  refine Go.via st1 ?_
  have ne2 : so ≠ r_1 := Nat.ne_of_lt (Nat.lt_of_lt_of_le P30.lt fr1_r)
  have ne3 : tb ≠ r_1 := Nat.ne_of_lt (Nat.lt_of_lt_of_le P33.lt fr1_r)
  have g4 : n0 ≤ r_1 := Nat.le_trans Z0 fr1_r
  have sz5 : h0.size ≤ r_1 := Nat.le_trans K0.1 fr1_r
  have Z6 : n0 ≤ T1.heap.size := Nat.le_trans Z0 K1.1
  have K7 : Keep h0 T1.heap [] := K0.trans K1 own_all0
  have O8 : Old Z n0 T1.heap := O0.keep K1 own_all0
  show Go p.tables e below P T1 (mkF m 3 #[.val (.ref so), .unset, .unset, .unset, .unset] [(.ref r_1)])
  refine Go.via (fun t k => XS.astoreN Xh1.here hx rfl (hb hby d18_3) rfl rfl (l' := #[.val (.ref so), .val (.ref r_1), .unset, .unset, .unset]) rfl k) ?_
  refine Go.via (fun t k => XS.aloadN Xh1.here hx rfl (hb hby d18_4) rfl rfl k) ?_
  show Go p.tables e below P T1 (mkF m 5 #[.val (.ref so), .val (.ref r_1), .unset, .unset, .unset] [(.ref r_1)])
  obtain ⟨c9, A9, -, S9, N9, -, -⟩ := id u1_0
  refine Go.via (fun t k => Xh1.arraylength hx (by exact A9.1) (State.isArrayOf_alike hZ.alike A9.2.1) (g := (mkF m 5 #[.val (.ref so), .val (.ref r_1), .unset, .unset, .unset] [(.ref r_1)])) rfl rfl (hb hby d18_5) t (by rw [len_of S9 N9]; exact k)) ?_
  show Go p.tables e below P T1 (mkF m 6 #[.val (.ref so), .val (.ref r_1), .unset, .unset, .unset] [(.int (4 : Int32))])
  refine Go.via (fun t k => XS.istoreN Xh1.here hx rfl (hb hby d18_6) rfl (l' := #[.val (.ref so), .val (.ref r_1), .val (.int (4 : Int32)), .unset, .unset]) rfl k) ?_
  refine Go.via (fun t k => XS.iconst Xh1.here hx rfl (hb hby d18_7) k) ?_
  refine Go.via (fun t k => XS.istoreN Xh1.here hx rfl (hb hby d18_8) rfl (l' := #[.val (.ref so), .val (.ref r_1), .val (.int (4 : Int32)), .val (.int (0 : Int32)), .unset]) rfl k) ?_
  show Go p.tables e below P T1 (mkF m 9 #[.val (.ref so), .val (.ref r_1), .val (.int (4 : Int32)), .val (.int (0 : Int32)), .unset] [])
  refine Go.via (fun t k => XS.iloadN Xh1.here hx rfl (hb hby d18_9) rfl k) ?_
  refine Go.via (fun t k => XS.iloadN Xh1.here hx rfl (hb hby d18_10) rfl k) ?_
  show Go p.tables e below P T1 (mkF m 11 #[.val (.ref so), .val (.ref r_1), .val (.int (4 : Int32)), .val (.int (0 : Int32)), .unset] [(.int (4 : Int32)), (.int (0 : Int32))])
  refine Go.via (fun t k => XS.icmpNo Xh1.here hx rfl (hb hby d18_11) rfl (tlt (by decide : (0 : Int32) < (4 : Int32))).2.1 k) ?_
  show Go p.tables e below P T1 (mkF m 14 #[.val (.ref so), .val (.ref r_1), .val (.int (4 : Int32)), .val (.int (0 : Int32)), .unset] [])
  refine Go.via (fun t k => XS.aloadN Xh1.here hx rfl (hb hby d18_14) rfl rfl k) ?_
  refine Go.via (fun t k => XS.iloadN Xh1.here hx rfl (hb hby d18_15) rfl k) ?_
  show Go p.tables e below P T1 (mkF m 16 #[.val (.ref so), .val (.ref r_1), .val (.int (4 : Int32)), .val (.int (0 : Int32)), .unset] [(.int (0 : Int32)), (.ref r_1)])
  obtain ⟨c10, A10, q10, S10, N10, H10, G10⟩ := id u1_0
  have hin10 : ¬ ((0 : Int32) < 0 ∨ c10.slots.size ≤ ((0 : Int32)).toNatClampNeg) := inb_of S10 ⟨by decide, by decide⟩
  have hat10 : c10.slots[((0 : Int32)).toNatClampNeg]? = some (.ref aF) := (H10 _ (Nat.lt_of_not_le fun q => hin10 (Or.inr q))).trans (congrArg some rfl)
  refine Go.via (fun t k => Xh1.aaload hx (j := (0 : Int32)) (v := (.ref aF)) (by exact A10.1) (State.isArrayOf_alike hZ.alike A10.2.1) rfl A10.2.2 hin10 hat10 (g := (mkF m 16 #[.val (.ref so), .val (.ref r_1), .val (.int (4 : Int32)), .val (.int (0 : Int32)), .unset] [(.int (0 : Int32)), (.ref r_1)])) rfl rfl (hb hby d18_16) t k) ?_
  show Go p.tables e below P T1 (mkF m 17 #[.val (.ref so), .val (.ref r_1), .val (.int (4 : Int32)), .val (.int (0 : Int32)), .unset] [(.ref aF)])
  refine Go.via (fun t k => XS.astore Xh1.here hx rfl (hb hby d18_17) rfl rfl (l' := #[.val (.ref so), .val (.ref r_1), .val (.int (4 : Int32)), .val (.int (0 : Int32)), .val (.ref aF)]) rfl k) ?_
  refine Go.via (fun t k => XS.aload Xh1.here hx rfl (hb hby d18_19) rfl rfl k) ?_
  show Go p.tables e below P T1 (mkF m 21 #[.val (.ref so), .val (.ref r_1), .val (.int (4 : Int32)), .val (.int (0 : Int32)), .val (.ref aF)] [(.ref aF)])
  obtain ⟨T11, X11, e11, st11⟩ := getF Xh1 hx hZ hown (host := "") (Or.inl (hw _ (List.mem_of_getElem? (i := 106) rfl))) Via.refl rfl (P7.ext O8.2) (g := (mkF m 21 #[.val (.ref so), .val (.ref r_1), .val (.int (4 : Int32)), .val (.int (0 : Int32)), .val (.ref aF)] [(.ref aF)])) rfl rfl (hb hby d18_21)
  refine Go.via st11 ?_
  show Go p.tables e below P T11 (mkF m 24 #[.val (.ref so), .val (.ref r_1), .val (.int (4 : Int32)), .val (.int (0 : Int32)), .val (.ref aF)] [(.ref sF)])
  refine Go.via (fun t k => XS.aloadN X11.here hx rfl (hb hby d18_24) rfl rfl k) ?_
  show Go p.tables e below P T11 (mkF m 25 #[.val (.ref so), .val (.ref r_1), .val (.int (4 : Int32)), .val (.int (0 : Int32)), .val (.ref aF)] [(.ref so), (.ref sF)])
  have F12 : Exa Z T1.heap so "java/lang/String" := (P30.keep K1)
  have F13 : Fld Z T1.heap so "java/lang/String" "value" "[B" (.ref tb) := (P31.keep K1 own_nin0)
  have F14 : Fld Z T1.heap so "java/lang/String" "coder" "B" (.int (0 : Int32)) := (P32.keep K1 own_nin0)
  have F15 : Arv Z T1.heap tb kk .byte (own_lg bx) (bx.map Value.int) (.int (0 : Int32)) := (P33.keep K1 own_nin0)
  obtain ⟨cq16, kq16, q16a, q16b, q16c⟩ := isOf hZ e11 (P8.ext O8.2)
  obtain ⟨_, _, ⟨T16, L16, k16, n16⟩, -, X16, ⟨Lc16, hQ16, l16, y16, z16⟩, st16⟩ := X11.virtualBack hx (y := (⟨"java/lang/String", "equals", "(Ljava/lang/Object;)Z"⟩ : MethodName)) (z := (⟨"java/lang/String", "equals", "(Ljava/lang/Object;)Z"⟩ : MethodName)) hown (mvT hZ (hw _ (List.mem_of_getElem? (i := 108) rfl))) (mvT hZ (hw _ (List.mem_of_getElem? (i := 74) rfl))) (notFace_of_selects (args := #[]) (mvT hZ (hw _ (List.mem_of_getElem? (i := 76) rfl)))) (mvT hZ (hw _ (List.mem_of_getElem? (i := 76) rfl))) (mvT hZ (hw _ (List.mem_of_getElem? (i := 75) rfl))) (by decide) (backOf (W := 0) (rm16 l Z a0 hw [] sF so cs tF tb kF kk ([(102 : Int32), (101 : Int32), (116 : Int32), (99 : Int32), (104 : Int32)] : List Int32) bx T1.heap n0 Z6 O8 P1 (by first | assumption | decide | omega : ¬ cs = (0 : Int32)) (P8.ext O8.2) (P9.ext O8.2) (P10.ext O8.2) (P11.ext O8.2) F12 F13 F14 F15 (by decide) smx (own_sfun (P9.ext O8.2) F13 (P11.ext O8.2) F15 (by first | assumption | decide) (by first | assumption | decide))) hZ (hw _ (List.mem_of_getElem? (i := 77) rfl)) (hw _ (List.mem_of_getElem? (i := 1) rfl)) (by decide) (by decide)) q16a q16c (g := (mkF m 25 #[.val (.ref so), .val (.ref r_1), .val (.int (4 : Int32)), .val (.int (0 : Int32)), .val (.ref aF)] [(.ref so), (.ref sF)])) rfl (by rw [hml]; rfl) (Steps.refl _) (argsL := [(.ref so)]) (rest := []) (lenOf own_pd11 rfl) rfl (by show 2 * 0 + _ ≤ _; exact Nat.le_of_eq rfl) (hb hby d18_25) (fun _ _ => ⟨rfl, e11, (by decide : 1 + 0 ≤ _), (by decide : 4 + 0 ≤ _)⟩)
  dsimp only [Pt.U, Pt.locs, Pt.cells, Pt.slots] at X16 l16 y16 z16 st16 hQ16
  subst l16 y16 z16
  obtain ⟨rfl, Nq16, hh16⟩ := hQ16
  obtain ⟨lc16, Xh16, N16⟩ := own_hide X16 (Fr.app N1 Nq16)
  clear X16
  refine Go.hop st16 ?_
  show Go p.tables e below P T16 (mkF m 28 #[.val (.ref so), .val (.ref r_1), .val (.int (4 : Int32)), .val (.int (0 : Int32)), .val (.ref aF)] [(.int (if ([(102 : Int32), (101 : Int32), (116 : Int32), (99 : Int32), (104 : Int32)] : List Int32) = bx then (1 : Int32) else (0 : Int32)))])
  refine Go.via (fun t k => XS.ifYes Xh16.here hx rfl (pc0 := 28) (pc' := 34) rfl (hb hby d18_28) rfl ((if0 _ _).trans (teq (if_neg (fun q => absurd (q.trans hc_) (by decide)))).1) (by decide) (by decide) k) ?_
  show Go p.tables e below P T16 (mkF m 34 #[.val (.ref so), .val (.ref r_1), .val (.int (4 : Int32)), .val (.int (0 : Int32)), .val (.ref aF)] [])
  refine Go.via (fun t k => XS.iinc Xh16.here hx rfl (hb hby d18_34) rfl (l' := #[.val (.ref so), .val (.ref r_1), .val (.int (4 : Int32)), .val (.int ((0 : Int32) + (1 : Int32))), .val (.ref aF)]) rfl k) ?_
  show Go p.tables e below P T16 (mkF m 37 #[.val (.ref so), .val (.ref r_1), .val (.int (4 : Int32)), .val (.int ((0 : Int32) + (1 : Int32))), .val (.ref aF)] [])
  refine Go.via (fun t k => XS.goto Xh16.here hx rfl (pc0 := 37) (pc' := 9) rfl (hb hby d18_37) (by decide) (by decide) k) ?_
  refine Go.via (fun t k => XS.iloadN Xh16.here hx rfl (hb hby d18_9) rfl k) ?_
  refine Go.via (fun t k => XS.iloadN Xh16.here hx rfl (hb hby d18_10) rfl k) ?_
  show Go p.tables e below P T16 (mkF m 11 #[.val (.ref so), .val (.ref r_1), .val (.int (4 : Int32)), .val (.int ((0 : Int32) + (1 : Int32))), .val (.ref aF)] [(.int (4 : Int32)), (.int ((0 : Int32) + (1 : Int32)))])
  refine Go.via (fun t k => XS.icmpNo Xh16.here hx rfl (hb hby d18_11) rfl (tlt (by decide : ((0 : Int32) + (1 : Int32)) < (4 : Int32))).2.1 k) ?_
  show Go p.tables e below P T16 (mkF m 14 #[.val (.ref so), .val (.ref r_1), .val (.int (4 : Int32)), .val (.int ((0 : Int32) + (1 : Int32))), .val (.ref aF)] [])
  refine Go.via (fun t k => XS.aloadN Xh16.here hx rfl (hb hby d18_14) rfl rfl k) ?_
  refine Go.via (fun t k => XS.iloadN Xh16.here hx rfl (hb hby d18_15) rfl k) ?_
  show Go p.tables e below P T16 (mkF m 16 #[.val (.ref so), .val (.ref r_1), .val (.int (4 : Int32)), .val (.int ((0 : Int32) + (1 : Int32))), .val (.ref aF)] [(.int ((0 : Int32) + (1 : Int32))), (.ref r_1)])
  obtain ⟨c17, A17, q17, S17, N17, H17, G17⟩ := id u1_0
  have hin17 : ¬ (((0 : Int32) + (1 : Int32)) < 0 ∨ c17.slots.size ≤ (((0 : Int32) + (1 : Int32))).toNatClampNeg) := inb_of S17 ⟨by decide, by decide⟩
  have hat17 : c17.slots[(((0 : Int32) + (1 : Int32))).toNatClampNeg]? = some (.ref aC) := (H17 _ (Nat.lt_of_not_le fun q => hin17 (Or.inr q))).trans (congrArg some rfl)
  refine Go.via (fun t k => Xh16.aaload hx (j := ((0 : Int32) + (1 : Int32))) (v := (.ref aC)) (by rw [hh16]; exact A17.1) (State.isArrayOf_alike hZ.alike A17.2.1) rfl A17.2.2 hin17 hat17 (g := (mkF m 16 #[.val (.ref so), .val (.ref r_1), .val (.int (4 : Int32)), .val (.int ((0 : Int32) + (1 : Int32))), .val (.ref aF)] [(.int ((0 : Int32) + (1 : Int32))), (.ref r_1)])) rfl rfl (hb hby d18_16) t k) ?_
  show Go p.tables e below P T16 (mkF m 17 #[.val (.ref so), .val (.ref r_1), .val (.int (4 : Int32)), .val (.int ((0 : Int32) + (1 : Int32))), .val (.ref aF)] [(.ref aC)])
  refine Go.via (fun t k => XS.astore Xh16.here hx rfl (hb hby d18_17) rfl rfl (l' := #[.val (.ref so), .val (.ref r_1), .val (.int (4 : Int32)), .val (.int ((0 : Int32) + (1 : Int32))), .val (.ref aC)]) rfl k) ?_
  refine Go.via (fun t k => XS.aload Xh16.here hx rfl (hb hby d18_19) rfl rfl k) ?_
  show Go p.tables e below P T16 (mkF m 21 #[.val (.ref so), .val (.ref r_1), .val (.int (4 : Int32)), .val (.int ((0 : Int32) + (1 : Int32))), .val (.ref aC)] [(.ref aC)])
  obtain ⟨T18, X18, e18, st18⟩ := getF Xh16 hx hZ hown (host := "") (Or.inl (hw _ (List.mem_of_getElem? (i := 106) rfl))) Via.refl hh16 (P13.ext O8.2) (g := (mkF m 21 #[.val (.ref so), .val (.ref r_1), .val (.int (4 : Int32)), .val (.int ((0 : Int32) + (1 : Int32))), .val (.ref aC)] [(.ref aC)])) rfl rfl (hb hby d18_21)
  refine Go.via st18 ?_
  show Go p.tables e below P T18 (mkF m 24 #[.val (.ref so), .val (.ref r_1), .val (.int (4 : Int32)), .val (.int ((0 : Int32) + (1 : Int32))), .val (.ref aC)] [(.ref sC)])
  refine Go.via (fun t k => XS.aloadN X18.here hx rfl (hb hby d18_24) rfl rfl k) ?_
  show Go p.tables e below P T18 (mkF m 25 #[.val (.ref so), .val (.ref r_1), .val (.int (4 : Int32)), .val (.int ((0 : Int32) + (1 : Int32))), .val (.ref aC)] [(.ref so), (.ref sC)])
  obtain ⟨cq19, kq19, q19a, q19b, q19c⟩ := isOf hZ e18 (P14.ext O8.2)
  obtain ⟨_, _, ⟨T19, L19, k19, n19⟩, -, X19, ⟨Lc19, hQ19, l19, y19, z19⟩, st19⟩ := X18.virtualBack hx (y := (⟨"java/lang/String", "equals", "(Ljava/lang/Object;)Z"⟩ : MethodName)) (z := (⟨"java/lang/String", "equals", "(Ljava/lang/Object;)Z"⟩ : MethodName)) hown (mvT hZ (hw _ (List.mem_of_getElem? (i := 108) rfl))) (mvT hZ (hw _ (List.mem_of_getElem? (i := 74) rfl))) (notFace_of_selects (args := #[]) (mvT hZ (hw _ (List.mem_of_getElem? (i := 76) rfl)))) (mvT hZ (hw _ (List.mem_of_getElem? (i := 76) rfl))) (mvT hZ (hw _ (List.mem_of_getElem? (i := 75) rfl))) (by decide) (backOf (W := 0) (rm16 l Z a0 hw [] sC so cs tC tb kC kk ([(99 : Int32), (97 : Int32), (108 : Int32), (108 : Int32)] : List Int32) bx T1.heap n0 Z6 O8 P1 (by first | assumption | decide | omega : ¬ cs = (0 : Int32)) (P14.ext O8.2) (P15.ext O8.2) (P16.ext O8.2) (P17.ext O8.2) F12 F13 F14 F15 (by decide) smx (own_sfun (P15.ext O8.2) F13 (P17.ext O8.2) F15 (by first | assumption | decide) (by first | assumption | decide))) hZ (hw _ (List.mem_of_getElem? (i := 77) rfl)) (hw _ (List.mem_of_getElem? (i := 1) rfl)) (by decide) (by decide)) q19a q19c (g := (mkF m 25 #[.val (.ref so), .val (.ref r_1), .val (.int (4 : Int32)), .val (.int ((0 : Int32) + (1 : Int32))), .val (.ref aC)] [(.ref so), (.ref sC)])) rfl (by rw [hml]; rfl) (Steps.refl _) (argsL := [(.ref so)]) (rest := []) (lenOf own_pd11 rfl) rfl (by show 2 * 0 + _ ≤ _; exact Nat.le_of_eq rfl) (hb hby d18_25) (fun _ _ => ⟨rfl, e18, (by decide : 1 + 0 ≤ _), (by decide : 4 + 0 ≤ _)⟩)
  dsimp only [Pt.U, Pt.locs, Pt.cells, Pt.slots] at X19 l19 y19 z19 st19 hQ19
  subst l19 y19 z19
  obtain ⟨rfl, Nq19, hh19⟩ := hQ19
  obtain ⟨lc19, Xh19, N19⟩ := own_hide X19 (Fr.app N16 Nq19)
  clear X19
  refine Go.hop st19 ?_
  show Go p.tables e below P T19 (mkF m 28 #[.val (.ref so), .val (.ref r_1), .val (.int (4 : Int32)), .val (.int ((0 : Int32) + (1 : Int32))), .val (.ref aC)] [(.int (if ([(99 : Int32), (97 : Int32), (108 : Int32), (108 : Int32)] : List Int32) = bx then (1 : Int32) else (0 : Int32)))])
  refine Go.via (fun t k => XS.ifYes Xh19.here hx rfl (pc0 := 28) (pc' := 34) rfl (hb hby d18_28) rfl ((if0 _ _).trans (teq (if_neg (fun q => absurd (q.trans hc_) (by decide)))).1) (by decide) (by decide) k) ?_
  show Go p.tables e below P T19 (mkF m 34 #[.val (.ref so), .val (.ref r_1), .val (.int (4 : Int32)), .val (.int ((0 : Int32) + (1 : Int32))), .val (.ref aC)] [])
  refine Go.via (fun t k => XS.iinc Xh19.here hx rfl (hb hby d18_34) rfl (l' := #[.val (.ref so), .val (.ref r_1), .val (.int (4 : Int32)), .val (.int (((0 : Int32) + (1 : Int32)) + (1 : Int32))), .val (.ref aC)]) rfl k) ?_
  show Go p.tables e below P T19 (mkF m 37 #[.val (.ref so), .val (.ref r_1), .val (.int (4 : Int32)), .val (.int (((0 : Int32) + (1 : Int32)) + (1 : Int32))), .val (.ref aC)] [])
  refine Go.via (fun t k => XS.goto Xh19.here hx rfl (pc0 := 37) (pc' := 9) rfl (hb hby d18_37) (by decide) (by decide) k) ?_
  refine Go.via (fun t k => XS.iloadN Xh19.here hx rfl (hb hby d18_9) rfl k) ?_
  refine Go.via (fun t k => XS.iloadN Xh19.here hx rfl (hb hby d18_10) rfl k) ?_
  show Go p.tables e below P T19 (mkF m 11 #[.val (.ref so), .val (.ref r_1), .val (.int (4 : Int32)), .val (.int (((0 : Int32) + (1 : Int32)) + (1 : Int32))), .val (.ref aC)] [(.int (4 : Int32)), (.int (((0 : Int32) + (1 : Int32)) + (1 : Int32)))])
  refine Go.via (fun t k => XS.icmpNo Xh19.here hx rfl (hb hby d18_11) rfl (tlt (by decide : (((0 : Int32) + (1 : Int32)) + (1 : Int32)) < (4 : Int32))).2.1 k) ?_
  show Go p.tables e below P T19 (mkF m 14 #[.val (.ref so), .val (.ref r_1), .val (.int (4 : Int32)), .val (.int (((0 : Int32) + (1 : Int32)) + (1 : Int32))), .val (.ref aC)] [])
  refine Go.via (fun t k => XS.aloadN Xh19.here hx rfl (hb hby d18_14) rfl rfl k) ?_
  refine Go.via (fun t k => XS.iloadN Xh19.here hx rfl (hb hby d18_15) rfl k) ?_
  show Go p.tables e below P T19 (mkF m 16 #[.val (.ref so), .val (.ref r_1), .val (.int (4 : Int32)), .val (.int (((0 : Int32) + (1 : Int32)) + (1 : Int32))), .val (.ref aC)] [(.int (((0 : Int32) + (1 : Int32)) + (1 : Int32))), (.ref r_1)])
  obtain ⟨c20, A20, q20, S20, N20, H20, G20⟩ := id u1_0
  have hin20 : ¬ ((((0 : Int32) + (1 : Int32)) + (1 : Int32)) < 0 ∨ c20.slots.size ≤ ((((0 : Int32) + (1 : Int32)) + (1 : Int32))).toNatClampNeg) := inb_of S20 ⟨by decide, by decide⟩
  have hat20 : c20.slots[((((0 : Int32) + (1 : Int32)) + (1 : Int32))).toNatClampNeg]? = some (.ref aS) := (H20 _ (Nat.lt_of_not_le fun q => hin20 (Or.inr q))).trans (congrArg some rfl)
  refine Go.via (fun t k => Xh19.aaload hx (j := (((0 : Int32) + (1 : Int32)) + (1 : Int32))) (v := (.ref aS)) (by rw [hh19]; exact A20.1) (State.isArrayOf_alike hZ.alike A20.2.1) rfl A20.2.2 hin20 hat20 (g := (mkF m 16 #[.val (.ref so), .val (.ref r_1), .val (.int (4 : Int32)), .val (.int (((0 : Int32) + (1 : Int32)) + (1 : Int32))), .val (.ref aC)] [(.int (((0 : Int32) + (1 : Int32)) + (1 : Int32))), (.ref r_1)])) rfl rfl (hb hby d18_16) t k) ?_
  show Go p.tables e below P T19 (mkF m 17 #[.val (.ref so), .val (.ref r_1), .val (.int (4 : Int32)), .val (.int (((0 : Int32) + (1 : Int32)) + (1 : Int32))), .val (.ref aC)] [(.ref aS)])
  refine Go.via (fun t k => XS.astore Xh19.here hx rfl (hb hby d18_17) rfl rfl (l' := #[.val (.ref so), .val (.ref r_1), .val (.int (4 : Int32)), .val (.int (((0 : Int32) + (1 : Int32)) + (1 : Int32))), .val (.ref aS)]) rfl k) ?_
  refine Go.via (fun t k => XS.aload Xh19.here hx rfl (hb hby d18_19) rfl rfl k) ?_
  show Go p.tables e below P T19 (mkF m 21 #[.val (.ref so), .val (.ref r_1), .val (.int (4 : Int32)), .val (.int (((0 : Int32) + (1 : Int32)) + (1 : Int32))), .val (.ref aS)] [(.ref aS)])
  obtain ⟨T21, X21, e21, st21⟩ := getF Xh19 hx hZ hown (host := "") (Or.inl (hw _ (List.mem_of_getElem? (i := 106) rfl))) Via.refl hh19 (P19.ext O8.2) (g := (mkF m 21 #[.val (.ref so), .val (.ref r_1), .val (.int (4 : Int32)), .val (.int (((0 : Int32) + (1 : Int32)) + (1 : Int32))), .val (.ref aS)] [(.ref aS)])) rfl rfl (hb hby d18_21)
  refine Go.via st21 ?_
  show Go p.tables e below P T21 (mkF m 24 #[.val (.ref so), .val (.ref r_1), .val (.int (4 : Int32)), .val (.int (((0 : Int32) + (1 : Int32)) + (1 : Int32))), .val (.ref aS)] [(.ref sS)])
  refine Go.via (fun t k => XS.aloadN X21.here hx rfl (hb hby d18_24) rfl rfl k) ?_
  show Go p.tables e below P T21 (mkF m 25 #[.val (.ref so), .val (.ref r_1), .val (.int (4 : Int32)), .val (.int (((0 : Int32) + (1 : Int32)) + (1 : Int32))), .val (.ref aS)] [(.ref so), (.ref sS)])
  obtain ⟨cq22, kq22, q22a, q22b, q22c⟩ := isOf hZ e21 (P20.ext O8.2)
  obtain ⟨_, _, ⟨T22, L22, k22, n22⟩, -, X22, ⟨Lc22, hQ22, l22, y22, z22⟩, st22⟩ := X21.virtualBack hx (y := (⟨"java/lang/String", "equals", "(Ljava/lang/Object;)Z"⟩ : MethodName)) (z := (⟨"java/lang/String", "equals", "(Ljava/lang/Object;)Z"⟩ : MethodName)) hown (mvT hZ (hw _ (List.mem_of_getElem? (i := 108) rfl))) (mvT hZ (hw _ (List.mem_of_getElem? (i := 74) rfl))) (notFace_of_selects (args := #[]) (mvT hZ (hw _ (List.mem_of_getElem? (i := 76) rfl)))) (mvT hZ (hw _ (List.mem_of_getElem? (i := 76) rfl))) (mvT hZ (hw _ (List.mem_of_getElem? (i := 75) rfl))) (by decide) (backOf (W := 0) (rm16 l Z a0 hw [] sS so cs tS tb kS kk ([(115 : Int32), (113 : Int32), (108 : Int32)] : List Int32) bx T1.heap n0 Z6 O8 P1 (by first | assumption | decide | omega : ¬ cs = (0 : Int32)) (P20.ext O8.2) (P21.ext O8.2) (P22.ext O8.2) (P23.ext O8.2) F12 F13 F14 F15 (by decide) smx (own_sfun (P21.ext O8.2) F13 (P23.ext O8.2) F15 (by first | assumption | decide) (by first | assumption | decide))) hZ (hw _ (List.mem_of_getElem? (i := 77) rfl)) (hw _ (List.mem_of_getElem? (i := 1) rfl)) (by decide) (by decide)) q22a q22c (g := (mkF m 25 #[.val (.ref so), .val (.ref r_1), .val (.int (4 : Int32)), .val (.int (((0 : Int32) + (1 : Int32)) + (1 : Int32))), .val (.ref aS)] [(.ref so), (.ref sS)])) rfl (by rw [hml]; rfl) (Steps.refl _) (argsL := [(.ref so)]) (rest := []) (lenOf own_pd11 rfl) rfl (by show 2 * 0 + _ ≤ _; exact Nat.le_of_eq rfl) (hb hby d18_25) (fun _ _ => ⟨rfl, e21, (by decide : 1 + 0 ≤ _), (by decide : 4 + 0 ≤ _)⟩)
  dsimp only [Pt.U, Pt.locs, Pt.cells, Pt.slots] at X22 l22 y22 z22 st22 hQ22
  subst l22 y22 z22
  obtain ⟨rfl, Nq22, hh22⟩ := hQ22
  obtain ⟨lc22, Xh22, N22⟩ := own_hide X22 (Fr.app N19 Nq22)
  clear X22
  refine Go.hop st22 ?_
  show Go p.tables e below P T22 (mkF m 28 #[.val (.ref so), .val (.ref r_1), .val (.int (4 : Int32)), .val (.int (((0 : Int32) + (1 : Int32)) + (1 : Int32))), .val (.ref aS)] [(.int (if ([(115 : Int32), (113 : Int32), (108 : Int32)] : List Int32) = bx then (1 : Int32) else (0 : Int32)))])
  refine Go.via (fun t k => XS.ifYes Xh22.here hx rfl (pc0 := 28) (pc' := 34) rfl (hb hby d18_28) rfl ((if0 _ _).trans (teq (if_neg (fun q => absurd (q.trans hc_) (by decide)))).1) (by decide) (by decide) k) ?_
  show Go p.tables e below P T22 (mkF m 34 #[.val (.ref so), .val (.ref r_1), .val (.int (4 : Int32)), .val (.int (((0 : Int32) + (1 : Int32)) + (1 : Int32))), .val (.ref aS)] [])
  refine Go.via (fun t k => XS.iinc Xh22.here hx rfl (hb hby d18_34) rfl (l' := #[.val (.ref so), .val (.ref r_1), .val (.int (4 : Int32)), .val (.int ((((0 : Int32) + (1 : Int32)) + (1 : Int32)) + (1 : Int32))), .val (.ref aS)]) rfl k) ?_
  show Go p.tables e below P T22 (mkF m 37 #[.val (.ref so), .val (.ref r_1), .val (.int (4 : Int32)), .val (.int ((((0 : Int32) + (1 : Int32)) + (1 : Int32)) + (1 : Int32))), .val (.ref aS)] [])
  refine Go.via (fun t k => XS.goto Xh22.here hx rfl (pc0 := 37) (pc' := 9) rfl (hb hby d18_37) (by decide) (by decide) k) ?_
  refine Go.via (fun t k => XS.iloadN Xh22.here hx rfl (hb hby d18_9) rfl k) ?_
  refine Go.via (fun t k => XS.iloadN Xh22.here hx rfl (hb hby d18_10) rfl k) ?_
  show Go p.tables e below P T22 (mkF m 11 #[.val (.ref so), .val (.ref r_1), .val (.int (4 : Int32)), .val (.int ((((0 : Int32) + (1 : Int32)) + (1 : Int32)) + (1 : Int32))), .val (.ref aS)] [(.int (4 : Int32)), (.int ((((0 : Int32) + (1 : Int32)) + (1 : Int32)) + (1 : Int32)))])
  refine Go.via (fun t k => XS.icmpNo Xh22.here hx rfl (hb hby d18_11) rfl (tlt (by decide : ((((0 : Int32) + (1 : Int32)) + (1 : Int32)) + (1 : Int32)) < (4 : Int32))).2.1 k) ?_
  show Go p.tables e below P T22 (mkF m 14 #[.val (.ref so), .val (.ref r_1), .val (.int (4 : Int32)), .val (.int ((((0 : Int32) + (1 : Int32)) + (1 : Int32)) + (1 : Int32))), .val (.ref aS)] [])
  refine Go.via (fun t k => XS.aloadN Xh22.here hx rfl (hb hby d18_14) rfl rfl k) ?_
  refine Go.via (fun t k => XS.iloadN Xh22.here hx rfl (hb hby d18_15) rfl k) ?_
  show Go p.tables e below P T22 (mkF m 16 #[.val (.ref so), .val (.ref r_1), .val (.int (4 : Int32)), .val (.int ((((0 : Int32) + (1 : Int32)) + (1 : Int32)) + (1 : Int32))), .val (.ref aS)] [(.int ((((0 : Int32) + (1 : Int32)) + (1 : Int32)) + (1 : Int32))), (.ref r_1)])
  obtain ⟨c23, A23, q23, S23, N23, H23, G23⟩ := id u1_0
  have hin23 : ¬ (((((0 : Int32) + (1 : Int32)) + (1 : Int32)) + (1 : Int32)) < 0 ∨ c23.slots.size ≤ (((((0 : Int32) + (1 : Int32)) + (1 : Int32)) + (1 : Int32))).toNatClampNeg) := inb_of S23 ⟨by decide, by decide⟩
  have hat23 : c23.slots[(((((0 : Int32) + (1 : Int32)) + (1 : Int32)) + (1 : Int32))).toNatClampNeg]? = some (.ref aD) := (H23 _ (Nat.lt_of_not_le fun q => hin23 (Or.inr q))).trans (congrArg some rfl)
  refine Go.via (fun t k => Xh22.aaload hx (j := ((((0 : Int32) + (1 : Int32)) + (1 : Int32)) + (1 : Int32))) (v := (.ref aD)) (by rw [hh22]; exact A23.1) (State.isArrayOf_alike hZ.alike A23.2.1) rfl A23.2.2 hin23 hat23 (g := (mkF m 16 #[.val (.ref so), .val (.ref r_1), .val (.int (4 : Int32)), .val (.int ((((0 : Int32) + (1 : Int32)) + (1 : Int32)) + (1 : Int32))), .val (.ref aS)] [(.int ((((0 : Int32) + (1 : Int32)) + (1 : Int32)) + (1 : Int32))), (.ref r_1)])) rfl rfl (hb hby d18_16) t k) ?_
  show Go p.tables e below P T22 (mkF m 17 #[.val (.ref so), .val (.ref r_1), .val (.int (4 : Int32)), .val (.int ((((0 : Int32) + (1 : Int32)) + (1 : Int32)) + (1 : Int32))), .val (.ref aS)] [(.ref aD)])
  refine Go.via (fun t k => XS.astore Xh22.here hx rfl (hb hby d18_17) rfl rfl (l' := #[.val (.ref so), .val (.ref r_1), .val (.int (4 : Int32)), .val (.int ((((0 : Int32) + (1 : Int32)) + (1 : Int32)) + (1 : Int32))), .val (.ref aD)]) rfl k) ?_
  refine Go.via (fun t k => XS.aload Xh22.here hx rfl (hb hby d18_19) rfl rfl k) ?_
  show Go p.tables e below P T22 (mkF m 21 #[.val (.ref so), .val (.ref r_1), .val (.int (4 : Int32)), .val (.int ((((0 : Int32) + (1 : Int32)) + (1 : Int32)) + (1 : Int32))), .val (.ref aD)] [(.ref aD)])
  obtain ⟨T24, X24, e24, st24⟩ := getF Xh22 hx hZ hown (host := "") (Or.inl (hw _ (List.mem_of_getElem? (i := 106) rfl))) Via.refl hh22 (P25.ext O8.2) (g := (mkF m 21 #[.val (.ref so), .val (.ref r_1), .val (.int (4 : Int32)), .val (.int ((((0 : Int32) + (1 : Int32)) + (1 : Int32)) + (1 : Int32))), .val (.ref aD)] [(.ref aD)])) rfl rfl (hb hby d18_21)
  refine Go.via st24 ?_
  show Go p.tables e below P T24 (mkF m 24 #[.val (.ref so), .val (.ref r_1), .val (.int (4 : Int32)), .val (.int ((((0 : Int32) + (1 : Int32)) + (1 : Int32)) + (1 : Int32))), .val (.ref aD)] [(.ref sD)])
  refine Go.via (fun t k => XS.aloadN X24.here hx rfl (hb hby d18_24) rfl rfl k) ?_
  show Go p.tables e below P T24 (mkF m 25 #[.val (.ref so), .val (.ref r_1), .val (.int (4 : Int32)), .val (.int ((((0 : Int32) + (1 : Int32)) + (1 : Int32)) + (1 : Int32))), .val (.ref aD)] [(.ref so), (.ref sD)])
  obtain ⟨cq25, kq25, q25a, q25b, q25c⟩ := isOf hZ e24 (P26.ext O8.2)
  obtain ⟨_, _, ⟨T25, L25, k25, n25⟩, -, X25, ⟨Lc25, hQ25, l25, y25, z25⟩, st25⟩ := X24.virtualBack hx (y := (⟨"java/lang/String", "equals", "(Ljava/lang/Object;)Z"⟩ : MethodName)) (z := (⟨"java/lang/String", "equals", "(Ljava/lang/Object;)Z"⟩ : MethodName)) hown (mvT hZ (hw _ (List.mem_of_getElem? (i := 108) rfl))) (mvT hZ (hw _ (List.mem_of_getElem? (i := 74) rfl))) (notFace_of_selects (args := #[]) (mvT hZ (hw _ (List.mem_of_getElem? (i := 76) rfl)))) (mvT hZ (hw _ (List.mem_of_getElem? (i := 76) rfl))) (mvT hZ (hw _ (List.mem_of_getElem? (i := 75) rfl))) (by decide) (backOf (W := 0) (rm16 l Z a0 hw [] sD so cs tD tb kD kk ([(100 : Int32), (101 : Int32), (108 : Int32), (105 : Int32), (118 : Int32), (101 : Int32), (114 : Int32)] : List Int32) bx T1.heap n0 Z6 O8 P1 (by first | assumption | decide | omega : ¬ cs = (0 : Int32)) (P26.ext O8.2) (P27.ext O8.2) (P28.ext O8.2) (P29.ext O8.2) F12 F13 F14 F15 (by decide) smx (own_sfun (P27.ext O8.2) F13 (P29.ext O8.2) F15 (by first | assumption | decide) (by first | assumption | decide))) hZ (hw _ (List.mem_of_getElem? (i := 77) rfl)) (hw _ (List.mem_of_getElem? (i := 1) rfl)) (by decide) (by decide)) q25a q25c (g := (mkF m 25 #[.val (.ref so), .val (.ref r_1), .val (.int (4 : Int32)), .val (.int ((((0 : Int32) + (1 : Int32)) + (1 : Int32)) + (1 : Int32))), .val (.ref aD)] [(.ref so), (.ref sD)])) rfl (by rw [hml]; rfl) (Steps.refl _) (argsL := [(.ref so)]) (rest := []) (lenOf own_pd11 rfl) rfl (by show 2 * 0 + _ ≤ _; exact Nat.le_of_eq rfl) (hb hby d18_25) (fun _ _ => ⟨rfl, e24, (by decide : 1 + 0 ≤ _), (by decide : 4 + 0 ≤ _)⟩)
  dsimp only [Pt.U, Pt.locs, Pt.cells, Pt.slots] at X25 l25 y25 z25 st25 hQ25
  subst l25 y25 z25
  obtain ⟨rfl, Nq25, hh25⟩ := hQ25
  obtain ⟨lc25, Xh25, N25⟩ := own_hide X25 (Fr.app N22 Nq25)
  clear X25
  refine Go.hop st25 ?_
  show Go p.tables e below P T25 (mkF m 28 #[.val (.ref so), .val (.ref r_1), .val (.int (4 : Int32)), .val (.int ((((0 : Int32) + (1 : Int32)) + (1 : Int32)) + (1 : Int32))), .val (.ref aD)] [(.int (if ([(100 : Int32), (101 : Int32), (108 : Int32), (105 : Int32), (118 : Int32), (101 : Int32), (114 : Int32)] : List Int32) = bx then (1 : Int32) else (0 : Int32)))])
  refine Go.via (fun t k => XS.ifNo Xh25.here hx rfl (hb hby d18_28) rfl ((if0 _ _).trans (feq (fun q => own_i0 q hc_.symm)).1) k) ?_
  show Go p.tables e below P T25 (mkF m 31 #[.val (.ref so), .val (.ref r_1), .val (.int (4 : Int32)), .val (.int ((((0 : Int32) + (1 : Int32)) + (1 : Int32)) + (1 : Int32))), .val (.ref aD)] [])
  refine Go.via (fun t k => XS.aload Xh25.here hx rfl (hb hby d18_31) rfl rfl k) ?_
  show Go p.tables e below P T25 (mkF m 33 #[.val (.ref so), .val (.ref r_1), .val (.int (4 : Int32)), .val (.int ((((0 : Int32) + (1 : Int32)) + (1 : Int32)) + (1 : Int32))), .val (.ref aD)] [(.ref aD)])
  obtain ⟨fs, hr, hrun, hended, hW, hsame⟩ := Xh25.leave (v := some (.ref aD)) (fun h => by rw [Bd.returns] at h; cases h)
  refine ⟨_, _, retA Xh25 hx Bd.returns rfl rfl rfl (hb hby d18_33) hr, hrun, hended, hP _ _ ⟨_, _, rfl, ?_, ⟨_, rfl⟩, hW, hsame.mono (by decide) (by decide)⟩⟩
  show Q18v3 Z so cs tb kk bx va kva aF sF tF kF aC sC tC kC aS sS tS kS aD sD tD kD h0 n0 _ T25.heap _
  rw [hh25]
  exact ⟨rfl, N25, K7⟩
theorem d18_40 : decode prog_28_method_4_code 40 = .ok (.aconst_null, 1) := by decide +kernel
theorem d18_41 : decode prog_28_method_4_code 41 = .ok (.areturn, 1) := by decide +kernel
theorem ef_18vN (m : MethodId) (x0 : Addr) : entryFrame m #[(.ref x0)] 5 = mkF m 0 #[.val (.ref x0), .unset, .unset, .unset, .unset] [] := by first | (simp [entryFrame, mkF, argsToLocals, Value.category]; done) | rfl
def Q18vN (Z : State) (so : Addr) (cs : Int32) (tb : Addr) (kk : ClassId) (bx : List Int32) (va : Addr) (kva : ClassId) (aF : Addr) (sF : Addr) (tF : Addr) (kF : ClassId) (aC : Addr) (sC : Addr) (tC : Addr) (kC : ClassId) (aS : Addr) (sS : Addr) (tS : Addr) (kS : ClassId) (aD : Addr) (sD : Addr) (tD : Addr) (kD : ClassId) (h0 : Heap) (n0 : Nat) (v : Option Value) (h : Heap) (L : List Loc) : Prop := v = some .null ∧ Fr n0 L ∧ Keep h0 h []
set_option maxRecDepth 65536 in
set_option maxHeartbeats 40000000 in
theorem rm18vN (l : Launch) (Z : State) (a0 : Array Value) (hw : ∀ d ∈ tables_1, d.before a0 Z = true) (ws : List Jvm.Cond) (so : Addr) (cs : Int32) (tb : Addr) (kk : ClassId) (bx : List Int32) (va : Addr) (kva : ClassId) (aF : Addr) (sF : Addr) (tF : Addr) (kF : ClassId) (aC : Addr) (sC : Addr) (tC : Addr) (kC : ClassId) (aS : Addr) (sS : Addr) (tS : Addr) (kS : ClassId) (aD : Addr) (sD : Addr) (tD : Addr) (kD : ClassId) (h0 : Heap) (n0 : Nat) (Z0 : n0 ≤ h0.size) (O0 : Old Z n0 h0) (P1 : Sta Z Z.heap "java/lang/String" "COMPACT_STRINGS" "Z" (.int cs)) (hcs : ¬ cs = (0 : Int32)) (P3 : Sta Z Z.heap "com/example/tri3/tri3/StageKind" "$VALUES" "[Lcom/example/tri3/tri3/StageKind;" (.ref va)) (P4 : Arv Z Z.heap va kva (.object "com/example/tri3/tri3/StageKind") (4 : Int32) [(.ref aF), (.ref aC), (.ref aS), (.ref aD)] .null) (P5 : Exa Z Z.heap va "[Lcom/example/tri3/tri3/StageKind;") (P6 : Exa Z Z.heap aF "com/example/tri3/tri3/StageKind") (P7 : Fld Z Z.heap aF "com/example/tri3/tri3/StageKind" "fileName" "Ljava/lang/String;" (.ref sF)) (P8 : Exa Z Z.heap sF "java/lang/String") (P9 : Fld Z Z.heap sF "java/lang/String" "value" "[B" (.ref tF)) (P10 : Fld Z Z.heap sF "java/lang/String" "coder" "B" (.int (0 : Int32))) (P11 : Arv Z Z.heap tF kF .byte (own_lg ([(102 : Int32), (101 : Int32), (116 : Int32), (99 : Int32), (104 : Int32)] : List Int32)) (([(102 : Int32), (101 : Int32), (116 : Int32), (99 : Int32), (104 : Int32)] : List Int32).map Value.int) (.int (0 : Int32))) (P12 : Exa Z Z.heap aC "com/example/tri3/tri3/StageKind") (P13 : Fld Z Z.heap aC "com/example/tri3/tri3/StageKind" "fileName" "Ljava/lang/String;" (.ref sC)) (P14 : Exa Z Z.heap sC "java/lang/String") (P15 : Fld Z Z.heap sC "java/lang/String" "value" "[B" (.ref tC)) (P16 : Fld Z Z.heap sC "java/lang/String" "coder" "B" (.int (0 : Int32))) (P17 : Arv Z Z.heap tC kC .byte (own_lg ([(99 : Int32), (97 : Int32), (108 : Int32), (108 : Int32)] : List Int32)) (([(99 : Int32), (97 : Int32), (108 : Int32), (108 : Int32)] : List Int32).map Value.int) (.int (0 : Int32))) (P18 : Exa Z Z.heap aS "com/example/tri3/tri3/StageKind") (P19 : Fld Z Z.heap aS "com/example/tri3/tri3/StageKind" "fileName" "Ljava/lang/String;" (.ref sS)) (P20 : Exa Z Z.heap sS "java/lang/String") (P21 : Fld Z Z.heap sS "java/lang/String" "value" "[B" (.ref tS)) (P22 : Fld Z Z.heap sS "java/lang/String" "coder" "B" (.int (0 : Int32))) (P23 : Arv Z Z.heap tS kS .byte (own_lg ([(115 : Int32), (113 : Int32), (108 : Int32)] : List Int32)) (([(115 : Int32), (113 : Int32), (108 : Int32)] : List Int32).map Value.int) (.int (0 : Int32))) (P24 : Exa Z Z.heap aD "com/example/tri3/tri3/StageKind") (P25 : Fld Z Z.heap aD "com/example/tri3/tri3/StageKind" "fileName" "Ljava/lang/String;" (.ref sD)) (P26 : Exa Z Z.heap sD "java/lang/String") (P27 : Fld Z Z.heap sD "java/lang/String" "value" "[B" (.ref tD)) (P28 : Fld Z Z.heap sD "java/lang/String" "coder" "B" (.int (0 : Int32))) (P29 : Arv Z Z.heap tD kD .byte (own_lg ([(100 : Int32), (101 : Int32), (108 : Int32), (105 : Int32), (118 : Int32), (101 : Int32), (114 : Int32)] : List Int32)) (([(100 : Int32), (101 : Int32), (108 : Int32), (105 : Int32), (118 : Int32), (101 : Int32), (114 : Int32)] : List Int32).map Value.int) (.int (0 : Int32))) (P30 : Exa Z h0 so "java/lang/String") (P31 : Fld Z h0 so "java/lang/String" "value" "[B" (.ref tb)) (P32 : Fld Z h0 so "java/lang/String" "coder" "B" (.int (0 : Int32))) (P33 : Arv Z h0 tb kk .byte (own_lg bx) (bx.map Value.int) (.int (0 : Int32))) (smx : bx.length ≤ 1000) (m0 : ¬ bx = ([(102 : Int32), (101 : Int32), (116 : Int32), (99 : Int32), (104 : Int32)] : List Int32)) (m1 : ¬ bx = ([(99 : Int32), (97 : Int32), (108 : Int32), (108 : Int32)] : List Int32)) (m2 : ¬ bx = ([(115 : Int32), (113 : Int32), (108 : Int32)] : List Int32)) (m3 : ¬ bx = ([(100 : Int32), (101 : Int32), (108 : Int32), (105 : Int32), (118 : Int32), (101 : Int32), (114 : Int32)] : List Int32)) :
    MetFree l (⟨"com/example/tri3/tri3/StageKind", "named", "(Ljava/lang/String;)Lcom/example/tri3/tri3/StageKind;"⟩ : MethodName) (head1 (Jvm.Cond.code (⟨"com/example/tri3/tri3/StageKind", "named", "(Ljava/lang/String;)Lcom/example/tri3/tri3/StageKind;"⟩ : MethodName) prog_28_method_4_code 5 (some (.object "com/example/tri3/tri3/StageKind")) :: ws) ({ frames := 2, cells := 1, slots := 4, locals := 28 } : Room)) (fun a U => a = #[(.ref so)] ∧ Z.Warmed39 U.vm ∧ U.heap = h0) (fun _ _ _ _ _ => True) (fun _ U o U' => ∃ v L, o = .returned v ∧ Q18vN Z so cs tb kk bx va kva aF sF tF kF aC sC tC kC aS sS tS kS aD sD tD kD h0 n0 v U'.heap L ∧ FrameEnd U o U' L ({ frames := 2, cells := 1, slots := 4, locals := 28 } : Room).cells ({ frames := 2, cells := 1, slots := 4, locals := 28 } : Room).slots) := by
  refine MetFree.of_bodySF (plainFor_of_name own_pn4) hisR ?_
  intro p e s m args below meth c s₁ Bd hml0 hP hK
  obtain ⟨rfl, hZ, hh⟩ := hP
  have hx := Bd.exec
  have hby := Bd.bytes
  have hml : c.maxLocals = 5 := hml0
  have hown : s.vm.findClass "com/example/tri3/tri3/StageKind" = some m.cls := findClass_of_methodNamed Bd.named
  have hnm := (name_of_methodNamed Bd.named Bd.method).1
  have X0 : Stand p l e ({ frames := 2, cells := 1, slots := 4, locals := 28 } : Room) s m #[(.ref so)] below meth c s₁ [] 0 0 := Stand.of_body Bd
  have e0 : s₁.heap = h0 := by rw [← hh, Bd.state]; rfl
  have N0 := Fr.nil n0
  have K0 : Keep h0 h0 [] := Keep.refl _ _
  suffices GO : ∀ P : Outcome → State → Prop, (∀ o U', (∃ v L, o = .returned v ∧ Q18vN Z so cs tb kk bx va kva aF sF tF kF aC sC tC kC aS sS tS kS aD sD tD kD h0 n0 v U'.heap L ∧ FrameEnd s o U' L ({ frames := 2, cells := 1, slots := 4, locals := 28 } : Room).cells ({ frames := 2, cells := 1, slots := 4, locals := 28 } : Room).slots) → P o U') → Go p.tables e below P s₁ (mkF m 0 #[.val (.ref so), .unset, .unset, .unset, .unset] []) by
    obtain ⟨s2, o, st, r⟩ := GO _ (fun _ _ q => q)
    exact ⟨s2, o, castTop (ef_18vN m so) st, r⟩
  clear hh
  intro P hP
  show Go p.tables e below P s₁ (mkF m 0 #[.val (.ref so), .unset, .unset, .unset, .unset] [])
  obtain ⟨_, _, ⟨T1, L1, k1, n1⟩, -, X1, ⟨Lc1, hQ1, l1, y1, z1⟩, st1⟩ := Jvm.LawKit.callS X0 hx (y := (⟨"com/example/tri3/tri3/StageKind", "values", "()[Lcom/example/tri3/tri3/StageKind;"⟩ : MethodName)) hown (mvT hZ (hw _ (List.mem_of_getElem? (i := 88) rfl))) (mvT hZ (hw _ (List.mem_of_getElem? (i := 89) rfl))) (mvT hZ (hw _ (List.mem_of_getElem? (i := 83) rfl))) (mvT hZ (hw _ (List.mem_of_getElem? (i := 90) rfl))) (by decide) (backOf (W := 0) (rm19 l Z a0 hw [] va kva aF aC aS aD h0 n0 Z0 O0 P3 P4 P5) hZ (hw _ (List.mem_of_getElem? (i := 90) rfl)) (hw _ (List.mem_of_getElem? (i := 83) rfl)) (by decide) (by decide)) (g := (mkF m 0 #[.val (.ref so), .unset, .unset, .unset, .unset] [])) rfl (by rw [hml]; rfl) (argsL := []) (rest := []) (lenOf own_pd10 rfl) rfl (by show 2 * 0 + _ ≤ _; exact Nat.le_of_eq rfl) (hb hby d18_0) (fun _ _ => ⟨rfl, e0, (by decide : 0 + 1 ≤ _), (by decide : 0 + 4 ≤ _)⟩)
  dsimp only [Pt.U, Pt.locs, Pt.cells, Pt.slots] at X1 l1 y1 z1 st1 hQ1
  subst l1 y1 z1
  obtain ⟨r_1, rfl, Nq1, K1, fr1_r, u1_0, u1_1⟩ := hQ1
  obtain ⟨lc1, Xh1, N1⟩ := own_hide X1 (Fr.app N0 Nq1)
  clear X1
  refine Go.via st1 ?_
  have ne2 : so ≠ r_1 := Nat.ne_of_lt (Nat.lt_of_lt_of_le P30.lt fr1_r)
  have ne3 : tb ≠ r_1 := Nat.ne_of_lt (Nat.lt_of_lt_of_le P33.lt fr1_r)
  have g4 : n0 ≤ r_1 := Nat.le_trans Z0 fr1_r
  have sz5 : h0.size ≤ r_1 := Nat.le_trans K0.1 fr1_r
  have Z6 : n0 ≤ T1.heap.size := Nat.le_trans Z0 K1.1
  have K7 : Keep h0 T1.heap [] := K0.trans K1 own_all0
  have O8 : Old Z n0 T1.heap := O0.keep K1 own_all0
  show Go p.tables e below P T1 (mkF m 3 #[.val (.ref so), .unset, .unset, .unset, .unset] [(.ref r_1)])
  refine Go.via (fun t k => XS.astoreN Xh1.here hx rfl (hb hby d18_3) rfl rfl (l' := #[.val (.ref so), .val (.ref r_1), .unset, .unset, .unset]) rfl k) ?_
  refine Go.via (fun t k => XS.aloadN Xh1.here hx rfl (hb hby d18_4) rfl rfl k) ?_
  show Go p.tables e below P T1 (mkF m 5 #[.val (.ref so), .val (.ref r_1), .unset, .unset, .unset] [(.ref r_1)])
  obtain ⟨c9, A9, -, S9, N9, -, -⟩ := id u1_0
  refine Go.via (fun t k => Xh1.arraylength hx (by exact A9.1) (State.isArrayOf_alike hZ.alike A9.2.1) (g := (mkF m 5 #[.val (.ref so), .val (.ref r_1), .unset, .unset, .unset] [(.ref r_1)])) rfl rfl (hb hby d18_5) t (by rw [len_of S9 N9]; exact k)) ?_
  show Go p.tables e below P T1 (mkF m 6 #[.val (.ref so), .val (.ref r_1), .unset, .unset, .unset] [(.int (4 : Int32))])
  refine Go.via (fun t k => XS.istoreN Xh1.here hx rfl (hb hby d18_6) rfl (l' := #[.val (.ref so), .val (.ref r_1), .val (.int (4 : Int32)), .unset, .unset]) rfl k) ?_
  refine Go.via (fun t k => XS.iconst Xh1.here hx rfl (hb hby d18_7) k) ?_
  refine Go.via (fun t k => XS.istoreN Xh1.here hx rfl (hb hby d18_8) rfl (l' := #[.val (.ref so), .val (.ref r_1), .val (.int (4 : Int32)), .val (.int (0 : Int32)), .unset]) rfl k) ?_
  show Go p.tables e below P T1 (mkF m 9 #[.val (.ref so), .val (.ref r_1), .val (.int (4 : Int32)), .val (.int (0 : Int32)), .unset] [])
  refine Go.via (fun t k => XS.iloadN Xh1.here hx rfl (hb hby d18_9) rfl k) ?_
  refine Go.via (fun t k => XS.iloadN Xh1.here hx rfl (hb hby d18_10) rfl k) ?_
  show Go p.tables e below P T1 (mkF m 11 #[.val (.ref so), .val (.ref r_1), .val (.int (4 : Int32)), .val (.int (0 : Int32)), .unset] [(.int (4 : Int32)), (.int (0 : Int32))])
  refine Go.via (fun t k => XS.icmpNo Xh1.here hx rfl (hb hby d18_11) rfl (tlt (by decide : (0 : Int32) < (4 : Int32))).2.1 k) ?_
  show Go p.tables e below P T1 (mkF m 14 #[.val (.ref so), .val (.ref r_1), .val (.int (4 : Int32)), .val (.int (0 : Int32)), .unset] [])
  refine Go.via (fun t k => XS.aloadN Xh1.here hx rfl (hb hby d18_14) rfl rfl k) ?_
  refine Go.via (fun t k => XS.iloadN Xh1.here hx rfl (hb hby d18_15) rfl k) ?_
  show Go p.tables e below P T1 (mkF m 16 #[.val (.ref so), .val (.ref r_1), .val (.int (4 : Int32)), .val (.int (0 : Int32)), .unset] [(.int (0 : Int32)), (.ref r_1)])
  obtain ⟨c10, A10, q10, S10, N10, H10, G10⟩ := id u1_0
  have hin10 : ¬ ((0 : Int32) < 0 ∨ c10.slots.size ≤ ((0 : Int32)).toNatClampNeg) := inb_of S10 ⟨by decide, by decide⟩
  have hat10 : c10.slots[((0 : Int32)).toNatClampNeg]? = some (.ref aF) := (H10 _ (Nat.lt_of_not_le fun q => hin10 (Or.inr q))).trans (congrArg some rfl)
  refine Go.via (fun t k => Xh1.aaload hx (j := (0 : Int32)) (v := (.ref aF)) (by exact A10.1) (State.isArrayOf_alike hZ.alike A10.2.1) rfl A10.2.2 hin10 hat10 (g := (mkF m 16 #[.val (.ref so), .val (.ref r_1), .val (.int (4 : Int32)), .val (.int (0 : Int32)), .unset] [(.int (0 : Int32)), (.ref r_1)])) rfl rfl (hb hby d18_16) t k) ?_
  show Go p.tables e below P T1 (mkF m 17 #[.val (.ref so), .val (.ref r_1), .val (.int (4 : Int32)), .val (.int (0 : Int32)), .unset] [(.ref aF)])
  refine Go.via (fun t k => XS.astore Xh1.here hx rfl (hb hby d18_17) rfl rfl (l' := #[.val (.ref so), .val (.ref r_1), .val (.int (4 : Int32)), .val (.int (0 : Int32)), .val (.ref aF)]) rfl k) ?_
  refine Go.via (fun t k => XS.aload Xh1.here hx rfl (hb hby d18_19) rfl rfl k) ?_
  show Go p.tables e below P T1 (mkF m 21 #[.val (.ref so), .val (.ref r_1), .val (.int (4 : Int32)), .val (.int (0 : Int32)), .val (.ref aF)] [(.ref aF)])
  obtain ⟨T11, X11, e11, st11⟩ := getF Xh1 hx hZ hown (host := "") (Or.inl (hw _ (List.mem_of_getElem? (i := 106) rfl))) Via.refl rfl (P7.ext O8.2) (g := (mkF m 21 #[.val (.ref so), .val (.ref r_1), .val (.int (4 : Int32)), .val (.int (0 : Int32)), .val (.ref aF)] [(.ref aF)])) rfl rfl (hb hby d18_21)
  refine Go.via st11 ?_
  show Go p.tables e below P T11 (mkF m 24 #[.val (.ref so), .val (.ref r_1), .val (.int (4 : Int32)), .val (.int (0 : Int32)), .val (.ref aF)] [(.ref sF)])
  refine Go.via (fun t k => XS.aloadN X11.here hx rfl (hb hby d18_24) rfl rfl k) ?_
  show Go p.tables e below P T11 (mkF m 25 #[.val (.ref so), .val (.ref r_1), .val (.int (4 : Int32)), .val (.int (0 : Int32)), .val (.ref aF)] [(.ref so), (.ref sF)])
  have F12 : Exa Z T1.heap so "java/lang/String" := (P30.keep K1)
  have F13 : Fld Z T1.heap so "java/lang/String" "value" "[B" (.ref tb) := (P31.keep K1 own_nin0)
  have F14 : Fld Z T1.heap so "java/lang/String" "coder" "B" (.int (0 : Int32)) := (P32.keep K1 own_nin0)
  have F15 : Arv Z T1.heap tb kk .byte (own_lg bx) (bx.map Value.int) (.int (0 : Int32)) := (P33.keep K1 own_nin0)
  obtain ⟨cq16, kq16, q16a, q16b, q16c⟩ := isOf hZ e11 (P8.ext O8.2)
  obtain ⟨_, _, ⟨T16, L16, k16, n16⟩, -, X16, ⟨Lc16, hQ16, l16, y16, z16⟩, st16⟩ := X11.virtualBack hx (y := (⟨"java/lang/String", "equals", "(Ljava/lang/Object;)Z"⟩ : MethodName)) (z := (⟨"java/lang/String", "equals", "(Ljava/lang/Object;)Z"⟩ : MethodName)) hown (mvT hZ (hw _ (List.mem_of_getElem? (i := 108) rfl))) (mvT hZ (hw _ (List.mem_of_getElem? (i := 74) rfl))) (notFace_of_selects (args := #[]) (mvT hZ (hw _ (List.mem_of_getElem? (i := 76) rfl)))) (mvT hZ (hw _ (List.mem_of_getElem? (i := 76) rfl))) (mvT hZ (hw _ (List.mem_of_getElem? (i := 75) rfl))) (by decide) (backOf (W := 0) (rm16 l Z a0 hw [] sF so cs tF tb kF kk ([(102 : Int32), (101 : Int32), (116 : Int32), (99 : Int32), (104 : Int32)] : List Int32) bx T1.heap n0 Z6 O8 P1 (by first | assumption | decide | omega : ¬ cs = (0 : Int32)) (P8.ext O8.2) (P9.ext O8.2) (P10.ext O8.2) (P11.ext O8.2) F12 F13 F14 F15 (by decide) smx (own_sfun (P9.ext O8.2) F13 (P11.ext O8.2) F15 (by first | assumption | decide) (by first | assumption | decide))) hZ (hw _ (List.mem_of_getElem? (i := 77) rfl)) (hw _ (List.mem_of_getElem? (i := 1) rfl)) (by decide) (by decide)) q16a q16c (g := (mkF m 25 #[.val (.ref so), .val (.ref r_1), .val (.int (4 : Int32)), .val (.int (0 : Int32)), .val (.ref aF)] [(.ref so), (.ref sF)])) rfl (by rw [hml]; rfl) (Steps.refl _) (argsL := [(.ref so)]) (rest := []) (lenOf own_pd11 rfl) rfl (by show 2 * 0 + _ ≤ _; exact Nat.le_of_eq rfl) (hb hby d18_25) (fun _ _ => ⟨rfl, e11, (by decide : 1 + 0 ≤ _), (by decide : 4 + 0 ≤ _)⟩)
  dsimp only [Pt.U, Pt.locs, Pt.cells, Pt.slots] at X16 l16 y16 z16 st16 hQ16
  subst l16 y16 z16
  obtain ⟨rfl, Nq16, hh16⟩ := hQ16
  obtain ⟨lc16, Xh16, N16⟩ := own_hide X16 (Fr.app N1 Nq16)
  clear X16
  refine Go.hop st16 ?_
  show Go p.tables e below P T16 (mkF m 28 #[.val (.ref so), .val (.ref r_1), .val (.int (4 : Int32)), .val (.int (0 : Int32)), .val (.ref aF)] [(.int (if ([(102 : Int32), (101 : Int32), (116 : Int32), (99 : Int32), (104 : Int32)] : List Int32) = bx then (1 : Int32) else (0 : Int32)))])
  refine Go.via (fun t k => XS.ifYes Xh16.here hx rfl (pc0 := 28) (pc' := 34) rfl (hb hby d18_28) rfl ((if0 _ _).trans (teq (if_neg (fun q => m0 q.symm))).1) (by decide) (by decide) k) ?_
  show Go p.tables e below P T16 (mkF m 34 #[.val (.ref so), .val (.ref r_1), .val (.int (4 : Int32)), .val (.int (0 : Int32)), .val (.ref aF)] [])
  refine Go.via (fun t k => XS.iinc Xh16.here hx rfl (hb hby d18_34) rfl (l' := #[.val (.ref so), .val (.ref r_1), .val (.int (4 : Int32)), .val (.int ((0 : Int32) + (1 : Int32))), .val (.ref aF)]) rfl k) ?_
  show Go p.tables e below P T16 (mkF m 37 #[.val (.ref so), .val (.ref r_1), .val (.int (4 : Int32)), .val (.int ((0 : Int32) + (1 : Int32))), .val (.ref aF)] [])
  refine Go.via (fun t k => XS.goto Xh16.here hx rfl (pc0 := 37) (pc' := 9) rfl (hb hby d18_37) (by decide) (by decide) k) ?_
  refine Go.via (fun t k => XS.iloadN Xh16.here hx rfl (hb hby d18_9) rfl k) ?_
  refine Go.via (fun t k => XS.iloadN Xh16.here hx rfl (hb hby d18_10) rfl k) ?_
  show Go p.tables e below P T16 (mkF m 11 #[.val (.ref so), .val (.ref r_1), .val (.int (4 : Int32)), .val (.int ((0 : Int32) + (1 : Int32))), .val (.ref aF)] [(.int (4 : Int32)), (.int ((0 : Int32) + (1 : Int32)))])
  refine Go.via (fun t k => XS.icmpNo Xh16.here hx rfl (hb hby d18_11) rfl (tlt (by decide : ((0 : Int32) + (1 : Int32)) < (4 : Int32))).2.1 k) ?_
  show Go p.tables e below P T16 (mkF m 14 #[.val (.ref so), .val (.ref r_1), .val (.int (4 : Int32)), .val (.int ((0 : Int32) + (1 : Int32))), .val (.ref aF)] [])
  refine Go.via (fun t k => XS.aloadN Xh16.here hx rfl (hb hby d18_14) rfl rfl k) ?_
  refine Go.via (fun t k => XS.iloadN Xh16.here hx rfl (hb hby d18_15) rfl k) ?_
  show Go p.tables e below P T16 (mkF m 16 #[.val (.ref so), .val (.ref r_1), .val (.int (4 : Int32)), .val (.int ((0 : Int32) + (1 : Int32))), .val (.ref aF)] [(.int ((0 : Int32) + (1 : Int32))), (.ref r_1)])
  obtain ⟨c17, A17, q17, S17, N17, H17, G17⟩ := id u1_0
  have hin17 : ¬ (((0 : Int32) + (1 : Int32)) < 0 ∨ c17.slots.size ≤ (((0 : Int32) + (1 : Int32))).toNatClampNeg) := inb_of S17 ⟨by decide, by decide⟩
  have hat17 : c17.slots[(((0 : Int32) + (1 : Int32))).toNatClampNeg]? = some (.ref aC) := (H17 _ (Nat.lt_of_not_le fun q => hin17 (Or.inr q))).trans (congrArg some rfl)
  refine Go.via (fun t k => Xh16.aaload hx (j := ((0 : Int32) + (1 : Int32))) (v := (.ref aC)) (by rw [hh16]; exact A17.1) (State.isArrayOf_alike hZ.alike A17.2.1) rfl A17.2.2 hin17 hat17 (g := (mkF m 16 #[.val (.ref so), .val (.ref r_1), .val (.int (4 : Int32)), .val (.int ((0 : Int32) + (1 : Int32))), .val (.ref aF)] [(.int ((0 : Int32) + (1 : Int32))), (.ref r_1)])) rfl rfl (hb hby d18_16) t k) ?_
  show Go p.tables e below P T16 (mkF m 17 #[.val (.ref so), .val (.ref r_1), .val (.int (4 : Int32)), .val (.int ((0 : Int32) + (1 : Int32))), .val (.ref aF)] [(.ref aC)])
  refine Go.via (fun t k => XS.astore Xh16.here hx rfl (hb hby d18_17) rfl rfl (l' := #[.val (.ref so), .val (.ref r_1), .val (.int (4 : Int32)), .val (.int ((0 : Int32) + (1 : Int32))), .val (.ref aC)]) rfl k) ?_
  refine Go.via (fun t k => XS.aload Xh16.here hx rfl (hb hby d18_19) rfl rfl k) ?_
  show Go p.tables e below P T16 (mkF m 21 #[.val (.ref so), .val (.ref r_1), .val (.int (4 : Int32)), .val (.int ((0 : Int32) + (1 : Int32))), .val (.ref aC)] [(.ref aC)])
  obtain ⟨T18, X18, e18, st18⟩ := getF Xh16 hx hZ hown (host := "") (Or.inl (hw _ (List.mem_of_getElem? (i := 106) rfl))) Via.refl hh16 (P13.ext O8.2) (g := (mkF m 21 #[.val (.ref so), .val (.ref r_1), .val (.int (4 : Int32)), .val (.int ((0 : Int32) + (1 : Int32))), .val (.ref aC)] [(.ref aC)])) rfl rfl (hb hby d18_21)
  refine Go.via st18 ?_
  show Go p.tables e below P T18 (mkF m 24 #[.val (.ref so), .val (.ref r_1), .val (.int (4 : Int32)), .val (.int ((0 : Int32) + (1 : Int32))), .val (.ref aC)] [(.ref sC)])
  refine Go.via (fun t k => XS.aloadN X18.here hx rfl (hb hby d18_24) rfl rfl k) ?_
  show Go p.tables e below P T18 (mkF m 25 #[.val (.ref so), .val (.ref r_1), .val (.int (4 : Int32)), .val (.int ((0 : Int32) + (1 : Int32))), .val (.ref aC)] [(.ref so), (.ref sC)])
  obtain ⟨cq19, kq19, q19a, q19b, q19c⟩ := isOf hZ e18 (P14.ext O8.2)
  obtain ⟨_, _, ⟨T19, L19, k19, n19⟩, -, X19, ⟨Lc19, hQ19, l19, y19, z19⟩, st19⟩ := X18.virtualBack hx (y := (⟨"java/lang/String", "equals", "(Ljava/lang/Object;)Z"⟩ : MethodName)) (z := (⟨"java/lang/String", "equals", "(Ljava/lang/Object;)Z"⟩ : MethodName)) hown (mvT hZ (hw _ (List.mem_of_getElem? (i := 108) rfl))) (mvT hZ (hw _ (List.mem_of_getElem? (i := 74) rfl))) (notFace_of_selects (args := #[]) (mvT hZ (hw _ (List.mem_of_getElem? (i := 76) rfl)))) (mvT hZ (hw _ (List.mem_of_getElem? (i := 76) rfl))) (mvT hZ (hw _ (List.mem_of_getElem? (i := 75) rfl))) (by decide) (backOf (W := 0) (rm16 l Z a0 hw [] sC so cs tC tb kC kk ([(99 : Int32), (97 : Int32), (108 : Int32), (108 : Int32)] : List Int32) bx T1.heap n0 Z6 O8 P1 (by first | assumption | decide | omega : ¬ cs = (0 : Int32)) (P14.ext O8.2) (P15.ext O8.2) (P16.ext O8.2) (P17.ext O8.2) F12 F13 F14 F15 (by decide) smx (own_sfun (P15.ext O8.2) F13 (P17.ext O8.2) F15 (by first | assumption | decide) (by first | assumption | decide))) hZ (hw _ (List.mem_of_getElem? (i := 77) rfl)) (hw _ (List.mem_of_getElem? (i := 1) rfl)) (by decide) (by decide)) q19a q19c (g := (mkF m 25 #[.val (.ref so), .val (.ref r_1), .val (.int (4 : Int32)), .val (.int ((0 : Int32) + (1 : Int32))), .val (.ref aC)] [(.ref so), (.ref sC)])) rfl (by rw [hml]; rfl) (Steps.refl _) (argsL := [(.ref so)]) (rest := []) (lenOf own_pd11 rfl) rfl (by show 2 * 0 + _ ≤ _; exact Nat.le_of_eq rfl) (hb hby d18_25) (fun _ _ => ⟨rfl, e18, (by decide : 1 + 0 ≤ _), (by decide : 4 + 0 ≤ _)⟩)
  dsimp only [Pt.U, Pt.locs, Pt.cells, Pt.slots] at X19 l19 y19 z19 st19 hQ19
  subst l19 y19 z19
  obtain ⟨rfl, Nq19, hh19⟩ := hQ19
  obtain ⟨lc19, Xh19, N19⟩ := own_hide X19 (Fr.app N16 Nq19)
  clear X19
  refine Go.hop st19 ?_
  show Go p.tables e below P T19 (mkF m 28 #[.val (.ref so), .val (.ref r_1), .val (.int (4 : Int32)), .val (.int ((0 : Int32) + (1 : Int32))), .val (.ref aC)] [(.int (if ([(99 : Int32), (97 : Int32), (108 : Int32), (108 : Int32)] : List Int32) = bx then (1 : Int32) else (0 : Int32)))])
  refine Go.via (fun t k => XS.ifYes Xh19.here hx rfl (pc0 := 28) (pc' := 34) rfl (hb hby d18_28) rfl ((if0 _ _).trans (teq (if_neg (fun q => m1 q.symm))).1) (by decide) (by decide) k) ?_
  show Go p.tables e below P T19 (mkF m 34 #[.val (.ref so), .val (.ref r_1), .val (.int (4 : Int32)), .val (.int ((0 : Int32) + (1 : Int32))), .val (.ref aC)] [])
  refine Go.via (fun t k => XS.iinc Xh19.here hx rfl (hb hby d18_34) rfl (l' := #[.val (.ref so), .val (.ref r_1), .val (.int (4 : Int32)), .val (.int (((0 : Int32) + (1 : Int32)) + (1 : Int32))), .val (.ref aC)]) rfl k) ?_
  show Go p.tables e below P T19 (mkF m 37 #[.val (.ref so), .val (.ref r_1), .val (.int (4 : Int32)), .val (.int (((0 : Int32) + (1 : Int32)) + (1 : Int32))), .val (.ref aC)] [])
  refine Go.via (fun t k => XS.goto Xh19.here hx rfl (pc0 := 37) (pc' := 9) rfl (hb hby d18_37) (by decide) (by decide) k) ?_
  refine Go.via (fun t k => XS.iloadN Xh19.here hx rfl (hb hby d18_9) rfl k) ?_
  refine Go.via (fun t k => XS.iloadN Xh19.here hx rfl (hb hby d18_10) rfl k) ?_
  show Go p.tables e below P T19 (mkF m 11 #[.val (.ref so), .val (.ref r_1), .val (.int (4 : Int32)), .val (.int (((0 : Int32) + (1 : Int32)) + (1 : Int32))), .val (.ref aC)] [(.int (4 : Int32)), (.int (((0 : Int32) + (1 : Int32)) + (1 : Int32)))])
  refine Go.via (fun t k => XS.icmpNo Xh19.here hx rfl (hb hby d18_11) rfl (tlt (by decide : (((0 : Int32) + (1 : Int32)) + (1 : Int32)) < (4 : Int32))).2.1 k) ?_
  show Go p.tables e below P T19 (mkF m 14 #[.val (.ref so), .val (.ref r_1), .val (.int (4 : Int32)), .val (.int (((0 : Int32) + (1 : Int32)) + (1 : Int32))), .val (.ref aC)] [])
  refine Go.via (fun t k => XS.aloadN Xh19.here hx rfl (hb hby d18_14) rfl rfl k) ?_
  refine Go.via (fun t k => XS.iloadN Xh19.here hx rfl (hb hby d18_15) rfl k) ?_
  show Go p.tables e below P T19 (mkF m 16 #[.val (.ref so), .val (.ref r_1), .val (.int (4 : Int32)), .val (.int (((0 : Int32) + (1 : Int32)) + (1 : Int32))), .val (.ref aC)] [(.int (((0 : Int32) + (1 : Int32)) + (1 : Int32))), (.ref r_1)])
  obtain ⟨c20, A20, q20, S20, N20, H20, G20⟩ := id u1_0
  have hin20 : ¬ ((((0 : Int32) + (1 : Int32)) + (1 : Int32)) < 0 ∨ c20.slots.size ≤ ((((0 : Int32) + (1 : Int32)) + (1 : Int32))).toNatClampNeg) := inb_of S20 ⟨by decide, by decide⟩
  have hat20 : c20.slots[((((0 : Int32) + (1 : Int32)) + (1 : Int32))).toNatClampNeg]? = some (.ref aS) := (H20 _ (Nat.lt_of_not_le fun q => hin20 (Or.inr q))).trans (congrArg some rfl)
  refine Go.via (fun t k => Xh19.aaload hx (j := (((0 : Int32) + (1 : Int32)) + (1 : Int32))) (v := (.ref aS)) (by rw [hh19]; exact A20.1) (State.isArrayOf_alike hZ.alike A20.2.1) rfl A20.2.2 hin20 hat20 (g := (mkF m 16 #[.val (.ref so), .val (.ref r_1), .val (.int (4 : Int32)), .val (.int (((0 : Int32) + (1 : Int32)) + (1 : Int32))), .val (.ref aC)] [(.int (((0 : Int32) + (1 : Int32)) + (1 : Int32))), (.ref r_1)])) rfl rfl (hb hby d18_16) t k) ?_
  show Go p.tables e below P T19 (mkF m 17 #[.val (.ref so), .val (.ref r_1), .val (.int (4 : Int32)), .val (.int (((0 : Int32) + (1 : Int32)) + (1 : Int32))), .val (.ref aC)] [(.ref aS)])
  refine Go.via (fun t k => XS.astore Xh19.here hx rfl (hb hby d18_17) rfl rfl (l' := #[.val (.ref so), .val (.ref r_1), .val (.int (4 : Int32)), .val (.int (((0 : Int32) + (1 : Int32)) + (1 : Int32))), .val (.ref aS)]) rfl k) ?_
  refine Go.via (fun t k => XS.aload Xh19.here hx rfl (hb hby d18_19) rfl rfl k) ?_
  show Go p.tables e below P T19 (mkF m 21 #[.val (.ref so), .val (.ref r_1), .val (.int (4 : Int32)), .val (.int (((0 : Int32) + (1 : Int32)) + (1 : Int32))), .val (.ref aS)] [(.ref aS)])
  obtain ⟨T21, X21, e21, st21⟩ := getF Xh19 hx hZ hown (host := "") (Or.inl (hw _ (List.mem_of_getElem? (i := 106) rfl))) Via.refl hh19 (P19.ext O8.2) (g := (mkF m 21 #[.val (.ref so), .val (.ref r_1), .val (.int (4 : Int32)), .val (.int (((0 : Int32) + (1 : Int32)) + (1 : Int32))), .val (.ref aS)] [(.ref aS)])) rfl rfl (hb hby d18_21)
  refine Go.via st21 ?_
  show Go p.tables e below P T21 (mkF m 24 #[.val (.ref so), .val (.ref r_1), .val (.int (4 : Int32)), .val (.int (((0 : Int32) + (1 : Int32)) + (1 : Int32))), .val (.ref aS)] [(.ref sS)])
  refine Go.via (fun t k => XS.aloadN X21.here hx rfl (hb hby d18_24) rfl rfl k) ?_
  show Go p.tables e below P T21 (mkF m 25 #[.val (.ref so), .val (.ref r_1), .val (.int (4 : Int32)), .val (.int (((0 : Int32) + (1 : Int32)) + (1 : Int32))), .val (.ref aS)] [(.ref so), (.ref sS)])
  obtain ⟨cq22, kq22, q22a, q22b, q22c⟩ := isOf hZ e21 (P20.ext O8.2)
  obtain ⟨_, _, ⟨T22, L22, k22, n22⟩, -, X22, ⟨Lc22, hQ22, l22, y22, z22⟩, st22⟩ := X21.virtualBack hx (y := (⟨"java/lang/String", "equals", "(Ljava/lang/Object;)Z"⟩ : MethodName)) (z := (⟨"java/lang/String", "equals", "(Ljava/lang/Object;)Z"⟩ : MethodName)) hown (mvT hZ (hw _ (List.mem_of_getElem? (i := 108) rfl))) (mvT hZ (hw _ (List.mem_of_getElem? (i := 74) rfl))) (notFace_of_selects (args := #[]) (mvT hZ (hw _ (List.mem_of_getElem? (i := 76) rfl)))) (mvT hZ (hw _ (List.mem_of_getElem? (i := 76) rfl))) (mvT hZ (hw _ (List.mem_of_getElem? (i := 75) rfl))) (by decide) (backOf (W := 0) (rm16 l Z a0 hw [] sS so cs tS tb kS kk ([(115 : Int32), (113 : Int32), (108 : Int32)] : List Int32) bx T1.heap n0 Z6 O8 P1 (by first | assumption | decide | omega : ¬ cs = (0 : Int32)) (P20.ext O8.2) (P21.ext O8.2) (P22.ext O8.2) (P23.ext O8.2) F12 F13 F14 F15 (by decide) smx (own_sfun (P21.ext O8.2) F13 (P23.ext O8.2) F15 (by first | assumption | decide) (by first | assumption | decide))) hZ (hw _ (List.mem_of_getElem? (i := 77) rfl)) (hw _ (List.mem_of_getElem? (i := 1) rfl)) (by decide) (by decide)) q22a q22c (g := (mkF m 25 #[.val (.ref so), .val (.ref r_1), .val (.int (4 : Int32)), .val (.int (((0 : Int32) + (1 : Int32)) + (1 : Int32))), .val (.ref aS)] [(.ref so), (.ref sS)])) rfl (by rw [hml]; rfl) (Steps.refl _) (argsL := [(.ref so)]) (rest := []) (lenOf own_pd11 rfl) rfl (by show 2 * 0 + _ ≤ _; exact Nat.le_of_eq rfl) (hb hby d18_25) (fun _ _ => ⟨rfl, e21, (by decide : 1 + 0 ≤ _), (by decide : 4 + 0 ≤ _)⟩)
  dsimp only [Pt.U, Pt.locs, Pt.cells, Pt.slots] at X22 l22 y22 z22 st22 hQ22
  subst l22 y22 z22
  obtain ⟨rfl, Nq22, hh22⟩ := hQ22
  obtain ⟨lc22, Xh22, N22⟩ := own_hide X22 (Fr.app N19 Nq22)
  clear X22
  refine Go.hop st22 ?_
  show Go p.tables e below P T22 (mkF m 28 #[.val (.ref so), .val (.ref r_1), .val (.int (4 : Int32)), .val (.int (((0 : Int32) + (1 : Int32)) + (1 : Int32))), .val (.ref aS)] [(.int (if ([(115 : Int32), (113 : Int32), (108 : Int32)] : List Int32) = bx then (1 : Int32) else (0 : Int32)))])
  refine Go.via (fun t k => XS.ifYes Xh22.here hx rfl (pc0 := 28) (pc' := 34) rfl (hb hby d18_28) rfl ((if0 _ _).trans (teq (if_neg (fun q => m2 q.symm))).1) (by decide) (by decide) k) ?_
  show Go p.tables e below P T22 (mkF m 34 #[.val (.ref so), .val (.ref r_1), .val (.int (4 : Int32)), .val (.int (((0 : Int32) + (1 : Int32)) + (1 : Int32))), .val (.ref aS)] [])
  refine Go.via (fun t k => XS.iinc Xh22.here hx rfl (hb hby d18_34) rfl (l' := #[.val (.ref so), .val (.ref r_1), .val (.int (4 : Int32)), .val (.int ((((0 : Int32) + (1 : Int32)) + (1 : Int32)) + (1 : Int32))), .val (.ref aS)]) rfl k) ?_
  show Go p.tables e below P T22 (mkF m 37 #[.val (.ref so), .val (.ref r_1), .val (.int (4 : Int32)), .val (.int ((((0 : Int32) + (1 : Int32)) + (1 : Int32)) + (1 : Int32))), .val (.ref aS)] [])
  refine Go.via (fun t k => XS.goto Xh22.here hx rfl (pc0 := 37) (pc' := 9) rfl (hb hby d18_37) (by decide) (by decide) k) ?_
  refine Go.via (fun t k => XS.iloadN Xh22.here hx rfl (hb hby d18_9) rfl k) ?_
  refine Go.via (fun t k => XS.iloadN Xh22.here hx rfl (hb hby d18_10) rfl k) ?_
  show Go p.tables e below P T22 (mkF m 11 #[.val (.ref so), .val (.ref r_1), .val (.int (4 : Int32)), .val (.int ((((0 : Int32) + (1 : Int32)) + (1 : Int32)) + (1 : Int32))), .val (.ref aS)] [(.int (4 : Int32)), (.int ((((0 : Int32) + (1 : Int32)) + (1 : Int32)) + (1 : Int32)))])
  refine Go.via (fun t k => XS.icmpNo Xh22.here hx rfl (hb hby d18_11) rfl (tlt (by decide : ((((0 : Int32) + (1 : Int32)) + (1 : Int32)) + (1 : Int32)) < (4 : Int32))).2.1 k) ?_
  show Go p.tables e below P T22 (mkF m 14 #[.val (.ref so), .val (.ref r_1), .val (.int (4 : Int32)), .val (.int ((((0 : Int32) + (1 : Int32)) + (1 : Int32)) + (1 : Int32))), .val (.ref aS)] [])
  refine Go.via (fun t k => XS.aloadN Xh22.here hx rfl (hb hby d18_14) rfl rfl k) ?_
  refine Go.via (fun t k => XS.iloadN Xh22.here hx rfl (hb hby d18_15) rfl k) ?_
  show Go p.tables e below P T22 (mkF m 16 #[.val (.ref so), .val (.ref r_1), .val (.int (4 : Int32)), .val (.int ((((0 : Int32) + (1 : Int32)) + (1 : Int32)) + (1 : Int32))), .val (.ref aS)] [(.int ((((0 : Int32) + (1 : Int32)) + (1 : Int32)) + (1 : Int32))), (.ref r_1)])
  obtain ⟨c23, A23, q23, S23, N23, H23, G23⟩ := id u1_0
  have hin23 : ¬ (((((0 : Int32) + (1 : Int32)) + (1 : Int32)) + (1 : Int32)) < 0 ∨ c23.slots.size ≤ (((((0 : Int32) + (1 : Int32)) + (1 : Int32)) + (1 : Int32))).toNatClampNeg) := inb_of S23 ⟨by decide, by decide⟩
  have hat23 : c23.slots[(((((0 : Int32) + (1 : Int32)) + (1 : Int32)) + (1 : Int32))).toNatClampNeg]? = some (.ref aD) := (H23 _ (Nat.lt_of_not_le fun q => hin23 (Or.inr q))).trans (congrArg some rfl)
  refine Go.via (fun t k => Xh22.aaload hx (j := ((((0 : Int32) + (1 : Int32)) + (1 : Int32)) + (1 : Int32))) (v := (.ref aD)) (by rw [hh22]; exact A23.1) (State.isArrayOf_alike hZ.alike A23.2.1) rfl A23.2.2 hin23 hat23 (g := (mkF m 16 #[.val (.ref so), .val (.ref r_1), .val (.int (4 : Int32)), .val (.int ((((0 : Int32) + (1 : Int32)) + (1 : Int32)) + (1 : Int32))), .val (.ref aS)] [(.int ((((0 : Int32) + (1 : Int32)) + (1 : Int32)) + (1 : Int32))), (.ref r_1)])) rfl rfl (hb hby d18_16) t k) ?_
  show Go p.tables e below P T22 (mkF m 17 #[.val (.ref so), .val (.ref r_1), .val (.int (4 : Int32)), .val (.int ((((0 : Int32) + (1 : Int32)) + (1 : Int32)) + (1 : Int32))), .val (.ref aS)] [(.ref aD)])
  refine Go.via (fun t k => XS.astore Xh22.here hx rfl (hb hby d18_17) rfl rfl (l' := #[.val (.ref so), .val (.ref r_1), .val (.int (4 : Int32)), .val (.int ((((0 : Int32) + (1 : Int32)) + (1 : Int32)) + (1 : Int32))), .val (.ref aD)]) rfl k) ?_
  refine Go.via (fun t k => XS.aload Xh22.here hx rfl (hb hby d18_19) rfl rfl k) ?_
  show Go p.tables e below P T22 (mkF m 21 #[.val (.ref so), .val (.ref r_1), .val (.int (4 : Int32)), .val (.int ((((0 : Int32) + (1 : Int32)) + (1 : Int32)) + (1 : Int32))), .val (.ref aD)] [(.ref aD)])
  obtain ⟨T24, X24, e24, st24⟩ := getF Xh22 hx hZ hown (host := "") (Or.inl (hw _ (List.mem_of_getElem? (i := 106) rfl))) Via.refl hh22 (P25.ext O8.2) (g := (mkF m 21 #[.val (.ref so), .val (.ref r_1), .val (.int (4 : Int32)), .val (.int ((((0 : Int32) + (1 : Int32)) + (1 : Int32)) + (1 : Int32))), .val (.ref aD)] [(.ref aD)])) rfl rfl (hb hby d18_21)
  refine Go.via st24 ?_
  show Go p.tables e below P T24 (mkF m 24 #[.val (.ref so), .val (.ref r_1), .val (.int (4 : Int32)), .val (.int ((((0 : Int32) + (1 : Int32)) + (1 : Int32)) + (1 : Int32))), .val (.ref aD)] [(.ref sD)])
  refine Go.via (fun t k => XS.aloadN X24.here hx rfl (hb hby d18_24) rfl rfl k) ?_
  show Go p.tables e below P T24 (mkF m 25 #[.val (.ref so), .val (.ref r_1), .val (.int (4 : Int32)), .val (.int ((((0 : Int32) + (1 : Int32)) + (1 : Int32)) + (1 : Int32))), .val (.ref aD)] [(.ref so), (.ref sD)])
  obtain ⟨cq25, kq25, q25a, q25b, q25c⟩ := isOf hZ e24 (P26.ext O8.2)
  obtain ⟨_, _, ⟨T25, L25, k25, n25⟩, -, X25, ⟨Lc25, hQ25, l25, y25, z25⟩, st25⟩ := X24.virtualBack hx (y := (⟨"java/lang/String", "equals", "(Ljava/lang/Object;)Z"⟩ : MethodName)) (z := (⟨"java/lang/String", "equals", "(Ljava/lang/Object;)Z"⟩ : MethodName)) hown (mvT hZ (hw _ (List.mem_of_getElem? (i := 108) rfl))) (mvT hZ (hw _ (List.mem_of_getElem? (i := 74) rfl))) (notFace_of_selects (args := #[]) (mvT hZ (hw _ (List.mem_of_getElem? (i := 76) rfl)))) (mvT hZ (hw _ (List.mem_of_getElem? (i := 76) rfl))) (mvT hZ (hw _ (List.mem_of_getElem? (i := 75) rfl))) (by decide) (backOf (W := 0) (rm16 l Z a0 hw [] sD so cs tD tb kD kk ([(100 : Int32), (101 : Int32), (108 : Int32), (105 : Int32), (118 : Int32), (101 : Int32), (114 : Int32)] : List Int32) bx T1.heap n0 Z6 O8 P1 (by first | assumption | decide | omega : ¬ cs = (0 : Int32)) (P26.ext O8.2) (P27.ext O8.2) (P28.ext O8.2) (P29.ext O8.2) F12 F13 F14 F15 (by decide) smx (own_sfun (P27.ext O8.2) F13 (P29.ext O8.2) F15 (by first | assumption | decide) (by first | assumption | decide))) hZ (hw _ (List.mem_of_getElem? (i := 77) rfl)) (hw _ (List.mem_of_getElem? (i := 1) rfl)) (by decide) (by decide)) q25a q25c (g := (mkF m 25 #[.val (.ref so), .val (.ref r_1), .val (.int (4 : Int32)), .val (.int ((((0 : Int32) + (1 : Int32)) + (1 : Int32)) + (1 : Int32))), .val (.ref aD)] [(.ref so), (.ref sD)])) rfl (by rw [hml]; rfl) (Steps.refl _) (argsL := [(.ref so)]) (rest := []) (lenOf own_pd11 rfl) rfl (by show 2 * 0 + _ ≤ _; exact Nat.le_of_eq rfl) (hb hby d18_25) (fun _ _ => ⟨rfl, e24, (by decide : 1 + 0 ≤ _), (by decide : 4 + 0 ≤ _)⟩)
  dsimp only [Pt.U, Pt.locs, Pt.cells, Pt.slots] at X25 l25 y25 z25 st25 hQ25
  subst l25 y25 z25
  obtain ⟨rfl, Nq25, hh25⟩ := hQ25
  obtain ⟨lc25, Xh25, N25⟩ := own_hide X25 (Fr.app N22 Nq25)
  clear X25
  refine Go.hop st25 ?_
  show Go p.tables e below P T25 (mkF m 28 #[.val (.ref so), .val (.ref r_1), .val (.int (4 : Int32)), .val (.int ((((0 : Int32) + (1 : Int32)) + (1 : Int32)) + (1 : Int32))), .val (.ref aD)] [(.int (if ([(100 : Int32), (101 : Int32), (108 : Int32), (105 : Int32), (118 : Int32), (101 : Int32), (114 : Int32)] : List Int32) = bx then (1 : Int32) else (0 : Int32)))])
  refine Go.via (fun t k => XS.ifYes Xh25.here hx rfl (pc0 := 28) (pc' := 34) rfl (hb hby d18_28) rfl ((if0 _ _).trans (teq (if_neg (fun q => m3 q.symm))).1) (by decide) (by decide) k) ?_
  show Go p.tables e below P T25 (mkF m 34 #[.val (.ref so), .val (.ref r_1), .val (.int (4 : Int32)), .val (.int ((((0 : Int32) + (1 : Int32)) + (1 : Int32)) + (1 : Int32))), .val (.ref aD)] [])
  refine Go.via (fun t k => XS.iinc Xh25.here hx rfl (hb hby d18_34) rfl (l' := #[.val (.ref so), .val (.ref r_1), .val (.int (4 : Int32)), .val (.int (((((0 : Int32) + (1 : Int32)) + (1 : Int32)) + (1 : Int32)) + (1 : Int32))), .val (.ref aD)]) rfl k) ?_
  show Go p.tables e below P T25 (mkF m 37 #[.val (.ref so), .val (.ref r_1), .val (.int (4 : Int32)), .val (.int (((((0 : Int32) + (1 : Int32)) + (1 : Int32)) + (1 : Int32)) + (1 : Int32))), .val (.ref aD)] [])
  refine Go.via (fun t k => XS.goto Xh25.here hx rfl (pc0 := 37) (pc' := 9) rfl (hb hby d18_37) (by decide) (by decide) k) ?_
  refine Go.via (fun t k => XS.iloadN Xh25.here hx rfl (hb hby d18_9) rfl k) ?_
  refine Go.via (fun t k => XS.iloadN Xh25.here hx rfl (hb hby d18_10) rfl k) ?_
  show Go p.tables e below P T25 (mkF m 11 #[.val (.ref so), .val (.ref r_1), .val (.int (4 : Int32)), .val (.int (((((0 : Int32) + (1 : Int32)) + (1 : Int32)) + (1 : Int32)) + (1 : Int32))), .val (.ref aD)] [(.int (4 : Int32)), (.int (((((0 : Int32) + (1 : Int32)) + (1 : Int32)) + (1 : Int32)) + (1 : Int32)))])
  refine Go.via (fun t k => XS.icmpYes Xh25.here hx rfl (pc0 := 11) (pc' := 40) rfl (hb hby d18_11) rfl (flt (by decide : ¬ ((((((0 : Int32) + (1 : Int32)) + (1 : Int32)) + (1 : Int32)) + (1 : Int32)) < (4 : Int32)))).2.1 (by decide) (by decide) k) ?_
  show Go p.tables e below P T25 (mkF m 40 #[.val (.ref so), .val (.ref r_1), .val (.int (4 : Int32)), .val (.int (((((0 : Int32) + (1 : Int32)) + (1 : Int32)) + (1 : Int32)) + (1 : Int32))), .val (.ref aD)] [])
  refine Go.via (fun t k => XS.aconstNull Xh25.here hx rfl (hb hby d18_40) k) ?_
  show Go p.tables e below P T25 (mkF m 41 #[.val (.ref so), .val (.ref r_1), .val (.int (4 : Int32)), .val (.int (((((0 : Int32) + (1 : Int32)) + (1 : Int32)) + (1 : Int32)) + (1 : Int32))), .val (.ref aD)] [.null])
  obtain ⟨fs, hr, hrun, hended, hW, hsame⟩ := Xh25.leave (v := some .null) (fun h => by rw [Bd.returns] at h; cases h)
  refine ⟨_, _, retA Xh25 hx Bd.returns rfl rfl rfl (hb hby d18_41) hr, hrun, hended, hP _ _ ⟨_, _, rfl, ?_, ⟨_, rfl⟩, hW, hsame.mono (by decide) (by decide)⟩⟩
  show Q18vN Z so cs tb kk bx va kva aF sF tF kF aC sC tC kC aS sS tS kS aD sD tD kD h0 n0 _ T25.heap _
  rw [hh25]
  exact ⟨rfl, N25, K7⟩
theorem ef_18vnull (m : MethodId)  : entryFrame m #[.null] 5 = mkF m 0 #[.val .null, .unset, .unset, .unset, .unset] [] := by first | (simp [entryFrame, mkF, argsToLocals, Value.category]; done) | rfl
def Q18vnull (Z : State) (va : Addr) (kva : ClassId) (aF : Addr) (sF : Addr) (tF : Addr) (kF : ClassId) (aC : Addr) (sC : Addr) (tC : Addr) (kC : ClassId) (aS : Addr) (sS : Addr) (tS : Addr) (kS : ClassId) (aD : Addr) (sD : Addr) (tD : Addr) (kD : ClassId) (h0 : Heap) (n0 : Nat) (v : Option Value) (h : Heap) (L : List Loc) : Prop := v = some .null ∧ Fr n0 L ∧ Keep h0 h []
set_option maxRecDepth 65536 in
set_option maxHeartbeats 40000000 in
theorem rm18vnull (l : Launch) (Z : State) (a0 : Array Value) (hw : ∀ d ∈ tables_1, d.before a0 Z = true) (ws : List Jvm.Cond) (va : Addr) (kva : ClassId) (aF : Addr) (sF : Addr) (tF : Addr) (kF : ClassId) (aC : Addr) (sC : Addr) (tC : Addr) (kC : ClassId) (aS : Addr) (sS : Addr) (tS : Addr) (kS : ClassId) (aD : Addr) (sD : Addr) (tD : Addr) (kD : ClassId) (h0 : Heap) (n0 : Nat) (Z0 : n0 ≤ h0.size) (O0 : Old Z n0 h0) (P1 : Sta Z Z.heap "com/example/tri3/tri3/StageKind" "$VALUES" "[Lcom/example/tri3/tri3/StageKind;" (.ref va)) (P2 : Arv Z Z.heap va kva (.object "com/example/tri3/tri3/StageKind") (4 : Int32) [(.ref aF), (.ref aC), (.ref aS), (.ref aD)] .null) (P3 : Exa Z Z.heap va "[Lcom/example/tri3/tri3/StageKind;") (P4 : Exa Z Z.heap aF "com/example/tri3/tri3/StageKind") (P5 : Fld Z Z.heap aF "com/example/tri3/tri3/StageKind" "fileName" "Ljava/lang/String;" (.ref sF)) (P6 : Exa Z Z.heap sF "java/lang/String") (P7 : Fld Z Z.heap sF "java/lang/String" "value" "[B" (.ref tF)) (P8 : Fld Z Z.heap sF "java/lang/String" "coder" "B" (.int (0 : Int32))) (P9 : Arv Z Z.heap tF kF .byte (own_lg ([(102 : Int32), (101 : Int32), (116 : Int32), (99 : Int32), (104 : Int32)] : List Int32)) (([(102 : Int32), (101 : Int32), (116 : Int32), (99 : Int32), (104 : Int32)] : List Int32).map Value.int) (.int (0 : Int32))) (P10 : Exa Z Z.heap aC "com/example/tri3/tri3/StageKind") (P11 : Fld Z Z.heap aC "com/example/tri3/tri3/StageKind" "fileName" "Ljava/lang/String;" (.ref sC)) (P12 : Exa Z Z.heap sC "java/lang/String") (P13 : Fld Z Z.heap sC "java/lang/String" "value" "[B" (.ref tC)) (P14 : Fld Z Z.heap sC "java/lang/String" "coder" "B" (.int (0 : Int32))) (P15 : Arv Z Z.heap tC kC .byte (own_lg ([(99 : Int32), (97 : Int32), (108 : Int32), (108 : Int32)] : List Int32)) (([(99 : Int32), (97 : Int32), (108 : Int32), (108 : Int32)] : List Int32).map Value.int) (.int (0 : Int32))) (P16 : Exa Z Z.heap aS "com/example/tri3/tri3/StageKind") (P17 : Fld Z Z.heap aS "com/example/tri3/tri3/StageKind" "fileName" "Ljava/lang/String;" (.ref sS)) (P18 : Exa Z Z.heap sS "java/lang/String") (P19 : Fld Z Z.heap sS "java/lang/String" "value" "[B" (.ref tS)) (P20 : Fld Z Z.heap sS "java/lang/String" "coder" "B" (.int (0 : Int32))) (P21 : Arv Z Z.heap tS kS .byte (own_lg ([(115 : Int32), (113 : Int32), (108 : Int32)] : List Int32)) (([(115 : Int32), (113 : Int32), (108 : Int32)] : List Int32).map Value.int) (.int (0 : Int32))) (P22 : Exa Z Z.heap aD "com/example/tri3/tri3/StageKind") (P23 : Fld Z Z.heap aD "com/example/tri3/tri3/StageKind" "fileName" "Ljava/lang/String;" (.ref sD)) (P24 : Exa Z Z.heap sD "java/lang/String") (P25 : Fld Z Z.heap sD "java/lang/String" "value" "[B" (.ref tD)) (P26 : Fld Z Z.heap sD "java/lang/String" "coder" "B" (.int (0 : Int32))) (P27 : Arv Z Z.heap tD kD .byte (own_lg ([(100 : Int32), (101 : Int32), (108 : Int32), (105 : Int32), (118 : Int32), (101 : Int32), (114 : Int32)] : List Int32)) (([(100 : Int32), (101 : Int32), (108 : Int32), (105 : Int32), (118 : Int32), (101 : Int32), (114 : Int32)] : List Int32).map Value.int) (.int (0 : Int32))) :
    MetFree l (⟨"com/example/tri3/tri3/StageKind", "named", "(Ljava/lang/String;)Lcom/example/tri3/tri3/StageKind;"⟩ : MethodName) (head1 (Jvm.Cond.code (⟨"com/example/tri3/tri3/StageKind", "named", "(Ljava/lang/String;)Lcom/example/tri3/tri3/StageKind;"⟩ : MethodName) prog_28_method_4_code 5 (some (.object "com/example/tri3/tri3/StageKind")) :: ws) ({ frames := 2, cells := 1, slots := 4, locals := 25 } : Room)) (fun a U => a = #[.null] ∧ Z.Warmed39 U.vm ∧ U.heap = h0) (fun _ _ _ _ _ => True) (fun _ U o U' => ∃ v L, o = .returned v ∧ Q18vnull Z va kva aF sF tF kF aC sC tC kC aS sS tS kS aD sD tD kD h0 n0 v U'.heap L ∧ FrameEnd U o U' L ({ frames := 2, cells := 1, slots := 4, locals := 25 } : Room).cells ({ frames := 2, cells := 1, slots := 4, locals := 25 } : Room).slots) := by
  refine MetFree.of_bodySF (plainFor_of_name own_pn4) hisR ?_
  intro p e s m args below meth c s₁ Bd hml0 hP hK
  obtain ⟨rfl, hZ, hh⟩ := hP
  have hx := Bd.exec
  have hby := Bd.bytes
  have hml : c.maxLocals = 5 := hml0
  have hown : s.vm.findClass "com/example/tri3/tri3/StageKind" = some m.cls := findClass_of_methodNamed Bd.named
  have hnm := (name_of_methodNamed Bd.named Bd.method).1
  have X0 : Stand p l e ({ frames := 2, cells := 1, slots := 4, locals := 25 } : Room) s m #[.null] below meth c s₁ [] 0 0 := Stand.of_body Bd
  have e0 : s₁.heap = h0 := by rw [← hh, Bd.state]; rfl
  have N0 := Fr.nil n0
  have K0 : Keep h0 h0 [] := Keep.refl _ _
  suffices GO : ∀ P : Outcome → State → Prop, (∀ o U', (∃ v L, o = .returned v ∧ Q18vnull Z va kva aF sF tF kF aC sC tC kC aS sS tS kS aD sD tD kD h0 n0 v U'.heap L ∧ FrameEnd s o U' L ({ frames := 2, cells := 1, slots := 4, locals := 25 } : Room).cells ({ frames := 2, cells := 1, slots := 4, locals := 25 } : Room).slots) → P o U') → Go p.tables e below P s₁ (mkF m 0 #[.val .null, .unset, .unset, .unset, .unset] []) by
    obtain ⟨s2, o, st, r⟩ := GO _ (fun _ _ q => q)
    exact ⟨s2, o, castTop (ef_18vnull m ) st, r⟩
  clear hh
  intro P hP
  show Go p.tables e below P s₁ (mkF m 0 #[.val .null, .unset, .unset, .unset, .unset] [])
  obtain ⟨_, _, ⟨T1, L1, k1, n1⟩, -, X1, ⟨Lc1, hQ1, l1, y1, z1⟩, st1⟩ := Jvm.LawKit.callS X0 hx (y := (⟨"com/example/tri3/tri3/StageKind", "values", "()[Lcom/example/tri3/tri3/StageKind;"⟩ : MethodName)) hown (mvT hZ (hw _ (List.mem_of_getElem? (i := 88) rfl))) (mvT hZ (hw _ (List.mem_of_getElem? (i := 89) rfl))) (mvT hZ (hw _ (List.mem_of_getElem? (i := 83) rfl))) (mvT hZ (hw _ (List.mem_of_getElem? (i := 90) rfl))) (by decide) (backOf (W := 0) (rm19 l Z a0 hw [] va kva aF aC aS aD h0 n0 Z0 O0 P1 P2 P3) hZ (hw _ (List.mem_of_getElem? (i := 90) rfl)) (hw _ (List.mem_of_getElem? (i := 83) rfl)) (by decide) (by decide)) (g := (mkF m 0 #[.val .null, .unset, .unset, .unset, .unset] [])) rfl (by rw [hml]; rfl) (argsL := []) (rest := []) (lenOf own_pd10 rfl) rfl (by show 2 * 0 + _ ≤ _; exact Nat.le_of_eq rfl) (hb hby d18_0) (fun _ _ => ⟨rfl, e0, (by decide : 0 + 1 ≤ _), (by decide : 0 + 4 ≤ _)⟩)
  dsimp only [Pt.U, Pt.locs, Pt.cells, Pt.slots] at X1 l1 y1 z1 st1 hQ1
  subst l1 y1 z1
  obtain ⟨r_1, rfl, Nq1, K1, fr1_r, u1_0, u1_1⟩ := hQ1
  obtain ⟨lc1, Xh1, N1⟩ := own_hide X1 (Fr.app N0 Nq1)
  clear X1
  refine Go.via st1 ?_
  have g2 : n0 ≤ r_1 := Nat.le_trans Z0 fr1_r
  have sz3 : h0.size ≤ r_1 := Nat.le_trans K0.1 fr1_r
  have Z4 : n0 ≤ T1.heap.size := Nat.le_trans Z0 K1.1
  have K5 : Keep h0 T1.heap [] := K0.trans K1 own_all0
  have O6 : Old Z n0 T1.heap := O0.keep K1 own_all0
  show Go p.tables e below P T1 (mkF m 3 #[.val .null, .unset, .unset, .unset, .unset] [(.ref r_1)])
  refine Go.via (fun t k => XS.astoreN Xh1.here hx rfl (hb hby d18_3) rfl rfl (l' := #[.val .null, .val (.ref r_1), .unset, .unset, .unset]) rfl k) ?_
  refine Go.via (fun t k => XS.aloadN Xh1.here hx rfl (hb hby d18_4) rfl rfl k) ?_
  show Go p.tables e below P T1 (mkF m 5 #[.val .null, .val (.ref r_1), .unset, .unset, .unset] [(.ref r_1)])
  obtain ⟨c7, A7, -, S7, N7, -, -⟩ := id u1_0
  refine Go.via (fun t k => Xh1.arraylength hx (by exact A7.1) (State.isArrayOf_alike hZ.alike A7.2.1) (g := (mkF m 5 #[.val .null, .val (.ref r_1), .unset, .unset, .unset] [(.ref r_1)])) rfl rfl (hb hby d18_5) t (by rw [len_of S7 N7]; exact k)) ?_
  show Go p.tables e below P T1 (mkF m 6 #[.val .null, .val (.ref r_1), .unset, .unset, .unset] [(.int (4 : Int32))])
  refine Go.via (fun t k => XS.istoreN Xh1.here hx rfl (hb hby d18_6) rfl (l' := #[.val .null, .val (.ref r_1), .val (.int (4 : Int32)), .unset, .unset]) rfl k) ?_
  refine Go.via (fun t k => XS.iconst Xh1.here hx rfl (hb hby d18_7) k) ?_
  refine Go.via (fun t k => XS.istoreN Xh1.here hx rfl (hb hby d18_8) rfl (l' := #[.val .null, .val (.ref r_1), .val (.int (4 : Int32)), .val (.int (0 : Int32)), .unset]) rfl k) ?_
  show Go p.tables e below P T1 (mkF m 9 #[.val .null, .val (.ref r_1), .val (.int (4 : Int32)), .val (.int (0 : Int32)), .unset] [])
  refine Go.via (fun t k => XS.iloadN Xh1.here hx rfl (hb hby d18_9) rfl k) ?_
  refine Go.via (fun t k => XS.iloadN Xh1.here hx rfl (hb hby d18_10) rfl k) ?_
  show Go p.tables e below P T1 (mkF m 11 #[.val .null, .val (.ref r_1), .val (.int (4 : Int32)), .val (.int (0 : Int32)), .unset] [(.int (4 : Int32)), (.int (0 : Int32))])
  refine Go.via (fun t k => XS.icmpNo Xh1.here hx rfl (hb hby d18_11) rfl (tlt (by decide : (0 : Int32) < (4 : Int32))).2.1 k) ?_
  show Go p.tables e below P T1 (mkF m 14 #[.val .null, .val (.ref r_1), .val (.int (4 : Int32)), .val (.int (0 : Int32)), .unset] [])
  refine Go.via (fun t k => XS.aloadN Xh1.here hx rfl (hb hby d18_14) rfl rfl k) ?_
  refine Go.via (fun t k => XS.iloadN Xh1.here hx rfl (hb hby d18_15) rfl k) ?_
  show Go p.tables e below P T1 (mkF m 16 #[.val .null, .val (.ref r_1), .val (.int (4 : Int32)), .val (.int (0 : Int32)), .unset] [(.int (0 : Int32)), (.ref r_1)])
  obtain ⟨c8, A8, q8, S8, N8, H8, G8⟩ := id u1_0
  have hin8 : ¬ ((0 : Int32) < 0 ∨ c8.slots.size ≤ ((0 : Int32)).toNatClampNeg) := inb_of S8 ⟨by decide, by decide⟩
  have hat8 : c8.slots[((0 : Int32)).toNatClampNeg]? = some (.ref aF) := (H8 _ (Nat.lt_of_not_le fun q => hin8 (Or.inr q))).trans (congrArg some rfl)
  refine Go.via (fun t k => Xh1.aaload hx (j := (0 : Int32)) (v := (.ref aF)) (by exact A8.1) (State.isArrayOf_alike hZ.alike A8.2.1) rfl A8.2.2 hin8 hat8 (g := (mkF m 16 #[.val .null, .val (.ref r_1), .val (.int (4 : Int32)), .val (.int (0 : Int32)), .unset] [(.int (0 : Int32)), (.ref r_1)])) rfl rfl (hb hby d18_16) t k) ?_
  show Go p.tables e below P T1 (mkF m 17 #[.val .null, .val (.ref r_1), .val (.int (4 : Int32)), .val (.int (0 : Int32)), .unset] [(.ref aF)])
  refine Go.via (fun t k => XS.astore Xh1.here hx rfl (hb hby d18_17) rfl rfl (l' := #[.val .null, .val (.ref r_1), .val (.int (4 : Int32)), .val (.int (0 : Int32)), .val (.ref aF)]) rfl k) ?_
  refine Go.via (fun t k => XS.aload Xh1.here hx rfl (hb hby d18_19) rfl rfl k) ?_
  show Go p.tables e below P T1 (mkF m 21 #[.val .null, .val (.ref r_1), .val (.int (4 : Int32)), .val (.int (0 : Int32)), .val (.ref aF)] [(.ref aF)])
  obtain ⟨T9, X9, e9, st9⟩ := getF Xh1 hx hZ hown (host := "") (Or.inl (hw _ (List.mem_of_getElem? (i := 106) rfl))) Via.refl rfl (P5.ext O6.2) (g := (mkF m 21 #[.val .null, .val (.ref r_1), .val (.int (4 : Int32)), .val (.int (0 : Int32)), .val (.ref aF)] [(.ref aF)])) rfl rfl (hb hby d18_21)
  refine Go.via st9 ?_
  show Go p.tables e below P T9 (mkF m 24 #[.val .null, .val (.ref r_1), .val (.int (4 : Int32)), .val (.int (0 : Int32)), .val (.ref aF)] [(.ref sF)])
  refine Go.via (fun t k => XS.aloadN X9.here hx rfl (hb hby d18_24) rfl rfl k) ?_
  show Go p.tables e below P T9 (mkF m 25 #[.val .null, .val (.ref r_1), .val (.int (4 : Int32)), .val (.int (0 : Int32)), .val (.ref aF)] [.null, (.ref sF)])
  obtain ⟨cq10, kq10, q10a, q10b, q10c⟩ := isOf hZ e9 (P6.ext O6.2)
  obtain ⟨_, _, ⟨T10, L10, k10, n10⟩, -, X10, ⟨Lc10, hQ10, l10, y10, z10⟩, st10⟩ := X9.virtualBack hx (y := (⟨"java/lang/String", "equals", "(Ljava/lang/Object;)Z"⟩ : MethodName)) (z := (⟨"java/lang/String", "equals", "(Ljava/lang/Object;)Z"⟩ : MethodName)) hown (mvT hZ (hw _ (List.mem_of_getElem? (i := 108) rfl))) (mvT hZ (hw _ (List.mem_of_getElem? (i := 74) rfl))) (notFace_of_selects (args := #[]) (mvT hZ (hw _ (List.mem_of_getElem? (i := 76) rfl)))) (mvT hZ (hw _ (List.mem_of_getElem? (i := 76) rfl))) (mvT hZ (hw _ (List.mem_of_getElem? (i := 75) rfl))) (by decide) (backOf (W := 0) (rm16n l Z a0 hw [] sF T1.heap n0 Z4 ) hZ (hw _ (List.mem_of_getElem? (i := 77) rfl)) (hw _ (List.mem_of_getElem? (i := 1) rfl)) (by decide) (by decide)) q10a q10c (g := (mkF m 25 #[.val .null, .val (.ref r_1), .val (.int (4 : Int32)), .val (.int (0 : Int32)), .val (.ref aF)] [.null, (.ref sF)])) rfl (by rw [hml]; rfl) (Steps.refl _) (argsL := [.null]) (rest := []) (lenOf own_pd11 rfl) rfl (by show 2 * 0 + _ ≤ _; exact Nat.le_of_eq rfl) (hb hby d18_25) (fun _ _ => ⟨rfl, e9, (by decide : 1 + 0 ≤ _), (by decide : 4 + 0 ≤ _)⟩)
  dsimp only [Pt.U, Pt.locs, Pt.cells, Pt.slots] at X10 l10 y10 z10 st10 hQ10
  subst l10 y10 z10
  obtain ⟨rfl, Nq10, hh10⟩ := hQ10
  obtain ⟨lc10, Xh10, N10⟩ := own_hide X10 (Fr.app N1 Nq10)
  clear X10
  refine Go.hop st10 ?_
  show Go p.tables e below P T10 (mkF m 28 #[.val .null, .val (.ref r_1), .val (.int (4 : Int32)), .val (.int (0 : Int32)), .val (.ref aF)] [(.int (0 : Int32))])
  refine Go.via (fun t k => XS.ifYes Xh10.here hx rfl (pc0 := 28) (pc' := 34) rfl (hb hby d18_28) rfl ((if0 _ _).trans (teq (rfl : (0 : Int32) = (0 : Int32))).1) (by decide) (by decide) k) ?_
  show Go p.tables e below P T10 (mkF m 34 #[.val .null, .val (.ref r_1), .val (.int (4 : Int32)), .val (.int (0 : Int32)), .val (.ref aF)] [])
  refine Go.via (fun t k => XS.iinc Xh10.here hx rfl (hb hby d18_34) rfl (l' := #[.val .null, .val (.ref r_1), .val (.int (4 : Int32)), .val (.int ((0 : Int32) + (1 : Int32))), .val (.ref aF)]) rfl k) ?_
  show Go p.tables e below P T10 (mkF m 37 #[.val .null, .val (.ref r_1), .val (.int (4 : Int32)), .val (.int ((0 : Int32) + (1 : Int32))), .val (.ref aF)] [])
  refine Go.via (fun t k => XS.goto Xh10.here hx rfl (pc0 := 37) (pc' := 9) rfl (hb hby d18_37) (by decide) (by decide) k) ?_
  refine Go.via (fun t k => XS.iloadN Xh10.here hx rfl (hb hby d18_9) rfl k) ?_
  refine Go.via (fun t k => XS.iloadN Xh10.here hx rfl (hb hby d18_10) rfl k) ?_
  show Go p.tables e below P T10 (mkF m 11 #[.val .null, .val (.ref r_1), .val (.int (4 : Int32)), .val (.int ((0 : Int32) + (1 : Int32))), .val (.ref aF)] [(.int (4 : Int32)), (.int ((0 : Int32) + (1 : Int32)))])
  refine Go.via (fun t k => XS.icmpNo Xh10.here hx rfl (hb hby d18_11) rfl (tlt (by decide : ((0 : Int32) + (1 : Int32)) < (4 : Int32))).2.1 k) ?_
  show Go p.tables e below P T10 (mkF m 14 #[.val .null, .val (.ref r_1), .val (.int (4 : Int32)), .val (.int ((0 : Int32) + (1 : Int32))), .val (.ref aF)] [])
  refine Go.via (fun t k => XS.aloadN Xh10.here hx rfl (hb hby d18_14) rfl rfl k) ?_
  refine Go.via (fun t k => XS.iloadN Xh10.here hx rfl (hb hby d18_15) rfl k) ?_
  show Go p.tables e below P T10 (mkF m 16 #[.val .null, .val (.ref r_1), .val (.int (4 : Int32)), .val (.int ((0 : Int32) + (1 : Int32))), .val (.ref aF)] [(.int ((0 : Int32) + (1 : Int32))), (.ref r_1)])
  obtain ⟨c11, A11, q11, S11, N11, H11, G11⟩ := id u1_0
  have hin11 : ¬ (((0 : Int32) + (1 : Int32)) < 0 ∨ c11.slots.size ≤ (((0 : Int32) + (1 : Int32))).toNatClampNeg) := inb_of S11 ⟨by decide, by decide⟩
  have hat11 : c11.slots[(((0 : Int32) + (1 : Int32))).toNatClampNeg]? = some (.ref aC) := (H11 _ (Nat.lt_of_not_le fun q => hin11 (Or.inr q))).trans (congrArg some rfl)
  refine Go.via (fun t k => Xh10.aaload hx (j := ((0 : Int32) + (1 : Int32))) (v := (.ref aC)) (by rw [hh10]; exact A11.1) (State.isArrayOf_alike hZ.alike A11.2.1) rfl A11.2.2 hin11 hat11 (g := (mkF m 16 #[.val .null, .val (.ref r_1), .val (.int (4 : Int32)), .val (.int ((0 : Int32) + (1 : Int32))), .val (.ref aF)] [(.int ((0 : Int32) + (1 : Int32))), (.ref r_1)])) rfl rfl (hb hby d18_16) t k) ?_
  show Go p.tables e below P T10 (mkF m 17 #[.val .null, .val (.ref r_1), .val (.int (4 : Int32)), .val (.int ((0 : Int32) + (1 : Int32))), .val (.ref aF)] [(.ref aC)])
  refine Go.via (fun t k => XS.astore Xh10.here hx rfl (hb hby d18_17) rfl rfl (l' := #[.val .null, .val (.ref r_1), .val (.int (4 : Int32)), .val (.int ((0 : Int32) + (1 : Int32))), .val (.ref aC)]) rfl k) ?_
  refine Go.via (fun t k => XS.aload Xh10.here hx rfl (hb hby d18_19) rfl rfl k) ?_
  show Go p.tables e below P T10 (mkF m 21 #[.val .null, .val (.ref r_1), .val (.int (4 : Int32)), .val (.int ((0 : Int32) + (1 : Int32))), .val (.ref aC)] [(.ref aC)])
  obtain ⟨T12, X12, e12, st12⟩ := getF Xh10 hx hZ hown (host := "") (Or.inl (hw _ (List.mem_of_getElem? (i := 106) rfl))) Via.refl hh10 (P11.ext O6.2) (g := (mkF m 21 #[.val .null, .val (.ref r_1), .val (.int (4 : Int32)), .val (.int ((0 : Int32) + (1 : Int32))), .val (.ref aC)] [(.ref aC)])) rfl rfl (hb hby d18_21)
  refine Go.via st12 ?_
  show Go p.tables e below P T12 (mkF m 24 #[.val .null, .val (.ref r_1), .val (.int (4 : Int32)), .val (.int ((0 : Int32) + (1 : Int32))), .val (.ref aC)] [(.ref sC)])
  refine Go.via (fun t k => XS.aloadN X12.here hx rfl (hb hby d18_24) rfl rfl k) ?_
  show Go p.tables e below P T12 (mkF m 25 #[.val .null, .val (.ref r_1), .val (.int (4 : Int32)), .val (.int ((0 : Int32) + (1 : Int32))), .val (.ref aC)] [.null, (.ref sC)])
  obtain ⟨cq13, kq13, q13a, q13b, q13c⟩ := isOf hZ e12 (P12.ext O6.2)
  obtain ⟨_, _, ⟨T13, L13, k13, n13⟩, -, X13, ⟨Lc13, hQ13, l13, y13, z13⟩, st13⟩ := X12.virtualBack hx (y := (⟨"java/lang/String", "equals", "(Ljava/lang/Object;)Z"⟩ : MethodName)) (z := (⟨"java/lang/String", "equals", "(Ljava/lang/Object;)Z"⟩ : MethodName)) hown (mvT hZ (hw _ (List.mem_of_getElem? (i := 108) rfl))) (mvT hZ (hw _ (List.mem_of_getElem? (i := 74) rfl))) (notFace_of_selects (args := #[]) (mvT hZ (hw _ (List.mem_of_getElem? (i := 76) rfl)))) (mvT hZ (hw _ (List.mem_of_getElem? (i := 76) rfl))) (mvT hZ (hw _ (List.mem_of_getElem? (i := 75) rfl))) (by decide) (backOf (W := 0) (rm16n l Z a0 hw [] sC T1.heap n0 Z4 ) hZ (hw _ (List.mem_of_getElem? (i := 77) rfl)) (hw _ (List.mem_of_getElem? (i := 1) rfl)) (by decide) (by decide)) q13a q13c (g := (mkF m 25 #[.val .null, .val (.ref r_1), .val (.int (4 : Int32)), .val (.int ((0 : Int32) + (1 : Int32))), .val (.ref aC)] [.null, (.ref sC)])) rfl (by rw [hml]; rfl) (Steps.refl _) (argsL := [.null]) (rest := []) (lenOf own_pd11 rfl) rfl (by show 2 * 0 + _ ≤ _; exact Nat.le_of_eq rfl) (hb hby d18_25) (fun _ _ => ⟨rfl, e12, (by decide : 1 + 0 ≤ _), (by decide : 4 + 0 ≤ _)⟩)
  dsimp only [Pt.U, Pt.locs, Pt.cells, Pt.slots] at X13 l13 y13 z13 st13 hQ13
  subst l13 y13 z13
  obtain ⟨rfl, Nq13, hh13⟩ := hQ13
  obtain ⟨lc13, Xh13, N13⟩ := own_hide X13 (Fr.app N10 Nq13)
  clear X13
  refine Go.hop st13 ?_
  show Go p.tables e below P T13 (mkF m 28 #[.val .null, .val (.ref r_1), .val (.int (4 : Int32)), .val (.int ((0 : Int32) + (1 : Int32))), .val (.ref aC)] [(.int (0 : Int32))])
  refine Go.via (fun t k => XS.ifYes Xh13.here hx rfl (pc0 := 28) (pc' := 34) rfl (hb hby d18_28) rfl ((if0 _ _).trans (teq (rfl : (0 : Int32) = (0 : Int32))).1) (by decide) (by decide) k) ?_
  show Go p.tables e below P T13 (mkF m 34 #[.val .null, .val (.ref r_1), .val (.int (4 : Int32)), .val (.int ((0 : Int32) + (1 : Int32))), .val (.ref aC)] [])
  refine Go.via (fun t k => XS.iinc Xh13.here hx rfl (hb hby d18_34) rfl (l' := #[.val .null, .val (.ref r_1), .val (.int (4 : Int32)), .val (.int (((0 : Int32) + (1 : Int32)) + (1 : Int32))), .val (.ref aC)]) rfl k) ?_
  show Go p.tables e below P T13 (mkF m 37 #[.val .null, .val (.ref r_1), .val (.int (4 : Int32)), .val (.int (((0 : Int32) + (1 : Int32)) + (1 : Int32))), .val (.ref aC)] [])
  refine Go.via (fun t k => XS.goto Xh13.here hx rfl (pc0 := 37) (pc' := 9) rfl (hb hby d18_37) (by decide) (by decide) k) ?_
  refine Go.via (fun t k => XS.iloadN Xh13.here hx rfl (hb hby d18_9) rfl k) ?_
  refine Go.via (fun t k => XS.iloadN Xh13.here hx rfl (hb hby d18_10) rfl k) ?_
  show Go p.tables e below P T13 (mkF m 11 #[.val .null, .val (.ref r_1), .val (.int (4 : Int32)), .val (.int (((0 : Int32) + (1 : Int32)) + (1 : Int32))), .val (.ref aC)] [(.int (4 : Int32)), (.int (((0 : Int32) + (1 : Int32)) + (1 : Int32)))])
  refine Go.via (fun t k => XS.icmpNo Xh13.here hx rfl (hb hby d18_11) rfl (tlt (by decide : (((0 : Int32) + (1 : Int32)) + (1 : Int32)) < (4 : Int32))).2.1 k) ?_
  show Go p.tables e below P T13 (mkF m 14 #[.val .null, .val (.ref r_1), .val (.int (4 : Int32)), .val (.int (((0 : Int32) + (1 : Int32)) + (1 : Int32))), .val (.ref aC)] [])
  refine Go.via (fun t k => XS.aloadN Xh13.here hx rfl (hb hby d18_14) rfl rfl k) ?_
  refine Go.via (fun t k => XS.iloadN Xh13.here hx rfl (hb hby d18_15) rfl k) ?_
  show Go p.tables e below P T13 (mkF m 16 #[.val .null, .val (.ref r_1), .val (.int (4 : Int32)), .val (.int (((0 : Int32) + (1 : Int32)) + (1 : Int32))), .val (.ref aC)] [(.int (((0 : Int32) + (1 : Int32)) + (1 : Int32))), (.ref r_1)])
  obtain ⟨c14, A14, q14, S14, N14, H14, G14⟩ := id u1_0
  have hin14 : ¬ ((((0 : Int32) + (1 : Int32)) + (1 : Int32)) < 0 ∨ c14.slots.size ≤ ((((0 : Int32) + (1 : Int32)) + (1 : Int32))).toNatClampNeg) := inb_of S14 ⟨by decide, by decide⟩
  have hat14 : c14.slots[((((0 : Int32) + (1 : Int32)) + (1 : Int32))).toNatClampNeg]? = some (.ref aS) := (H14 _ (Nat.lt_of_not_le fun q => hin14 (Or.inr q))).trans (congrArg some rfl)
  refine Go.via (fun t k => Xh13.aaload hx (j := (((0 : Int32) + (1 : Int32)) + (1 : Int32))) (v := (.ref aS)) (by rw [hh13]; exact A14.1) (State.isArrayOf_alike hZ.alike A14.2.1) rfl A14.2.2 hin14 hat14 (g := (mkF m 16 #[.val .null, .val (.ref r_1), .val (.int (4 : Int32)), .val (.int (((0 : Int32) + (1 : Int32)) + (1 : Int32))), .val (.ref aC)] [(.int (((0 : Int32) + (1 : Int32)) + (1 : Int32))), (.ref r_1)])) rfl rfl (hb hby d18_16) t k) ?_
  show Go p.tables e below P T13 (mkF m 17 #[.val .null, .val (.ref r_1), .val (.int (4 : Int32)), .val (.int (((0 : Int32) + (1 : Int32)) + (1 : Int32))), .val (.ref aC)] [(.ref aS)])
  refine Go.via (fun t k => XS.astore Xh13.here hx rfl (hb hby d18_17) rfl rfl (l' := #[.val .null, .val (.ref r_1), .val (.int (4 : Int32)), .val (.int (((0 : Int32) + (1 : Int32)) + (1 : Int32))), .val (.ref aS)]) rfl k) ?_
  refine Go.via (fun t k => XS.aload Xh13.here hx rfl (hb hby d18_19) rfl rfl k) ?_
  show Go p.tables e below P T13 (mkF m 21 #[.val .null, .val (.ref r_1), .val (.int (4 : Int32)), .val (.int (((0 : Int32) + (1 : Int32)) + (1 : Int32))), .val (.ref aS)] [(.ref aS)])
  obtain ⟨T15, X15, e15, st15⟩ := getF Xh13 hx hZ hown (host := "") (Or.inl (hw _ (List.mem_of_getElem? (i := 106) rfl))) Via.refl hh13 (P17.ext O6.2) (g := (mkF m 21 #[.val .null, .val (.ref r_1), .val (.int (4 : Int32)), .val (.int (((0 : Int32) + (1 : Int32)) + (1 : Int32))), .val (.ref aS)] [(.ref aS)])) rfl rfl (hb hby d18_21)
  refine Go.via st15 ?_
  show Go p.tables e below P T15 (mkF m 24 #[.val .null, .val (.ref r_1), .val (.int (4 : Int32)), .val (.int (((0 : Int32) + (1 : Int32)) + (1 : Int32))), .val (.ref aS)] [(.ref sS)])
  refine Go.via (fun t k => XS.aloadN X15.here hx rfl (hb hby d18_24) rfl rfl k) ?_
  show Go p.tables e below P T15 (mkF m 25 #[.val .null, .val (.ref r_1), .val (.int (4 : Int32)), .val (.int (((0 : Int32) + (1 : Int32)) + (1 : Int32))), .val (.ref aS)] [.null, (.ref sS)])
  obtain ⟨cq16, kq16, q16a, q16b, q16c⟩ := isOf hZ e15 (P18.ext O6.2)
  obtain ⟨_, _, ⟨T16, L16, k16, n16⟩, -, X16, ⟨Lc16, hQ16, l16, y16, z16⟩, st16⟩ := X15.virtualBack hx (y := (⟨"java/lang/String", "equals", "(Ljava/lang/Object;)Z"⟩ : MethodName)) (z := (⟨"java/lang/String", "equals", "(Ljava/lang/Object;)Z"⟩ : MethodName)) hown (mvT hZ (hw _ (List.mem_of_getElem? (i := 108) rfl))) (mvT hZ (hw _ (List.mem_of_getElem? (i := 74) rfl))) (notFace_of_selects (args := #[]) (mvT hZ (hw _ (List.mem_of_getElem? (i := 76) rfl)))) (mvT hZ (hw _ (List.mem_of_getElem? (i := 76) rfl))) (mvT hZ (hw _ (List.mem_of_getElem? (i := 75) rfl))) (by decide) (backOf (W := 0) (rm16n l Z a0 hw [] sS T1.heap n0 Z4 ) hZ (hw _ (List.mem_of_getElem? (i := 77) rfl)) (hw _ (List.mem_of_getElem? (i := 1) rfl)) (by decide) (by decide)) q16a q16c (g := (mkF m 25 #[.val .null, .val (.ref r_1), .val (.int (4 : Int32)), .val (.int (((0 : Int32) + (1 : Int32)) + (1 : Int32))), .val (.ref aS)] [.null, (.ref sS)])) rfl (by rw [hml]; rfl) (Steps.refl _) (argsL := [.null]) (rest := []) (lenOf own_pd11 rfl) rfl (by show 2 * 0 + _ ≤ _; exact Nat.le_of_eq rfl) (hb hby d18_25) (fun _ _ => ⟨rfl, e15, (by decide : 1 + 0 ≤ _), (by decide : 4 + 0 ≤ _)⟩)
  dsimp only [Pt.U, Pt.locs, Pt.cells, Pt.slots] at X16 l16 y16 z16 st16 hQ16
  subst l16 y16 z16
  obtain ⟨rfl, Nq16, hh16⟩ := hQ16
  obtain ⟨lc16, Xh16, N16⟩ := own_hide X16 (Fr.app N13 Nq16)
  clear X16
  refine Go.hop st16 ?_
  show Go p.tables e below P T16 (mkF m 28 #[.val .null, .val (.ref r_1), .val (.int (4 : Int32)), .val (.int (((0 : Int32) + (1 : Int32)) + (1 : Int32))), .val (.ref aS)] [(.int (0 : Int32))])
  refine Go.via (fun t k => XS.ifYes Xh16.here hx rfl (pc0 := 28) (pc' := 34) rfl (hb hby d18_28) rfl ((if0 _ _).trans (teq (rfl : (0 : Int32) = (0 : Int32))).1) (by decide) (by decide) k) ?_
  show Go p.tables e below P T16 (mkF m 34 #[.val .null, .val (.ref r_1), .val (.int (4 : Int32)), .val (.int (((0 : Int32) + (1 : Int32)) + (1 : Int32))), .val (.ref aS)] [])
  refine Go.via (fun t k => XS.iinc Xh16.here hx rfl (hb hby d18_34) rfl (l' := #[.val .null, .val (.ref r_1), .val (.int (4 : Int32)), .val (.int ((((0 : Int32) + (1 : Int32)) + (1 : Int32)) + (1 : Int32))), .val (.ref aS)]) rfl k) ?_
  show Go p.tables e below P T16 (mkF m 37 #[.val .null, .val (.ref r_1), .val (.int (4 : Int32)), .val (.int ((((0 : Int32) + (1 : Int32)) + (1 : Int32)) + (1 : Int32))), .val (.ref aS)] [])
  refine Go.via (fun t k => XS.goto Xh16.here hx rfl (pc0 := 37) (pc' := 9) rfl (hb hby d18_37) (by decide) (by decide) k) ?_
  refine Go.via (fun t k => XS.iloadN Xh16.here hx rfl (hb hby d18_9) rfl k) ?_
  refine Go.via (fun t k => XS.iloadN Xh16.here hx rfl (hb hby d18_10) rfl k) ?_
  show Go p.tables e below P T16 (mkF m 11 #[.val .null, .val (.ref r_1), .val (.int (4 : Int32)), .val (.int ((((0 : Int32) + (1 : Int32)) + (1 : Int32)) + (1 : Int32))), .val (.ref aS)] [(.int (4 : Int32)), (.int ((((0 : Int32) + (1 : Int32)) + (1 : Int32)) + (1 : Int32)))])
  refine Go.via (fun t k => XS.icmpNo Xh16.here hx rfl (hb hby d18_11) rfl (tlt (by decide : ((((0 : Int32) + (1 : Int32)) + (1 : Int32)) + (1 : Int32)) < (4 : Int32))).2.1 k) ?_
  show Go p.tables e below P T16 (mkF m 14 #[.val .null, .val (.ref r_1), .val (.int (4 : Int32)), .val (.int ((((0 : Int32) + (1 : Int32)) + (1 : Int32)) + (1 : Int32))), .val (.ref aS)] [])
  refine Go.via (fun t k => XS.aloadN Xh16.here hx rfl (hb hby d18_14) rfl rfl k) ?_
  refine Go.via (fun t k => XS.iloadN Xh16.here hx rfl (hb hby d18_15) rfl k) ?_
  show Go p.tables e below P T16 (mkF m 16 #[.val .null, .val (.ref r_1), .val (.int (4 : Int32)), .val (.int ((((0 : Int32) + (1 : Int32)) + (1 : Int32)) + (1 : Int32))), .val (.ref aS)] [(.int ((((0 : Int32) + (1 : Int32)) + (1 : Int32)) + (1 : Int32))), (.ref r_1)])
  obtain ⟨c17, A17, q17, S17, N17, H17, G17⟩ := id u1_0
  have hin17 : ¬ (((((0 : Int32) + (1 : Int32)) + (1 : Int32)) + (1 : Int32)) < 0 ∨ c17.slots.size ≤ (((((0 : Int32) + (1 : Int32)) + (1 : Int32)) + (1 : Int32))).toNatClampNeg) := inb_of S17 ⟨by decide, by decide⟩
  have hat17 : c17.slots[(((((0 : Int32) + (1 : Int32)) + (1 : Int32)) + (1 : Int32))).toNatClampNeg]? = some (.ref aD) := (H17 _ (Nat.lt_of_not_le fun q => hin17 (Or.inr q))).trans (congrArg some rfl)
  refine Go.via (fun t k => Xh16.aaload hx (j := ((((0 : Int32) + (1 : Int32)) + (1 : Int32)) + (1 : Int32))) (v := (.ref aD)) (by rw [hh16]; exact A17.1) (State.isArrayOf_alike hZ.alike A17.2.1) rfl A17.2.2 hin17 hat17 (g := (mkF m 16 #[.val .null, .val (.ref r_1), .val (.int (4 : Int32)), .val (.int ((((0 : Int32) + (1 : Int32)) + (1 : Int32)) + (1 : Int32))), .val (.ref aS)] [(.int ((((0 : Int32) + (1 : Int32)) + (1 : Int32)) + (1 : Int32))), (.ref r_1)])) rfl rfl (hb hby d18_16) t k) ?_
  show Go p.tables e below P T16 (mkF m 17 #[.val .null, .val (.ref r_1), .val (.int (4 : Int32)), .val (.int ((((0 : Int32) + (1 : Int32)) + (1 : Int32)) + (1 : Int32))), .val (.ref aS)] [(.ref aD)])
  refine Go.via (fun t k => XS.astore Xh16.here hx rfl (hb hby d18_17) rfl rfl (l' := #[.val .null, .val (.ref r_1), .val (.int (4 : Int32)), .val (.int ((((0 : Int32) + (1 : Int32)) + (1 : Int32)) + (1 : Int32))), .val (.ref aD)]) rfl k) ?_
  refine Go.via (fun t k => XS.aload Xh16.here hx rfl (hb hby d18_19) rfl rfl k) ?_
  show Go p.tables e below P T16 (mkF m 21 #[.val .null, .val (.ref r_1), .val (.int (4 : Int32)), .val (.int ((((0 : Int32) + (1 : Int32)) + (1 : Int32)) + (1 : Int32))), .val (.ref aD)] [(.ref aD)])
  obtain ⟨T18, X18, e18, st18⟩ := getF Xh16 hx hZ hown (host := "") (Or.inl (hw _ (List.mem_of_getElem? (i := 106) rfl))) Via.refl hh16 (P23.ext O6.2) (g := (mkF m 21 #[.val .null, .val (.ref r_1), .val (.int (4 : Int32)), .val (.int ((((0 : Int32) + (1 : Int32)) + (1 : Int32)) + (1 : Int32))), .val (.ref aD)] [(.ref aD)])) rfl rfl (hb hby d18_21)
  refine Go.via st18 ?_
  show Go p.tables e below P T18 (mkF m 24 #[.val .null, .val (.ref r_1), .val (.int (4 : Int32)), .val (.int ((((0 : Int32) + (1 : Int32)) + (1 : Int32)) + (1 : Int32))), .val (.ref aD)] [(.ref sD)])
  refine Go.via (fun t k => XS.aloadN X18.here hx rfl (hb hby d18_24) rfl rfl k) ?_
  show Go p.tables e below P T18 (mkF m 25 #[.val .null, .val (.ref r_1), .val (.int (4 : Int32)), .val (.int ((((0 : Int32) + (1 : Int32)) + (1 : Int32)) + (1 : Int32))), .val (.ref aD)] [.null, (.ref sD)])
  obtain ⟨cq19, kq19, q19a, q19b, q19c⟩ := isOf hZ e18 (P24.ext O6.2)
  obtain ⟨_, _, ⟨T19, L19, k19, n19⟩, -, X19, ⟨Lc19, hQ19, l19, y19, z19⟩, st19⟩ := X18.virtualBack hx (y := (⟨"java/lang/String", "equals", "(Ljava/lang/Object;)Z"⟩ : MethodName)) (z := (⟨"java/lang/String", "equals", "(Ljava/lang/Object;)Z"⟩ : MethodName)) hown (mvT hZ (hw _ (List.mem_of_getElem? (i := 108) rfl))) (mvT hZ (hw _ (List.mem_of_getElem? (i := 74) rfl))) (notFace_of_selects (args := #[]) (mvT hZ (hw _ (List.mem_of_getElem? (i := 76) rfl)))) (mvT hZ (hw _ (List.mem_of_getElem? (i := 76) rfl))) (mvT hZ (hw _ (List.mem_of_getElem? (i := 75) rfl))) (by decide) (backOf (W := 0) (rm16n l Z a0 hw [] sD T1.heap n0 Z4 ) hZ (hw _ (List.mem_of_getElem? (i := 77) rfl)) (hw _ (List.mem_of_getElem? (i := 1) rfl)) (by decide) (by decide)) q19a q19c (g := (mkF m 25 #[.val .null, .val (.ref r_1), .val (.int (4 : Int32)), .val (.int ((((0 : Int32) + (1 : Int32)) + (1 : Int32)) + (1 : Int32))), .val (.ref aD)] [.null, (.ref sD)])) rfl (by rw [hml]; rfl) (Steps.refl _) (argsL := [.null]) (rest := []) (lenOf own_pd11 rfl) rfl (by show 2 * 0 + _ ≤ _; exact Nat.le_of_eq rfl) (hb hby d18_25) (fun _ _ => ⟨rfl, e18, (by decide : 1 + 0 ≤ _), (by decide : 4 + 0 ≤ _)⟩)
  dsimp only [Pt.U, Pt.locs, Pt.cells, Pt.slots] at X19 l19 y19 z19 st19 hQ19
  subst l19 y19 z19
  obtain ⟨rfl, Nq19, hh19⟩ := hQ19
  obtain ⟨lc19, Xh19, N19⟩ := own_hide X19 (Fr.app N16 Nq19)
  clear X19
  refine Go.hop st19 ?_
  show Go p.tables e below P T19 (mkF m 28 #[.val .null, .val (.ref r_1), .val (.int (4 : Int32)), .val (.int ((((0 : Int32) + (1 : Int32)) + (1 : Int32)) + (1 : Int32))), .val (.ref aD)] [(.int (0 : Int32))])
  refine Go.via (fun t k => XS.ifYes Xh19.here hx rfl (pc0 := 28) (pc' := 34) rfl (hb hby d18_28) rfl ((if0 _ _).trans (teq (rfl : (0 : Int32) = (0 : Int32))).1) (by decide) (by decide) k) ?_
  show Go p.tables e below P T19 (mkF m 34 #[.val .null, .val (.ref r_1), .val (.int (4 : Int32)), .val (.int ((((0 : Int32) + (1 : Int32)) + (1 : Int32)) + (1 : Int32))), .val (.ref aD)] [])
  refine Go.via (fun t k => XS.iinc Xh19.here hx rfl (hb hby d18_34) rfl (l' := #[.val .null, .val (.ref r_1), .val (.int (4 : Int32)), .val (.int (((((0 : Int32) + (1 : Int32)) + (1 : Int32)) + (1 : Int32)) + (1 : Int32))), .val (.ref aD)]) rfl k) ?_
  show Go p.tables e below P T19 (mkF m 37 #[.val .null, .val (.ref r_1), .val (.int (4 : Int32)), .val (.int (((((0 : Int32) + (1 : Int32)) + (1 : Int32)) + (1 : Int32)) + (1 : Int32))), .val (.ref aD)] [])
  refine Go.via (fun t k => XS.goto Xh19.here hx rfl (pc0 := 37) (pc' := 9) rfl (hb hby d18_37) (by decide) (by decide) k) ?_
  refine Go.via (fun t k => XS.iloadN Xh19.here hx rfl (hb hby d18_9) rfl k) ?_
  refine Go.via (fun t k => XS.iloadN Xh19.here hx rfl (hb hby d18_10) rfl k) ?_
  show Go p.tables e below P T19 (mkF m 11 #[.val .null, .val (.ref r_1), .val (.int (4 : Int32)), .val (.int (((((0 : Int32) + (1 : Int32)) + (1 : Int32)) + (1 : Int32)) + (1 : Int32))), .val (.ref aD)] [(.int (4 : Int32)), (.int (((((0 : Int32) + (1 : Int32)) + (1 : Int32)) + (1 : Int32)) + (1 : Int32)))])
  refine Go.via (fun t k => XS.icmpYes Xh19.here hx rfl (pc0 := 11) (pc' := 40) rfl (hb hby d18_11) rfl (flt (by decide : ¬ ((((((0 : Int32) + (1 : Int32)) + (1 : Int32)) + (1 : Int32)) + (1 : Int32)) < (4 : Int32)))).2.1 (by decide) (by decide) k) ?_
  show Go p.tables e below P T19 (mkF m 40 #[.val .null, .val (.ref r_1), .val (.int (4 : Int32)), .val (.int (((((0 : Int32) + (1 : Int32)) + (1 : Int32)) + (1 : Int32)) + (1 : Int32))), .val (.ref aD)] [])
  refine Go.via (fun t k => XS.aconstNull Xh19.here hx rfl (hb hby d18_40) k) ?_
  show Go p.tables e below P T19 (mkF m 41 #[.val .null, .val (.ref r_1), .val (.int (4 : Int32)), .val (.int (((((0 : Int32) + (1 : Int32)) + (1 : Int32)) + (1 : Int32)) + (1 : Int32))), .val (.ref aD)] [.null])
  obtain ⟨fs, hr, hrun, hended, hW, hsame⟩ := Xh19.leave (v := some .null) (fun h => by rw [Bd.returns] at h; cases h)
  refine ⟨_, _, retA Xh19 hx Bd.returns rfl rfl rfl (hb hby d18_41) hr, hrun, hended, hP _ _ ⟨_, _, rfl, ?_, ⟨_, rfl⟩, hW, hsame.mono (by decide) (by decide)⟩⟩
  show Q18vnull Z va kva aF sF tF kF aC sC tC kC aS sS tS kS aD sD tD kD h0 n0 _ T19.heap _
  rw [hh19]
  exact ⟨rfl, N19, K5⟩
theorem own_pd12 : parseMethodDescriptor "([CI)Ljava/lang/String;" = some ⟨[(.array .char), .int], some (.object "java/lang/String")⟩ := by decide +kernel
theorem own_pd13 : parseMethodDescriptor "(Ljava/lang/String;)Lcom/example/tri3/tri3/StageKind;" = some ⟨[(.object "java/lang/String")], some (.object "com/example/tri3/tri3/StageKind")⟩ := by decide +kernel
theorem own_pd14 : parseMethodDescriptor "(Ljava/lang/String;IJ)C" = some ⟨[(.object "java/lang/String"), .int, .long], some .char⟩ := by decide +kernel
theorem ef_0 (m : MethodId) (x0 : Int32) (x1 : Int32) (x2 : Int32) (x3 : Int64) : entryFrame m #[(.int x0), (.int x1), (.int x2), (.long x3)] maxLocals = mkF m 0 #[.val (.int x0), .val (.int x1), .val (.int x2), .val (.long x3), .second, .unset, .unset, .unset, .unset, .unset, .unset] [] := by first | (simp [entryFrame, mkF, argsToLocals, Value.category, maxLocals]; done) | rfl
def Q0 (Z : State) (p1 : Int32) (p2 : Int32) (p3 : Int32) (p4 : Int64) (cs : Int32) (fm : Value) (va : Addr) (kva : ClassId) (aF : Addr) (sF : Addr) (tF : Addr) (kF : ClassId) (aC : Addr) (sC : Addr) (tC : Addr) (kC : ClassId) (aS : Addr) (sS : Addr) (tS : Addr) (kS : ClassId) (aD : Addr) (sD : Addr) (tD : Addr) (kD : ClassId) (h0 : Heap) (n0 : Nat) (v : Option Value) (h : Heap) (L : List Loc) : Prop := v = some (.int (1 : Int32)) ∧ Fr n0 L
set_option maxRecDepth 65536 in
set_option maxHeartbeats 40000000 in
theorem rm0 (l : Launch) (Z : State) (a0 : Array Value) (hw : ∀ d ∈ tables_1, d.before a0 Z = true) (ws : List Jvm.Cond) (p1 : Int32) (p2 : Int32) (p3 : Int32) (p4 : Int64) (cs : Int32) (fm : Value) (va : Addr) (kva : ClassId) (aF : Addr) (sF : Addr) (tF : Addr) (kF : ClassId) (aC : Addr) (sC : Addr) (tC : Addr) (kC : ClassId) (aS : Addr) (sS : Addr) (tS : Addr) (kS : ClassId) (aD : Addr) (sD : Addr) (tD : Addr) (kD : ClassId) (h0 : Heap) (n0 : Nat) (Z0 : n0 ≤ h0.size) (O0 : Old Z n0 h0) (P1 : Sta Z Z.heap "java/lang/String" "COMPACT_STRINGS" "Z" (.int cs)) (hcs : ¬ cs = (0 : Int32)) (P3 : Sta Z Z.heap "jdk/internal/util/Preconditions" "SIOOBE_FORMATTER" "Ljava/util/function/BiFunction;" fm) (rfm : fm.isRef = true) (P5 : Sta Z Z.heap "com/example/tri3/tri3/StageKind" "$VALUES" "[Lcom/example/tri3/tri3/StageKind;" (.ref va)) (P6 : Arv Z Z.heap va kva (.object "com/example/tri3/tri3/StageKind") (4 : Int32) [(.ref aF), (.ref aC), (.ref aS), (.ref aD)] .null) (P7 : Exa Z Z.heap va "[Lcom/example/tri3/tri3/StageKind;") (P8 : Exa Z Z.heap aF "com/example/tri3/tri3/StageKind") (P9 : Fld Z Z.heap aF "com/example/tri3/tri3/StageKind" "fileName" "Ljava/lang/String;" (.ref sF)) (P10 : Exa Z Z.heap sF "java/lang/String") (P11 : Fld Z Z.heap sF "java/lang/String" "value" "[B" (.ref tF)) (P12 : Fld Z Z.heap sF "java/lang/String" "coder" "B" (.int (0 : Int32))) (P13 : Arv Z Z.heap tF kF .byte (own_lg ([(102 : Int32), (101 : Int32), (116 : Int32), (99 : Int32), (104 : Int32)] : List Int32)) (([(102 : Int32), (101 : Int32), (116 : Int32), (99 : Int32), (104 : Int32)] : List Int32).map Value.int) (.int (0 : Int32))) (P14 : Exa Z Z.heap aC "com/example/tri3/tri3/StageKind") (P15 : Fld Z Z.heap aC "com/example/tri3/tri3/StageKind" "fileName" "Ljava/lang/String;" (.ref sC)) (P16 : Exa Z Z.heap sC "java/lang/String") (P17 : Fld Z Z.heap sC "java/lang/String" "value" "[B" (.ref tC)) (P18 : Fld Z Z.heap sC "java/lang/String" "coder" "B" (.int (0 : Int32))) (P19 : Arv Z Z.heap tC kC .byte (own_lg ([(99 : Int32), (97 : Int32), (108 : Int32), (108 : Int32)] : List Int32)) (([(99 : Int32), (97 : Int32), (108 : Int32), (108 : Int32)] : List Int32).map Value.int) (.int (0 : Int32))) (P20 : Exa Z Z.heap aS "com/example/tri3/tri3/StageKind") (P21 : Fld Z Z.heap aS "com/example/tri3/tri3/StageKind" "fileName" "Ljava/lang/String;" (.ref sS)) (P22 : Exa Z Z.heap sS "java/lang/String") (P23 : Fld Z Z.heap sS "java/lang/String" "value" "[B" (.ref tS)) (P24 : Fld Z Z.heap sS "java/lang/String" "coder" "B" (.int (0 : Int32))) (P25 : Arv Z Z.heap tS kS .byte (own_lg ([(115 : Int32), (113 : Int32), (108 : Int32)] : List Int32)) (([(115 : Int32), (113 : Int32), (108 : Int32)] : List Int32).map Value.int) (.int (0 : Int32))) (P26 : Exa Z Z.heap aD "com/example/tri3/tri3/StageKind") (P27 : Fld Z Z.heap aD "com/example/tri3/tri3/StageKind" "fileName" "Ljava/lang/String;" (.ref sD)) (P28 : Exa Z Z.heap sD "java/lang/String") (P29 : Fld Z Z.heap sD "java/lang/String" "value" "[B" (.ref tD)) (P30 : Fld Z Z.heap sD "java/lang/String" "coder" "B" (.int (0 : Int32))) (P31 : Arv Z Z.heap tD kD .byte (own_lg ([(100 : Int32), (101 : Int32), (108 : Int32), (105 : Int32), (118 : Int32), (101 : Int32), (114 : Int32)] : List Int32)) (([(100 : Int32), (101 : Int32), (108 : Int32), (105 : Int32), (118 : Int32), (101 : Int32), (114 : Int32)] : List Int32).map Value.int) (.int (0 : Int32))) (P32 : Sta Z Z.heap "com/example/tri3/tri3/StageKind" "FETCH" "Lcom/example/tri3/tri3/StageKind;" (.ref aF)) (P33 : Sta Z Z.heap "com/example/tri3/tri3/StageKind" "CALL" "Lcom/example/tri3/tri3/StageKind;" (.ref aC)) (P34 : Sta Z Z.heap "com/example/tri3/tri3/StageKind" "SQL" "Lcom/example/tri3/tri3/StageKind;" (.ref aS)) (P35 : Sta Z Z.heap "com/example/tri3/tri3/StageKind" "DELIVER" "Lcom/example/tri3/tri3/StageKind;" (.ref aD)) :
    MetFree l x (head1 (Jvm.Cond.code x code maxLocals ret :: ws) room_1) (fun a U => a = #[(.int p1), (.int p2), (.int p3), (.long p4)] ∧ Z.Warmed39 U.vm ∧ U.heap = h0 ∧ CHv Z consts_1 U.vm h0) (fun _ _ _ _ _ => True) (fun _ U o U' => ∃ v L, o = .returned v ∧ Q0 Z p1 p2 p3 p4 cs fm va kva aF sF tF kF aC sC tC kC aS sS tS kS aD sD tD kD h0 n0 v U'.heap L ∧ CHr Z consts_1 U.vm U.heap U'.vm U'.heap ∧ ReturnedEndW U o U' L room_1.cells room_1.slots) := by
  refine MetFree.of_bodySF (plainFor_of_name own_pn3) hisR ?_
  intro p e s m args below meth c s₁ Bd hml0 hP hK
  obtain ⟨rfl, hZ, hh, hCH0⟩ := hP
  have hx := Bd.exec
  have hby := Bd.bytes
  have hml : c.maxLocals = 11 := hml0
  have hown : s.vm.findClass "com/example/tri3/tri3/StageKindNamedPinLaw" = some m.cls := findClass_of_methodNamed Bd.named
  have hnm := (name_of_methodNamed Bd.named Bd.method).1
  have X0 : Stand p l e room_1 s m #[(.int p1), (.int p2), (.int p3), (.long p4)] below meth c s₁ [] 0 0 := Stand.of_body Bd
  have X0 : Stand p l e room_1 (s.setVm s.vm) m #[(.int p1), (.int p2), (.int p3), (.long p4)] below meth c s₁ [] 0 0 := X0
  have hZ : Z.Warmed39 (s.setVm s.vm).vm := hZ
  have hown : (s.setVm s.vm).vm.findClass "com/example/tri3/tri3/StageKindNamedPinLaw" = some m.cls := hown
  have hS0 : s.Since s.vm 0 := State.WarmedH.since (State.WarmedH.refl s) 0
  have CR0 : CHr Z consts_1 s.vm h0 s.vm h0 := CHr.refl hCH0
  have e0 : s₁.heap = h0 := by rw [← hh, Bd.state]; rfl
  have N0 := Fr.nil n0
  have K0 : Keep h0 h0 [] := Keep.refl _ _
  suffices GO : ∀ P : Outcome → State → Prop, (∀ o U', (∃ v L, o = .returned v ∧ Q0 Z p1 p2 p3 p4 cs fm va kva aF sF tF kF aC sC tC kC aS sS tS kS aD sD tD kD h0 n0 v U'.heap L ∧ CHr Z consts_1 s.vm s.heap U'.vm U'.heap ∧ ReturnedEndW s o U' L room_1.cells room_1.slots) → P o U') → Go p.tables e below P s₁ (mkF m 0 #[.val (.int p1), .val (.int p2), .val (.int p3), .val (.long p4), .second, .unset, .unset, .unset, .unset, .unset, .unset] []) by
    obtain ⟨s2, o, st, r⟩ := GO _ (fun _ _ q => q)
    exact ⟨s2, o, castTop (ef_0 m p1 p2 p3 p4) st, r⟩
  intro P hP
  show Go p.tables e below P s₁ (mkF m 0 #[.val (.int p1), .val (.int p2), .val (.int p3), .val (.long p4), .second, .unset, .unset, .unset, .unset, .unset, .unset] [])
  refine Go.via (fun t k => XS.iloadN X0.here hx rfl (hb hby at_0) rfl k) ?_
  refine Go.via (fun t k => XS.bipush X0.here hx rfl (hb hby at_1) k) ?_
  refine Go.via (fun t k => XS.iand X0.here hx rfl (hb hby at_3) rfl k) ?_
  show Go p.tables e below P s₁ (mkF m 4 #[.val (.int p1), .val (.int p2), .val (.int p3), .val (.long p4), .second, .unset, .unset, .unset, .unset, .unset, .unset] [(.int (p1 &&& (7 : Int32)))])
  refine Go.via (fun t k => XS.istore X0.here hx rfl (hb hby at_4) rfl (l' := #[.val (.int p1), .val (.int p2), .val (.int p3), .val (.long p4), .second, .val (.int (p1 &&& (7 : Int32))), .unset, .unset, .unset, .unset, .unset]) rfl k) ?_
  show Go p.tables e below P s₁ (mkF m 6 #[.val (.int p1), .val (.int p2), .val (.int p3), .val (.long p4), .second, .val (.int (p1 &&& (7 : Int32))), .unset, .unset, .unset, .unset, .unset] [])
  refine Go.via (fun t k => XS.aconstNull X0.here hx rfl (hb hby at_6) k) ?_
  show Go p.tables e below P s₁ (mkF m 7 #[.val (.int p1), .val (.int p2), .val (.int p3), .val (.long p4), .second, .val (.int (p1 &&& (7 : Int32))), .unset, .unset, .unset, .unset, .unset] [.null])
  refine Go.via (fun t k => XS.astore X0.here hx rfl (hb hby at_7) rfl rfl (l' := #[.val (.int p1), .val (.int p2), .val (.int p3), .val (.long p4), .second, .val (.int (p1 &&& (7 : Int32))), .val .null, .unset, .unset, .unset, .unset]) rfl k) ?_
  show Go p.tables e below P s₁ (mkF m 9 #[.val (.int p1), .val (.int p2), .val (.int p3), .val (.long p4), .second, .val (.int (p1 &&& (7 : Int32))), .val .null, .unset, .unset, .unset, .unset] [])
  obtain ⟨kf, hkf⟩ : ∃ z, z = (p1 &&& (7 : Int32)) := ⟨_, rfl⟩
  rw [← hkf]
  have LP1 : ∀ (T1 : State) (locs1 : List Loc) (hp1 : Heap) (oc : Addr) (kc : ClassId) (cl : List Int32) (nn : Int32) (s1_6 : Slot) (s1_9 : Slot) (vm1 : Vm) (kn1 : Nat), Z.Warmed39 (s.setVm vm1).vm → (s.setVm vm1).vm.findClass "com/example/tri3/tri3/StageKindNamedPinLaw" = some m.cls → s.Since vm1 kn1 → kn1 ≤ hp1.size → CHr Z consts_1 s.vm h0 vm1 hp1 → Stand p l e room_1 (s.setVm vm1) m #[(.int p1), (.int p2), (.int p3), (.long p4)] below meth c T1 locs1 3 40 → T1.heap = hp1 → Fr n0 locs1 → n0 ≤ hp1.size → Keep h0 hp1 [] → Old Z n0 hp1 → Arv Z hp1 oc kc .char (8 : Int32) (cl.map Value.int) (.int (0 : Int32)) → (∀ j, own_by (cl.getD j 0)) → (s1_6 = .unset ∨ ∃ w, s1_6 = .val w ∧ w.category = 1) → (s1_9 = .unset ∨ ∃ w, s1_9 = .val w ∧ w.category = 1) → Go p.tables e below P T1 (mkF m 240 #[.val (.int p1), .val (.int p2), .val (.int p3), .val (.long p4), .second, .val (.int kf), s1_6, .unset, .val (.ref oc), s1_9, .val (.int nn)] []) := by
    intro T1 locs1 hp1 oc kc cl nn s1_6 s1_9 vm1 kn1 hZ hown hS1 hk1 CR1 X1 e1 N1 Z1 K1 O1 F1_0 hcl hos1_6 hos1_9
    show Go p.tables e below P T1 (mkF m 240 #[.val (.int p1), .val (.int p2), .val (.int p3), .val (.long p4), .second, .val (.int kf), s1_6, .unset, .val (.ref oc), s1_9, .val (.int nn)] [])
    refine Go.via (fun t k => XS.aload X1.here hx rfl (hb hby at_240) rfl rfl k) ?_
    refine Go.via (fun t k => XS.iload X1.here hx rfl (hb hby at_242) rfl k) ?_
    show Go p.tables e below P T1 (mkF m 244 #[.val (.int p1), .val (.int p2), .val (.int p3), .val (.long p4), .second, .val (.int kf), s1_6, .unset, .val (.ref oc), s1_9, .val (.int nn)] [(.int nn), (.ref oc)])
    obtain ⟨_, _, ⟨T2, L2, k2, n2⟩, -, X2, hSn2, hgn2, ⟨Lc2, hQ2, l2, y2, z2, hC2⟩, st2⟩ := callSS X1 hx (y := (⟨"com/example/tri3/tri3/StageKindNamedPinLaw", "make", "([CI)Ljava/lang/String;"⟩ : MethodName)) hown (mvT hZ (hw _ (List.mem_of_getElem? (i := 49) rfl))) (mvT hZ (hw _ (List.mem_of_getElem? (i := 50) rfl))) (mvT hZ (hw _ (List.mem_of_getElem? (i := 11) rfl))) (mvT hZ (hw _ (List.mem_of_getElem? (i := 51) rfl))) (by decide) (backOfSH (W := 0) (rm9 l Z a0 hw [] oc nn kc cl cs hp1 n0 Z1 O1 P1 (by first | assumption | decide | omega : ¬ cs = (0 : Int32)) F1_0 hcl) hZ (hw _ (List.mem_of_getElem? (i := 51) rfl)) (hw _ (List.mem_of_getElem? (i := 11) rfl)) (by decide) (by decide) (own_EW hw) CR1.1) (g := (mkF m 244 #[.val (.int p1), .val (.int p2), .val (.int p3), .val (.long p4), .second, .val (.int kf), s1_6, .unset, .val (.ref oc), s1_9, .val (.int nn)] [(.int nn), (.ref oc)])) rfl (by rw [hml]; rfl) (argsL := [(.ref oc), (.int nn)]) (rest := []) (lenOf own_pd12 rfl) rfl (by show 2 * 0 + _ ≤ _; exact Nat.le_of_eq rfl) (hb hby at_244) (fun _ _ => ⟨rfl, e1, (by decide : 3 + 6 ≤ _), (by decide : 40 + 20 ≤ _)⟩)
    dsimp only [Pt.U, Pt.locs, Pt.cells, Pt.slots] at X2 l2 y2 z2 st2 hQ2 hSn2 hgn2 hC2
    subst l2 y2 z2
    have hS2 : s.Since T2.vm T2.heap.size := foldS hS1 (by rw [e1]; exact hk1) hSn2 hgn2
    have X2 : Stand p l e room_1 (s.setVm T2.vm) m #[(.int p1), (.int p2), (.int p3), (.long p4)] below meth c T2 _ _ _ := X2
    have hown : (s.setVm T2.vm).vm.findClass "com/example/tri3/tri3/StageKindNamedPinLaw" = some m.cls := by rw [show (s.setVm T2.vm).vm = T2.vm from rfl, hSn2.1.alike.findClass]; exact hown
    have hZ : Z.Warmed39 (s.setVm T2.vm).vm := State.Warmed39.trans (t := s.setVm vm1) hZ hSn2.1
    obtain ⟨r_2, tb_2, kk_2, bl_2, rfl, Nq2, K2, fr2_r, u2_0, u2_1, u2_2, u2_3, u2_4, u2_5, u2_6⟩ := hQ2
    obtain ⟨lc2, Xh2, N2⟩ := own_hide X2 (Fr.app N1 Nq2)
    clear X2
    refine Go.hop st2 ?_
    have CR3 := CHr.trans CR1 hC2
    have ne4 : oc ≠ r_2 := Nat.ne_of_lt (Nat.lt_of_lt_of_le F1_0.lt fr2_r)
    have g5 : n0 ≤ r_2 := Nat.le_trans Z1 fr2_r
    have sz6 : h0.size ≤ r_2 := Nat.le_trans K1.1 fr2_r
    have Z7 : n0 ≤ T2.heap.size := Nat.le_trans Z1 K2.1
    have K8 : Keep h0 T2.heap [] := K1.trans K2 own_all0
    have O9 : Old Z n0 T2.heap := O1.keep K2 own_all0
    have hk10 : T2.heap.size ≤ T2.heap.size := Nat.le_refl _
    show Go p.tables e below P T2 (mkF m 247 #[.val (.int p1), .val (.int p2), .val (.int p3), .val (.long p4), .second, .val (.int kf), s1_6, .unset, .val (.ref oc), s1_9, .val (.int nn)] [(.ref r_2)])
    refine Go.via (fun t k => XS.astore Xh2.here hx rfl (hb hby at_247) rfl rfl (l' := #[.val (.int p1), .val (.int p2), .val (.int p3), .val (.long p4), .second, .val (.int kf), s1_6, .val (.ref r_2), .val (.ref oc), s1_9, .val (.int nn)]) rfl k) ?_
    refine Go.via (fun t k => XS.aload Xh2.here hx rfl (hb hby at_249) rfl rfl k) ?_
    show Go p.tables e below P T2 (mkF m 251 #[.val (.int p1), .val (.int p2), .val (.int p3), .val (.long p4), .second, .val (.int kf), s1_6, .val (.ref r_2), .val (.ref oc), s1_9, .val (.int nn)] [(.ref r_2)])
    refine Go.via (fun t k => XS.ifnonnullYes Xh2.here hx rfl (pc0 := 251) (pc' := 260) rfl (hb hby at_251) rfl (by decide) (by decide) k) ?_
    show Go p.tables e below P T2 (mkF m 260 #[.val (.int p1), .val (.int p2), .val (.int p3), .val (.long p4), .second, .val (.int kf), s1_6, .val (.ref r_2), .val (.ref oc), s1_9, .val (.int nn)] [])
    by_cases nq0 : bl_2 = ([(102 : Int32), (101 : Int32), (116 : Int32), (99 : Int32), (104 : Int32)] : List Int32)
    · show Go p.tables e below P T2 (mkF m 260 #[.val (.int p1), .val (.int p2), .val (.int p3), .val (.long p4), .second, .val (.int kf), s1_6, .val (.ref r_2), .val (.ref oc), s1_9, .val (.int nn)] [])
      refine Go.via (fun t k => XS.aload Xh2.here hx rfl (hb hby at_260) rfl rfl k) ?_
      show Go p.tables e below P T2 (mkF m 262 #[.val (.int p1), .val (.int p2), .val (.int p3), .val (.long p4), .second, .val (.int kf), s1_6, .val (.ref r_2), .val (.ref oc), s1_9, .val (.int nn)] [(.ref r_2)])
      have F11 : Arv Z T2.heap oc kc .char (8 : Int32) (cl.map Value.int) (.int (0 : Int32)) := (F1_0.keep K2 own_nin0)
      obtain ⟨a12, T12, h12, kn12, b12, kb12, X12, e12, E12, hS12, hk12, hZ, hown, Ex12, Fc12, Fv12, Va12, lta12, ltb12, hC12, -, ne12, st12⟩ := ldcCH Xh2 hx hZ hown (hw _ (List.mem_of_getElem? (i := 0) rfl)) (own_sa hw) rfl hS2 hk10 (own_EW hw) (by decide : (("com/example/tri3/tri3/StageKindNamedPinLaw", 7) : String × Nat) ∈ consts_1) CR3.1 (vs := [(.int (102 : Int32)), (.int (101 : Int32)), (.int (116 : Int32)), (.int (99 : Int32)), (.int (104 : Int32))]) (z := (5 : Int32)) ⟨by decide, rfl⟩ (by decide) rfl (g := (mkF m 262 #[.val (.int p1), .val (.int p2), .val (.int p3), .val (.long p4), .second, .val (.int kf), s1_6, .val (.ref r_2), .val (.ref oc), s1_9, .val (.int nn)] [(.ref r_2)])) rfl (hb hby at_262) (n := 20) (by decide) (by decide) (by decide) (by decide)
      refine Go.via st12 ?_
      have CR13 := CHr.trans CR3 hC12
      have Z14 : n0 ≤ h12.size := Nat.le_trans Z7 E12.1
      have K15 : Keep h0 h12 [] := K8.ext E12
      have O16 : Old Z n0 h12 := O9.ext E12
      have Vb12 : Arv Z h12 b12 kb12 .byte (own_lg ([(102 : Int32), (101 : Int32), (116 : Int32), (99 : Int32), (104 : Int32)] : List Int32)) (([(102 : Int32), (101 : Int32), (116 : Int32), (99 : Int32), (104 : Int32)] : List Int32).map Value.int) (.int (0 : Int32)) := by
        rw [show own_lg ([(102 : Int32), (101 : Int32), (116 : Int32), (99 : Int32), (104 : Int32)] : List Int32) = (5 : Int32) from rfl]; exact Va12
      have F17 : Arv Z h12 oc kc .char (8 : Int32) (cl.map Value.int) (.int (0 : Int32)) := (F11.ext E12)
      have nq18 := (ne12 _ (Safe.arv hZ.alike F17 (by decide))).1
      have nq19 := (ne12 _ (Safe.arv hZ.alike F17 (by decide))).2
      show Go p.tables e below P T12 (mkF m 264 #[.val (.int p1), .val (.int p2), .val (.int p3), .val (.long p4), .second, .val (.int kf), s1_6, .val (.ref r_2), .val (.ref oc), s1_9, .val (.int nn)] [(.ref a12), (.ref r_2)])
      have F20 : Exa Z h12 r_2 "java/lang/String" := (u2_0.ext E12)
      have F21 : Fld Z h12 r_2 "java/lang/String" "value" "[B" (.ref tb_2) := (u2_1.ext E12)
      have F22 : Fld Z h12 r_2 "java/lang/String" "coder" "B" (.int (0 : Int32)) := (u2_2.ext E12)
      have F23 : Arv Z h12 tb_2 kk_2 .byte (own_lg bl_2) (bl_2.map Value.int) (.int (0 : Int32)) := (u2_3.ext E12)
      obtain ⟨cq24, kq24, q24a, q24b, q24c⟩ := isOf hZ e12 F20
      obtain ⟨_, _, ⟨T24, L24, k24, n24⟩, -, X24, ⟨Lc24, hQ24, l24, y24, z24⟩, st24⟩ := X12.virtualBack hx (y := (⟨"java/lang/String", "equals", "(Ljava/lang/Object;)Z"⟩ : MethodName)) (z := (⟨"java/lang/String", "equals", "(Ljava/lang/Object;)Z"⟩ : MethodName)) hown (mvT hZ (hw _ (List.mem_of_getElem? (i := 73) rfl))) (mvT hZ (hw _ (List.mem_of_getElem? (i := 74) rfl))) (notFace_of_selects (args := #[]) (mvT hZ (hw _ (List.mem_of_getElem? (i := 76) rfl)))) (mvT hZ (hw _ (List.mem_of_getElem? (i := 76) rfl))) (mvT hZ (hw _ (List.mem_of_getElem? (i := 75) rfl))) (by decide) (backOf (W := 0) (rm16 l Z a0 hw [] r_2 a12 cs tb_2 b12 kk_2 kb12 bl_2 ([(102 : Int32), (101 : Int32), (116 : Int32), (99 : Int32), (104 : Int32)] : List Int32) h12 n0 Z14 O16 P1 (by first | assumption | decide | omega : ¬ cs = (0 : Int32)) F20 F21 F22 F23 Ex12 Fv12 Fc12 Vb12 u2_4 (by decide) (own_sfun F21 Fv12 F23 Vb12 (by first | assumption | decide) (by first | assumption | decide))) hZ (hw _ (List.mem_of_getElem? (i := 77) rfl)) (hw _ (List.mem_of_getElem? (i := 1) rfl)) (by decide) (by decide)) q24a q24c (g := (mkF m 264 #[.val (.int p1), .val (.int p2), .val (.int p3), .val (.long p4), .second, .val (.int kf), s1_6, .val (.ref r_2), .val (.ref oc), s1_9, .val (.int nn)] [(.ref a12), (.ref r_2)])) rfl (by rw [hml]; rfl) (Steps.refl _) (argsL := [(.ref a12)]) (rest := []) (lenOf own_pd11 rfl) rfl (by show 2 * 0 + _ ≤ _; exact Nat.le_of_eq rfl) (hb hby at_264) (fun _ _ => ⟨rfl, e12, (by decide : 11 + 0 ≤ _), (by decide : 84 + 0 ≤ _)⟩)
      dsimp only [Pt.U, Pt.locs, Pt.cells, Pt.slots] at X24 l24 y24 z24 st24 hQ24
      subst l24 y24 z24
      obtain ⟨rfl, Nq24, hh24⟩ := hQ24
      obtain ⟨lc24, Xh24, N24⟩ := own_hide X24 (Fr.app N2 Nq24)
      clear X24
      refine Go.hop st24 ?_
      show Go p.tables e below P T24 (mkF m 267 #[.val (.int p1), .val (.int p2), .val (.int p3), .val (.long p4), .second, .val (.int kf), s1_6, .val (.ref r_2), .val (.ref oc), s1_9, .val (.int nn)] [(.int (if bl_2 = ([(102 : Int32), (101 : Int32), (116 : Int32), (99 : Int32), (104 : Int32)] : List Int32) then (1 : Int32) else (0 : Int32)))])
      refine Go.via (fun t k => XS.ifNo Xh24.here hx rfl (hb hby at_267) rfl ((if0 _ _).trans (feq (fun q => own_i0 q nq0)).1) k) ?_
      show Go p.tables e below P T24 (mkF m 270 #[.val (.int p1), .val (.int p2), .val (.int p3), .val (.long p4), .second, .val (.int kf), s1_6, .val (.ref r_2), .val (.ref oc), s1_9, .val (.int nn)] [])
      obtain ⟨T25, X25, e25, st25⟩ := getS2 Xh24 hx hZ hown (host := "") (Or.inl (hw _ (List.mem_of_getElem? (i := 82) rfl))) Via.refl hh24 (P32.ext O16.2) (g := (mkF m 270 #[.val (.int p1), .val (.int p2), .val (.int p3), .val (.long p4), .second, .val (.int kf), s1_6, .val (.ref r_2), .val (.ref oc), s1_9, .val (.int nn)] [])) rfl (hb hby at_270)
      refine Go.via st25 ?_
      show Go p.tables e below P T25 (mkF m 273 #[.val (.int p1), .val (.int p2), .val (.int p3), .val (.long p4), .second, .val (.int kf), s1_6, .val (.ref r_2), .val (.ref oc), s1_9, .val (.int nn)] [(.ref aF)])
      refine Go.via (fun t k => XS.astore X25.here hx rfl (hb hby at_273) rfl rfl (l' := #[.val (.int p1), .val (.int p2), .val (.int p3), .val (.long p4), .second, .val (.int kf), s1_6, .val (.ref r_2), .val (.ref aF), s1_9, .val (.int nn)]) rfl k) ?_
      refine Go.via (fun t k => XS.goto X25.here hx rfl (pc0 := 275) (pc' := 335) rfl (hb hby at_275) (by decide) (by decide) k) ?_
      refine Go.via (fun t k => XS.aload X25.here hx rfl (hb hby at_335) rfl rfl k) ?_
      show Go p.tables e below P T25 (mkF m 337 #[.val (.int p1), .val (.int p2), .val (.int p3), .val (.long p4), .second, .val (.int kf), s1_6, .val (.ref r_2), .val (.ref aF), s1_9, .val (.int nn)] [(.ref r_2)])
      obtain ⟨_, _, ⟨T26, L26, k26, n26⟩, -, X26, ⟨Lc26, hQ26, l26, y26, z26⟩, st26⟩ := Jvm.LawKit.callS X25 hx (y := (⟨"com/example/tri3/tri3/StageKind", "named", "(Ljava/lang/String;)Lcom/example/tri3/tri3/StageKind;"⟩ : MethodName)) hown (mvT hZ (hw _ (List.mem_of_getElem? (i := 85) rfl))) (mvT hZ (hw _ (List.mem_of_getElem? (i := 86) rfl))) (mvT hZ (hw _ (List.mem_of_getElem? (i := 83) rfl))) (mvT hZ (hw _ (List.mem_of_getElem? (i := 87) rfl))) (by decide) (backOf (W := 0) (rm18v0 l Z a0 hw [] r_2 cs tb_2 kk_2 bl_2 va kva aF sF tF kF aC sC tC kC aS sS tS kS aD sD tD kD h12 n0 Z14 O16 P1 (by first | assumption | decide | omega : ¬ cs = (0 : Int32)) P5 P6 P7 P8 P9 P10 P11 P12 P13 P14 P15 P16 P17 P18 P19 P20 P21 P22 P23 P24 P25 P26 P27 P28 P29 P30 P31 F20 F21 F22 F23 u2_4 nq0) hZ (hw _ (List.mem_of_getElem? (i := 87) rfl)) (hw _ (List.mem_of_getElem? (i := 83) rfl)) (by decide) (by decide)) (g := (mkF m 337 #[.val (.int p1), .val (.int p2), .val (.int p3), .val (.long p4), .second, .val (.int kf), s1_6, .val (.ref r_2), .val (.ref aF), s1_9, .val (.int nn)] [(.ref r_2)])) rfl (by rw [hml]; rfl) (argsL := [(.ref r_2)]) (rest := []) (lenOf own_pd13 rfl) rfl (by show 2 * 0 + _ ≤ _; exact Nat.le_of_eq rfl) (hb hby at_337) (fun _ _ => ⟨rfl, e25, (by decide : 11 + 1 ≤ _), (by decide : 84 + 4 ≤ _)⟩)
      dsimp only [Pt.U, Pt.locs, Pt.cells, Pt.slots] at X26 l26 y26 z26 st26 hQ26
      subst l26 y26 z26
      obtain ⟨rfl, Nq26, K26⟩ := hQ26
      obtain ⟨lc26, Xh26, N26⟩ := own_hide X26 (Fr.app N24 Nq26)
      clear X26
      refine Go.via st26 ?_
      have Z27 : n0 ≤ T26.heap.size := Nat.le_trans Z14 K26.1
      have K28 : Keep h0 T26.heap [] := K15.trans K26 own_all0
      have CR29 := CHr.trans CR13 (CHr.keep K26 sf0 CR13.1)
      have hk30 := Nat.le_trans hk12 K26.1
      have O31 : Old Z n0 T26.heap := O16.keep K26 own_all0
      show Go p.tables e below P T26 (mkF m 340 #[.val (.int p1), .val (.int p2), .val (.int p3), .val (.long p4), .second, .val (.int kf), s1_6, .val (.ref r_2), .val (.ref aF), s1_9, .val (.int nn)] [(.ref aF)])
      refine Go.via (fun t k => XS.aload Xh26.here hx rfl (hb hby at_340) rfl rfl k) ?_
      show Go p.tables e below P T26 (mkF m 342 #[.val (.int p1), .val (.int p2), .val (.int p3), .val (.long p4), .second, .val (.int kf), s1_6, .val (.ref r_2), .val (.ref aF), s1_9, .val (.int nn)] [(.ref aF), (.ref aF)])
      refine Go.via (fun t k => Jvm.RoadKit.acmp (g := (mkF m 342 #[.val (.int p1), .val (.int p2), .val (.int p3), .val (.long p4), .second, .val (.int kf), s1_6, .val (.ref r_2), .val (.ref aF), s1_9, .val (.int nn)] [(.ref aF), (.ref aF)])) Xh26 hx rfl rfl rfl (pc0 := 342) (pc' := 345) (same := true) rfl (hb hby at_342) rfl (decide_eq_true rfl) (by decide) (by decide) k) ?_
      show Go p.tables e below P T26 (mkF m 345 #[.val (.int p1), .val (.int p2), .val (.int p3), .val (.long p4), .second, .val (.int kf), s1_6, .val (.ref r_2), .val (.ref aF), s1_9, .val (.int nn)] [])
      refine Go.via (fun t k => XS.iconst Xh26.here hx rfl (hb hby at_345) k) ?_
      refine Go.via (fun t k => XS.goto Xh26.here hx rfl (pc0 := 346) (pc' := 350) rfl (hb hby at_346) (by decide) (by decide) k) ?_
      show Go p.tables e below P T26 (mkF m 350 #[.val (.int p1), .val (.int p2), .val (.int p3), .val (.long p4), .second, .val (.int kf), s1_6, .val (.ref r_2), .val (.ref aF), s1_9, .val (.int nn)] [(.int (1 : Int32))])
      obtain ⟨fs, hr, hrun, hended, hend⟩ := Xh26.leaveW hS12 (by exact hk30) (v := some (.int (1 : Int32))) (fun h => by rw [Bd.returns] at h; cases h)
      have hCf : CHr Z consts_1 s.vm s.heap (T26.setFrames fs).vm (T26.setFrames fs).heap := by
        rw [hh]
        show CHr Z consts_1 s.vm h0 T26.vm T26.heap
        exact CHr.trans CR29 (CHv.at Xh26 hZ (own_EW hw) CR29.1)
      refine ⟨_, _, retZ Xh26 hx (t := .boolean) Bd.returns (by simp) (hb hby at_350) rfl hr, hrun, hended, hP _ _ ⟨_, _, rfl, ?_, hCf, own_rew hend (by decide) (by decide)⟩⟩
      show Q0 Z p1 p2 p3 p4 cs fm va kva aF sF tF kF aC sC tC kC aS sS tS kS aD sD tD kD h0 n0 _ T26.heap _
      exact ⟨rfl, N26⟩
    · by_cases nq1 : bl_2 = ([(99 : Int32), (97 : Int32), (108 : Int32), (108 : Int32)] : List Int32)
      · show Go p.tables e below P T2 (mkF m 260 #[.val (.int p1), .val (.int p2), .val (.int p3), .val (.long p4), .second, .val (.int kf), s1_6, .val (.ref r_2), .val (.ref oc), s1_9, .val (.int nn)] [])
        refine Go.via (fun t k => XS.aload Xh2.here hx rfl (hb hby at_260) rfl rfl k) ?_
        show Go p.tables e below P T2 (mkF m 262 #[.val (.int p1), .val (.int p2), .val (.int p3), .val (.long p4), .second, .val (.int kf), s1_6, .val (.ref r_2), .val (.ref oc), s1_9, .val (.int nn)] [(.ref r_2)])
        have F33 : Arv Z T2.heap oc kc .char (8 : Int32) (cl.map Value.int) (.int (0 : Int32)) := (F1_0.keep K2 own_nin0)
        obtain ⟨a34, T34, h34, kn34, b34, kb34, X34, e34, E34, hS34, hk34, hZ, hown, Ex34, Fc34, Fv34, Va34, lta34, ltb34, hC34, -, ne34, st34⟩ := ldcCH Xh2 hx hZ hown (hw _ (List.mem_of_getElem? (i := 0) rfl)) (own_sa hw) rfl hS2 hk10 (own_EW hw) (by decide : (("com/example/tri3/tri3/StageKindNamedPinLaw", 7) : String × Nat) ∈ consts_1) CR3.1 (vs := [(.int (102 : Int32)), (.int (101 : Int32)), (.int (116 : Int32)), (.int (99 : Int32)), (.int (104 : Int32))]) (z := (5 : Int32)) ⟨by decide, rfl⟩ (by decide) rfl (g := (mkF m 262 #[.val (.int p1), .val (.int p2), .val (.int p3), .val (.long p4), .second, .val (.int kf), s1_6, .val (.ref r_2), .val (.ref oc), s1_9, .val (.int nn)] [(.ref r_2)])) rfl (hb hby at_262) (n := 20) (by decide) (by decide) (by decide) (by decide)
        refine Go.via st34 ?_
        have CR35 := CHr.trans CR3 hC34
        have Z36 : n0 ≤ h34.size := Nat.le_trans Z7 E34.1
        have K37 : Keep h0 h34 [] := K8.ext E34
        have O38 : Old Z n0 h34 := O9.ext E34
        have Vb34 : Arv Z h34 b34 kb34 .byte (own_lg ([(102 : Int32), (101 : Int32), (116 : Int32), (99 : Int32), (104 : Int32)] : List Int32)) (([(102 : Int32), (101 : Int32), (116 : Int32), (99 : Int32), (104 : Int32)] : List Int32).map Value.int) (.int (0 : Int32)) := by
          rw [show own_lg ([(102 : Int32), (101 : Int32), (116 : Int32), (99 : Int32), (104 : Int32)] : List Int32) = (5 : Int32) from rfl]; exact Va34
        have F39 : Arv Z h34 oc kc .char (8 : Int32) (cl.map Value.int) (.int (0 : Int32)) := (F33.ext E34)
        have nq40 := (ne34 _ (Safe.arv hZ.alike F39 (by decide))).1
        have nq41 := (ne34 _ (Safe.arv hZ.alike F39 (by decide))).2
        show Go p.tables e below P T34 (mkF m 264 #[.val (.int p1), .val (.int p2), .val (.int p3), .val (.long p4), .second, .val (.int kf), s1_6, .val (.ref r_2), .val (.ref oc), s1_9, .val (.int nn)] [(.ref a34), (.ref r_2)])
        have F42 : Exa Z h34 r_2 "java/lang/String" := (u2_0.ext E34)
        have F43 : Fld Z h34 r_2 "java/lang/String" "value" "[B" (.ref tb_2) := (u2_1.ext E34)
        have F44 : Fld Z h34 r_2 "java/lang/String" "coder" "B" (.int (0 : Int32)) := (u2_2.ext E34)
        have F45 : Arv Z h34 tb_2 kk_2 .byte (own_lg bl_2) (bl_2.map Value.int) (.int (0 : Int32)) := (u2_3.ext E34)
        obtain ⟨cq46, kq46, q46a, q46b, q46c⟩ := isOf hZ e34 F42
        obtain ⟨_, _, ⟨T46, L46, k46, n46⟩, -, X46, ⟨Lc46, hQ46, l46, y46, z46⟩, st46⟩ := X34.virtualBack hx (y := (⟨"java/lang/String", "equals", "(Ljava/lang/Object;)Z"⟩ : MethodName)) (z := (⟨"java/lang/String", "equals", "(Ljava/lang/Object;)Z"⟩ : MethodName)) hown (mvT hZ (hw _ (List.mem_of_getElem? (i := 73) rfl))) (mvT hZ (hw _ (List.mem_of_getElem? (i := 74) rfl))) (notFace_of_selects (args := #[]) (mvT hZ (hw _ (List.mem_of_getElem? (i := 76) rfl)))) (mvT hZ (hw _ (List.mem_of_getElem? (i := 76) rfl))) (mvT hZ (hw _ (List.mem_of_getElem? (i := 75) rfl))) (by decide) (backOf (W := 0) (rm16 l Z a0 hw [] r_2 a34 cs tb_2 b34 kk_2 kb34 bl_2 ([(102 : Int32), (101 : Int32), (116 : Int32), (99 : Int32), (104 : Int32)] : List Int32) h34 n0 Z36 O38 P1 (by first | assumption | decide | omega : ¬ cs = (0 : Int32)) F42 F43 F44 F45 Ex34 Fv34 Fc34 Vb34 u2_4 (by decide) (own_sfun F43 Fv34 F45 Vb34 (by first | assumption | decide) (by first | assumption | decide))) hZ (hw _ (List.mem_of_getElem? (i := 77) rfl)) (hw _ (List.mem_of_getElem? (i := 1) rfl)) (by decide) (by decide)) q46a q46c (g := (mkF m 264 #[.val (.int p1), .val (.int p2), .val (.int p3), .val (.long p4), .second, .val (.int kf), s1_6, .val (.ref r_2), .val (.ref oc), s1_9, .val (.int nn)] [(.ref a34), (.ref r_2)])) rfl (by rw [hml]; rfl) (Steps.refl _) (argsL := [(.ref a34)]) (rest := []) (lenOf own_pd11 rfl) rfl (by show 2 * 0 + _ ≤ _; exact Nat.le_of_eq rfl) (hb hby at_264) (fun _ _ => ⟨rfl, e34, (by decide : 11 + 0 ≤ _), (by decide : 84 + 0 ≤ _)⟩)
        dsimp only [Pt.U, Pt.locs, Pt.cells, Pt.slots] at X46 l46 y46 z46 st46 hQ46
        subst l46 y46 z46
        obtain ⟨rfl, Nq46, hh46⟩ := hQ46
        obtain ⟨lc46, Xh46, N46⟩ := own_hide X46 (Fr.app N2 Nq46)
        clear X46
        refine Go.hop st46 ?_
        show Go p.tables e below P T46 (mkF m 267 #[.val (.int p1), .val (.int p2), .val (.int p3), .val (.long p4), .second, .val (.int kf), s1_6, .val (.ref r_2), .val (.ref oc), s1_9, .val (.int nn)] [(.int (if bl_2 = ([(102 : Int32), (101 : Int32), (116 : Int32), (99 : Int32), (104 : Int32)] : List Int32) then (1 : Int32) else (0 : Int32)))])
        refine Go.via (fun t k => XS.ifYes Xh46.here hx rfl (pc0 := 267) (pc' := 278) rfl (hb hby at_267) rfl ((if0 _ _).trans (teq (if_neg nq0)).1) (by decide) (by decide) k) ?_
        show Go p.tables e below P T46 (mkF m 278 #[.val (.int p1), .val (.int p2), .val (.int p3), .val (.long p4), .second, .val (.int kf), s1_6, .val (.ref r_2), .val (.ref oc), s1_9, .val (.int nn)] [])
        refine Go.via (fun t k => XS.aload Xh46.here hx rfl (hb hby at_278) rfl rfl k) ?_
        show Go p.tables e below P T46 (mkF m 280 #[.val (.int p1), .val (.int p2), .val (.int p3), .val (.long p4), .second, .val (.int kf), s1_6, .val (.ref r_2), .val (.ref oc), s1_9, .val (.int nn)] [(.ref r_2)])
        obtain ⟨a47, T47, h47, kn47, b47, kb47, X47, e47, E47, hS47, hk47, hZ, hown, Ex47, Fc47, Fv47, Va47, lta47, ltb47, hC47, -, ne47, st47⟩ := ldcCH Xh46 hx hZ hown (hw _ (List.mem_of_getElem? (i := 110) rfl)) (own_sa hw) hh46 hS34 hk34 (own_EW hw) (by decide : (("com/example/tri3/tri3/StageKindNamedPinLaw", 9) : String × Nat) ∈ consts_1) CR35.1 (vs := [(.int (99 : Int32)), (.int (97 : Int32)), (.int (108 : Int32)), (.int (108 : Int32))]) (z := (4 : Int32)) ⟨by decide, rfl⟩ (by decide) rfl (g := (mkF m 280 #[.val (.int p1), .val (.int p2), .val (.int p3), .val (.long p4), .second, .val (.int kf), s1_6, .val (.ref r_2), .val (.ref oc), s1_9, .val (.int nn)] [(.ref r_2)])) rfl (hb hby at_280) (n := 16) (by decide) (by decide) (by decide) (by decide)
        refine Go.via st47 ?_
        have CR48 := CHr.trans CR35 hC47
        have Z49 : n0 ≤ h47.size := Nat.le_trans Z36 E47.1
        have K50 : Keep h0 h47 [] := K37.ext E47
        have O51 : Old Z n0 h47 := O38.ext E47
        have Vb47 : Arv Z h47 b47 kb47 .byte (own_lg ([(99 : Int32), (97 : Int32), (108 : Int32), (108 : Int32)] : List Int32)) (([(99 : Int32), (97 : Int32), (108 : Int32), (108 : Int32)] : List Int32).map Value.int) (.int (0 : Int32)) := by
          rw [show own_lg ([(99 : Int32), (97 : Int32), (108 : Int32), (108 : Int32)] : List Int32) = (4 : Int32) from rfl]; exact Va47
        have F52 : Arv Z h47 oc kc .char (8 : Int32) (cl.map Value.int) (.int (0 : Int32)) := (F39.ext E47)
        have nq53 := (ne47 _ (Safe.arv hZ.alike F52 (by decide))).1
        have nq54 := (ne47 _ (Safe.arv hZ.alike F52 (by decide))).2
        show Go p.tables e below P T47 (mkF m 282 #[.val (.int p1), .val (.int p2), .val (.int p3), .val (.long p4), .second, .val (.int kf), s1_6, .val (.ref r_2), .val (.ref oc), s1_9, .val (.int nn)] [(.ref a47), (.ref r_2)])
        have F55 : Exa Z h47 r_2 "java/lang/String" := (F42.ext E47)
        have F56 : Fld Z h47 r_2 "java/lang/String" "value" "[B" (.ref tb_2) := (F43.ext E47)
        have F57 : Fld Z h47 r_2 "java/lang/String" "coder" "B" (.int (0 : Int32)) := (F44.ext E47)
        have F58 : Arv Z h47 tb_2 kk_2 .byte (own_lg bl_2) (bl_2.map Value.int) (.int (0 : Int32)) := (F45.ext E47)
        have F59 : Exa Z h47 a34 "java/lang/String" := (Ex34.ext E47)
        have F60 : Fld Z h47 a34 "java/lang/String" "coder" "B" (.int (0 : Int32)) := (Fc34.ext E47)
        have F61 : Fld Z h47 a34 "java/lang/String" "value" "[B" (.ref b34) := (Fv34.ext E47)
        have F62 : Arv Z h47 b34 kb34 .byte (own_lg ([(102 : Int32), (101 : Int32), (116 : Int32), (99 : Int32), (104 : Int32)] : List Int32)) (([(102 : Int32), (101 : Int32), (116 : Int32), (99 : Int32), (104 : Int32)] : List Int32).map Value.int) (.int (0 : Int32)) := (Vb34.ext E47)
        obtain ⟨cq63, kq63, q63a, q63b, q63c⟩ := isOf hZ e47 F55
        obtain ⟨_, _, ⟨T63, L63, k63, n63⟩, -, X63, ⟨Lc63, hQ63, l63, y63, z63⟩, st63⟩ := X47.virtualBack hx (y := (⟨"java/lang/String", "equals", "(Ljava/lang/Object;)Z"⟩ : MethodName)) (z := (⟨"java/lang/String", "equals", "(Ljava/lang/Object;)Z"⟩ : MethodName)) hown (mvT hZ (hw _ (List.mem_of_getElem? (i := 73) rfl))) (mvT hZ (hw _ (List.mem_of_getElem? (i := 74) rfl))) (notFace_of_selects (args := #[]) (mvT hZ (hw _ (List.mem_of_getElem? (i := 76) rfl)))) (mvT hZ (hw _ (List.mem_of_getElem? (i := 76) rfl))) (mvT hZ (hw _ (List.mem_of_getElem? (i := 75) rfl))) (by decide) (backOf (W := 0) (rm16 l Z a0 hw [] r_2 a47 cs tb_2 b47 kk_2 kb47 bl_2 ([(99 : Int32), (97 : Int32), (108 : Int32), (108 : Int32)] : List Int32) h47 n0 Z49 O51 P1 (by first | assumption | decide | omega : ¬ cs = (0 : Int32)) F55 F56 F57 F58 Ex47 Fv47 Fc47 Vb47 u2_4 (by decide) (own_sfun F56 Fv47 F58 Vb47 (by first | assumption | decide) (by first | assumption | decide))) hZ (hw _ (List.mem_of_getElem? (i := 77) rfl)) (hw _ (List.mem_of_getElem? (i := 1) rfl)) (by decide) (by decide)) q63a q63c (g := (mkF m 282 #[.val (.int p1), .val (.int p2), .val (.int p3), .val (.long p4), .second, .val (.int kf), s1_6, .val (.ref r_2), .val (.ref oc), s1_9, .val (.int nn)] [(.ref a47), (.ref r_2)])) rfl (by rw [hml]; rfl) (Steps.refl _) (argsL := [(.ref a47)]) (rest := []) (lenOf own_pd11 rfl) rfl (by show 2 * 0 + _ ≤ _; exact Nat.le_of_eq rfl) (hb hby at_282) (fun _ _ => ⟨rfl, e47, (by decide : 13 + 0 ≤ _), (by decide : 104 + 0 ≤ _)⟩)
        dsimp only [Pt.U, Pt.locs, Pt.cells, Pt.slots] at X63 l63 y63 z63 st63 hQ63
        subst l63 y63 z63
        obtain ⟨rfl, Nq63, hh63⟩ := hQ63
        obtain ⟨lc63, Xh63, N63⟩ := own_hide X63 (Fr.app N46 Nq63)
        clear X63
        refine Go.hop st63 ?_
        show Go p.tables e below P T63 (mkF m 285 #[.val (.int p1), .val (.int p2), .val (.int p3), .val (.long p4), .second, .val (.int kf), s1_6, .val (.ref r_2), .val (.ref oc), s1_9, .val (.int nn)] [(.int (if bl_2 = ([(99 : Int32), (97 : Int32), (108 : Int32), (108 : Int32)] : List Int32) then (1 : Int32) else (0 : Int32)))])
        refine Go.via (fun t k => XS.ifNo Xh63.here hx rfl (hb hby at_285) rfl ((if0 _ _).trans (feq (fun q => own_i0 q nq1)).1) k) ?_
        show Go p.tables e below P T63 (mkF m 288 #[.val (.int p1), .val (.int p2), .val (.int p3), .val (.long p4), .second, .val (.int kf), s1_6, .val (.ref r_2), .val (.ref oc), s1_9, .val (.int nn)] [])
        obtain ⟨T64, X64, e64, st64⟩ := getS2 Xh63 hx hZ hown (host := "") (Or.inl (hw _ (List.mem_of_getElem? (i := 116) rfl))) Via.refl hh63 (P33.ext O51.2) (g := (mkF m 288 #[.val (.int p1), .val (.int p2), .val (.int p3), .val (.long p4), .second, .val (.int kf), s1_6, .val (.ref r_2), .val (.ref oc), s1_9, .val (.int nn)] [])) rfl (hb hby at_288)
        refine Go.via st64 ?_
        show Go p.tables e below P T64 (mkF m 291 #[.val (.int p1), .val (.int p2), .val (.int p3), .val (.long p4), .second, .val (.int kf), s1_6, .val (.ref r_2), .val (.ref oc), s1_9, .val (.int nn)] [(.ref aC)])
        refine Go.via (fun t k => XS.astore X64.here hx rfl (hb hby at_291) rfl rfl (l' := #[.val (.int p1), .val (.int p2), .val (.int p3), .val (.long p4), .second, .val (.int kf), s1_6, .val (.ref r_2), .val (.ref aC), s1_9, .val (.int nn)]) rfl k) ?_
        refine Go.via (fun t k => XS.goto X64.here hx rfl (pc0 := 293) (pc' := 335) rfl (hb hby at_293) (by decide) (by decide) k) ?_
        refine Go.via (fun t k => XS.aload X64.here hx rfl (hb hby at_335) rfl rfl k) ?_
        show Go p.tables e below P T64 (mkF m 337 #[.val (.int p1), .val (.int p2), .val (.int p3), .val (.long p4), .second, .val (.int kf), s1_6, .val (.ref r_2), .val (.ref aC), s1_9, .val (.int nn)] [(.ref r_2)])
        obtain ⟨_, _, ⟨T65, L65, k65, n65⟩, -, X65, ⟨Lc65, hQ65, l65, y65, z65⟩, st65⟩ := Jvm.LawKit.callS X64 hx (y := (⟨"com/example/tri3/tri3/StageKind", "named", "(Ljava/lang/String;)Lcom/example/tri3/tri3/StageKind;"⟩ : MethodName)) hown (mvT hZ (hw _ (List.mem_of_getElem? (i := 85) rfl))) (mvT hZ (hw _ (List.mem_of_getElem? (i := 86) rfl))) (mvT hZ (hw _ (List.mem_of_getElem? (i := 83) rfl))) (mvT hZ (hw _ (List.mem_of_getElem? (i := 87) rfl))) (by decide) (backOf (W := 0) (rm18v1 l Z a0 hw [] r_2 cs tb_2 kk_2 bl_2 va kva aF sF tF kF aC sC tC kC aS sS tS kS aD sD tD kD h47 n0 Z49 O51 P1 (by first | assumption | decide | omega : ¬ cs = (0 : Int32)) P5 P6 P7 P8 P9 P10 P11 P12 P13 P14 P15 P16 P17 P18 P19 P20 P21 P22 P23 P24 P25 P26 P27 P28 P29 P30 P31 F55 F56 F57 F58 u2_4 nq1) hZ (hw _ (List.mem_of_getElem? (i := 87) rfl)) (hw _ (List.mem_of_getElem? (i := 83) rfl)) (by decide) (by decide)) (g := (mkF m 337 #[.val (.int p1), .val (.int p2), .val (.int p3), .val (.long p4), .second, .val (.int kf), s1_6, .val (.ref r_2), .val (.ref aC), s1_9, .val (.int nn)] [(.ref r_2)])) rfl (by rw [hml]; rfl) (argsL := [(.ref r_2)]) (rest := []) (lenOf own_pd13 rfl) rfl (by show 2 * 0 + _ ≤ _; exact Nat.le_of_eq rfl) (hb hby at_337) (fun _ _ => ⟨rfl, e64, (by decide : 13 + 1 ≤ _), (by decide : 104 + 4 ≤ _)⟩)
        dsimp only [Pt.U, Pt.locs, Pt.cells, Pt.slots] at X65 l65 y65 z65 st65 hQ65
        subst l65 y65 z65
        obtain ⟨rfl, Nq65, K65⟩ := hQ65
        obtain ⟨lc65, Xh65, N65⟩ := own_hide X65 (Fr.app N63 Nq65)
        clear X65
        refine Go.via st65 ?_
        have Z66 : n0 ≤ T65.heap.size := Nat.le_trans Z49 K65.1
        have K67 : Keep h0 T65.heap [] := K50.trans K65 own_all0
        have CR68 := CHr.trans CR48 (CHr.keep K65 sf0 CR48.1)
        have hk69 := Nat.le_trans hk47 K65.1
        have O70 : Old Z n0 T65.heap := O51.keep K65 own_all0
        show Go p.tables e below P T65 (mkF m 340 #[.val (.int p1), .val (.int p2), .val (.int p3), .val (.long p4), .second, .val (.int kf), s1_6, .val (.ref r_2), .val (.ref aC), s1_9, .val (.int nn)] [(.ref aC)])
        refine Go.via (fun t k => XS.aload Xh65.here hx rfl (hb hby at_340) rfl rfl k) ?_
        show Go p.tables e below P T65 (mkF m 342 #[.val (.int p1), .val (.int p2), .val (.int p3), .val (.long p4), .second, .val (.int kf), s1_6, .val (.ref r_2), .val (.ref aC), s1_9, .val (.int nn)] [(.ref aC), (.ref aC)])
        refine Go.via (fun t k => Jvm.RoadKit.acmp (g := (mkF m 342 #[.val (.int p1), .val (.int p2), .val (.int p3), .val (.long p4), .second, .val (.int kf), s1_6, .val (.ref r_2), .val (.ref aC), s1_9, .val (.int nn)] [(.ref aC), (.ref aC)])) Xh65 hx rfl rfl rfl (pc0 := 342) (pc' := 345) (same := true) rfl (hb hby at_342) rfl (decide_eq_true rfl) (by decide) (by decide) k) ?_
        show Go p.tables e below P T65 (mkF m 345 #[.val (.int p1), .val (.int p2), .val (.int p3), .val (.long p4), .second, .val (.int kf), s1_6, .val (.ref r_2), .val (.ref aC), s1_9, .val (.int nn)] [])
        refine Go.via (fun t k => XS.iconst Xh65.here hx rfl (hb hby at_345) k) ?_
        refine Go.via (fun t k => XS.goto Xh65.here hx rfl (pc0 := 346) (pc' := 350) rfl (hb hby at_346) (by decide) (by decide) k) ?_
        show Go p.tables e below P T65 (mkF m 350 #[.val (.int p1), .val (.int p2), .val (.int p3), .val (.long p4), .second, .val (.int kf), s1_6, .val (.ref r_2), .val (.ref aC), s1_9, .val (.int nn)] [(.int (1 : Int32))])
        obtain ⟨fs, hr, hrun, hended, hend⟩ := Xh65.leaveW hS47 (by exact hk69) (v := some (.int (1 : Int32))) (fun h => by rw [Bd.returns] at h; cases h)
        have hCf : CHr Z consts_1 s.vm s.heap (T65.setFrames fs).vm (T65.setFrames fs).heap := by
          rw [hh]
          show CHr Z consts_1 s.vm h0 T65.vm T65.heap
          exact CHr.trans CR68 (CHv.at Xh65 hZ (own_EW hw) CR68.1)
        refine ⟨_, _, retZ Xh65 hx (t := .boolean) Bd.returns (by simp) (hb hby at_350) rfl hr, hrun, hended, hP _ _ ⟨_, _, rfl, ?_, hCf, own_rew hend (by decide) (by decide)⟩⟩
        show Q0 Z p1 p2 p3 p4 cs fm va kva aF sF tF kF aC sC tC kC aS sS tS kS aD sD tD kD h0 n0 _ T65.heap _
        exact ⟨rfl, N65⟩
      · by_cases nq2 : bl_2 = ([(115 : Int32), (113 : Int32), (108 : Int32)] : List Int32)
        · show Go p.tables e below P T2 (mkF m 260 #[.val (.int p1), .val (.int p2), .val (.int p3), .val (.long p4), .second, .val (.int kf), s1_6, .val (.ref r_2), .val (.ref oc), s1_9, .val (.int nn)] [])
          refine Go.via (fun t k => XS.aload Xh2.here hx rfl (hb hby at_260) rfl rfl k) ?_
          show Go p.tables e below P T2 (mkF m 262 #[.val (.int p1), .val (.int p2), .val (.int p3), .val (.long p4), .second, .val (.int kf), s1_6, .val (.ref r_2), .val (.ref oc), s1_9, .val (.int nn)] [(.ref r_2)])
          have F72 : Arv Z T2.heap oc kc .char (8 : Int32) (cl.map Value.int) (.int (0 : Int32)) := (F1_0.keep K2 own_nin0)
          obtain ⟨a73, T73, h73, kn73, b73, kb73, X73, e73, E73, hS73, hk73, hZ, hown, Ex73, Fc73, Fv73, Va73, lta73, ltb73, hC73, -, ne73, st73⟩ := ldcCH Xh2 hx hZ hown (hw _ (List.mem_of_getElem? (i := 0) rfl)) (own_sa hw) rfl hS2 hk10 (own_EW hw) (by decide : (("com/example/tri3/tri3/StageKindNamedPinLaw", 7) : String × Nat) ∈ consts_1) CR3.1 (vs := [(.int (102 : Int32)), (.int (101 : Int32)), (.int (116 : Int32)), (.int (99 : Int32)), (.int (104 : Int32))]) (z := (5 : Int32)) ⟨by decide, rfl⟩ (by decide) rfl (g := (mkF m 262 #[.val (.int p1), .val (.int p2), .val (.int p3), .val (.long p4), .second, .val (.int kf), s1_6, .val (.ref r_2), .val (.ref oc), s1_9, .val (.int nn)] [(.ref r_2)])) rfl (hb hby at_262) (n := 20) (by decide) (by decide) (by decide) (by decide)
          refine Go.via st73 ?_
          have CR74 := CHr.trans CR3 hC73
          have Z75 : n0 ≤ h73.size := Nat.le_trans Z7 E73.1
          have K76 : Keep h0 h73 [] := K8.ext E73
          have O77 : Old Z n0 h73 := O9.ext E73
          have Vb73 : Arv Z h73 b73 kb73 .byte (own_lg ([(102 : Int32), (101 : Int32), (116 : Int32), (99 : Int32), (104 : Int32)] : List Int32)) (([(102 : Int32), (101 : Int32), (116 : Int32), (99 : Int32), (104 : Int32)] : List Int32).map Value.int) (.int (0 : Int32)) := by
            rw [show own_lg ([(102 : Int32), (101 : Int32), (116 : Int32), (99 : Int32), (104 : Int32)] : List Int32) = (5 : Int32) from rfl]; exact Va73
          have F78 : Arv Z h73 oc kc .char (8 : Int32) (cl.map Value.int) (.int (0 : Int32)) := (F72.ext E73)
          have nq79 := (ne73 _ (Safe.arv hZ.alike F78 (by decide))).1
          have nq80 := (ne73 _ (Safe.arv hZ.alike F78 (by decide))).2
          show Go p.tables e below P T73 (mkF m 264 #[.val (.int p1), .val (.int p2), .val (.int p3), .val (.long p4), .second, .val (.int kf), s1_6, .val (.ref r_2), .val (.ref oc), s1_9, .val (.int nn)] [(.ref a73), (.ref r_2)])
          have F81 : Exa Z h73 r_2 "java/lang/String" := (u2_0.ext E73)
          have F82 : Fld Z h73 r_2 "java/lang/String" "value" "[B" (.ref tb_2) := (u2_1.ext E73)
          have F83 : Fld Z h73 r_2 "java/lang/String" "coder" "B" (.int (0 : Int32)) := (u2_2.ext E73)
          have F84 : Arv Z h73 tb_2 kk_2 .byte (own_lg bl_2) (bl_2.map Value.int) (.int (0 : Int32)) := (u2_3.ext E73)
          obtain ⟨cq85, kq85, q85a, q85b, q85c⟩ := isOf hZ e73 F81
          obtain ⟨_, _, ⟨T85, L85, k85, n85⟩, -, X85, ⟨Lc85, hQ85, l85, y85, z85⟩, st85⟩ := X73.virtualBack hx (y := (⟨"java/lang/String", "equals", "(Ljava/lang/Object;)Z"⟩ : MethodName)) (z := (⟨"java/lang/String", "equals", "(Ljava/lang/Object;)Z"⟩ : MethodName)) hown (mvT hZ (hw _ (List.mem_of_getElem? (i := 73) rfl))) (mvT hZ (hw _ (List.mem_of_getElem? (i := 74) rfl))) (notFace_of_selects (args := #[]) (mvT hZ (hw _ (List.mem_of_getElem? (i := 76) rfl)))) (mvT hZ (hw _ (List.mem_of_getElem? (i := 76) rfl))) (mvT hZ (hw _ (List.mem_of_getElem? (i := 75) rfl))) (by decide) (backOf (W := 0) (rm16 l Z a0 hw [] r_2 a73 cs tb_2 b73 kk_2 kb73 bl_2 ([(102 : Int32), (101 : Int32), (116 : Int32), (99 : Int32), (104 : Int32)] : List Int32) h73 n0 Z75 O77 P1 (by first | assumption | decide | omega : ¬ cs = (0 : Int32)) F81 F82 F83 F84 Ex73 Fv73 Fc73 Vb73 u2_4 (by decide) (own_sfun F82 Fv73 F84 Vb73 (by first | assumption | decide) (by first | assumption | decide))) hZ (hw _ (List.mem_of_getElem? (i := 77) rfl)) (hw _ (List.mem_of_getElem? (i := 1) rfl)) (by decide) (by decide)) q85a q85c (g := (mkF m 264 #[.val (.int p1), .val (.int p2), .val (.int p3), .val (.long p4), .second, .val (.int kf), s1_6, .val (.ref r_2), .val (.ref oc), s1_9, .val (.int nn)] [(.ref a73), (.ref r_2)])) rfl (by rw [hml]; rfl) (Steps.refl _) (argsL := [(.ref a73)]) (rest := []) (lenOf own_pd11 rfl) rfl (by show 2 * 0 + _ ≤ _; exact Nat.le_of_eq rfl) (hb hby at_264) (fun _ _ => ⟨rfl, e73, (by decide : 11 + 0 ≤ _), (by decide : 84 + 0 ≤ _)⟩)
          dsimp only [Pt.U, Pt.locs, Pt.cells, Pt.slots] at X85 l85 y85 z85 st85 hQ85
          subst l85 y85 z85
          obtain ⟨rfl, Nq85, hh85⟩ := hQ85
          obtain ⟨lc85, Xh85, N85⟩ := own_hide X85 (Fr.app N2 Nq85)
          clear X85
          refine Go.hop st85 ?_
          show Go p.tables e below P T85 (mkF m 267 #[.val (.int p1), .val (.int p2), .val (.int p3), .val (.long p4), .second, .val (.int kf), s1_6, .val (.ref r_2), .val (.ref oc), s1_9, .val (.int nn)] [(.int (if bl_2 = ([(102 : Int32), (101 : Int32), (116 : Int32), (99 : Int32), (104 : Int32)] : List Int32) then (1 : Int32) else (0 : Int32)))])
          refine Go.via (fun t k => XS.ifYes Xh85.here hx rfl (pc0 := 267) (pc' := 278) rfl (hb hby at_267) rfl ((if0 _ _).trans (teq (if_neg nq0)).1) (by decide) (by decide) k) ?_
          show Go p.tables e below P T85 (mkF m 278 #[.val (.int p1), .val (.int p2), .val (.int p3), .val (.long p4), .second, .val (.int kf), s1_6, .val (.ref r_2), .val (.ref oc), s1_9, .val (.int nn)] [])
          refine Go.via (fun t k => XS.aload Xh85.here hx rfl (hb hby at_278) rfl rfl k) ?_
          show Go p.tables e below P T85 (mkF m 280 #[.val (.int p1), .val (.int p2), .val (.int p3), .val (.long p4), .second, .val (.int kf), s1_6, .val (.ref r_2), .val (.ref oc), s1_9, .val (.int nn)] [(.ref r_2)])
          obtain ⟨a86, T86, h86, kn86, b86, kb86, X86, e86, E86, hS86, hk86, hZ, hown, Ex86, Fc86, Fv86, Va86, lta86, ltb86, hC86, -, ne86, st86⟩ := ldcCH Xh85 hx hZ hown (hw _ (List.mem_of_getElem? (i := 110) rfl)) (own_sa hw) hh85 hS73 hk73 (own_EW hw) (by decide : (("com/example/tri3/tri3/StageKindNamedPinLaw", 9) : String × Nat) ∈ consts_1) CR74.1 (vs := [(.int (99 : Int32)), (.int (97 : Int32)), (.int (108 : Int32)), (.int (108 : Int32))]) (z := (4 : Int32)) ⟨by decide, rfl⟩ (by decide) rfl (g := (mkF m 280 #[.val (.int p1), .val (.int p2), .val (.int p3), .val (.long p4), .second, .val (.int kf), s1_6, .val (.ref r_2), .val (.ref oc), s1_9, .val (.int nn)] [(.ref r_2)])) rfl (hb hby at_280) (n := 16) (by decide) (by decide) (by decide) (by decide)
          refine Go.via st86 ?_
          have CR87 := CHr.trans CR74 hC86
          have Z88 : n0 ≤ h86.size := Nat.le_trans Z75 E86.1
          have K89 : Keep h0 h86 [] := K76.ext E86
          have O90 : Old Z n0 h86 := O77.ext E86
          have Vb86 : Arv Z h86 b86 kb86 .byte (own_lg ([(99 : Int32), (97 : Int32), (108 : Int32), (108 : Int32)] : List Int32)) (([(99 : Int32), (97 : Int32), (108 : Int32), (108 : Int32)] : List Int32).map Value.int) (.int (0 : Int32)) := by
            rw [show own_lg ([(99 : Int32), (97 : Int32), (108 : Int32), (108 : Int32)] : List Int32) = (4 : Int32) from rfl]; exact Va86
          have F91 : Arv Z h86 oc kc .char (8 : Int32) (cl.map Value.int) (.int (0 : Int32)) := (F78.ext E86)
          have nq92 := (ne86 _ (Safe.arv hZ.alike F91 (by decide))).1
          have nq93 := (ne86 _ (Safe.arv hZ.alike F91 (by decide))).2
          show Go p.tables e below P T86 (mkF m 282 #[.val (.int p1), .val (.int p2), .val (.int p3), .val (.long p4), .second, .val (.int kf), s1_6, .val (.ref r_2), .val (.ref oc), s1_9, .val (.int nn)] [(.ref a86), (.ref r_2)])
          have F94 : Exa Z h86 r_2 "java/lang/String" := (F81.ext E86)
          have F95 : Fld Z h86 r_2 "java/lang/String" "value" "[B" (.ref tb_2) := (F82.ext E86)
          have F96 : Fld Z h86 r_2 "java/lang/String" "coder" "B" (.int (0 : Int32)) := (F83.ext E86)
          have F97 : Arv Z h86 tb_2 kk_2 .byte (own_lg bl_2) (bl_2.map Value.int) (.int (0 : Int32)) := (F84.ext E86)
          have F98 : Exa Z h86 a73 "java/lang/String" := (Ex73.ext E86)
          have F99 : Fld Z h86 a73 "java/lang/String" "coder" "B" (.int (0 : Int32)) := (Fc73.ext E86)
          have F100 : Fld Z h86 a73 "java/lang/String" "value" "[B" (.ref b73) := (Fv73.ext E86)
          have F101 : Arv Z h86 b73 kb73 .byte (own_lg ([(102 : Int32), (101 : Int32), (116 : Int32), (99 : Int32), (104 : Int32)] : List Int32)) (([(102 : Int32), (101 : Int32), (116 : Int32), (99 : Int32), (104 : Int32)] : List Int32).map Value.int) (.int (0 : Int32)) := (Vb73.ext E86)
          obtain ⟨cq102, kq102, q102a, q102b, q102c⟩ := isOf hZ e86 F94
          obtain ⟨_, _, ⟨T102, L102, k102, n102⟩, -, X102, ⟨Lc102, hQ102, l102, y102, z102⟩, st102⟩ := X86.virtualBack hx (y := (⟨"java/lang/String", "equals", "(Ljava/lang/Object;)Z"⟩ : MethodName)) (z := (⟨"java/lang/String", "equals", "(Ljava/lang/Object;)Z"⟩ : MethodName)) hown (mvT hZ (hw _ (List.mem_of_getElem? (i := 73) rfl))) (mvT hZ (hw _ (List.mem_of_getElem? (i := 74) rfl))) (notFace_of_selects (args := #[]) (mvT hZ (hw _ (List.mem_of_getElem? (i := 76) rfl)))) (mvT hZ (hw _ (List.mem_of_getElem? (i := 76) rfl))) (mvT hZ (hw _ (List.mem_of_getElem? (i := 75) rfl))) (by decide) (backOf (W := 0) (rm16 l Z a0 hw [] r_2 a86 cs tb_2 b86 kk_2 kb86 bl_2 ([(99 : Int32), (97 : Int32), (108 : Int32), (108 : Int32)] : List Int32) h86 n0 Z88 O90 P1 (by first | assumption | decide | omega : ¬ cs = (0 : Int32)) F94 F95 F96 F97 Ex86 Fv86 Fc86 Vb86 u2_4 (by decide) (own_sfun F95 Fv86 F97 Vb86 (by first | assumption | decide) (by first | assumption | decide))) hZ (hw _ (List.mem_of_getElem? (i := 77) rfl)) (hw _ (List.mem_of_getElem? (i := 1) rfl)) (by decide) (by decide)) q102a q102c (g := (mkF m 282 #[.val (.int p1), .val (.int p2), .val (.int p3), .val (.long p4), .second, .val (.int kf), s1_6, .val (.ref r_2), .val (.ref oc), s1_9, .val (.int nn)] [(.ref a86), (.ref r_2)])) rfl (by rw [hml]; rfl) (Steps.refl _) (argsL := [(.ref a86)]) (rest := []) (lenOf own_pd11 rfl) rfl (by show 2 * 0 + _ ≤ _; exact Nat.le_of_eq rfl) (hb hby at_282) (fun _ _ => ⟨rfl, e86, (by decide : 13 + 0 ≤ _), (by decide : 104 + 0 ≤ _)⟩)
          dsimp only [Pt.U, Pt.locs, Pt.cells, Pt.slots] at X102 l102 y102 z102 st102 hQ102
          subst l102 y102 z102
          obtain ⟨rfl, Nq102, hh102⟩ := hQ102
          obtain ⟨lc102, Xh102, N102⟩ := own_hide X102 (Fr.app N85 Nq102)
          clear X102
          refine Go.hop st102 ?_
          show Go p.tables e below P T102 (mkF m 285 #[.val (.int p1), .val (.int p2), .val (.int p3), .val (.long p4), .second, .val (.int kf), s1_6, .val (.ref r_2), .val (.ref oc), s1_9, .val (.int nn)] [(.int (if bl_2 = ([(99 : Int32), (97 : Int32), (108 : Int32), (108 : Int32)] : List Int32) then (1 : Int32) else (0 : Int32)))])
          refine Go.via (fun t k => XS.ifYes Xh102.here hx rfl (pc0 := 285) (pc' := 296) rfl (hb hby at_285) rfl ((if0 _ _).trans (teq (if_neg nq1)).1) (by decide) (by decide) k) ?_
          show Go p.tables e below P T102 (mkF m 296 #[.val (.int p1), .val (.int p2), .val (.int p3), .val (.long p4), .second, .val (.int kf), s1_6, .val (.ref r_2), .val (.ref oc), s1_9, .val (.int nn)] [])
          refine Go.via (fun t k => XS.aload Xh102.here hx rfl (hb hby at_296) rfl rfl k) ?_
          show Go p.tables e below P T102 (mkF m 298 #[.val (.int p1), .val (.int p2), .val (.int p3), .val (.long p4), .second, .val (.int kf), s1_6, .val (.ref r_2), .val (.ref oc), s1_9, .val (.int nn)] [(.ref r_2)])
          obtain ⟨a103, T103, h103, kn103, b103, kb103, X103, e103, E103, hS103, hk103, hZ, hown, Ex103, Fc103, Fv103, Va103, lta103, ltb103, hC103, -, ne103, st103⟩ := ldcCH Xh102 hx hZ hown (hw _ (List.mem_of_getElem? (i := 109) rfl)) (own_sa hw) hh102 hS86 hk86 (own_EW hw) (by decide : (("com/example/tri3/tri3/StageKindNamedPinLaw", 11) : String × Nat) ∈ consts_1) CR87.1 (vs := [(.int (115 : Int32)), (.int (113 : Int32)), (.int (108 : Int32))]) (z := (3 : Int32)) ⟨by decide, rfl⟩ (by decide) rfl (g := (mkF m 298 #[.val (.int p1), .val (.int p2), .val (.int p3), .val (.long p4), .second, .val (.int kf), s1_6, .val (.ref r_2), .val (.ref oc), s1_9, .val (.int nn)] [(.ref r_2)])) rfl (hb hby at_298) (n := 12) (by decide) (by decide) (by decide) (by decide)
          refine Go.via st103 ?_
          have CR104 := CHr.trans CR87 hC103
          have Z105 : n0 ≤ h103.size := Nat.le_trans Z88 E103.1
          have K106 : Keep h0 h103 [] := K89.ext E103
          have O107 : Old Z n0 h103 := O90.ext E103
          have Vb103 : Arv Z h103 b103 kb103 .byte (own_lg ([(115 : Int32), (113 : Int32), (108 : Int32)] : List Int32)) (([(115 : Int32), (113 : Int32), (108 : Int32)] : List Int32).map Value.int) (.int (0 : Int32)) := by
            rw [show own_lg ([(115 : Int32), (113 : Int32), (108 : Int32)] : List Int32) = (3 : Int32) from rfl]; exact Va103
          have F108 : Arv Z h103 oc kc .char (8 : Int32) (cl.map Value.int) (.int (0 : Int32)) := (F91.ext E103)
          have nq109 := (ne103 _ (Safe.arv hZ.alike F108 (by decide))).1
          have nq110 := (ne103 _ (Safe.arv hZ.alike F108 (by decide))).2
          show Go p.tables e below P T103 (mkF m 300 #[.val (.int p1), .val (.int p2), .val (.int p3), .val (.long p4), .second, .val (.int kf), s1_6, .val (.ref r_2), .val (.ref oc), s1_9, .val (.int nn)] [(.ref a103), (.ref r_2)])
          have F111 : Exa Z h103 r_2 "java/lang/String" := (F94.ext E103)
          have F112 : Fld Z h103 r_2 "java/lang/String" "value" "[B" (.ref tb_2) := (F95.ext E103)
          have F113 : Fld Z h103 r_2 "java/lang/String" "coder" "B" (.int (0 : Int32)) := (F96.ext E103)
          have F114 : Arv Z h103 tb_2 kk_2 .byte (own_lg bl_2) (bl_2.map Value.int) (.int (0 : Int32)) := (F97.ext E103)
          have F115 : Exa Z h103 a73 "java/lang/String" := (F98.ext E103)
          have F116 : Fld Z h103 a73 "java/lang/String" "coder" "B" (.int (0 : Int32)) := (F99.ext E103)
          have F117 : Fld Z h103 a73 "java/lang/String" "value" "[B" (.ref b73) := (F100.ext E103)
          have F118 : Arv Z h103 b73 kb73 .byte (own_lg ([(102 : Int32), (101 : Int32), (116 : Int32), (99 : Int32), (104 : Int32)] : List Int32)) (([(102 : Int32), (101 : Int32), (116 : Int32), (99 : Int32), (104 : Int32)] : List Int32).map Value.int) (.int (0 : Int32)) := (F101.ext E103)
          have F119 : Exa Z h103 a86 "java/lang/String" := (Ex86.ext E103)
          have F120 : Fld Z h103 a86 "java/lang/String" "coder" "B" (.int (0 : Int32)) := (Fc86.ext E103)
          have F121 : Fld Z h103 a86 "java/lang/String" "value" "[B" (.ref b86) := (Fv86.ext E103)
          have F122 : Arv Z h103 b86 kb86 .byte (own_lg ([(99 : Int32), (97 : Int32), (108 : Int32), (108 : Int32)] : List Int32)) (([(99 : Int32), (97 : Int32), (108 : Int32), (108 : Int32)] : List Int32).map Value.int) (.int (0 : Int32)) := (Vb86.ext E103)
          obtain ⟨cq123, kq123, q123a, q123b, q123c⟩ := isOf hZ e103 F111
          obtain ⟨_, _, ⟨T123, L123, k123, n123⟩, -, X123, ⟨Lc123, hQ123, l123, y123, z123⟩, st123⟩ := X103.virtualBack hx (y := (⟨"java/lang/String", "equals", "(Ljava/lang/Object;)Z"⟩ : MethodName)) (z := (⟨"java/lang/String", "equals", "(Ljava/lang/Object;)Z"⟩ : MethodName)) hown (mvT hZ (hw _ (List.mem_of_getElem? (i := 73) rfl))) (mvT hZ (hw _ (List.mem_of_getElem? (i := 74) rfl))) (notFace_of_selects (args := #[]) (mvT hZ (hw _ (List.mem_of_getElem? (i := 76) rfl)))) (mvT hZ (hw _ (List.mem_of_getElem? (i := 76) rfl))) (mvT hZ (hw _ (List.mem_of_getElem? (i := 75) rfl))) (by decide) (backOf (W := 0) (rm16 l Z a0 hw [] r_2 a103 cs tb_2 b103 kk_2 kb103 bl_2 ([(115 : Int32), (113 : Int32), (108 : Int32)] : List Int32) h103 n0 Z105 O107 P1 (by first | assumption | decide | omega : ¬ cs = (0 : Int32)) F111 F112 F113 F114 Ex103 Fv103 Fc103 Vb103 u2_4 (by decide) (own_sfun F112 Fv103 F114 Vb103 (by first | assumption | decide) (by first | assumption | decide))) hZ (hw _ (List.mem_of_getElem? (i := 77) rfl)) (hw _ (List.mem_of_getElem? (i := 1) rfl)) (by decide) (by decide)) q123a q123c (g := (mkF m 300 #[.val (.int p1), .val (.int p2), .val (.int p3), .val (.long p4), .second, .val (.int kf), s1_6, .val (.ref r_2), .val (.ref oc), s1_9, .val (.int nn)] [(.ref a103), (.ref r_2)])) rfl (by rw [hml]; rfl) (Steps.refl _) (argsL := [(.ref a103)]) (rest := []) (lenOf own_pd11 rfl) rfl (by show 2 * 0 + _ ≤ _; exact Nat.le_of_eq rfl) (hb hby at_300) (fun _ _ => ⟨rfl, e103, (by decide : 15 + 0 ≤ _), (by decide : 120 + 0 ≤ _)⟩)
          dsimp only [Pt.U, Pt.locs, Pt.cells, Pt.slots] at X123 l123 y123 z123 st123 hQ123
          subst l123 y123 z123
          obtain ⟨rfl, Nq123, hh123⟩ := hQ123
          obtain ⟨lc123, Xh123, N123⟩ := own_hide X123 (Fr.app N102 Nq123)
          clear X123
          refine Go.hop st123 ?_
          show Go p.tables e below P T123 (mkF m 303 #[.val (.int p1), .val (.int p2), .val (.int p3), .val (.long p4), .second, .val (.int kf), s1_6, .val (.ref r_2), .val (.ref oc), s1_9, .val (.int nn)] [(.int (if bl_2 = ([(115 : Int32), (113 : Int32), (108 : Int32)] : List Int32) then (1 : Int32) else (0 : Int32)))])
          refine Go.via (fun t k => XS.ifNo Xh123.here hx rfl (hb hby at_303) rfl ((if0 _ _).trans (feq (fun q => own_i0 q nq2)).1) k) ?_
          show Go p.tables e below P T123 (mkF m 306 #[.val (.int p1), .val (.int p2), .val (.int p3), .val (.long p4), .second, .val (.int kf), s1_6, .val (.ref r_2), .val (.ref oc), s1_9, .val (.int nn)] [])
          obtain ⟨T124, X124, e124, st124⟩ := getS2 Xh123 hx hZ hown (host := "") (Or.inl (hw _ (List.mem_of_getElem? (i := 111) rfl))) Via.refl hh123 (P34.ext O107.2) (g := (mkF m 306 #[.val (.int p1), .val (.int p2), .val (.int p3), .val (.long p4), .second, .val (.int kf), s1_6, .val (.ref r_2), .val (.ref oc), s1_9, .val (.int nn)] [])) rfl (hb hby at_306)
          refine Go.via st124 ?_
          show Go p.tables e below P T124 (mkF m 309 #[.val (.int p1), .val (.int p2), .val (.int p3), .val (.long p4), .second, .val (.int kf), s1_6, .val (.ref r_2), .val (.ref oc), s1_9, .val (.int nn)] [(.ref aS)])
          refine Go.via (fun t k => XS.astore X124.here hx rfl (hb hby at_309) rfl rfl (l' := #[.val (.int p1), .val (.int p2), .val (.int p3), .val (.long p4), .second, .val (.int kf), s1_6, .val (.ref r_2), .val (.ref aS), s1_9, .val (.int nn)]) rfl k) ?_
          refine Go.via (fun t k => XS.goto X124.here hx rfl (pc0 := 311) (pc' := 335) rfl (hb hby at_311) (by decide) (by decide) k) ?_
          refine Go.via (fun t k => XS.aload X124.here hx rfl (hb hby at_335) rfl rfl k) ?_
          show Go p.tables e below P T124 (mkF m 337 #[.val (.int p1), .val (.int p2), .val (.int p3), .val (.long p4), .second, .val (.int kf), s1_6, .val (.ref r_2), .val (.ref aS), s1_9, .val (.int nn)] [(.ref r_2)])
          obtain ⟨_, _, ⟨T125, L125, k125, n125⟩, -, X125, ⟨Lc125, hQ125, l125, y125, z125⟩, st125⟩ := Jvm.LawKit.callS X124 hx (y := (⟨"com/example/tri3/tri3/StageKind", "named", "(Ljava/lang/String;)Lcom/example/tri3/tri3/StageKind;"⟩ : MethodName)) hown (mvT hZ (hw _ (List.mem_of_getElem? (i := 85) rfl))) (mvT hZ (hw _ (List.mem_of_getElem? (i := 86) rfl))) (mvT hZ (hw _ (List.mem_of_getElem? (i := 83) rfl))) (mvT hZ (hw _ (List.mem_of_getElem? (i := 87) rfl))) (by decide) (backOf (W := 0) (rm18v2 l Z a0 hw [] r_2 cs tb_2 kk_2 bl_2 va kva aF sF tF kF aC sC tC kC aS sS tS kS aD sD tD kD h103 n0 Z105 O107 P1 (by first | assumption | decide | omega : ¬ cs = (0 : Int32)) P5 P6 P7 P8 P9 P10 P11 P12 P13 P14 P15 P16 P17 P18 P19 P20 P21 P22 P23 P24 P25 P26 P27 P28 P29 P30 P31 F111 F112 F113 F114 u2_4 nq2) hZ (hw _ (List.mem_of_getElem? (i := 87) rfl)) (hw _ (List.mem_of_getElem? (i := 83) rfl)) (by decide) (by decide)) (g := (mkF m 337 #[.val (.int p1), .val (.int p2), .val (.int p3), .val (.long p4), .second, .val (.int kf), s1_6, .val (.ref r_2), .val (.ref aS), s1_9, .val (.int nn)] [(.ref r_2)])) rfl (by rw [hml]; rfl) (argsL := [(.ref r_2)]) (rest := []) (lenOf own_pd13 rfl) rfl (by show 2 * 0 + _ ≤ _; exact Nat.le_of_eq rfl) (hb hby at_337) (fun _ _ => ⟨rfl, e124, (by decide : 15 + 1 ≤ _), (by decide : 120 + 4 ≤ _)⟩)
          dsimp only [Pt.U, Pt.locs, Pt.cells, Pt.slots] at X125 l125 y125 z125 st125 hQ125
          subst l125 y125 z125
          obtain ⟨rfl, Nq125, K125⟩ := hQ125
          obtain ⟨lc125, Xh125, N125⟩ := own_hide X125 (Fr.app N123 Nq125)
          clear X125
          refine Go.via st125 ?_
          have Z126 : n0 ≤ T125.heap.size := Nat.le_trans Z105 K125.1
          have K127 : Keep h0 T125.heap [] := K106.trans K125 own_all0
          have CR128 := CHr.trans CR104 (CHr.keep K125 sf0 CR104.1)
          have hk129 := Nat.le_trans hk103 K125.1
          have O130 : Old Z n0 T125.heap := O107.keep K125 own_all0
          show Go p.tables e below P T125 (mkF m 340 #[.val (.int p1), .val (.int p2), .val (.int p3), .val (.long p4), .second, .val (.int kf), s1_6, .val (.ref r_2), .val (.ref aS), s1_9, .val (.int nn)] [(.ref aS)])
          refine Go.via (fun t k => XS.aload Xh125.here hx rfl (hb hby at_340) rfl rfl k) ?_
          show Go p.tables e below P T125 (mkF m 342 #[.val (.int p1), .val (.int p2), .val (.int p3), .val (.long p4), .second, .val (.int kf), s1_6, .val (.ref r_2), .val (.ref aS), s1_9, .val (.int nn)] [(.ref aS), (.ref aS)])
          refine Go.via (fun t k => Jvm.RoadKit.acmp (g := (mkF m 342 #[.val (.int p1), .val (.int p2), .val (.int p3), .val (.long p4), .second, .val (.int kf), s1_6, .val (.ref r_2), .val (.ref aS), s1_9, .val (.int nn)] [(.ref aS), (.ref aS)])) Xh125 hx rfl rfl rfl (pc0 := 342) (pc' := 345) (same := true) rfl (hb hby at_342) rfl (decide_eq_true rfl) (by decide) (by decide) k) ?_
          show Go p.tables e below P T125 (mkF m 345 #[.val (.int p1), .val (.int p2), .val (.int p3), .val (.long p4), .second, .val (.int kf), s1_6, .val (.ref r_2), .val (.ref aS), s1_9, .val (.int nn)] [])
          refine Go.via (fun t k => XS.iconst Xh125.here hx rfl (hb hby at_345) k) ?_
          refine Go.via (fun t k => XS.goto Xh125.here hx rfl (pc0 := 346) (pc' := 350) rfl (hb hby at_346) (by decide) (by decide) k) ?_
          show Go p.tables e below P T125 (mkF m 350 #[.val (.int p1), .val (.int p2), .val (.int p3), .val (.long p4), .second, .val (.int kf), s1_6, .val (.ref r_2), .val (.ref aS), s1_9, .val (.int nn)] [(.int (1 : Int32))])
          obtain ⟨fs, hr, hrun, hended, hend⟩ := Xh125.leaveW hS103 (by exact hk129) (v := some (.int (1 : Int32))) (fun h => by rw [Bd.returns] at h; cases h)
          have hCf : CHr Z consts_1 s.vm s.heap (T125.setFrames fs).vm (T125.setFrames fs).heap := by
            rw [hh]
            show CHr Z consts_1 s.vm h0 T125.vm T125.heap
            exact CHr.trans CR128 (CHv.at Xh125 hZ (own_EW hw) CR128.1)
          refine ⟨_, _, retZ Xh125 hx (t := .boolean) Bd.returns (by simp) (hb hby at_350) rfl hr, hrun, hended, hP _ _ ⟨_, _, rfl, ?_, hCf, own_rew hend (by decide) (by decide)⟩⟩
          show Q0 Z p1 p2 p3 p4 cs fm va kva aF sF tF kF aC sC tC kC aS sS tS kS aD sD tD kD h0 n0 _ T125.heap _
          exact ⟨rfl, N125⟩
        · by_cases nq3 : bl_2 = ([(100 : Int32), (101 : Int32), (108 : Int32), (105 : Int32), (118 : Int32), (101 : Int32), (114 : Int32)] : List Int32)
          · show Go p.tables e below P T2 (mkF m 260 #[.val (.int p1), .val (.int p2), .val (.int p3), .val (.long p4), .second, .val (.int kf), s1_6, .val (.ref r_2), .val (.ref oc), s1_9, .val (.int nn)] [])
            refine Go.via (fun t k => XS.aload Xh2.here hx rfl (hb hby at_260) rfl rfl k) ?_
            show Go p.tables e below P T2 (mkF m 262 #[.val (.int p1), .val (.int p2), .val (.int p3), .val (.long p4), .second, .val (.int kf), s1_6, .val (.ref r_2), .val (.ref oc), s1_9, .val (.int nn)] [(.ref r_2)])
            have F132 : Arv Z T2.heap oc kc .char (8 : Int32) (cl.map Value.int) (.int (0 : Int32)) := (F1_0.keep K2 own_nin0)
            obtain ⟨a133, T133, h133, kn133, b133, kb133, X133, e133, E133, hS133, hk133, hZ, hown, Ex133, Fc133, Fv133, Va133, lta133, ltb133, hC133, -, ne133, st133⟩ := ldcCH Xh2 hx hZ hown (hw _ (List.mem_of_getElem? (i := 0) rfl)) (own_sa hw) rfl hS2 hk10 (own_EW hw) (by decide : (("com/example/tri3/tri3/StageKindNamedPinLaw", 7) : String × Nat) ∈ consts_1) CR3.1 (vs := [(.int (102 : Int32)), (.int (101 : Int32)), (.int (116 : Int32)), (.int (99 : Int32)), (.int (104 : Int32))]) (z := (5 : Int32)) ⟨by decide, rfl⟩ (by decide) rfl (g := (mkF m 262 #[.val (.int p1), .val (.int p2), .val (.int p3), .val (.long p4), .second, .val (.int kf), s1_6, .val (.ref r_2), .val (.ref oc), s1_9, .val (.int nn)] [(.ref r_2)])) rfl (hb hby at_262) (n := 20) (by decide) (by decide) (by decide) (by decide)
            refine Go.via st133 ?_
            have CR134 := CHr.trans CR3 hC133
            have Z135 : n0 ≤ h133.size := Nat.le_trans Z7 E133.1
            have K136 : Keep h0 h133 [] := K8.ext E133
            have O137 : Old Z n0 h133 := O9.ext E133
            have Vb133 : Arv Z h133 b133 kb133 .byte (own_lg ([(102 : Int32), (101 : Int32), (116 : Int32), (99 : Int32), (104 : Int32)] : List Int32)) (([(102 : Int32), (101 : Int32), (116 : Int32), (99 : Int32), (104 : Int32)] : List Int32).map Value.int) (.int (0 : Int32)) := by
              rw [show own_lg ([(102 : Int32), (101 : Int32), (116 : Int32), (99 : Int32), (104 : Int32)] : List Int32) = (5 : Int32) from rfl]; exact Va133
            have F138 : Arv Z h133 oc kc .char (8 : Int32) (cl.map Value.int) (.int (0 : Int32)) := (F132.ext E133)
            have nq139 := (ne133 _ (Safe.arv hZ.alike F138 (by decide))).1
            have nq140 := (ne133 _ (Safe.arv hZ.alike F138 (by decide))).2
            show Go p.tables e below P T133 (mkF m 264 #[.val (.int p1), .val (.int p2), .val (.int p3), .val (.long p4), .second, .val (.int kf), s1_6, .val (.ref r_2), .val (.ref oc), s1_9, .val (.int nn)] [(.ref a133), (.ref r_2)])
            have F141 : Exa Z h133 r_2 "java/lang/String" := (u2_0.ext E133)
            have F142 : Fld Z h133 r_2 "java/lang/String" "value" "[B" (.ref tb_2) := (u2_1.ext E133)
            have F143 : Fld Z h133 r_2 "java/lang/String" "coder" "B" (.int (0 : Int32)) := (u2_2.ext E133)
            have F144 : Arv Z h133 tb_2 kk_2 .byte (own_lg bl_2) (bl_2.map Value.int) (.int (0 : Int32)) := (u2_3.ext E133)
            obtain ⟨cq145, kq145, q145a, q145b, q145c⟩ := isOf hZ e133 F141
            obtain ⟨_, _, ⟨T145, L145, k145, n145⟩, -, X145, ⟨Lc145, hQ145, l145, y145, z145⟩, st145⟩ := X133.virtualBack hx (y := (⟨"java/lang/String", "equals", "(Ljava/lang/Object;)Z"⟩ : MethodName)) (z := (⟨"java/lang/String", "equals", "(Ljava/lang/Object;)Z"⟩ : MethodName)) hown (mvT hZ (hw _ (List.mem_of_getElem? (i := 73) rfl))) (mvT hZ (hw _ (List.mem_of_getElem? (i := 74) rfl))) (notFace_of_selects (args := #[]) (mvT hZ (hw _ (List.mem_of_getElem? (i := 76) rfl)))) (mvT hZ (hw _ (List.mem_of_getElem? (i := 76) rfl))) (mvT hZ (hw _ (List.mem_of_getElem? (i := 75) rfl))) (by decide) (backOf (W := 0) (rm16 l Z a0 hw [] r_2 a133 cs tb_2 b133 kk_2 kb133 bl_2 ([(102 : Int32), (101 : Int32), (116 : Int32), (99 : Int32), (104 : Int32)] : List Int32) h133 n0 Z135 O137 P1 (by first | assumption | decide | omega : ¬ cs = (0 : Int32)) F141 F142 F143 F144 Ex133 Fv133 Fc133 Vb133 u2_4 (by decide) (own_sfun F142 Fv133 F144 Vb133 (by first | assumption | decide) (by first | assumption | decide))) hZ (hw _ (List.mem_of_getElem? (i := 77) rfl)) (hw _ (List.mem_of_getElem? (i := 1) rfl)) (by decide) (by decide)) q145a q145c (g := (mkF m 264 #[.val (.int p1), .val (.int p2), .val (.int p3), .val (.long p4), .second, .val (.int kf), s1_6, .val (.ref r_2), .val (.ref oc), s1_9, .val (.int nn)] [(.ref a133), (.ref r_2)])) rfl (by rw [hml]; rfl) (Steps.refl _) (argsL := [(.ref a133)]) (rest := []) (lenOf own_pd11 rfl) rfl (by show 2 * 0 + _ ≤ _; exact Nat.le_of_eq rfl) (hb hby at_264) (fun _ _ => ⟨rfl, e133, (by decide : 11 + 0 ≤ _), (by decide : 84 + 0 ≤ _)⟩)
            dsimp only [Pt.U, Pt.locs, Pt.cells, Pt.slots] at X145 l145 y145 z145 st145 hQ145
            subst l145 y145 z145
            obtain ⟨rfl, Nq145, hh145⟩ := hQ145
            obtain ⟨lc145, Xh145, N145⟩ := own_hide X145 (Fr.app N2 Nq145)
            clear X145
            refine Go.hop st145 ?_
            show Go p.tables e below P T145 (mkF m 267 #[.val (.int p1), .val (.int p2), .val (.int p3), .val (.long p4), .second, .val (.int kf), s1_6, .val (.ref r_2), .val (.ref oc), s1_9, .val (.int nn)] [(.int (if bl_2 = ([(102 : Int32), (101 : Int32), (116 : Int32), (99 : Int32), (104 : Int32)] : List Int32) then (1 : Int32) else (0 : Int32)))])
            refine Go.via (fun t k => XS.ifYes Xh145.here hx rfl (pc0 := 267) (pc' := 278) rfl (hb hby at_267) rfl ((if0 _ _).trans (teq (if_neg nq0)).1) (by decide) (by decide) k) ?_
            show Go p.tables e below P T145 (mkF m 278 #[.val (.int p1), .val (.int p2), .val (.int p3), .val (.long p4), .second, .val (.int kf), s1_6, .val (.ref r_2), .val (.ref oc), s1_9, .val (.int nn)] [])
            refine Go.via (fun t k => XS.aload Xh145.here hx rfl (hb hby at_278) rfl rfl k) ?_
            show Go p.tables e below P T145 (mkF m 280 #[.val (.int p1), .val (.int p2), .val (.int p3), .val (.long p4), .second, .val (.int kf), s1_6, .val (.ref r_2), .val (.ref oc), s1_9, .val (.int nn)] [(.ref r_2)])
            obtain ⟨a146, T146, h146, kn146, b146, kb146, X146, e146, E146, hS146, hk146, hZ, hown, Ex146, Fc146, Fv146, Va146, lta146, ltb146, hC146, -, ne146, st146⟩ := ldcCH Xh145 hx hZ hown (hw _ (List.mem_of_getElem? (i := 110) rfl)) (own_sa hw) hh145 hS133 hk133 (own_EW hw) (by decide : (("com/example/tri3/tri3/StageKindNamedPinLaw", 9) : String × Nat) ∈ consts_1) CR134.1 (vs := [(.int (99 : Int32)), (.int (97 : Int32)), (.int (108 : Int32)), (.int (108 : Int32))]) (z := (4 : Int32)) ⟨by decide, rfl⟩ (by decide) rfl (g := (mkF m 280 #[.val (.int p1), .val (.int p2), .val (.int p3), .val (.long p4), .second, .val (.int kf), s1_6, .val (.ref r_2), .val (.ref oc), s1_9, .val (.int nn)] [(.ref r_2)])) rfl (hb hby at_280) (n := 16) (by decide) (by decide) (by decide) (by decide)
            refine Go.via st146 ?_
            have CR147 := CHr.trans CR134 hC146
            have Z148 : n0 ≤ h146.size := Nat.le_trans Z135 E146.1
            have K149 : Keep h0 h146 [] := K136.ext E146
            have O150 : Old Z n0 h146 := O137.ext E146
            have Vb146 : Arv Z h146 b146 kb146 .byte (own_lg ([(99 : Int32), (97 : Int32), (108 : Int32), (108 : Int32)] : List Int32)) (([(99 : Int32), (97 : Int32), (108 : Int32), (108 : Int32)] : List Int32).map Value.int) (.int (0 : Int32)) := by
              rw [show own_lg ([(99 : Int32), (97 : Int32), (108 : Int32), (108 : Int32)] : List Int32) = (4 : Int32) from rfl]; exact Va146
            have F151 : Arv Z h146 oc kc .char (8 : Int32) (cl.map Value.int) (.int (0 : Int32)) := (F138.ext E146)
            have nq152 := (ne146 _ (Safe.arv hZ.alike F151 (by decide))).1
            have nq153 := (ne146 _ (Safe.arv hZ.alike F151 (by decide))).2
            show Go p.tables e below P T146 (mkF m 282 #[.val (.int p1), .val (.int p2), .val (.int p3), .val (.long p4), .second, .val (.int kf), s1_6, .val (.ref r_2), .val (.ref oc), s1_9, .val (.int nn)] [(.ref a146), (.ref r_2)])
            have F154 : Exa Z h146 r_2 "java/lang/String" := (F141.ext E146)
            have F155 : Fld Z h146 r_2 "java/lang/String" "value" "[B" (.ref tb_2) := (F142.ext E146)
            have F156 : Fld Z h146 r_2 "java/lang/String" "coder" "B" (.int (0 : Int32)) := (F143.ext E146)
            have F157 : Arv Z h146 tb_2 kk_2 .byte (own_lg bl_2) (bl_2.map Value.int) (.int (0 : Int32)) := (F144.ext E146)
            have F158 : Exa Z h146 a133 "java/lang/String" := (Ex133.ext E146)
            have F159 : Fld Z h146 a133 "java/lang/String" "coder" "B" (.int (0 : Int32)) := (Fc133.ext E146)
            have F160 : Fld Z h146 a133 "java/lang/String" "value" "[B" (.ref b133) := (Fv133.ext E146)
            have F161 : Arv Z h146 b133 kb133 .byte (own_lg ([(102 : Int32), (101 : Int32), (116 : Int32), (99 : Int32), (104 : Int32)] : List Int32)) (([(102 : Int32), (101 : Int32), (116 : Int32), (99 : Int32), (104 : Int32)] : List Int32).map Value.int) (.int (0 : Int32)) := (Vb133.ext E146)
            obtain ⟨cq162, kq162, q162a, q162b, q162c⟩ := isOf hZ e146 F154
            obtain ⟨_, _, ⟨T162, L162, k162, n162⟩, -, X162, ⟨Lc162, hQ162, l162, y162, z162⟩, st162⟩ := X146.virtualBack hx (y := (⟨"java/lang/String", "equals", "(Ljava/lang/Object;)Z"⟩ : MethodName)) (z := (⟨"java/lang/String", "equals", "(Ljava/lang/Object;)Z"⟩ : MethodName)) hown (mvT hZ (hw _ (List.mem_of_getElem? (i := 73) rfl))) (mvT hZ (hw _ (List.mem_of_getElem? (i := 74) rfl))) (notFace_of_selects (args := #[]) (mvT hZ (hw _ (List.mem_of_getElem? (i := 76) rfl)))) (mvT hZ (hw _ (List.mem_of_getElem? (i := 76) rfl))) (mvT hZ (hw _ (List.mem_of_getElem? (i := 75) rfl))) (by decide) (backOf (W := 0) (rm16 l Z a0 hw [] r_2 a146 cs tb_2 b146 kk_2 kb146 bl_2 ([(99 : Int32), (97 : Int32), (108 : Int32), (108 : Int32)] : List Int32) h146 n0 Z148 O150 P1 (by first | assumption | decide | omega : ¬ cs = (0 : Int32)) F154 F155 F156 F157 Ex146 Fv146 Fc146 Vb146 u2_4 (by decide) (own_sfun F155 Fv146 F157 Vb146 (by first | assumption | decide) (by first | assumption | decide))) hZ (hw _ (List.mem_of_getElem? (i := 77) rfl)) (hw _ (List.mem_of_getElem? (i := 1) rfl)) (by decide) (by decide)) q162a q162c (g := (mkF m 282 #[.val (.int p1), .val (.int p2), .val (.int p3), .val (.long p4), .second, .val (.int kf), s1_6, .val (.ref r_2), .val (.ref oc), s1_9, .val (.int nn)] [(.ref a146), (.ref r_2)])) rfl (by rw [hml]; rfl) (Steps.refl _) (argsL := [(.ref a146)]) (rest := []) (lenOf own_pd11 rfl) rfl (by show 2 * 0 + _ ≤ _; exact Nat.le_of_eq rfl) (hb hby at_282) (fun _ _ => ⟨rfl, e146, (by decide : 13 + 0 ≤ _), (by decide : 104 + 0 ≤ _)⟩)
            dsimp only [Pt.U, Pt.locs, Pt.cells, Pt.slots] at X162 l162 y162 z162 st162 hQ162
            subst l162 y162 z162
            obtain ⟨rfl, Nq162, hh162⟩ := hQ162
            obtain ⟨lc162, Xh162, N162⟩ := own_hide X162 (Fr.app N145 Nq162)
            clear X162
            refine Go.hop st162 ?_
            show Go p.tables e below P T162 (mkF m 285 #[.val (.int p1), .val (.int p2), .val (.int p3), .val (.long p4), .second, .val (.int kf), s1_6, .val (.ref r_2), .val (.ref oc), s1_9, .val (.int nn)] [(.int (if bl_2 = ([(99 : Int32), (97 : Int32), (108 : Int32), (108 : Int32)] : List Int32) then (1 : Int32) else (0 : Int32)))])
            refine Go.via (fun t k => XS.ifYes Xh162.here hx rfl (pc0 := 285) (pc' := 296) rfl (hb hby at_285) rfl ((if0 _ _).trans (teq (if_neg nq1)).1) (by decide) (by decide) k) ?_
            show Go p.tables e below P T162 (mkF m 296 #[.val (.int p1), .val (.int p2), .val (.int p3), .val (.long p4), .second, .val (.int kf), s1_6, .val (.ref r_2), .val (.ref oc), s1_9, .val (.int nn)] [])
            refine Go.via (fun t k => XS.aload Xh162.here hx rfl (hb hby at_296) rfl rfl k) ?_
            show Go p.tables e below P T162 (mkF m 298 #[.val (.int p1), .val (.int p2), .val (.int p3), .val (.long p4), .second, .val (.int kf), s1_6, .val (.ref r_2), .val (.ref oc), s1_9, .val (.int nn)] [(.ref r_2)])
            obtain ⟨a163, T163, h163, kn163, b163, kb163, X163, e163, E163, hS163, hk163, hZ, hown, Ex163, Fc163, Fv163, Va163, lta163, ltb163, hC163, -, ne163, st163⟩ := ldcCH Xh162 hx hZ hown (hw _ (List.mem_of_getElem? (i := 109) rfl)) (own_sa hw) hh162 hS146 hk146 (own_EW hw) (by decide : (("com/example/tri3/tri3/StageKindNamedPinLaw", 11) : String × Nat) ∈ consts_1) CR147.1 (vs := [(.int (115 : Int32)), (.int (113 : Int32)), (.int (108 : Int32))]) (z := (3 : Int32)) ⟨by decide, rfl⟩ (by decide) rfl (g := (mkF m 298 #[.val (.int p1), .val (.int p2), .val (.int p3), .val (.long p4), .second, .val (.int kf), s1_6, .val (.ref r_2), .val (.ref oc), s1_9, .val (.int nn)] [(.ref r_2)])) rfl (hb hby at_298) (n := 12) (by decide) (by decide) (by decide) (by decide)
            refine Go.via st163 ?_
            have CR164 := CHr.trans CR147 hC163
            have Z165 : n0 ≤ h163.size := Nat.le_trans Z148 E163.1
            have K166 : Keep h0 h163 [] := K149.ext E163
            have O167 : Old Z n0 h163 := O150.ext E163
            have Vb163 : Arv Z h163 b163 kb163 .byte (own_lg ([(115 : Int32), (113 : Int32), (108 : Int32)] : List Int32)) (([(115 : Int32), (113 : Int32), (108 : Int32)] : List Int32).map Value.int) (.int (0 : Int32)) := by
              rw [show own_lg ([(115 : Int32), (113 : Int32), (108 : Int32)] : List Int32) = (3 : Int32) from rfl]; exact Va163
            have F168 : Arv Z h163 oc kc .char (8 : Int32) (cl.map Value.int) (.int (0 : Int32)) := (F151.ext E163)
            have nq169 := (ne163 _ (Safe.arv hZ.alike F168 (by decide))).1
            have nq170 := (ne163 _ (Safe.arv hZ.alike F168 (by decide))).2
            show Go p.tables e below P T163 (mkF m 300 #[.val (.int p1), .val (.int p2), .val (.int p3), .val (.long p4), .second, .val (.int kf), s1_6, .val (.ref r_2), .val (.ref oc), s1_9, .val (.int nn)] [(.ref a163), (.ref r_2)])
            have F171 : Exa Z h163 r_2 "java/lang/String" := (F154.ext E163)
            have F172 : Fld Z h163 r_2 "java/lang/String" "value" "[B" (.ref tb_2) := (F155.ext E163)
            have F173 : Fld Z h163 r_2 "java/lang/String" "coder" "B" (.int (0 : Int32)) := (F156.ext E163)
            have F174 : Arv Z h163 tb_2 kk_2 .byte (own_lg bl_2) (bl_2.map Value.int) (.int (0 : Int32)) := (F157.ext E163)
            have F175 : Exa Z h163 a133 "java/lang/String" := (F158.ext E163)
            have F176 : Fld Z h163 a133 "java/lang/String" "coder" "B" (.int (0 : Int32)) := (F159.ext E163)
            have F177 : Fld Z h163 a133 "java/lang/String" "value" "[B" (.ref b133) := (F160.ext E163)
            have F178 : Arv Z h163 b133 kb133 .byte (own_lg ([(102 : Int32), (101 : Int32), (116 : Int32), (99 : Int32), (104 : Int32)] : List Int32)) (([(102 : Int32), (101 : Int32), (116 : Int32), (99 : Int32), (104 : Int32)] : List Int32).map Value.int) (.int (0 : Int32)) := (F161.ext E163)
            have F179 : Exa Z h163 a146 "java/lang/String" := (Ex146.ext E163)
            have F180 : Fld Z h163 a146 "java/lang/String" "coder" "B" (.int (0 : Int32)) := (Fc146.ext E163)
            have F181 : Fld Z h163 a146 "java/lang/String" "value" "[B" (.ref b146) := (Fv146.ext E163)
            have F182 : Arv Z h163 b146 kb146 .byte (own_lg ([(99 : Int32), (97 : Int32), (108 : Int32), (108 : Int32)] : List Int32)) (([(99 : Int32), (97 : Int32), (108 : Int32), (108 : Int32)] : List Int32).map Value.int) (.int (0 : Int32)) := (Vb146.ext E163)
            obtain ⟨cq183, kq183, q183a, q183b, q183c⟩ := isOf hZ e163 F171
            obtain ⟨_, _, ⟨T183, L183, k183, n183⟩, -, X183, ⟨Lc183, hQ183, l183, y183, z183⟩, st183⟩ := X163.virtualBack hx (y := (⟨"java/lang/String", "equals", "(Ljava/lang/Object;)Z"⟩ : MethodName)) (z := (⟨"java/lang/String", "equals", "(Ljava/lang/Object;)Z"⟩ : MethodName)) hown (mvT hZ (hw _ (List.mem_of_getElem? (i := 73) rfl))) (mvT hZ (hw _ (List.mem_of_getElem? (i := 74) rfl))) (notFace_of_selects (args := #[]) (mvT hZ (hw _ (List.mem_of_getElem? (i := 76) rfl)))) (mvT hZ (hw _ (List.mem_of_getElem? (i := 76) rfl))) (mvT hZ (hw _ (List.mem_of_getElem? (i := 75) rfl))) (by decide) (backOf (W := 0) (rm16 l Z a0 hw [] r_2 a163 cs tb_2 b163 kk_2 kb163 bl_2 ([(115 : Int32), (113 : Int32), (108 : Int32)] : List Int32) h163 n0 Z165 O167 P1 (by first | assumption | decide | omega : ¬ cs = (0 : Int32)) F171 F172 F173 F174 Ex163 Fv163 Fc163 Vb163 u2_4 (by decide) (own_sfun F172 Fv163 F174 Vb163 (by first | assumption | decide) (by first | assumption | decide))) hZ (hw _ (List.mem_of_getElem? (i := 77) rfl)) (hw _ (List.mem_of_getElem? (i := 1) rfl)) (by decide) (by decide)) q183a q183c (g := (mkF m 300 #[.val (.int p1), .val (.int p2), .val (.int p3), .val (.long p4), .second, .val (.int kf), s1_6, .val (.ref r_2), .val (.ref oc), s1_9, .val (.int nn)] [(.ref a163), (.ref r_2)])) rfl (by rw [hml]; rfl) (Steps.refl _) (argsL := [(.ref a163)]) (rest := []) (lenOf own_pd11 rfl) rfl (by show 2 * 0 + _ ≤ _; exact Nat.le_of_eq rfl) (hb hby at_300) (fun _ _ => ⟨rfl, e163, (by decide : 15 + 0 ≤ _), (by decide : 120 + 0 ≤ _)⟩)
            dsimp only [Pt.U, Pt.locs, Pt.cells, Pt.slots] at X183 l183 y183 z183 st183 hQ183
            subst l183 y183 z183
            obtain ⟨rfl, Nq183, hh183⟩ := hQ183
            obtain ⟨lc183, Xh183, N183⟩ := own_hide X183 (Fr.app N162 Nq183)
            clear X183
            refine Go.hop st183 ?_
            show Go p.tables e below P T183 (mkF m 303 #[.val (.int p1), .val (.int p2), .val (.int p3), .val (.long p4), .second, .val (.int kf), s1_6, .val (.ref r_2), .val (.ref oc), s1_9, .val (.int nn)] [(.int (if bl_2 = ([(115 : Int32), (113 : Int32), (108 : Int32)] : List Int32) then (1 : Int32) else (0 : Int32)))])
            refine Go.via (fun t k => XS.ifYes Xh183.here hx rfl (pc0 := 303) (pc' := 314) rfl (hb hby at_303) rfl ((if0 _ _).trans (teq (if_neg nq2)).1) (by decide) (by decide) k) ?_
            show Go p.tables e below P T183 (mkF m 314 #[.val (.int p1), .val (.int p2), .val (.int p3), .val (.long p4), .second, .val (.int kf), s1_6, .val (.ref r_2), .val (.ref oc), s1_9, .val (.int nn)] [])
            refine Go.via (fun t k => XS.aload Xh183.here hx rfl (hb hby at_314) rfl rfl k) ?_
            show Go p.tables e below P T183 (mkF m 316 #[.val (.int p1), .val (.int p2), .val (.int p3), .val (.long p4), .second, .val (.int kf), s1_6, .val (.ref r_2), .val (.ref oc), s1_9, .val (.int nn)] [(.ref r_2)])
            obtain ⟨a184, T184, h184, kn184, b184, kb184, X184, e184, E184, hS184, hk184, hZ, hown, Ex184, Fc184, Fv184, Va184, lta184, ltb184, hC184, -, ne184, st184⟩ := ldcCH Xh183 hx hZ hown (hw _ (List.mem_of_getElem? (i := 112) rfl)) (own_sa hw) hh183 hS163 hk163 (own_EW hw) (by decide : (("com/example/tri3/tri3/StageKindNamedPinLaw", 13) : String × Nat) ∈ consts_1) CR164.1 (vs := [(.int (100 : Int32)), (.int (101 : Int32)), (.int (108 : Int32)), (.int (105 : Int32)), (.int (118 : Int32)), (.int (101 : Int32)), (.int (114 : Int32))]) (z := (7 : Int32)) ⟨by decide, rfl⟩ (by decide) rfl (g := (mkF m 316 #[.val (.int p1), .val (.int p2), .val (.int p3), .val (.long p4), .second, .val (.int kf), s1_6, .val (.ref r_2), .val (.ref oc), s1_9, .val (.int nn)] [(.ref r_2)])) rfl (hb hby at_316) (n := 28) (by decide) (by decide) (by decide) (by decide)
            refine Go.via st184 ?_
            have CR185 := CHr.trans CR164 hC184
            have Z186 : n0 ≤ h184.size := Nat.le_trans Z165 E184.1
            have K187 : Keep h0 h184 [] := K166.ext E184
            have O188 : Old Z n0 h184 := O167.ext E184
            have Vb184 : Arv Z h184 b184 kb184 .byte (own_lg ([(100 : Int32), (101 : Int32), (108 : Int32), (105 : Int32), (118 : Int32), (101 : Int32), (114 : Int32)] : List Int32)) (([(100 : Int32), (101 : Int32), (108 : Int32), (105 : Int32), (118 : Int32), (101 : Int32), (114 : Int32)] : List Int32).map Value.int) (.int (0 : Int32)) := by
              rw [show own_lg ([(100 : Int32), (101 : Int32), (108 : Int32), (105 : Int32), (118 : Int32), (101 : Int32), (114 : Int32)] : List Int32) = (7 : Int32) from rfl]; exact Va184
            have F189 : Arv Z h184 oc kc .char (8 : Int32) (cl.map Value.int) (.int (0 : Int32)) := (F168.ext E184)
            have nq190 := (ne184 _ (Safe.arv hZ.alike F189 (by decide))).1
            have nq191 := (ne184 _ (Safe.arv hZ.alike F189 (by decide))).2
            show Go p.tables e below P T184 (mkF m 318 #[.val (.int p1), .val (.int p2), .val (.int p3), .val (.long p4), .second, .val (.int kf), s1_6, .val (.ref r_2), .val (.ref oc), s1_9, .val (.int nn)] [(.ref a184), (.ref r_2)])
            have F192 : Exa Z h184 r_2 "java/lang/String" := (F171.ext E184)
            have F193 : Fld Z h184 r_2 "java/lang/String" "value" "[B" (.ref tb_2) := (F172.ext E184)
            have F194 : Fld Z h184 r_2 "java/lang/String" "coder" "B" (.int (0 : Int32)) := (F173.ext E184)
            have F195 : Arv Z h184 tb_2 kk_2 .byte (own_lg bl_2) (bl_2.map Value.int) (.int (0 : Int32)) := (F174.ext E184)
            have F196 : Exa Z h184 a133 "java/lang/String" := (F175.ext E184)
            have F197 : Fld Z h184 a133 "java/lang/String" "coder" "B" (.int (0 : Int32)) := (F176.ext E184)
            have F198 : Fld Z h184 a133 "java/lang/String" "value" "[B" (.ref b133) := (F177.ext E184)
            have F199 : Arv Z h184 b133 kb133 .byte (own_lg ([(102 : Int32), (101 : Int32), (116 : Int32), (99 : Int32), (104 : Int32)] : List Int32)) (([(102 : Int32), (101 : Int32), (116 : Int32), (99 : Int32), (104 : Int32)] : List Int32).map Value.int) (.int (0 : Int32)) := (F178.ext E184)
            have F200 : Exa Z h184 a146 "java/lang/String" := (F179.ext E184)
            have F201 : Fld Z h184 a146 "java/lang/String" "coder" "B" (.int (0 : Int32)) := (F180.ext E184)
            have F202 : Fld Z h184 a146 "java/lang/String" "value" "[B" (.ref b146) := (F181.ext E184)
            have F203 : Arv Z h184 b146 kb146 .byte (own_lg ([(99 : Int32), (97 : Int32), (108 : Int32), (108 : Int32)] : List Int32)) (([(99 : Int32), (97 : Int32), (108 : Int32), (108 : Int32)] : List Int32).map Value.int) (.int (0 : Int32)) := (F182.ext E184)
            have F204 : Exa Z h184 a163 "java/lang/String" := (Ex163.ext E184)
            have F205 : Fld Z h184 a163 "java/lang/String" "coder" "B" (.int (0 : Int32)) := (Fc163.ext E184)
            have F206 : Fld Z h184 a163 "java/lang/String" "value" "[B" (.ref b163) := (Fv163.ext E184)
            have F207 : Arv Z h184 b163 kb163 .byte (own_lg ([(115 : Int32), (113 : Int32), (108 : Int32)] : List Int32)) (([(115 : Int32), (113 : Int32), (108 : Int32)] : List Int32).map Value.int) (.int (0 : Int32)) := (Vb163.ext E184)
            obtain ⟨cq208, kq208, q208a, q208b, q208c⟩ := isOf hZ e184 F192
            obtain ⟨_, _, ⟨T208, L208, k208, n208⟩, -, X208, ⟨Lc208, hQ208, l208, y208, z208⟩, st208⟩ := X184.virtualBack hx (y := (⟨"java/lang/String", "equals", "(Ljava/lang/Object;)Z"⟩ : MethodName)) (z := (⟨"java/lang/String", "equals", "(Ljava/lang/Object;)Z"⟩ : MethodName)) hown (mvT hZ (hw _ (List.mem_of_getElem? (i := 73) rfl))) (mvT hZ (hw _ (List.mem_of_getElem? (i := 74) rfl))) (notFace_of_selects (args := #[]) (mvT hZ (hw _ (List.mem_of_getElem? (i := 76) rfl)))) (mvT hZ (hw _ (List.mem_of_getElem? (i := 76) rfl))) (mvT hZ (hw _ (List.mem_of_getElem? (i := 75) rfl))) (by decide) (backOf (W := 0) (rm16 l Z a0 hw [] r_2 a184 cs tb_2 b184 kk_2 kb184 bl_2 ([(100 : Int32), (101 : Int32), (108 : Int32), (105 : Int32), (118 : Int32), (101 : Int32), (114 : Int32)] : List Int32) h184 n0 Z186 O188 P1 (by first | assumption | decide | omega : ¬ cs = (0 : Int32)) F192 F193 F194 F195 Ex184 Fv184 Fc184 Vb184 u2_4 (by decide) (own_sfun F193 Fv184 F195 Vb184 (by first | assumption | decide) (by first | assumption | decide))) hZ (hw _ (List.mem_of_getElem? (i := 77) rfl)) (hw _ (List.mem_of_getElem? (i := 1) rfl)) (by decide) (by decide)) q208a q208c (g := (mkF m 318 #[.val (.int p1), .val (.int p2), .val (.int p3), .val (.long p4), .second, .val (.int kf), s1_6, .val (.ref r_2), .val (.ref oc), s1_9, .val (.int nn)] [(.ref a184), (.ref r_2)])) rfl (by rw [hml]; rfl) (Steps.refl _) (argsL := [(.ref a184)]) (rest := []) (lenOf own_pd11 rfl) rfl (by show 2 * 0 + _ ≤ _; exact Nat.le_of_eq rfl) (hb hby at_318) (fun _ _ => ⟨rfl, e184, (by decide : 17 + 0 ≤ _), (by decide : 152 + 0 ≤ _)⟩)
            dsimp only [Pt.U, Pt.locs, Pt.cells, Pt.slots] at X208 l208 y208 z208 st208 hQ208
            subst l208 y208 z208
            obtain ⟨rfl, Nq208, hh208⟩ := hQ208
            obtain ⟨lc208, Xh208, N208⟩ := own_hide X208 (Fr.app N183 Nq208)
            clear X208
            refine Go.hop st208 ?_
            show Go p.tables e below P T208 (mkF m 321 #[.val (.int p1), .val (.int p2), .val (.int p3), .val (.long p4), .second, .val (.int kf), s1_6, .val (.ref r_2), .val (.ref oc), s1_9, .val (.int nn)] [(.int (if bl_2 = ([(100 : Int32), (101 : Int32), (108 : Int32), (105 : Int32), (118 : Int32), (101 : Int32), (114 : Int32)] : List Int32) then (1 : Int32) else (0 : Int32)))])
            refine Go.via (fun t k => XS.ifNo Xh208.here hx rfl (hb hby at_321) rfl ((if0 _ _).trans (feq (fun q => own_i0 q nq3)).1) k) ?_
            show Go p.tables e below P T208 (mkF m 324 #[.val (.int p1), .val (.int p2), .val (.int p3), .val (.long p4), .second, .val (.int kf), s1_6, .val (.ref r_2), .val (.ref oc), s1_9, .val (.int nn)] [])
            obtain ⟨T209, X209, e209, st209⟩ := getS2 Xh208 hx hZ hown (host := "") (Or.inl (hw _ (List.mem_of_getElem? (i := 115) rfl))) Via.refl hh208 (P35.ext O188.2) (g := (mkF m 324 #[.val (.int p1), .val (.int p2), .val (.int p3), .val (.long p4), .second, .val (.int kf), s1_6, .val (.ref r_2), .val (.ref oc), s1_9, .val (.int nn)] [])) rfl (hb hby at_324)
            refine Go.via st209 ?_
            show Go p.tables e below P T209 (mkF m 327 #[.val (.int p1), .val (.int p2), .val (.int p3), .val (.long p4), .second, .val (.int kf), s1_6, .val (.ref r_2), .val (.ref oc), s1_9, .val (.int nn)] [(.ref aD)])
            refine Go.via (fun t k => XS.astore X209.here hx rfl (hb hby at_327) rfl rfl (l' := #[.val (.int p1), .val (.int p2), .val (.int p3), .val (.long p4), .second, .val (.int kf), s1_6, .val (.ref r_2), .val (.ref aD), s1_9, .val (.int nn)]) rfl k) ?_
            refine Go.via (fun t k => XS.goto X209.here hx rfl (pc0 := 329) (pc' := 335) rfl (hb hby at_329) (by decide) (by decide) k) ?_
            refine Go.via (fun t k => XS.aload X209.here hx rfl (hb hby at_335) rfl rfl k) ?_
            show Go p.tables e below P T209 (mkF m 337 #[.val (.int p1), .val (.int p2), .val (.int p3), .val (.long p4), .second, .val (.int kf), s1_6, .val (.ref r_2), .val (.ref aD), s1_9, .val (.int nn)] [(.ref r_2)])
            obtain ⟨_, _, ⟨T210, L210, k210, n210⟩, -, X210, ⟨Lc210, hQ210, l210, y210, z210⟩, st210⟩ := Jvm.LawKit.callS X209 hx (y := (⟨"com/example/tri3/tri3/StageKind", "named", "(Ljava/lang/String;)Lcom/example/tri3/tri3/StageKind;"⟩ : MethodName)) hown (mvT hZ (hw _ (List.mem_of_getElem? (i := 85) rfl))) (mvT hZ (hw _ (List.mem_of_getElem? (i := 86) rfl))) (mvT hZ (hw _ (List.mem_of_getElem? (i := 83) rfl))) (mvT hZ (hw _ (List.mem_of_getElem? (i := 87) rfl))) (by decide) (backOf (W := 0) (rm18v3 l Z a0 hw [] r_2 cs tb_2 kk_2 bl_2 va kva aF sF tF kF aC sC tC kC aS sS tS kS aD sD tD kD h184 n0 Z186 O188 P1 (by first | assumption | decide | omega : ¬ cs = (0 : Int32)) P5 P6 P7 P8 P9 P10 P11 P12 P13 P14 P15 P16 P17 P18 P19 P20 P21 P22 P23 P24 P25 P26 P27 P28 P29 P30 P31 F192 F193 F194 F195 u2_4 nq3) hZ (hw _ (List.mem_of_getElem? (i := 87) rfl)) (hw _ (List.mem_of_getElem? (i := 83) rfl)) (by decide) (by decide)) (g := (mkF m 337 #[.val (.int p1), .val (.int p2), .val (.int p3), .val (.long p4), .second, .val (.int kf), s1_6, .val (.ref r_2), .val (.ref aD), s1_9, .val (.int nn)] [(.ref r_2)])) rfl (by rw [hml]; rfl) (argsL := [(.ref r_2)]) (rest := []) (lenOf own_pd13 rfl) rfl (by show 2 * 0 + _ ≤ _; exact Nat.le_of_eq rfl) (hb hby at_337) (fun _ _ => ⟨rfl, e209, (by decide : 17 + 1 ≤ _), (by decide : 152 + 4 ≤ _)⟩)
            dsimp only [Pt.U, Pt.locs, Pt.cells, Pt.slots] at X210 l210 y210 z210 st210 hQ210
            subst l210 y210 z210
            obtain ⟨rfl, Nq210, K210⟩ := hQ210
            obtain ⟨lc210, Xh210, N210⟩ := own_hide X210 (Fr.app N208 Nq210)
            clear X210
            refine Go.via st210 ?_
            have Z211 : n0 ≤ T210.heap.size := Nat.le_trans Z186 K210.1
            have K212 : Keep h0 T210.heap [] := K187.trans K210 own_all0
            have CR213 := CHr.trans CR185 (CHr.keep K210 sf0 CR185.1)
            have hk214 := Nat.le_trans hk184 K210.1
            have O215 : Old Z n0 T210.heap := O188.keep K210 own_all0
            show Go p.tables e below P T210 (mkF m 340 #[.val (.int p1), .val (.int p2), .val (.int p3), .val (.long p4), .second, .val (.int kf), s1_6, .val (.ref r_2), .val (.ref aD), s1_9, .val (.int nn)] [(.ref aD)])
            refine Go.via (fun t k => XS.aload Xh210.here hx rfl (hb hby at_340) rfl rfl k) ?_
            show Go p.tables e below P T210 (mkF m 342 #[.val (.int p1), .val (.int p2), .val (.int p3), .val (.long p4), .second, .val (.int kf), s1_6, .val (.ref r_2), .val (.ref aD), s1_9, .val (.int nn)] [(.ref aD), (.ref aD)])
            refine Go.via (fun t k => Jvm.RoadKit.acmp (g := (mkF m 342 #[.val (.int p1), .val (.int p2), .val (.int p3), .val (.long p4), .second, .val (.int kf), s1_6, .val (.ref r_2), .val (.ref aD), s1_9, .val (.int nn)] [(.ref aD), (.ref aD)])) Xh210 hx rfl rfl rfl (pc0 := 342) (pc' := 345) (same := true) rfl (hb hby at_342) rfl (decide_eq_true rfl) (by decide) (by decide) k) ?_
            show Go p.tables e below P T210 (mkF m 345 #[.val (.int p1), .val (.int p2), .val (.int p3), .val (.long p4), .second, .val (.int kf), s1_6, .val (.ref r_2), .val (.ref aD), s1_9, .val (.int nn)] [])
            refine Go.via (fun t k => XS.iconst Xh210.here hx rfl (hb hby at_345) k) ?_
            refine Go.via (fun t k => XS.goto Xh210.here hx rfl (pc0 := 346) (pc' := 350) rfl (hb hby at_346) (by decide) (by decide) k) ?_
            show Go p.tables e below P T210 (mkF m 350 #[.val (.int p1), .val (.int p2), .val (.int p3), .val (.long p4), .second, .val (.int kf), s1_6, .val (.ref r_2), .val (.ref aD), s1_9, .val (.int nn)] [(.int (1 : Int32))])
            obtain ⟨fs, hr, hrun, hended, hend⟩ := Xh210.leaveW hS184 (by exact hk214) (v := some (.int (1 : Int32))) (fun h => by rw [Bd.returns] at h; cases h)
            have hCf : CHr Z consts_1 s.vm s.heap (T210.setFrames fs).vm (T210.setFrames fs).heap := by
              rw [hh]
              show CHr Z consts_1 s.vm h0 T210.vm T210.heap
              exact CHr.trans CR213 (CHv.at Xh210 hZ (own_EW hw) CR213.1)
            refine ⟨_, _, retZ Xh210 hx (t := .boolean) Bd.returns (by simp) (hb hby at_350) rfl hr, hrun, hended, hP _ _ ⟨_, _, rfl, ?_, hCf, own_rew hend (by decide) (by decide)⟩⟩
            show Q0 Z p1 p2 p3 p4 cs fm va kva aF sF tF kF aC sC tC kC aS sS tS kS aD sD tD kD h0 n0 _ T210.heap _
            exact ⟨rfl, N210⟩
          · show Go p.tables e below P T2 (mkF m 260 #[.val (.int p1), .val (.int p2), .val (.int p3), .val (.long p4), .second, .val (.int kf), s1_6, .val (.ref r_2), .val (.ref oc), s1_9, .val (.int nn)] [])
            refine Go.via (fun t k => XS.aload Xh2.here hx rfl (hb hby at_260) rfl rfl k) ?_
            show Go p.tables e below P T2 (mkF m 262 #[.val (.int p1), .val (.int p2), .val (.int p3), .val (.long p4), .second, .val (.int kf), s1_6, .val (.ref r_2), .val (.ref oc), s1_9, .val (.int nn)] [(.ref r_2)])
            have F217 : Arv Z T2.heap oc kc .char (8 : Int32) (cl.map Value.int) (.int (0 : Int32)) := (F1_0.keep K2 own_nin0)
            obtain ⟨a218, T218, h218, kn218, b218, kb218, X218, e218, E218, hS218, hk218, hZ, hown, Ex218, Fc218, Fv218, Va218, lta218, ltb218, hC218, -, ne218, st218⟩ := ldcCH Xh2 hx hZ hown (hw _ (List.mem_of_getElem? (i := 0) rfl)) (own_sa hw) rfl hS2 hk10 (own_EW hw) (by decide : (("com/example/tri3/tri3/StageKindNamedPinLaw", 7) : String × Nat) ∈ consts_1) CR3.1 (vs := [(.int (102 : Int32)), (.int (101 : Int32)), (.int (116 : Int32)), (.int (99 : Int32)), (.int (104 : Int32))]) (z := (5 : Int32)) ⟨by decide, rfl⟩ (by decide) rfl (g := (mkF m 262 #[.val (.int p1), .val (.int p2), .val (.int p3), .val (.long p4), .second, .val (.int kf), s1_6, .val (.ref r_2), .val (.ref oc), s1_9, .val (.int nn)] [(.ref r_2)])) rfl (hb hby at_262) (n := 20) (by decide) (by decide) (by decide) (by decide)
            refine Go.via st218 ?_
            have CR219 := CHr.trans CR3 hC218
            have Z220 : n0 ≤ h218.size := Nat.le_trans Z7 E218.1
            have K221 : Keep h0 h218 [] := K8.ext E218
            have O222 : Old Z n0 h218 := O9.ext E218
            have Vb218 : Arv Z h218 b218 kb218 .byte (own_lg ([(102 : Int32), (101 : Int32), (116 : Int32), (99 : Int32), (104 : Int32)] : List Int32)) (([(102 : Int32), (101 : Int32), (116 : Int32), (99 : Int32), (104 : Int32)] : List Int32).map Value.int) (.int (0 : Int32)) := by
              rw [show own_lg ([(102 : Int32), (101 : Int32), (116 : Int32), (99 : Int32), (104 : Int32)] : List Int32) = (5 : Int32) from rfl]; exact Va218
            have F223 : Arv Z h218 oc kc .char (8 : Int32) (cl.map Value.int) (.int (0 : Int32)) := (F217.ext E218)
            have nq224 := (ne218 _ (Safe.arv hZ.alike F223 (by decide))).1
            have nq225 := (ne218 _ (Safe.arv hZ.alike F223 (by decide))).2
            show Go p.tables e below P T218 (mkF m 264 #[.val (.int p1), .val (.int p2), .val (.int p3), .val (.long p4), .second, .val (.int kf), s1_6, .val (.ref r_2), .val (.ref oc), s1_9, .val (.int nn)] [(.ref a218), (.ref r_2)])
            have F226 : Exa Z h218 r_2 "java/lang/String" := (u2_0.ext E218)
            have F227 : Fld Z h218 r_2 "java/lang/String" "value" "[B" (.ref tb_2) := (u2_1.ext E218)
            have F228 : Fld Z h218 r_2 "java/lang/String" "coder" "B" (.int (0 : Int32)) := (u2_2.ext E218)
            have F229 : Arv Z h218 tb_2 kk_2 .byte (own_lg bl_2) (bl_2.map Value.int) (.int (0 : Int32)) := (u2_3.ext E218)
            obtain ⟨cq230, kq230, q230a, q230b, q230c⟩ := isOf hZ e218 F226
            obtain ⟨_, _, ⟨T230, L230, k230, n230⟩, -, X230, ⟨Lc230, hQ230, l230, y230, z230⟩, st230⟩ := X218.virtualBack hx (y := (⟨"java/lang/String", "equals", "(Ljava/lang/Object;)Z"⟩ : MethodName)) (z := (⟨"java/lang/String", "equals", "(Ljava/lang/Object;)Z"⟩ : MethodName)) hown (mvT hZ (hw _ (List.mem_of_getElem? (i := 73) rfl))) (mvT hZ (hw _ (List.mem_of_getElem? (i := 74) rfl))) (notFace_of_selects (args := #[]) (mvT hZ (hw _ (List.mem_of_getElem? (i := 76) rfl)))) (mvT hZ (hw _ (List.mem_of_getElem? (i := 76) rfl))) (mvT hZ (hw _ (List.mem_of_getElem? (i := 75) rfl))) (by decide) (backOf (W := 0) (rm16 l Z a0 hw [] r_2 a218 cs tb_2 b218 kk_2 kb218 bl_2 ([(102 : Int32), (101 : Int32), (116 : Int32), (99 : Int32), (104 : Int32)] : List Int32) h218 n0 Z220 O222 P1 (by first | assumption | decide | omega : ¬ cs = (0 : Int32)) F226 F227 F228 F229 Ex218 Fv218 Fc218 Vb218 u2_4 (by decide) (own_sfun F227 Fv218 F229 Vb218 (by first | assumption | decide) (by first | assumption | decide))) hZ (hw _ (List.mem_of_getElem? (i := 77) rfl)) (hw _ (List.mem_of_getElem? (i := 1) rfl)) (by decide) (by decide)) q230a q230c (g := (mkF m 264 #[.val (.int p1), .val (.int p2), .val (.int p3), .val (.long p4), .second, .val (.int kf), s1_6, .val (.ref r_2), .val (.ref oc), s1_9, .val (.int nn)] [(.ref a218), (.ref r_2)])) rfl (by rw [hml]; rfl) (Steps.refl _) (argsL := [(.ref a218)]) (rest := []) (lenOf own_pd11 rfl) rfl (by show 2 * 0 + _ ≤ _; exact Nat.le_of_eq rfl) (hb hby at_264) (fun _ _ => ⟨rfl, e218, (by decide : 11 + 0 ≤ _), (by decide : 84 + 0 ≤ _)⟩)
            dsimp only [Pt.U, Pt.locs, Pt.cells, Pt.slots] at X230 l230 y230 z230 st230 hQ230
            subst l230 y230 z230
            obtain ⟨rfl, Nq230, hh230⟩ := hQ230
            obtain ⟨lc230, Xh230, N230⟩ := own_hide X230 (Fr.app N2 Nq230)
            clear X230
            refine Go.hop st230 ?_
            show Go p.tables e below P T230 (mkF m 267 #[.val (.int p1), .val (.int p2), .val (.int p3), .val (.long p4), .second, .val (.int kf), s1_6, .val (.ref r_2), .val (.ref oc), s1_9, .val (.int nn)] [(.int (if bl_2 = ([(102 : Int32), (101 : Int32), (116 : Int32), (99 : Int32), (104 : Int32)] : List Int32) then (1 : Int32) else (0 : Int32)))])
            refine Go.via (fun t k => XS.ifYes Xh230.here hx rfl (pc0 := 267) (pc' := 278) rfl (hb hby at_267) rfl ((if0 _ _).trans (teq (if_neg nq0)).1) (by decide) (by decide) k) ?_
            show Go p.tables e below P T230 (mkF m 278 #[.val (.int p1), .val (.int p2), .val (.int p3), .val (.long p4), .second, .val (.int kf), s1_6, .val (.ref r_2), .val (.ref oc), s1_9, .val (.int nn)] [])
            refine Go.via (fun t k => XS.aload Xh230.here hx rfl (hb hby at_278) rfl rfl k) ?_
            show Go p.tables e below P T230 (mkF m 280 #[.val (.int p1), .val (.int p2), .val (.int p3), .val (.long p4), .second, .val (.int kf), s1_6, .val (.ref r_2), .val (.ref oc), s1_9, .val (.int nn)] [(.ref r_2)])
            obtain ⟨a231, T231, h231, kn231, b231, kb231, X231, e231, E231, hS231, hk231, hZ, hown, Ex231, Fc231, Fv231, Va231, lta231, ltb231, hC231, -, ne231, st231⟩ := ldcCH Xh230 hx hZ hown (hw _ (List.mem_of_getElem? (i := 110) rfl)) (own_sa hw) hh230 hS218 hk218 (own_EW hw) (by decide : (("com/example/tri3/tri3/StageKindNamedPinLaw", 9) : String × Nat) ∈ consts_1) CR219.1 (vs := [(.int (99 : Int32)), (.int (97 : Int32)), (.int (108 : Int32)), (.int (108 : Int32))]) (z := (4 : Int32)) ⟨by decide, rfl⟩ (by decide) rfl (g := (mkF m 280 #[.val (.int p1), .val (.int p2), .val (.int p3), .val (.long p4), .second, .val (.int kf), s1_6, .val (.ref r_2), .val (.ref oc), s1_9, .val (.int nn)] [(.ref r_2)])) rfl (hb hby at_280) (n := 16) (by decide) (by decide) (by decide) (by decide)
            refine Go.via st231 ?_
            have CR232 := CHr.trans CR219 hC231
            have Z233 : n0 ≤ h231.size := Nat.le_trans Z220 E231.1
            have K234 : Keep h0 h231 [] := K221.ext E231
            have O235 : Old Z n0 h231 := O222.ext E231
            have Vb231 : Arv Z h231 b231 kb231 .byte (own_lg ([(99 : Int32), (97 : Int32), (108 : Int32), (108 : Int32)] : List Int32)) (([(99 : Int32), (97 : Int32), (108 : Int32), (108 : Int32)] : List Int32).map Value.int) (.int (0 : Int32)) := by
              rw [show own_lg ([(99 : Int32), (97 : Int32), (108 : Int32), (108 : Int32)] : List Int32) = (4 : Int32) from rfl]; exact Va231
            have F236 : Arv Z h231 oc kc .char (8 : Int32) (cl.map Value.int) (.int (0 : Int32)) := (F223.ext E231)
            have nq237 := (ne231 _ (Safe.arv hZ.alike F236 (by decide))).1
            have nq238 := (ne231 _ (Safe.arv hZ.alike F236 (by decide))).2
            show Go p.tables e below P T231 (mkF m 282 #[.val (.int p1), .val (.int p2), .val (.int p3), .val (.long p4), .second, .val (.int kf), s1_6, .val (.ref r_2), .val (.ref oc), s1_9, .val (.int nn)] [(.ref a231), (.ref r_2)])
            have F239 : Exa Z h231 r_2 "java/lang/String" := (F226.ext E231)
            have F240 : Fld Z h231 r_2 "java/lang/String" "value" "[B" (.ref tb_2) := (F227.ext E231)
            have F241 : Fld Z h231 r_2 "java/lang/String" "coder" "B" (.int (0 : Int32)) := (F228.ext E231)
            have F242 : Arv Z h231 tb_2 kk_2 .byte (own_lg bl_2) (bl_2.map Value.int) (.int (0 : Int32)) := (F229.ext E231)
            have F243 : Exa Z h231 a218 "java/lang/String" := (Ex218.ext E231)
            have F244 : Fld Z h231 a218 "java/lang/String" "coder" "B" (.int (0 : Int32)) := (Fc218.ext E231)
            have F245 : Fld Z h231 a218 "java/lang/String" "value" "[B" (.ref b218) := (Fv218.ext E231)
            have F246 : Arv Z h231 b218 kb218 .byte (own_lg ([(102 : Int32), (101 : Int32), (116 : Int32), (99 : Int32), (104 : Int32)] : List Int32)) (([(102 : Int32), (101 : Int32), (116 : Int32), (99 : Int32), (104 : Int32)] : List Int32).map Value.int) (.int (0 : Int32)) := (Vb218.ext E231)
            obtain ⟨cq247, kq247, q247a, q247b, q247c⟩ := isOf hZ e231 F239
            obtain ⟨_, _, ⟨T247, L247, k247, n247⟩, -, X247, ⟨Lc247, hQ247, l247, y247, z247⟩, st247⟩ := X231.virtualBack hx (y := (⟨"java/lang/String", "equals", "(Ljava/lang/Object;)Z"⟩ : MethodName)) (z := (⟨"java/lang/String", "equals", "(Ljava/lang/Object;)Z"⟩ : MethodName)) hown (mvT hZ (hw _ (List.mem_of_getElem? (i := 73) rfl))) (mvT hZ (hw _ (List.mem_of_getElem? (i := 74) rfl))) (notFace_of_selects (args := #[]) (mvT hZ (hw _ (List.mem_of_getElem? (i := 76) rfl)))) (mvT hZ (hw _ (List.mem_of_getElem? (i := 76) rfl))) (mvT hZ (hw _ (List.mem_of_getElem? (i := 75) rfl))) (by decide) (backOf (W := 0) (rm16 l Z a0 hw [] r_2 a231 cs tb_2 b231 kk_2 kb231 bl_2 ([(99 : Int32), (97 : Int32), (108 : Int32), (108 : Int32)] : List Int32) h231 n0 Z233 O235 P1 (by first | assumption | decide | omega : ¬ cs = (0 : Int32)) F239 F240 F241 F242 Ex231 Fv231 Fc231 Vb231 u2_4 (by decide) (own_sfun F240 Fv231 F242 Vb231 (by first | assumption | decide) (by first | assumption | decide))) hZ (hw _ (List.mem_of_getElem? (i := 77) rfl)) (hw _ (List.mem_of_getElem? (i := 1) rfl)) (by decide) (by decide)) q247a q247c (g := (mkF m 282 #[.val (.int p1), .val (.int p2), .val (.int p3), .val (.long p4), .second, .val (.int kf), s1_6, .val (.ref r_2), .val (.ref oc), s1_9, .val (.int nn)] [(.ref a231), (.ref r_2)])) rfl (by rw [hml]; rfl) (Steps.refl _) (argsL := [(.ref a231)]) (rest := []) (lenOf own_pd11 rfl) rfl (by show 2 * 0 + _ ≤ _; exact Nat.le_of_eq rfl) (hb hby at_282) (fun _ _ => ⟨rfl, e231, (by decide : 13 + 0 ≤ _), (by decide : 104 + 0 ≤ _)⟩)
            dsimp only [Pt.U, Pt.locs, Pt.cells, Pt.slots] at X247 l247 y247 z247 st247 hQ247
            subst l247 y247 z247
            obtain ⟨rfl, Nq247, hh247⟩ := hQ247
            obtain ⟨lc247, Xh247, N247⟩ := own_hide X247 (Fr.app N230 Nq247)
            clear X247
            refine Go.hop st247 ?_
            show Go p.tables e below P T247 (mkF m 285 #[.val (.int p1), .val (.int p2), .val (.int p3), .val (.long p4), .second, .val (.int kf), s1_6, .val (.ref r_2), .val (.ref oc), s1_9, .val (.int nn)] [(.int (if bl_2 = ([(99 : Int32), (97 : Int32), (108 : Int32), (108 : Int32)] : List Int32) then (1 : Int32) else (0 : Int32)))])
            refine Go.via (fun t k => XS.ifYes Xh247.here hx rfl (pc0 := 285) (pc' := 296) rfl (hb hby at_285) rfl ((if0 _ _).trans (teq (if_neg nq1)).1) (by decide) (by decide) k) ?_
            show Go p.tables e below P T247 (mkF m 296 #[.val (.int p1), .val (.int p2), .val (.int p3), .val (.long p4), .second, .val (.int kf), s1_6, .val (.ref r_2), .val (.ref oc), s1_9, .val (.int nn)] [])
            refine Go.via (fun t k => XS.aload Xh247.here hx rfl (hb hby at_296) rfl rfl k) ?_
            show Go p.tables e below P T247 (mkF m 298 #[.val (.int p1), .val (.int p2), .val (.int p3), .val (.long p4), .second, .val (.int kf), s1_6, .val (.ref r_2), .val (.ref oc), s1_9, .val (.int nn)] [(.ref r_2)])
            obtain ⟨a248, T248, h248, kn248, b248, kb248, X248, e248, E248, hS248, hk248, hZ, hown, Ex248, Fc248, Fv248, Va248, lta248, ltb248, hC248, -, ne248, st248⟩ := ldcCH Xh247 hx hZ hown (hw _ (List.mem_of_getElem? (i := 109) rfl)) (own_sa hw) hh247 hS231 hk231 (own_EW hw) (by decide : (("com/example/tri3/tri3/StageKindNamedPinLaw", 11) : String × Nat) ∈ consts_1) CR232.1 (vs := [(.int (115 : Int32)), (.int (113 : Int32)), (.int (108 : Int32))]) (z := (3 : Int32)) ⟨by decide, rfl⟩ (by decide) rfl (g := (mkF m 298 #[.val (.int p1), .val (.int p2), .val (.int p3), .val (.long p4), .second, .val (.int kf), s1_6, .val (.ref r_2), .val (.ref oc), s1_9, .val (.int nn)] [(.ref r_2)])) rfl (hb hby at_298) (n := 12) (by decide) (by decide) (by decide) (by decide)
            refine Go.via st248 ?_
            have CR249 := CHr.trans CR232 hC248
            have Z250 : n0 ≤ h248.size := Nat.le_trans Z233 E248.1
            have K251 : Keep h0 h248 [] := K234.ext E248
            have O252 : Old Z n0 h248 := O235.ext E248
            have Vb248 : Arv Z h248 b248 kb248 .byte (own_lg ([(115 : Int32), (113 : Int32), (108 : Int32)] : List Int32)) (([(115 : Int32), (113 : Int32), (108 : Int32)] : List Int32).map Value.int) (.int (0 : Int32)) := by
              rw [show own_lg ([(115 : Int32), (113 : Int32), (108 : Int32)] : List Int32) = (3 : Int32) from rfl]; exact Va248
            have F253 : Arv Z h248 oc kc .char (8 : Int32) (cl.map Value.int) (.int (0 : Int32)) := (F236.ext E248)
            have nq254 := (ne248 _ (Safe.arv hZ.alike F253 (by decide))).1
            have nq255 := (ne248 _ (Safe.arv hZ.alike F253 (by decide))).2
            show Go p.tables e below P T248 (mkF m 300 #[.val (.int p1), .val (.int p2), .val (.int p3), .val (.long p4), .second, .val (.int kf), s1_6, .val (.ref r_2), .val (.ref oc), s1_9, .val (.int nn)] [(.ref a248), (.ref r_2)])
            have F256 : Exa Z h248 r_2 "java/lang/String" := (F239.ext E248)
            have F257 : Fld Z h248 r_2 "java/lang/String" "value" "[B" (.ref tb_2) := (F240.ext E248)
            have F258 : Fld Z h248 r_2 "java/lang/String" "coder" "B" (.int (0 : Int32)) := (F241.ext E248)
            have F259 : Arv Z h248 tb_2 kk_2 .byte (own_lg bl_2) (bl_2.map Value.int) (.int (0 : Int32)) := (F242.ext E248)
            have F260 : Exa Z h248 a218 "java/lang/String" := (F243.ext E248)
            have F261 : Fld Z h248 a218 "java/lang/String" "coder" "B" (.int (0 : Int32)) := (F244.ext E248)
            have F262 : Fld Z h248 a218 "java/lang/String" "value" "[B" (.ref b218) := (F245.ext E248)
            have F263 : Arv Z h248 b218 kb218 .byte (own_lg ([(102 : Int32), (101 : Int32), (116 : Int32), (99 : Int32), (104 : Int32)] : List Int32)) (([(102 : Int32), (101 : Int32), (116 : Int32), (99 : Int32), (104 : Int32)] : List Int32).map Value.int) (.int (0 : Int32)) := (F246.ext E248)
            have F264 : Exa Z h248 a231 "java/lang/String" := (Ex231.ext E248)
            have F265 : Fld Z h248 a231 "java/lang/String" "coder" "B" (.int (0 : Int32)) := (Fc231.ext E248)
            have F266 : Fld Z h248 a231 "java/lang/String" "value" "[B" (.ref b231) := (Fv231.ext E248)
            have F267 : Arv Z h248 b231 kb231 .byte (own_lg ([(99 : Int32), (97 : Int32), (108 : Int32), (108 : Int32)] : List Int32)) (([(99 : Int32), (97 : Int32), (108 : Int32), (108 : Int32)] : List Int32).map Value.int) (.int (0 : Int32)) := (Vb231.ext E248)
            obtain ⟨cq268, kq268, q268a, q268b, q268c⟩ := isOf hZ e248 F256
            obtain ⟨_, _, ⟨T268, L268, k268, n268⟩, -, X268, ⟨Lc268, hQ268, l268, y268, z268⟩, st268⟩ := X248.virtualBack hx (y := (⟨"java/lang/String", "equals", "(Ljava/lang/Object;)Z"⟩ : MethodName)) (z := (⟨"java/lang/String", "equals", "(Ljava/lang/Object;)Z"⟩ : MethodName)) hown (mvT hZ (hw _ (List.mem_of_getElem? (i := 73) rfl))) (mvT hZ (hw _ (List.mem_of_getElem? (i := 74) rfl))) (notFace_of_selects (args := #[]) (mvT hZ (hw _ (List.mem_of_getElem? (i := 76) rfl)))) (mvT hZ (hw _ (List.mem_of_getElem? (i := 76) rfl))) (mvT hZ (hw _ (List.mem_of_getElem? (i := 75) rfl))) (by decide) (backOf (W := 0) (rm16 l Z a0 hw [] r_2 a248 cs tb_2 b248 kk_2 kb248 bl_2 ([(115 : Int32), (113 : Int32), (108 : Int32)] : List Int32) h248 n0 Z250 O252 P1 (by first | assumption | decide | omega : ¬ cs = (0 : Int32)) F256 F257 F258 F259 Ex248 Fv248 Fc248 Vb248 u2_4 (by decide) (own_sfun F257 Fv248 F259 Vb248 (by first | assumption | decide) (by first | assumption | decide))) hZ (hw _ (List.mem_of_getElem? (i := 77) rfl)) (hw _ (List.mem_of_getElem? (i := 1) rfl)) (by decide) (by decide)) q268a q268c (g := (mkF m 300 #[.val (.int p1), .val (.int p2), .val (.int p3), .val (.long p4), .second, .val (.int kf), s1_6, .val (.ref r_2), .val (.ref oc), s1_9, .val (.int nn)] [(.ref a248), (.ref r_2)])) rfl (by rw [hml]; rfl) (Steps.refl _) (argsL := [(.ref a248)]) (rest := []) (lenOf own_pd11 rfl) rfl (by show 2 * 0 + _ ≤ _; exact Nat.le_of_eq rfl) (hb hby at_300) (fun _ _ => ⟨rfl, e248, (by decide : 15 + 0 ≤ _), (by decide : 120 + 0 ≤ _)⟩)
            dsimp only [Pt.U, Pt.locs, Pt.cells, Pt.slots] at X268 l268 y268 z268 st268 hQ268
            subst l268 y268 z268
            obtain ⟨rfl, Nq268, hh268⟩ := hQ268
            obtain ⟨lc268, Xh268, N268⟩ := own_hide X268 (Fr.app N247 Nq268)
            clear X268
            refine Go.hop st268 ?_
            show Go p.tables e below P T268 (mkF m 303 #[.val (.int p1), .val (.int p2), .val (.int p3), .val (.long p4), .second, .val (.int kf), s1_6, .val (.ref r_2), .val (.ref oc), s1_9, .val (.int nn)] [(.int (if bl_2 = ([(115 : Int32), (113 : Int32), (108 : Int32)] : List Int32) then (1 : Int32) else (0 : Int32)))])
            refine Go.via (fun t k => XS.ifYes Xh268.here hx rfl (pc0 := 303) (pc' := 314) rfl (hb hby at_303) rfl ((if0 _ _).trans (teq (if_neg nq2)).1) (by decide) (by decide) k) ?_
            show Go p.tables e below P T268 (mkF m 314 #[.val (.int p1), .val (.int p2), .val (.int p3), .val (.long p4), .second, .val (.int kf), s1_6, .val (.ref r_2), .val (.ref oc), s1_9, .val (.int nn)] [])
            refine Go.via (fun t k => XS.aload Xh268.here hx rfl (hb hby at_314) rfl rfl k) ?_
            show Go p.tables e below P T268 (mkF m 316 #[.val (.int p1), .val (.int p2), .val (.int p3), .val (.long p4), .second, .val (.int kf), s1_6, .val (.ref r_2), .val (.ref oc), s1_9, .val (.int nn)] [(.ref r_2)])
            obtain ⟨a269, T269, h269, kn269, b269, kb269, X269, e269, E269, hS269, hk269, hZ, hown, Ex269, Fc269, Fv269, Va269, lta269, ltb269, hC269, -, ne269, st269⟩ := ldcCH Xh268 hx hZ hown (hw _ (List.mem_of_getElem? (i := 112) rfl)) (own_sa hw) hh268 hS248 hk248 (own_EW hw) (by decide : (("com/example/tri3/tri3/StageKindNamedPinLaw", 13) : String × Nat) ∈ consts_1) CR249.1 (vs := [(.int (100 : Int32)), (.int (101 : Int32)), (.int (108 : Int32)), (.int (105 : Int32)), (.int (118 : Int32)), (.int (101 : Int32)), (.int (114 : Int32))]) (z := (7 : Int32)) ⟨by decide, rfl⟩ (by decide) rfl (g := (mkF m 316 #[.val (.int p1), .val (.int p2), .val (.int p3), .val (.long p4), .second, .val (.int kf), s1_6, .val (.ref r_2), .val (.ref oc), s1_9, .val (.int nn)] [(.ref r_2)])) rfl (hb hby at_316) (n := 28) (by decide) (by decide) (by decide) (by decide)
            refine Go.via st269 ?_
            have CR270 := CHr.trans CR249 hC269
            have Z271 : n0 ≤ h269.size := Nat.le_trans Z250 E269.1
            have K272 : Keep h0 h269 [] := K251.ext E269
            have O273 : Old Z n0 h269 := O252.ext E269
            have Vb269 : Arv Z h269 b269 kb269 .byte (own_lg ([(100 : Int32), (101 : Int32), (108 : Int32), (105 : Int32), (118 : Int32), (101 : Int32), (114 : Int32)] : List Int32)) (([(100 : Int32), (101 : Int32), (108 : Int32), (105 : Int32), (118 : Int32), (101 : Int32), (114 : Int32)] : List Int32).map Value.int) (.int (0 : Int32)) := by
              rw [show own_lg ([(100 : Int32), (101 : Int32), (108 : Int32), (105 : Int32), (118 : Int32), (101 : Int32), (114 : Int32)] : List Int32) = (7 : Int32) from rfl]; exact Va269
            have F274 : Arv Z h269 oc kc .char (8 : Int32) (cl.map Value.int) (.int (0 : Int32)) := (F253.ext E269)
            have nq275 := (ne269 _ (Safe.arv hZ.alike F274 (by decide))).1
            have nq276 := (ne269 _ (Safe.arv hZ.alike F274 (by decide))).2
            show Go p.tables e below P T269 (mkF m 318 #[.val (.int p1), .val (.int p2), .val (.int p3), .val (.long p4), .second, .val (.int kf), s1_6, .val (.ref r_2), .val (.ref oc), s1_9, .val (.int nn)] [(.ref a269), (.ref r_2)])
            have F277 : Exa Z h269 r_2 "java/lang/String" := (F256.ext E269)
            have F278 : Fld Z h269 r_2 "java/lang/String" "value" "[B" (.ref tb_2) := (F257.ext E269)
            have F279 : Fld Z h269 r_2 "java/lang/String" "coder" "B" (.int (0 : Int32)) := (F258.ext E269)
            have F280 : Arv Z h269 tb_2 kk_2 .byte (own_lg bl_2) (bl_2.map Value.int) (.int (0 : Int32)) := (F259.ext E269)
            have F281 : Exa Z h269 a218 "java/lang/String" := (F260.ext E269)
            have F282 : Fld Z h269 a218 "java/lang/String" "coder" "B" (.int (0 : Int32)) := (F261.ext E269)
            have F283 : Fld Z h269 a218 "java/lang/String" "value" "[B" (.ref b218) := (F262.ext E269)
            have F284 : Arv Z h269 b218 kb218 .byte (own_lg ([(102 : Int32), (101 : Int32), (116 : Int32), (99 : Int32), (104 : Int32)] : List Int32)) (([(102 : Int32), (101 : Int32), (116 : Int32), (99 : Int32), (104 : Int32)] : List Int32).map Value.int) (.int (0 : Int32)) := (F263.ext E269)
            have F285 : Exa Z h269 a231 "java/lang/String" := (F264.ext E269)
            have F286 : Fld Z h269 a231 "java/lang/String" "coder" "B" (.int (0 : Int32)) := (F265.ext E269)
            have F287 : Fld Z h269 a231 "java/lang/String" "value" "[B" (.ref b231) := (F266.ext E269)
            have F288 : Arv Z h269 b231 kb231 .byte (own_lg ([(99 : Int32), (97 : Int32), (108 : Int32), (108 : Int32)] : List Int32)) (([(99 : Int32), (97 : Int32), (108 : Int32), (108 : Int32)] : List Int32).map Value.int) (.int (0 : Int32)) := (F267.ext E269)
            have F289 : Exa Z h269 a248 "java/lang/String" := (Ex248.ext E269)
            have F290 : Fld Z h269 a248 "java/lang/String" "coder" "B" (.int (0 : Int32)) := (Fc248.ext E269)
            have F291 : Fld Z h269 a248 "java/lang/String" "value" "[B" (.ref b248) := (Fv248.ext E269)
            have F292 : Arv Z h269 b248 kb248 .byte (own_lg ([(115 : Int32), (113 : Int32), (108 : Int32)] : List Int32)) (([(115 : Int32), (113 : Int32), (108 : Int32)] : List Int32).map Value.int) (.int (0 : Int32)) := (Vb248.ext E269)
            obtain ⟨cq293, kq293, q293a, q293b, q293c⟩ := isOf hZ e269 F277
            obtain ⟨_, _, ⟨T293, L293, k293, n293⟩, -, X293, ⟨Lc293, hQ293, l293, y293, z293⟩, st293⟩ := X269.virtualBack hx (y := (⟨"java/lang/String", "equals", "(Ljava/lang/Object;)Z"⟩ : MethodName)) (z := (⟨"java/lang/String", "equals", "(Ljava/lang/Object;)Z"⟩ : MethodName)) hown (mvT hZ (hw _ (List.mem_of_getElem? (i := 73) rfl))) (mvT hZ (hw _ (List.mem_of_getElem? (i := 74) rfl))) (notFace_of_selects (args := #[]) (mvT hZ (hw _ (List.mem_of_getElem? (i := 76) rfl)))) (mvT hZ (hw _ (List.mem_of_getElem? (i := 76) rfl))) (mvT hZ (hw _ (List.mem_of_getElem? (i := 75) rfl))) (by decide) (backOf (W := 0) (rm16 l Z a0 hw [] r_2 a269 cs tb_2 b269 kk_2 kb269 bl_2 ([(100 : Int32), (101 : Int32), (108 : Int32), (105 : Int32), (118 : Int32), (101 : Int32), (114 : Int32)] : List Int32) h269 n0 Z271 O273 P1 (by first | assumption | decide | omega : ¬ cs = (0 : Int32)) F277 F278 F279 F280 Ex269 Fv269 Fc269 Vb269 u2_4 (by decide) (own_sfun F278 Fv269 F280 Vb269 (by first | assumption | decide) (by first | assumption | decide))) hZ (hw _ (List.mem_of_getElem? (i := 77) rfl)) (hw _ (List.mem_of_getElem? (i := 1) rfl)) (by decide) (by decide)) q293a q293c (g := (mkF m 318 #[.val (.int p1), .val (.int p2), .val (.int p3), .val (.long p4), .second, .val (.int kf), s1_6, .val (.ref r_2), .val (.ref oc), s1_9, .val (.int nn)] [(.ref a269), (.ref r_2)])) rfl (by rw [hml]; rfl) (Steps.refl _) (argsL := [(.ref a269)]) (rest := []) (lenOf own_pd11 rfl) rfl (by show 2 * 0 + _ ≤ _; exact Nat.le_of_eq rfl) (hb hby at_318) (fun _ _ => ⟨rfl, e269, (by decide : 17 + 0 ≤ _), (by decide : 152 + 0 ≤ _)⟩)
            dsimp only [Pt.U, Pt.locs, Pt.cells, Pt.slots] at X293 l293 y293 z293 st293 hQ293
            subst l293 y293 z293
            obtain ⟨rfl, Nq293, hh293⟩ := hQ293
            obtain ⟨lc293, Xh293, N293⟩ := own_hide X293 (Fr.app N268 Nq293)
            clear X293
            refine Go.hop st293 ?_
            show Go p.tables e below P T293 (mkF m 321 #[.val (.int p1), .val (.int p2), .val (.int p3), .val (.long p4), .second, .val (.int kf), s1_6, .val (.ref r_2), .val (.ref oc), s1_9, .val (.int nn)] [(.int (if bl_2 = ([(100 : Int32), (101 : Int32), (108 : Int32), (105 : Int32), (118 : Int32), (101 : Int32), (114 : Int32)] : List Int32) then (1 : Int32) else (0 : Int32)))])
            refine Go.via (fun t k => XS.ifYes Xh293.here hx rfl (pc0 := 321) (pc' := 332) rfl (hb hby at_321) rfl ((if0 _ _).trans (teq (if_neg nq3)).1) (by decide) (by decide) k) ?_
            show Go p.tables e below P T293 (mkF m 332 #[.val (.int p1), .val (.int p2), .val (.int p3), .val (.long p4), .second, .val (.int kf), s1_6, .val (.ref r_2), .val (.ref oc), s1_9, .val (.int nn)] [])
            refine Go.via (fun t k => XS.aconstNull Xh293.here hx rfl (hb hby at_332) k) ?_
            show Go p.tables e below P T293 (mkF m 333 #[.val (.int p1), .val (.int p2), .val (.int p3), .val (.long p4), .second, .val (.int kf), s1_6, .val (.ref r_2), .val (.ref oc), s1_9, .val (.int nn)] [.null])
            refine Go.via (fun t k => XS.astore Xh293.here hx rfl (hb hby at_333) rfl rfl (l' := #[.val (.int p1), .val (.int p2), .val (.int p3), .val (.long p4), .second, .val (.int kf), s1_6, .val (.ref r_2), .val .null, s1_9, .val (.int nn)]) rfl k) ?_
            refine Go.via (fun t k => XS.aload Xh293.here hx rfl (hb hby at_335) rfl rfl k) ?_
            show Go p.tables e below P T293 (mkF m 337 #[.val (.int p1), .val (.int p2), .val (.int p3), .val (.long p4), .second, .val (.int kf), s1_6, .val (.ref r_2), .val .null, s1_9, .val (.int nn)] [(.ref r_2)])
            obtain ⟨_, _, ⟨T294, L294, k294, n294⟩, -, X294, ⟨Lc294, hQ294, l294, y294, z294⟩, st294⟩ := Jvm.LawKit.callS Xh293 hx (y := (⟨"com/example/tri3/tri3/StageKind", "named", "(Ljava/lang/String;)Lcom/example/tri3/tri3/StageKind;"⟩ : MethodName)) hown (mvT hZ (hw _ (List.mem_of_getElem? (i := 85) rfl))) (mvT hZ (hw _ (List.mem_of_getElem? (i := 86) rfl))) (mvT hZ (hw _ (List.mem_of_getElem? (i := 83) rfl))) (mvT hZ (hw _ (List.mem_of_getElem? (i := 87) rfl))) (by decide) (backOf (W := 0) (rm18vN l Z a0 hw [] r_2 cs tb_2 kk_2 bl_2 va kva aF sF tF kF aC sC tC kC aS sS tS kS aD sD tD kD h269 n0 Z271 O273 P1 (by first | assumption | decide | omega : ¬ cs = (0 : Int32)) P5 P6 P7 P8 P9 P10 P11 P12 P13 P14 P15 P16 P17 P18 P19 P20 P21 P22 P23 P24 P25 P26 P27 P28 P29 P30 P31 F277 F278 F279 F280 u2_4 nq0 nq1 nq2 nq3) hZ (hw _ (List.mem_of_getElem? (i := 87) rfl)) (hw _ (List.mem_of_getElem? (i := 83) rfl)) (by decide) (by decide)) (g := (mkF m 337 #[.val (.int p1), .val (.int p2), .val (.int p3), .val (.long p4), .second, .val (.int kf), s1_6, .val (.ref r_2), .val .null, s1_9, .val (.int nn)] [(.ref r_2)])) rfl (by rw [hml]; rfl) (argsL := [(.ref r_2)]) (rest := []) (lenOf own_pd13 rfl) rfl (by show 2 * 0 + _ ≤ _; exact Nat.le_of_eq rfl) (hb hby at_337) (fun _ _ => ⟨rfl, hh293, (by decide : 17 + 1 ≤ _), (by decide : 152 + 4 ≤ _)⟩)
            dsimp only [Pt.U, Pt.locs, Pt.cells, Pt.slots] at X294 l294 y294 z294 st294 hQ294
            subst l294 y294 z294
            obtain ⟨rfl, Nq294, K294⟩ := hQ294
            obtain ⟨lc294, Xh294, N294⟩ := own_hide X294 (Fr.app N293 Nq294)
            clear X294
            refine Go.via st294 ?_
            have Z295 : n0 ≤ T294.heap.size := Nat.le_trans Z271 K294.1
            have K296 : Keep h0 T294.heap [] := K272.trans K294 own_all0
            have CR297 := CHr.trans CR270 (CHr.keep K294 sf0 CR270.1)
            have hk298 := Nat.le_trans hk269 K294.1
            have O299 : Old Z n0 T294.heap := O273.keep K294 own_all0
            show Go p.tables e below P T294 (mkF m 340 #[.val (.int p1), .val (.int p2), .val (.int p3), .val (.long p4), .second, .val (.int kf), s1_6, .val (.ref r_2), .val .null, s1_9, .val (.int nn)] [.null])
            refine Go.via (fun t k => XS.aload Xh294.here hx rfl (hb hby at_340) rfl rfl k) ?_
            show Go p.tables e below P T294 (mkF m 342 #[.val (.int p1), .val (.int p2), .val (.int p3), .val (.long p4), .second, .val (.int kf), s1_6, .val (.ref r_2), .val .null, s1_9, .val (.int nn)] [.null, .null])
            refine Go.via (fun t k => Jvm.RoadKit.acmp (g := (mkF m 342 #[.val (.int p1), .val (.int p2), .val (.int p3), .val (.long p4), .second, .val (.int kf), s1_6, .val (.ref r_2), .val .null, s1_9, .val (.int nn)] [.null, .null])) Xh294 hx rfl rfl rfl (pc0 := 342) (pc' := 345) (same := true) rfl (hb hby at_342) rfl (decide_eq_true rfl) (by decide) (by decide) k) ?_
            show Go p.tables e below P T294 (mkF m 345 #[.val (.int p1), .val (.int p2), .val (.int p3), .val (.long p4), .second, .val (.int kf), s1_6, .val (.ref r_2), .val .null, s1_9, .val (.int nn)] [])
            refine Go.via (fun t k => XS.iconst Xh294.here hx rfl (hb hby at_345) k) ?_
            refine Go.via (fun t k => XS.goto Xh294.here hx rfl (pc0 := 346) (pc' := 350) rfl (hb hby at_346) (by decide) (by decide) k) ?_
            show Go p.tables e below P T294 (mkF m 350 #[.val (.int p1), .val (.int p2), .val (.int p3), .val (.long p4), .second, .val (.int kf), s1_6, .val (.ref r_2), .val .null, s1_9, .val (.int nn)] [(.int (1 : Int32))])
            obtain ⟨fs, hr, hrun, hended, hend⟩ := Xh294.leaveW hS269 (by exact hk298) (v := some (.int (1 : Int32))) (fun h => by rw [Bd.returns] at h; cases h)
            have hCf : CHr Z consts_1 s.vm s.heap (T294.setFrames fs).vm (T294.setFrames fs).heap := by
              rw [hh]
              show CHr Z consts_1 s.vm h0 T294.vm T294.heap
              exact CHr.trans CR297 (CHv.at Xh294 hZ (own_EW hw) CR297.1)
            refine ⟨_, _, retZ Xh294 hx (t := .boolean) Bd.returns (by simp) (hb hby at_350) rfl hr, hrun, hended, hP _ _ ⟨_, _, rfl, ?_, hCf, own_rew hend (by decide) (by decide)⟩⟩
            show Q0 Z p1 p2 p3 p4 cs fm va kva aF sF tF kF aC sC tC kC aS sS tS kS aD sD tD kD h0 n0 _ T294.heap _
            exact ⟨rfl, N294⟩
  have LP301 : ∀ (T301 : State) (locs301 : List Loc) (hp301 : Heap) (ra : Addr) (ta : Addr) (ka : ClassId) (ba : List Int32) (vm301 : Vm) (kn301 : Nat), Z.Warmed39 (s.setVm vm301).vm → (s.setVm vm301).vm.findClass "com/example/tri3/tri3/StageKindNamedPinLaw" = some m.cls → s.Since vm301 kn301 → kn301 ≤ hp301.size → CHr Z consts_1 s.vm h0 vm301 hp301 → Stand p l e room_1 (s.setVm vm301) m #[(.int p1), (.int p2), (.int p3), (.long p4)] below meth c T301 locs301 2 32 → T301.heap = hp301 → Fr n0 locs301 → n0 ≤ hp301.size → Keep h0 hp301 [] → Old Z n0 hp301 → Exa Z hp301 ra "java/lang/String" → Fld Z hp301 ra "java/lang/String" "value" "[B" (.ref ta) → Fld Z hp301 ra "java/lang/String" "coder" "B" (.int (0 : Int32)) → Arv Z hp301 ta ka .byte (own_lg ba) (ba.map Value.int) (.int (0 : Int32)) → 1 ≤ ba.length ∧ ba.length ≤ 7 → ¬ kf = (4 : Int32) → Go p.tables e below P T301 (mkF m 57 #[.val (.int p1), .val (.int p2), .val (.int p3), .val (.long p4), .second, .val (.int kf), .val (.ref ra), .unset, .unset, .unset, .unset] []) := by
    intro T301 locs301 hp301 ra ta ka ba vm301 kn301 hZ hown hS301 hk301 CR301 X301 e301 N301 Z301 K301 O301 F301_0 F301_1 F301_2 F301_3 hl1 hk4
    show Go p.tables e below P T301 (mkF m 57 #[.val (.int p1), .val (.int p2), .val (.int p3), .val (.long p4), .second, .val (.int kf), .val (.ref ra), .unset, .unset, .unset, .unset] [])
    refine Go.via (fun t k => XS.iload X301.here hx rfl (hb hby at_57) rfl k) ?_
    refine Go.via (fun t k => XS.iconst X301.here hx rfl (hb hby at_59) k) ?_
    show Go p.tables e below P T301 (mkF m 60 #[.val (.int p1), .val (.int p2), .val (.int p3), .val (.long p4), .second, .val (.int kf), .val (.ref ra), .unset, .unset, .unset, .unset] [(.int (4 : Int32)), (.int kf)])
    refine Go.via (fun t k => XS.icmpYes X301.here hx rfl (pc0 := 60) (pc' := 69) rfl (hb hby at_60) rfl (feq hk4).2 (by decide) (by decide) k) ?_
    show Go p.tables e below P T301 (mkF m 69 #[.val (.int p1), .val (.int p2), .val (.int p3), .val (.long p4), .second, .val (.int kf), .val (.ref ra), .unset, .unset, .unset, .unset] [])
    refine Go.via (fun t k => XS.bipush X301.here hx rfl (hb hby at_69) k) ?_
    show Go p.tables e below P T301 (mkF m 71 #[.val (.int p1), .val (.int p2), .val (.int p3), .val (.long p4), .second, .val (.int kf), .val (.ref ra), .unset, .unset, .unset, .unset] [(.int (8 : Int32))])
    obtain ⟨T302, h302, k302, X302, e302, E302, A302, st302⟩ := newP X301 hx hZ (hw _ (List.mem_of_getElem? (i := 8) rfl)) e301 (g := (mkF m 71 #[.val (.int p1), .val (.int p2), .val (.int p3), .val (.long p4), .second, .val (.int kf), .val (.ref ra), .unset, .unset, .unset, .unset] [(.int (8 : Int32))])) rfl (hb hby at_71) rfl (by decide) (cap := 8) (by decide) (by decide) (by decide) (by decide)
    obtain ⟨b302, g302⟩ : ∃ z, z = hp301.size := ⟨_, rfl⟩
    rw [← g302] at A302 st302
    refine Go.via st302 ?_
    have ne303 : ra ≠ b302 := Nat.ne_of_lt (Nat.lt_of_lt_of_le F301_0.lt (Nat.le_of_eq g302.symm))
    have ne304 : ta ≠ b302 := Nat.ne_of_lt (Nat.lt_of_lt_of_le F301_3.lt (Nat.le_of_eq g302.symm))
    have g305 : n0 ≤ b302 := Nat.le_trans Z301 (Nat.le_of_eq g302.symm)
    have sz306 : h0.size ≤ b302 := Nat.le_trans K301.1 (Nat.le_of_eq g302.symm)
    have Z307 : n0 ≤ h302.size := Nat.le_trans Z301 E302.1
    have K308 : Keep h0 h302 [] := K301.ext E302
    have O309 : Old Z n0 h302 := O301.ext E302
    have CR310 := CHr.trans CR301 (CHr.ext E302 CR301.1)
    have hk311 := Nat.le_trans hk301 E302.1
    have V302 : Arv Z h302 b302 k302 .char (8 : Int32) [(.int (0 : Int32)), (.int (0 : Int32)), (.int (0 : Int32)), (.int (0 : Int32)), (.int (0 : Int32)), (.int (0 : Int32)), (.int (0 : Int32)), (.int (0 : Int32))] (.int (0 : Int32)) := (Arv.new A302 (by decide)).pad (pad_rep [] (.int (0 : Int32)) 8)
    show Go p.tables e below P T302 (mkF m 73 #[.val (.int p1), .val (.int p2), .val (.int p3), .val (.long p4), .second, .val (.int kf), .val (.ref ra), .unset, .unset, .unset, .unset] [(.ref b302)])
    refine Go.via (fun t k => XS.astore X302.here hx rfl (hb hby at_73) rfl rfl (l' := #[.val (.int p1), .val (.int p2), .val (.int p3), .val (.long p4), .second, .val (.int kf), .val (.ref ra), .unset, .val (.ref b302), .unset, .unset]) rfl k) ?_
    refine Go.via (fun t k => XS.aload X302.here hx rfl (hb hby at_75) rfl rfl k) ?_
    refine Go.via (fun t k => XS.iconst X302.here hx rfl (hb hby at_77) k) ?_
    show Go p.tables e below P T302 (mkF m 78 #[.val (.int p1), .val (.int p2), .val (.int p3), .val (.long p4), .second, .val (.int kf), .val (.ref ra), .unset, .val (.ref b302), .unset, .unset] [(.int (0 : Int32)), (.ref b302)])
    refine Go.via (fun t k => XS.aload X302.here hx rfl (hb hby at_78) rfl rfl k) ?_
    refine Go.via (fun t k => XS.iconst X302.here hx rfl (hb hby at_80) k) ?_
    refine Go.via (fun t k => XS.lloadN X302.here hx rfl (hb hby at_81) rfl k) ?_
    show Go p.tables e below P T302 (mkF m 82 #[.val (.int p1), .val (.int p2), .val (.int p3), .val (.long p4), .second, .val (.int kf), .val (.ref ra), .unset, .val (.ref b302), .unset, .unset] [(.long p4), (.int (0 : Int32)), (.ref ra), (.int (0 : Int32)), (.ref b302)])
    have F312 : Exa Z h302 ra "java/lang/String" := (F301_0.ext E302)
    have F313 : Fld Z h302 ra "java/lang/String" "value" "[B" (.ref ta) := (F301_1.ext E302)
    have F314 : Fld Z h302 ra "java/lang/String" "coder" "B" (.int (0 : Int32)) := (F301_2.ext E302)
    have F315 : Arv Z h302 ta ka .byte (own_lg ba) (ba.map Value.int) (.int (0 : Int32)) := (F301_3.ext E302)
    obtain ⟨_, _, ⟨T316, L316, k316, n316⟩, -, X316, ⟨Lc316, hQ316, l316, y316, z316⟩, st316⟩ := Jvm.LawKit.callS X302 hx (y := (⟨"com/example/tri3/tri3/StageKindNamedPinLaw", "pick", "(Ljava/lang/String;IJ)C"⟩ : MethodName)) hown (mvT hZ (hw _ (List.mem_of_getElem? (i := 9) rfl))) (mvT hZ (hw _ (List.mem_of_getElem? (i := 10) rfl))) (mvT hZ (hw _ (List.mem_of_getElem? (i := 11) rfl))) (mvT hZ (hw _ (List.mem_of_getElem? (i := 12) rfl))) (by decide) (backOf (W := 2) (rm1r l Z a0 hw [] ra (0 : Int32) p4 cs fm ta ka ba h302 n0 Z307 O309 P1 (by first | assumption | decide | omega : ¬ cs = (0 : Int32)) P3 (by first | assumption | decide | omega : fm.isRef = true) F312 F313 F314 F315 (by decide)) hZ (hw _ (List.mem_of_getElem? (i := 12) rfl)) (hw _ (List.mem_of_getElem? (i := 11) rfl)) (by decide) (by decide)) (g := (mkF m 82 #[.val (.int p1), .val (.int p2), .val (.int p3), .val (.long p4), .second, .val (.int kf), .val (.ref ra), .unset, .val (.ref b302), .unset, .unset] [(.long p4), (.int (0 : Int32)), (.ref ra), (.int (0 : Int32)), (.ref b302)])) rfl (by rw [hml]; rfl) (argsL := [(.ref ra), (.int (0 : Int32)), (.long p4)]) (rest := [(.int (0 : Int32)), (.ref b302)]) (lenOf own_pd14 rfl) rfl (by show 2 * 0 + _ ≤ _; exact Nat.le_of_eq rfl) (hb hby at_82) (fun _ _ => ⟨rfl, e302, (by decide : 3 + 0 ≤ _), (by decide : 40 + 0 ≤ _)⟩)
    dsimp only [Pt.U, Pt.locs, Pt.cells, Pt.slots] at X316 l316 y316 z316 st316 hQ316
    subst l316 y316 z316
    obtain ⟨cc_316, rfl, Nq316, hh316, u316_0⟩ := hQ316
    obtain ⟨lc316, Xh316, N316⟩ := own_hide X316 (Fr.app N301 Nq316)
    clear X316
    refine Go.via st316 ?_
    show Go p.tables e below P T316 (mkF m 85 #[.val (.int p1), .val (.int p2), .val (.int p3), .val (.long p4), .second, .val (.int kf), .val (.ref ra), .unset, .val (.ref b302), .unset, .unset] [(.int cc_316), (.int (0 : Int32)), (.ref b302)])
    obtain ⟨c317, A317, q317, S317, N317, H317, G317⟩ := id V302
    have hin317 : ¬ ((0 : Int32) < 0 ∨ c317.slots.size ≤ ((0 : Int32)).toNatClampNeg) := inb_of S317 ⟨by decide, by decide⟩
    obtain ⟨T317, h317, X317, e317, W317, st317⟩ := stC Xh316 hx hZ hh316 A317 (j := (0 : Int32)) hin317 (g := (mkF m 85 #[.val (.int p1), .val (.int p2), .val (.int p3), .val (.long p4), .second, .val (.int kf), .val (.ref ra), .unset, .val (.ref b302), .unset, .unset] [(.int cc_316), (.int (0 : Int32)), (.ref b302)])) rfl rfl (hb hby at_85)
    refine Go.via st317 ?_
    have Z318 : n0 ≤ h317.size := Nat.le_trans Z307 (Nat.le_of_eq W317.size.symm)
    have K319 : Keep h0 h317 [] := K308.wr W317 (Or.inr sz306)
    obtain ⟨lc317, Xh317, N320⟩ := own_hide X317 (Fr.snoc X317 N316 g305)
    clear X317
    have O321 : Old Z n0 h317 := O309.wr W317 g305
    have Sf317 := Safe.wr W317 (Safe.arv hZ.alike V302 (by decide)) CR310.1 (Safe.arv hZ.alike V302 (by decide))
    have CR322 := CHr.trans CR310 (CHr.wr W317 (Safe.arv hZ.alike V302 (by decide)) CR310.1)
    have hk323 := Nat.le_trans hk311 (Nat.le_of_eq W317.size.symm)
    have V317 : Arv Z h317 b302 k302 .char (8 : Int32) [(.int (nar .char cc_316)), (.int (0 : Int32)), (.int (0 : Int32)), (.int (0 : Int32)), (.int (0 : Int32)), (.int (0 : Int32)), (.int (0 : Int32)), (.int (0 : Int32))] (.int (0 : Int32)) := Arv.set A317 q317 S317 N317 H317 G317 (fits_nar_char _) W317 0 rfl (Nat.le_of_ble_eq_true rfl)
    show Go p.tables e below P T317 (mkF m 86 #[.val (.int p1), .val (.int p2), .val (.int p3), .val (.long p4), .second, .val (.int kf), .val (.ref ra), .unset, .val (.ref b302), .unset, .unset] [])
    refine Go.via (fun t k => XS.aload Xh317.here hx rfl (hb hby at_86) rfl rfl k) ?_
    refine Go.via (fun t k => XS.iconst Xh317.here hx rfl (hb hby at_88) k) ?_
    refine Go.via (fun t k => XS.aload Xh317.here hx rfl (hb hby at_89) rfl rfl k) ?_
    show Go p.tables e below P T317 (mkF m 91 #[.val (.int p1), .val (.int p2), .val (.int p3), .val (.long p4), .second, .val (.int kf), .val (.ref ra), .unset, .val (.ref b302), .unset, .unset] [(.ref ra), (.int (1 : Int32)), (.ref b302)])
    refine Go.via (fun t k => XS.iconst Xh317.here hx rfl (hb hby at_91) k) ?_
    refine Go.via (fun t k => XS.lloadN Xh317.here hx rfl (hb hby at_92) rfl k) ?_
    show Go p.tables e below P T317 (mkF m 93 #[.val (.int p1), .val (.int p2), .val (.int p3), .val (.long p4), .second, .val (.int kf), .val (.ref ra), .unset, .val (.ref b302), .unset, .unset] [(.long p4), (.int (1 : Int32)), (.ref ra), (.int (1 : Int32)), (.ref b302)])
    have F324 : Exa Z h317 ra "java/lang/String" := (F312.wr W317)
    have F325 : Fld Z h317 ra "java/lang/String" "value" "[B" (.ref ta) := (F313.other W317 (Or.inl ne303))
    have F326 : Fld Z h317 ra "java/lang/String" "coder" "B" (.int (0 : Int32)) := (F314.other W317 (Or.inl ne303))
    have F327 : Arv Z h317 ta ka .byte (own_lg ba) (ba.map Value.int) (.int (0 : Int32)) := (F315.other W317 ne304)
    obtain ⟨_, _, ⟨T328, L328, k328, n328⟩, -, X328, ⟨Lc328, hQ328, l328, y328, z328⟩, st328⟩ := Jvm.LawKit.callS Xh317 hx (y := (⟨"com/example/tri3/tri3/StageKindNamedPinLaw", "pick", "(Ljava/lang/String;IJ)C"⟩ : MethodName)) hown (mvT hZ (hw _ (List.mem_of_getElem? (i := 9) rfl))) (mvT hZ (hw _ (List.mem_of_getElem? (i := 10) rfl))) (mvT hZ (hw _ (List.mem_of_getElem? (i := 11) rfl))) (mvT hZ (hw _ (List.mem_of_getElem? (i := 12) rfl))) (by decide) (backOf (W := 2) (rm1r l Z a0 hw [] ra (1 : Int32) p4 cs fm ta ka ba h317 n0 Z318 O321 P1 (by first | assumption | decide | omega : ¬ cs = (0 : Int32)) P3 (by first | assumption | decide | omega : fm.isRef = true) F324 F325 F326 F327 (by decide)) hZ (hw _ (List.mem_of_getElem? (i := 12) rfl)) (hw _ (List.mem_of_getElem? (i := 11) rfl)) (by decide) (by decide)) (g := (mkF m 93 #[.val (.int p1), .val (.int p2), .val (.int p3), .val (.long p4), .second, .val (.int kf), .val (.ref ra), .unset, .val (.ref b302), .unset, .unset] [(.long p4), (.int (1 : Int32)), (.ref ra), (.int (1 : Int32)), (.ref b302)])) rfl (by rw [hml]; rfl) (argsL := [(.ref ra), (.int (1 : Int32)), (.long p4)]) (rest := [(.int (1 : Int32)), (.ref b302)]) (lenOf own_pd14 rfl) rfl (by show 2 * 0 + _ ≤ _; exact Nat.le_of_eq rfl) (hb hby at_93) (fun _ _ => ⟨rfl, e317, (by decide : 3 + 0 ≤ _), (by decide : 40 + 0 ≤ _)⟩)
    dsimp only [Pt.U, Pt.locs, Pt.cells, Pt.slots] at X328 l328 y328 z328 st328 hQ328
    subst l328 y328 z328
    obtain ⟨cc_328, rfl, Nq328, hh328, u328_0⟩ := hQ328
    obtain ⟨lc328, Xh328, N328⟩ := own_hide X328 (Fr.app N320 Nq328)
    clear X328
    refine Go.via st328 ?_
    show Go p.tables e below P T328 (mkF m 96 #[.val (.int p1), .val (.int p2), .val (.int p3), .val (.long p4), .second, .val (.int kf), .val (.ref ra), .unset, .val (.ref b302), .unset, .unset] [(.int cc_328), (.int (1 : Int32)), (.ref b302)])
    obtain ⟨c329, A329, q329, S329, N329, H329, G329⟩ := id V317
    have hin329 : ¬ ((1 : Int32) < 0 ∨ c329.slots.size ≤ ((1 : Int32)).toNatClampNeg) := inb_of S329 ⟨by decide, by decide⟩
    obtain ⟨T329, h329, X329, e329, W329, st329⟩ := stC Xh328 hx hZ hh328 A329 (j := (1 : Int32)) hin329 (g := (mkF m 96 #[.val (.int p1), .val (.int p2), .val (.int p3), .val (.long p4), .second, .val (.int kf), .val (.ref ra), .unset, .val (.ref b302), .unset, .unset] [(.int cc_328), (.int (1 : Int32)), (.ref b302)])) rfl rfl (hb hby at_96)
    refine Go.via st329 ?_
    have Z330 : n0 ≤ h329.size := Nat.le_trans Z318 (Nat.le_of_eq W329.size.symm)
    have K331 : Keep h0 h329 [] := K319.wr W329 (Or.inr sz306)
    obtain ⟨lc329, Xh329, N332⟩ := own_hide X329 (Fr.snoc X329 N328 g305)
    clear X329
    have O333 : Old Z n0 h329 := O321.wr W329 g305
    have Sf329 := Safe.wr W329 (Safe.arv hZ.alike V317 (by decide)) CR322.1 (Safe.arv hZ.alike V317 (by decide))
    have CR334 := CHr.trans CR322 (CHr.wr W329 (Safe.arv hZ.alike V317 (by decide)) CR322.1)
    have hk335 := Nat.le_trans hk323 (Nat.le_of_eq W329.size.symm)
    have V329 : Arv Z h329 b302 k302 .char (8 : Int32) [(.int (nar .char cc_316)), (.int (nar .char cc_328)), (.int (0 : Int32)), (.int (0 : Int32)), (.int (0 : Int32)), (.int (0 : Int32)), (.int (0 : Int32)), (.int (0 : Int32))] (.int (0 : Int32)) := Arv.set A329 q329 S329 N329 H329 G329 (fits_nar_char _) W329 1 rfl (Nat.le_of_ble_eq_true rfl)
    show Go p.tables e below P T329 (mkF m 97 #[.val (.int p1), .val (.int p2), .val (.int p3), .val (.long p4), .second, .val (.int kf), .val (.ref ra), .unset, .val (.ref b302), .unset, .unset] [])
    refine Go.via (fun t k => XS.aload Xh329.here hx rfl (hb hby at_97) rfl rfl k) ?_
    refine Go.via (fun t k => XS.iconst Xh329.here hx rfl (hb hby at_99) k) ?_
    refine Go.via (fun t k => XS.aload Xh329.here hx rfl (hb hby at_100) rfl rfl k) ?_
    show Go p.tables e below P T329 (mkF m 102 #[.val (.int p1), .val (.int p2), .val (.int p3), .val (.long p4), .second, .val (.int kf), .val (.ref ra), .unset, .val (.ref b302), .unset, .unset] [(.ref ra), (.int (2 : Int32)), (.ref b302)])
    refine Go.via (fun t k => XS.iconst Xh329.here hx rfl (hb hby at_102) k) ?_
    refine Go.via (fun t k => XS.lloadN Xh329.here hx rfl (hb hby at_103) rfl k) ?_
    show Go p.tables e below P T329 (mkF m 104 #[.val (.int p1), .val (.int p2), .val (.int p3), .val (.long p4), .second, .val (.int kf), .val (.ref ra), .unset, .val (.ref b302), .unset, .unset] [(.long p4), (.int (2 : Int32)), (.ref ra), (.int (2 : Int32)), (.ref b302)])
    have F336 : Exa Z h329 ra "java/lang/String" := (F324.wr W329)
    have F337 : Fld Z h329 ra "java/lang/String" "value" "[B" (.ref ta) := (F325.other W329 (Or.inl ne303))
    have F338 : Fld Z h329 ra "java/lang/String" "coder" "B" (.int (0 : Int32)) := (F326.other W329 (Or.inl ne303))
    have F339 : Arv Z h329 ta ka .byte (own_lg ba) (ba.map Value.int) (.int (0 : Int32)) := (F327.other W329 ne304)
    obtain ⟨_, _, ⟨T340, L340, k340, n340⟩, -, X340, ⟨Lc340, hQ340, l340, y340, z340⟩, st340⟩ := Jvm.LawKit.callS Xh329 hx (y := (⟨"com/example/tri3/tri3/StageKindNamedPinLaw", "pick", "(Ljava/lang/String;IJ)C"⟩ : MethodName)) hown (mvT hZ (hw _ (List.mem_of_getElem? (i := 9) rfl))) (mvT hZ (hw _ (List.mem_of_getElem? (i := 10) rfl))) (mvT hZ (hw _ (List.mem_of_getElem? (i := 11) rfl))) (mvT hZ (hw _ (List.mem_of_getElem? (i := 12) rfl))) (by decide) (backOf (W := 2) (rm1r l Z a0 hw [] ra (2 : Int32) p4 cs fm ta ka ba h329 n0 Z330 O333 P1 (by first | assumption | decide | omega : ¬ cs = (0 : Int32)) P3 (by first | assumption | decide | omega : fm.isRef = true) F336 F337 F338 F339 (by decide)) hZ (hw _ (List.mem_of_getElem? (i := 12) rfl)) (hw _ (List.mem_of_getElem? (i := 11) rfl)) (by decide) (by decide)) (g := (mkF m 104 #[.val (.int p1), .val (.int p2), .val (.int p3), .val (.long p4), .second, .val (.int kf), .val (.ref ra), .unset, .val (.ref b302), .unset, .unset] [(.long p4), (.int (2 : Int32)), (.ref ra), (.int (2 : Int32)), (.ref b302)])) rfl (by rw [hml]; rfl) (argsL := [(.ref ra), (.int (2 : Int32)), (.long p4)]) (rest := [(.int (2 : Int32)), (.ref b302)]) (lenOf own_pd14 rfl) rfl (by show 2 * 0 + _ ≤ _; exact Nat.le_of_eq rfl) (hb hby at_104) (fun _ _ => ⟨rfl, e329, (by decide : 3 + 0 ≤ _), (by decide : 40 + 0 ≤ _)⟩)
    dsimp only [Pt.U, Pt.locs, Pt.cells, Pt.slots] at X340 l340 y340 z340 st340 hQ340
    subst l340 y340 z340
    obtain ⟨cc_340, rfl, Nq340, hh340, u340_0⟩ := hQ340
    obtain ⟨lc340, Xh340, N340⟩ := own_hide X340 (Fr.app N332 Nq340)
    clear X340
    refine Go.via st340 ?_
    show Go p.tables e below P T340 (mkF m 107 #[.val (.int p1), .val (.int p2), .val (.int p3), .val (.long p4), .second, .val (.int kf), .val (.ref ra), .unset, .val (.ref b302), .unset, .unset] [(.int cc_340), (.int (2 : Int32)), (.ref b302)])
    obtain ⟨c341, A341, q341, S341, N341, H341, G341⟩ := id V329
    have hin341 : ¬ ((2 : Int32) < 0 ∨ c341.slots.size ≤ ((2 : Int32)).toNatClampNeg) := inb_of S341 ⟨by decide, by decide⟩
    obtain ⟨T341, h341, X341, e341, W341, st341⟩ := stC Xh340 hx hZ hh340 A341 (j := (2 : Int32)) hin341 (g := (mkF m 107 #[.val (.int p1), .val (.int p2), .val (.int p3), .val (.long p4), .second, .val (.int kf), .val (.ref ra), .unset, .val (.ref b302), .unset, .unset] [(.int cc_340), (.int (2 : Int32)), (.ref b302)])) rfl rfl (hb hby at_107)
    refine Go.via st341 ?_
    have Z342 : n0 ≤ h341.size := Nat.le_trans Z330 (Nat.le_of_eq W341.size.symm)
    have K343 : Keep h0 h341 [] := K331.wr W341 (Or.inr sz306)
    obtain ⟨lc341, Xh341, N344⟩ := own_hide X341 (Fr.snoc X341 N340 g305)
    clear X341
    have O345 : Old Z n0 h341 := O333.wr W341 g305
    have Sf341 := Safe.wr W341 (Safe.arv hZ.alike V329 (by decide)) CR334.1 (Safe.arv hZ.alike V329 (by decide))
    have CR346 := CHr.trans CR334 (CHr.wr W341 (Safe.arv hZ.alike V329 (by decide)) CR334.1)
    have hk347 := Nat.le_trans hk335 (Nat.le_of_eq W341.size.symm)
    have V341 : Arv Z h341 b302 k302 .char (8 : Int32) [(.int (nar .char cc_316)), (.int (nar .char cc_328)), (.int (nar .char cc_340)), (.int (0 : Int32)), (.int (0 : Int32)), (.int (0 : Int32)), (.int (0 : Int32)), (.int (0 : Int32))] (.int (0 : Int32)) := Arv.set A341 q341 S341 N341 H341 G341 (fits_nar_char _) W341 2 rfl (Nat.le_of_ble_eq_true rfl)
    show Go p.tables e below P T341 (mkF m 108 #[.val (.int p1), .val (.int p2), .val (.int p3), .val (.long p4), .second, .val (.int kf), .val (.ref ra), .unset, .val (.ref b302), .unset, .unset] [])
    refine Go.via (fun t k => XS.aload Xh341.here hx rfl (hb hby at_108) rfl rfl k) ?_
    refine Go.via (fun t k => XS.iconst Xh341.here hx rfl (hb hby at_110) k) ?_
    refine Go.via (fun t k => XS.aload Xh341.here hx rfl (hb hby at_111) rfl rfl k) ?_
    show Go p.tables e below P T341 (mkF m 113 #[.val (.int p1), .val (.int p2), .val (.int p3), .val (.long p4), .second, .val (.int kf), .val (.ref ra), .unset, .val (.ref b302), .unset, .unset] [(.ref ra), (.int (3 : Int32)), (.ref b302)])
    refine Go.via (fun t k => XS.iconst Xh341.here hx rfl (hb hby at_113) k) ?_
    refine Go.via (fun t k => XS.lloadN Xh341.here hx rfl (hb hby at_114) rfl k) ?_
    show Go p.tables e below P T341 (mkF m 115 #[.val (.int p1), .val (.int p2), .val (.int p3), .val (.long p4), .second, .val (.int kf), .val (.ref ra), .unset, .val (.ref b302), .unset, .unset] [(.long p4), (.int (3 : Int32)), (.ref ra), (.int (3 : Int32)), (.ref b302)])
    have F348 : Exa Z h341 ra "java/lang/String" := (F336.wr W341)
    have F349 : Fld Z h341 ra "java/lang/String" "value" "[B" (.ref ta) := (F337.other W341 (Or.inl ne303))
    have F350 : Fld Z h341 ra "java/lang/String" "coder" "B" (.int (0 : Int32)) := (F338.other W341 (Or.inl ne303))
    have F351 : Arv Z h341 ta ka .byte (own_lg ba) (ba.map Value.int) (.int (0 : Int32)) := (F339.other W341 ne304)
    obtain ⟨_, _, ⟨T352, L352, k352, n352⟩, -, X352, ⟨Lc352, hQ352, l352, y352, z352⟩, st352⟩ := Jvm.LawKit.callS Xh341 hx (y := (⟨"com/example/tri3/tri3/StageKindNamedPinLaw", "pick", "(Ljava/lang/String;IJ)C"⟩ : MethodName)) hown (mvT hZ (hw _ (List.mem_of_getElem? (i := 9) rfl))) (mvT hZ (hw _ (List.mem_of_getElem? (i := 10) rfl))) (mvT hZ (hw _ (List.mem_of_getElem? (i := 11) rfl))) (mvT hZ (hw _ (List.mem_of_getElem? (i := 12) rfl))) (by decide) (backOf (W := 2) (rm1r l Z a0 hw [] ra (3 : Int32) p4 cs fm ta ka ba h341 n0 Z342 O345 P1 (by first | assumption | decide | omega : ¬ cs = (0 : Int32)) P3 (by first | assumption | decide | omega : fm.isRef = true) F348 F349 F350 F351 (by decide)) hZ (hw _ (List.mem_of_getElem? (i := 12) rfl)) (hw _ (List.mem_of_getElem? (i := 11) rfl)) (by decide) (by decide)) (g := (mkF m 115 #[.val (.int p1), .val (.int p2), .val (.int p3), .val (.long p4), .second, .val (.int kf), .val (.ref ra), .unset, .val (.ref b302), .unset, .unset] [(.long p4), (.int (3 : Int32)), (.ref ra), (.int (3 : Int32)), (.ref b302)])) rfl (by rw [hml]; rfl) (argsL := [(.ref ra), (.int (3 : Int32)), (.long p4)]) (rest := [(.int (3 : Int32)), (.ref b302)]) (lenOf own_pd14 rfl) rfl (by show 2 * 0 + _ ≤ _; exact Nat.le_of_eq rfl) (hb hby at_115) (fun _ _ => ⟨rfl, e341, (by decide : 3 + 0 ≤ _), (by decide : 40 + 0 ≤ _)⟩)
    dsimp only [Pt.U, Pt.locs, Pt.cells, Pt.slots] at X352 l352 y352 z352 st352 hQ352
    subst l352 y352 z352
    obtain ⟨cc_352, rfl, Nq352, hh352, u352_0⟩ := hQ352
    obtain ⟨lc352, Xh352, N352⟩ := own_hide X352 (Fr.app N344 Nq352)
    clear X352
    refine Go.via st352 ?_
    show Go p.tables e below P T352 (mkF m 118 #[.val (.int p1), .val (.int p2), .val (.int p3), .val (.long p4), .second, .val (.int kf), .val (.ref ra), .unset, .val (.ref b302), .unset, .unset] [(.int cc_352), (.int (3 : Int32)), (.ref b302)])
    obtain ⟨c353, A353, q353, S353, N353, H353, G353⟩ := id V341
    have hin353 : ¬ ((3 : Int32) < 0 ∨ c353.slots.size ≤ ((3 : Int32)).toNatClampNeg) := inb_of S353 ⟨by decide, by decide⟩
    obtain ⟨T353, h353, X353, e353, W353, st353⟩ := stC Xh352 hx hZ hh352 A353 (j := (3 : Int32)) hin353 (g := (mkF m 118 #[.val (.int p1), .val (.int p2), .val (.int p3), .val (.long p4), .second, .val (.int kf), .val (.ref ra), .unset, .val (.ref b302), .unset, .unset] [(.int cc_352), (.int (3 : Int32)), (.ref b302)])) rfl rfl (hb hby at_118)
    refine Go.via st353 ?_
    have Z354 : n0 ≤ h353.size := Nat.le_trans Z342 (Nat.le_of_eq W353.size.symm)
    have K355 : Keep h0 h353 [] := K343.wr W353 (Or.inr sz306)
    obtain ⟨lc353, Xh353, N356⟩ := own_hide X353 (Fr.snoc X353 N352 g305)
    clear X353
    have O357 : Old Z n0 h353 := O345.wr W353 g305
    have Sf353 := Safe.wr W353 (Safe.arv hZ.alike V341 (by decide)) CR346.1 (Safe.arv hZ.alike V341 (by decide))
    have CR358 := CHr.trans CR346 (CHr.wr W353 (Safe.arv hZ.alike V341 (by decide)) CR346.1)
    have hk359 := Nat.le_trans hk347 (Nat.le_of_eq W353.size.symm)
    have V353 : Arv Z h353 b302 k302 .char (8 : Int32) [(.int (nar .char cc_316)), (.int (nar .char cc_328)), (.int (nar .char cc_340)), (.int (nar .char cc_352)), (.int (0 : Int32)), (.int (0 : Int32)), (.int (0 : Int32)), (.int (0 : Int32))] (.int (0 : Int32)) := Arv.set A353 q353 S353 N353 H353 G353 (fits_nar_char _) W353 3 rfl (Nat.le_of_ble_eq_true rfl)
    show Go p.tables e below P T353 (mkF m 119 #[.val (.int p1), .val (.int p2), .val (.int p3), .val (.long p4), .second, .val (.int kf), .val (.ref ra), .unset, .val (.ref b302), .unset, .unset] [])
    refine Go.via (fun t k => XS.aload Xh353.here hx rfl (hb hby at_119) rfl rfl k) ?_
    refine Go.via (fun t k => XS.iconst Xh353.here hx rfl (hb hby at_121) k) ?_
    refine Go.via (fun t k => XS.aload Xh353.here hx rfl (hb hby at_122) rfl rfl k) ?_
    show Go p.tables e below P T353 (mkF m 124 #[.val (.int p1), .val (.int p2), .val (.int p3), .val (.long p4), .second, .val (.int kf), .val (.ref ra), .unset, .val (.ref b302), .unset, .unset] [(.ref ra), (.int (4 : Int32)), (.ref b302)])
    refine Go.via (fun t k => XS.iconst Xh353.here hx rfl (hb hby at_124) k) ?_
    refine Go.via (fun t k => XS.lloadN Xh353.here hx rfl (hb hby at_125) rfl k) ?_
    show Go p.tables e below P T353 (mkF m 126 #[.val (.int p1), .val (.int p2), .val (.int p3), .val (.long p4), .second, .val (.int kf), .val (.ref ra), .unset, .val (.ref b302), .unset, .unset] [(.long p4), (.int (4 : Int32)), (.ref ra), (.int (4 : Int32)), (.ref b302)])
    have F360 : Exa Z h353 ra "java/lang/String" := (F348.wr W353)
    have F361 : Fld Z h353 ra "java/lang/String" "value" "[B" (.ref ta) := (F349.other W353 (Or.inl ne303))
    have F362 : Fld Z h353 ra "java/lang/String" "coder" "B" (.int (0 : Int32)) := (F350.other W353 (Or.inl ne303))
    have F363 : Arv Z h353 ta ka .byte (own_lg ba) (ba.map Value.int) (.int (0 : Int32)) := (F351.other W353 ne304)
    obtain ⟨_, _, ⟨T364, L364, k364, n364⟩, -, X364, ⟨Lc364, hQ364, l364, y364, z364⟩, st364⟩ := Jvm.LawKit.callS Xh353 hx (y := (⟨"com/example/tri3/tri3/StageKindNamedPinLaw", "pick", "(Ljava/lang/String;IJ)C"⟩ : MethodName)) hown (mvT hZ (hw _ (List.mem_of_getElem? (i := 9) rfl))) (mvT hZ (hw _ (List.mem_of_getElem? (i := 10) rfl))) (mvT hZ (hw _ (List.mem_of_getElem? (i := 11) rfl))) (mvT hZ (hw _ (List.mem_of_getElem? (i := 12) rfl))) (by decide) (backOf (W := 2) (rm1r l Z a0 hw [] ra (4 : Int32) p4 cs fm ta ka ba h353 n0 Z354 O357 P1 (by first | assumption | decide | omega : ¬ cs = (0 : Int32)) P3 (by first | assumption | decide | omega : fm.isRef = true) F360 F361 F362 F363 (by decide)) hZ (hw _ (List.mem_of_getElem? (i := 12) rfl)) (hw _ (List.mem_of_getElem? (i := 11) rfl)) (by decide) (by decide)) (g := (mkF m 126 #[.val (.int p1), .val (.int p2), .val (.int p3), .val (.long p4), .second, .val (.int kf), .val (.ref ra), .unset, .val (.ref b302), .unset, .unset] [(.long p4), (.int (4 : Int32)), (.ref ra), (.int (4 : Int32)), (.ref b302)])) rfl (by rw [hml]; rfl) (argsL := [(.ref ra), (.int (4 : Int32)), (.long p4)]) (rest := [(.int (4 : Int32)), (.ref b302)]) (lenOf own_pd14 rfl) rfl (by show 2 * 0 + _ ≤ _; exact Nat.le_of_eq rfl) (hb hby at_126) (fun _ _ => ⟨rfl, e353, (by decide : 3 + 0 ≤ _), (by decide : 40 + 0 ≤ _)⟩)
    dsimp only [Pt.U, Pt.locs, Pt.cells, Pt.slots] at X364 l364 y364 z364 st364 hQ364
    subst l364 y364 z364
    obtain ⟨cc_364, rfl, Nq364, hh364, u364_0⟩ := hQ364
    obtain ⟨lc364, Xh364, N364⟩ := own_hide X364 (Fr.app N356 Nq364)
    clear X364
    refine Go.via st364 ?_
    show Go p.tables e below P T364 (mkF m 129 #[.val (.int p1), .val (.int p2), .val (.int p3), .val (.long p4), .second, .val (.int kf), .val (.ref ra), .unset, .val (.ref b302), .unset, .unset] [(.int cc_364), (.int (4 : Int32)), (.ref b302)])
    obtain ⟨c365, A365, q365, S365, N365, H365, G365⟩ := id V353
    have hin365 : ¬ ((4 : Int32) < 0 ∨ c365.slots.size ≤ ((4 : Int32)).toNatClampNeg) := inb_of S365 ⟨by decide, by decide⟩
    obtain ⟨T365, h365, X365, e365, W365, st365⟩ := stC Xh364 hx hZ hh364 A365 (j := (4 : Int32)) hin365 (g := (mkF m 129 #[.val (.int p1), .val (.int p2), .val (.int p3), .val (.long p4), .second, .val (.int kf), .val (.ref ra), .unset, .val (.ref b302), .unset, .unset] [(.int cc_364), (.int (4 : Int32)), (.ref b302)])) rfl rfl (hb hby at_129)
    refine Go.via st365 ?_
    have Z366 : n0 ≤ h365.size := Nat.le_trans Z354 (Nat.le_of_eq W365.size.symm)
    have K367 : Keep h0 h365 [] := K355.wr W365 (Or.inr sz306)
    obtain ⟨lc365, Xh365, N368⟩ := own_hide X365 (Fr.snoc X365 N364 g305)
    clear X365
    have O369 : Old Z n0 h365 := O357.wr W365 g305
    have Sf365 := Safe.wr W365 (Safe.arv hZ.alike V353 (by decide)) CR358.1 (Safe.arv hZ.alike V353 (by decide))
    have CR370 := CHr.trans CR358 (CHr.wr W365 (Safe.arv hZ.alike V353 (by decide)) CR358.1)
    have hk371 := Nat.le_trans hk359 (Nat.le_of_eq W365.size.symm)
    have V365 : Arv Z h365 b302 k302 .char (8 : Int32) [(.int (nar .char cc_316)), (.int (nar .char cc_328)), (.int (nar .char cc_340)), (.int (nar .char cc_352)), (.int (nar .char cc_364)), (.int (0 : Int32)), (.int (0 : Int32)), (.int (0 : Int32))] (.int (0 : Int32)) := Arv.set A365 q365 S365 N365 H365 G365 (fits_nar_char _) W365 4 rfl (Nat.le_of_ble_eq_true rfl)
    show Go p.tables e below P T365 (mkF m 130 #[.val (.int p1), .val (.int p2), .val (.int p3), .val (.long p4), .second, .val (.int kf), .val (.ref ra), .unset, .val (.ref b302), .unset, .unset] [])
    refine Go.via (fun t k => XS.aload Xh365.here hx rfl (hb hby at_130) rfl rfl k) ?_
    refine Go.via (fun t k => XS.iconst Xh365.here hx rfl (hb hby at_132) k) ?_
    refine Go.via (fun t k => XS.aload Xh365.here hx rfl (hb hby at_133) rfl rfl k) ?_
    show Go p.tables e below P T365 (mkF m 135 #[.val (.int p1), .val (.int p2), .val (.int p3), .val (.long p4), .second, .val (.int kf), .val (.ref ra), .unset, .val (.ref b302), .unset, .unset] [(.ref ra), (.int (5 : Int32)), (.ref b302)])
    refine Go.via (fun t k => XS.iconst Xh365.here hx rfl (hb hby at_135) k) ?_
    refine Go.via (fun t k => XS.lloadN Xh365.here hx rfl (hb hby at_136) rfl k) ?_
    show Go p.tables e below P T365 (mkF m 137 #[.val (.int p1), .val (.int p2), .val (.int p3), .val (.long p4), .second, .val (.int kf), .val (.ref ra), .unset, .val (.ref b302), .unset, .unset] [(.long p4), (.int (5 : Int32)), (.ref ra), (.int (5 : Int32)), (.ref b302)])
    have F372 : Exa Z h365 ra "java/lang/String" := (F360.wr W365)
    have F373 : Fld Z h365 ra "java/lang/String" "value" "[B" (.ref ta) := (F361.other W365 (Or.inl ne303))
    have F374 : Fld Z h365 ra "java/lang/String" "coder" "B" (.int (0 : Int32)) := (F362.other W365 (Or.inl ne303))
    have F375 : Arv Z h365 ta ka .byte (own_lg ba) (ba.map Value.int) (.int (0 : Int32)) := (F363.other W365 ne304)
    obtain ⟨_, _, ⟨T376, L376, k376, n376⟩, -, X376, ⟨Lc376, hQ376, l376, y376, z376⟩, st376⟩ := Jvm.LawKit.callS Xh365 hx (y := (⟨"com/example/tri3/tri3/StageKindNamedPinLaw", "pick", "(Ljava/lang/String;IJ)C"⟩ : MethodName)) hown (mvT hZ (hw _ (List.mem_of_getElem? (i := 9) rfl))) (mvT hZ (hw _ (List.mem_of_getElem? (i := 10) rfl))) (mvT hZ (hw _ (List.mem_of_getElem? (i := 11) rfl))) (mvT hZ (hw _ (List.mem_of_getElem? (i := 12) rfl))) (by decide) (backOf (W := 2) (rm1r l Z a0 hw [] ra (5 : Int32) p4 cs fm ta ka ba h365 n0 Z366 O369 P1 (by first | assumption | decide | omega : ¬ cs = (0 : Int32)) P3 (by first | assumption | decide | omega : fm.isRef = true) F372 F373 F374 F375 (by decide)) hZ (hw _ (List.mem_of_getElem? (i := 12) rfl)) (hw _ (List.mem_of_getElem? (i := 11) rfl)) (by decide) (by decide)) (g := (mkF m 137 #[.val (.int p1), .val (.int p2), .val (.int p3), .val (.long p4), .second, .val (.int kf), .val (.ref ra), .unset, .val (.ref b302), .unset, .unset] [(.long p4), (.int (5 : Int32)), (.ref ra), (.int (5 : Int32)), (.ref b302)])) rfl (by rw [hml]; rfl) (argsL := [(.ref ra), (.int (5 : Int32)), (.long p4)]) (rest := [(.int (5 : Int32)), (.ref b302)]) (lenOf own_pd14 rfl) rfl (by show 2 * 0 + _ ≤ _; exact Nat.le_of_eq rfl) (hb hby at_137) (fun _ _ => ⟨rfl, e365, (by decide : 3 + 0 ≤ _), (by decide : 40 + 0 ≤ _)⟩)
    dsimp only [Pt.U, Pt.locs, Pt.cells, Pt.slots] at X376 l376 y376 z376 st376 hQ376
    subst l376 y376 z376
    obtain ⟨cc_376, rfl, Nq376, hh376, u376_0⟩ := hQ376
    obtain ⟨lc376, Xh376, N376⟩ := own_hide X376 (Fr.app N368 Nq376)
    clear X376
    refine Go.via st376 ?_
    show Go p.tables e below P T376 (mkF m 140 #[.val (.int p1), .val (.int p2), .val (.int p3), .val (.long p4), .second, .val (.int kf), .val (.ref ra), .unset, .val (.ref b302), .unset, .unset] [(.int cc_376), (.int (5 : Int32)), (.ref b302)])
    obtain ⟨c377, A377, q377, S377, N377, H377, G377⟩ := id V365
    have hin377 : ¬ ((5 : Int32) < 0 ∨ c377.slots.size ≤ ((5 : Int32)).toNatClampNeg) := inb_of S377 ⟨by decide, by decide⟩
    obtain ⟨T377, h377, X377, e377, W377, st377⟩ := stC Xh376 hx hZ hh376 A377 (j := (5 : Int32)) hin377 (g := (mkF m 140 #[.val (.int p1), .val (.int p2), .val (.int p3), .val (.long p4), .second, .val (.int kf), .val (.ref ra), .unset, .val (.ref b302), .unset, .unset] [(.int cc_376), (.int (5 : Int32)), (.ref b302)])) rfl rfl (hb hby at_140)
    refine Go.via st377 ?_
    have Z378 : n0 ≤ h377.size := Nat.le_trans Z366 (Nat.le_of_eq W377.size.symm)
    have K379 : Keep h0 h377 [] := K367.wr W377 (Or.inr sz306)
    obtain ⟨lc377, Xh377, N380⟩ := own_hide X377 (Fr.snoc X377 N376 g305)
    clear X377
    have O381 : Old Z n0 h377 := O369.wr W377 g305
    have Sf377 := Safe.wr W377 (Safe.arv hZ.alike V365 (by decide)) CR370.1 (Safe.arv hZ.alike V365 (by decide))
    have CR382 := CHr.trans CR370 (CHr.wr W377 (Safe.arv hZ.alike V365 (by decide)) CR370.1)
    have hk383 := Nat.le_trans hk371 (Nat.le_of_eq W377.size.symm)
    have V377 : Arv Z h377 b302 k302 .char (8 : Int32) [(.int (nar .char cc_316)), (.int (nar .char cc_328)), (.int (nar .char cc_340)), (.int (nar .char cc_352)), (.int (nar .char cc_364)), (.int (nar .char cc_376)), (.int (0 : Int32)), (.int (0 : Int32))] (.int (0 : Int32)) := Arv.set A377 q377 S377 N377 H377 G377 (fits_nar_char _) W377 5 rfl (Nat.le_of_ble_eq_true rfl)
    show Go p.tables e below P T377 (mkF m 141 #[.val (.int p1), .val (.int p2), .val (.int p3), .val (.long p4), .second, .val (.int kf), .val (.ref ra), .unset, .val (.ref b302), .unset, .unset] [])
    refine Go.via (fun t k => XS.aload Xh377.here hx rfl (hb hby at_141) rfl rfl k) ?_
    refine Go.via (fun t k => XS.bipush Xh377.here hx rfl (hb hby at_143) k) ?_
    refine Go.via (fun t k => XS.aload Xh377.here hx rfl (hb hby at_145) rfl rfl k) ?_
    show Go p.tables e below P T377 (mkF m 147 #[.val (.int p1), .val (.int p2), .val (.int p3), .val (.long p4), .second, .val (.int kf), .val (.ref ra), .unset, .val (.ref b302), .unset, .unset] [(.ref ra), (.int (6 : Int32)), (.ref b302)])
    refine Go.via (fun t k => XS.bipush Xh377.here hx rfl (hb hby at_147) k) ?_
    refine Go.via (fun t k => XS.lloadN Xh377.here hx rfl (hb hby at_149) rfl k) ?_
    show Go p.tables e below P T377 (mkF m 150 #[.val (.int p1), .val (.int p2), .val (.int p3), .val (.long p4), .second, .val (.int kf), .val (.ref ra), .unset, .val (.ref b302), .unset, .unset] [(.long p4), (.int (6 : Int32)), (.ref ra), (.int (6 : Int32)), (.ref b302)])
    have F384 : Exa Z h377 ra "java/lang/String" := (F372.wr W377)
    have F385 : Fld Z h377 ra "java/lang/String" "value" "[B" (.ref ta) := (F373.other W377 (Or.inl ne303))
    have F386 : Fld Z h377 ra "java/lang/String" "coder" "B" (.int (0 : Int32)) := (F374.other W377 (Or.inl ne303))
    have F387 : Arv Z h377 ta ka .byte (own_lg ba) (ba.map Value.int) (.int (0 : Int32)) := (F375.other W377 ne304)
    obtain ⟨_, _, ⟨T388, L388, k388, n388⟩, -, X388, ⟨Lc388, hQ388, l388, y388, z388⟩, st388⟩ := Jvm.LawKit.callS Xh377 hx (y := (⟨"com/example/tri3/tri3/StageKindNamedPinLaw", "pick", "(Ljava/lang/String;IJ)C"⟩ : MethodName)) hown (mvT hZ (hw _ (List.mem_of_getElem? (i := 9) rfl))) (mvT hZ (hw _ (List.mem_of_getElem? (i := 10) rfl))) (mvT hZ (hw _ (List.mem_of_getElem? (i := 11) rfl))) (mvT hZ (hw _ (List.mem_of_getElem? (i := 12) rfl))) (by decide) (backOf (W := 2) (rm1r l Z a0 hw [] ra (6 : Int32) p4 cs fm ta ka ba h377 n0 Z378 O381 P1 (by first | assumption | decide | omega : ¬ cs = (0 : Int32)) P3 (by first | assumption | decide | omega : fm.isRef = true) F384 F385 F386 F387 (by decide)) hZ (hw _ (List.mem_of_getElem? (i := 12) rfl)) (hw _ (List.mem_of_getElem? (i := 11) rfl)) (by decide) (by decide)) (g := (mkF m 150 #[.val (.int p1), .val (.int p2), .val (.int p3), .val (.long p4), .second, .val (.int kf), .val (.ref ra), .unset, .val (.ref b302), .unset, .unset] [(.long p4), (.int (6 : Int32)), (.ref ra), (.int (6 : Int32)), (.ref b302)])) rfl (by rw [hml]; rfl) (argsL := [(.ref ra), (.int (6 : Int32)), (.long p4)]) (rest := [(.int (6 : Int32)), (.ref b302)]) (lenOf own_pd14 rfl) rfl (by show 2 * 0 + _ ≤ _; exact Nat.le_of_eq rfl) (hb hby at_150) (fun _ _ => ⟨rfl, e377, (by decide : 3 + 0 ≤ _), (by decide : 40 + 0 ≤ _)⟩)
    dsimp only [Pt.U, Pt.locs, Pt.cells, Pt.slots] at X388 l388 y388 z388 st388 hQ388
    subst l388 y388 z388
    obtain ⟨cc_388, rfl, Nq388, hh388, u388_0⟩ := hQ388
    obtain ⟨lc388, Xh388, N388⟩ := own_hide X388 (Fr.app N380 Nq388)
    clear X388
    refine Go.via st388 ?_
    show Go p.tables e below P T388 (mkF m 153 #[.val (.int p1), .val (.int p2), .val (.int p3), .val (.long p4), .second, .val (.int kf), .val (.ref ra), .unset, .val (.ref b302), .unset, .unset] [(.int cc_388), (.int (6 : Int32)), (.ref b302)])
    obtain ⟨c389, A389, q389, S389, N389, H389, G389⟩ := id V377
    have hin389 : ¬ ((6 : Int32) < 0 ∨ c389.slots.size ≤ ((6 : Int32)).toNatClampNeg) := inb_of S389 ⟨by decide, by decide⟩
    obtain ⟨T389, h389, X389, e389, W389, st389⟩ := stC Xh388 hx hZ hh388 A389 (j := (6 : Int32)) hin389 (g := (mkF m 153 #[.val (.int p1), .val (.int p2), .val (.int p3), .val (.long p4), .second, .val (.int kf), .val (.ref ra), .unset, .val (.ref b302), .unset, .unset] [(.int cc_388), (.int (6 : Int32)), (.ref b302)])) rfl rfl (hb hby at_153)
    refine Go.via st389 ?_
    have Z390 : n0 ≤ h389.size := Nat.le_trans Z378 (Nat.le_of_eq W389.size.symm)
    have K391 : Keep h0 h389 [] := K379.wr W389 (Or.inr sz306)
    obtain ⟨lc389, Xh389, N392⟩ := own_hide X389 (Fr.snoc X389 N388 g305)
    clear X389
    have O393 : Old Z n0 h389 := O381.wr W389 g305
    have Sf389 := Safe.wr W389 (Safe.arv hZ.alike V377 (by decide)) CR382.1 (Safe.arv hZ.alike V377 (by decide))
    have CR394 := CHr.trans CR382 (CHr.wr W389 (Safe.arv hZ.alike V377 (by decide)) CR382.1)
    have hk395 := Nat.le_trans hk383 (Nat.le_of_eq W389.size.symm)
    have V389 : Arv Z h389 b302 k302 .char (8 : Int32) [(.int (nar .char cc_316)), (.int (nar .char cc_328)), (.int (nar .char cc_340)), (.int (nar .char cc_352)), (.int (nar .char cc_364)), (.int (nar .char cc_376)), (.int (nar .char cc_388)), (.int (0 : Int32))] (.int (0 : Int32)) := Arv.set A389 q389 S389 N389 H389 G389 (fits_nar_char _) W389 6 rfl (Nat.le_of_ble_eq_true rfl)
    show Go p.tables e below P T389 (mkF m 154 #[.val (.int p1), .val (.int p2), .val (.int p3), .val (.long p4), .second, .val (.int kf), .val (.ref ra), .unset, .val (.ref b302), .unset, .unset] [])
    refine Go.via (fun t k => XS.aload Xh389.here hx rfl (hb hby at_154) rfl rfl k) ?_
    refine Go.via (fun t k => XS.bipush Xh389.here hx rfl (hb hby at_156) k) ?_
    refine Go.via (fun t k => XS.aload Xh389.here hx rfl (hb hby at_158) rfl rfl k) ?_
    show Go p.tables e below P T389 (mkF m 160 #[.val (.int p1), .val (.int p2), .val (.int p3), .val (.long p4), .second, .val (.int kf), .val (.ref ra), .unset, .val (.ref b302), .unset, .unset] [(.ref ra), (.int (7 : Int32)), (.ref b302)])
    refine Go.via (fun t k => XS.bipush Xh389.here hx rfl (hb hby at_160) k) ?_
    refine Go.via (fun t k => XS.lloadN Xh389.here hx rfl (hb hby at_162) rfl k) ?_
    show Go p.tables e below P T389 (mkF m 163 #[.val (.int p1), .val (.int p2), .val (.int p3), .val (.long p4), .second, .val (.int kf), .val (.ref ra), .unset, .val (.ref b302), .unset, .unset] [(.long p4), (.int (7 : Int32)), (.ref ra), (.int (7 : Int32)), (.ref b302)])
    have F396 : Exa Z h389 ra "java/lang/String" := (F384.wr W389)
    have F397 : Fld Z h389 ra "java/lang/String" "value" "[B" (.ref ta) := (F385.other W389 (Or.inl ne303))
    have F398 : Fld Z h389 ra "java/lang/String" "coder" "B" (.int (0 : Int32)) := (F386.other W389 (Or.inl ne303))
    have F399 : Arv Z h389 ta ka .byte (own_lg ba) (ba.map Value.int) (.int (0 : Int32)) := (F387.other W389 ne304)
    obtain ⟨_, _, ⟨T400, L400, k400, n400⟩, -, X400, ⟨Lc400, hQ400, l400, y400, z400⟩, st400⟩ := Jvm.LawKit.callS Xh389 hx (y := (⟨"com/example/tri3/tri3/StageKindNamedPinLaw", "pick", "(Ljava/lang/String;IJ)C"⟩ : MethodName)) hown (mvT hZ (hw _ (List.mem_of_getElem? (i := 9) rfl))) (mvT hZ (hw _ (List.mem_of_getElem? (i := 10) rfl))) (mvT hZ (hw _ (List.mem_of_getElem? (i := 11) rfl))) (mvT hZ (hw _ (List.mem_of_getElem? (i := 12) rfl))) (by decide) (backOf (W := 2) (rm1r l Z a0 hw [] ra (7 : Int32) p4 cs fm ta ka ba h389 n0 Z390 O393 P1 (by first | assumption | decide | omega : ¬ cs = (0 : Int32)) P3 (by first | assumption | decide | omega : fm.isRef = true) F396 F397 F398 F399 (by decide)) hZ (hw _ (List.mem_of_getElem? (i := 12) rfl)) (hw _ (List.mem_of_getElem? (i := 11) rfl)) (by decide) (by decide)) (g := (mkF m 163 #[.val (.int p1), .val (.int p2), .val (.int p3), .val (.long p4), .second, .val (.int kf), .val (.ref ra), .unset, .val (.ref b302), .unset, .unset] [(.long p4), (.int (7 : Int32)), (.ref ra), (.int (7 : Int32)), (.ref b302)])) rfl (by rw [hml]; rfl) (argsL := [(.ref ra), (.int (7 : Int32)), (.long p4)]) (rest := [(.int (7 : Int32)), (.ref b302)]) (lenOf own_pd14 rfl) rfl (by show 2 * 0 + _ ≤ _; exact Nat.le_of_eq rfl) (hb hby at_163) (fun _ _ => ⟨rfl, e389, (by decide : 3 + 0 ≤ _), (by decide : 40 + 0 ≤ _)⟩)
    dsimp only [Pt.U, Pt.locs, Pt.cells, Pt.slots] at X400 l400 y400 z400 st400 hQ400
    subst l400 y400 z400
    obtain ⟨cc_400, rfl, Nq400, hh400, u400_0⟩ := hQ400
    obtain ⟨lc400, Xh400, N400⟩ := own_hide X400 (Fr.app N392 Nq400)
    clear X400
    refine Go.via st400 ?_
    show Go p.tables e below P T400 (mkF m 166 #[.val (.int p1), .val (.int p2), .val (.int p3), .val (.long p4), .second, .val (.int kf), .val (.ref ra), .unset, .val (.ref b302), .unset, .unset] [(.int cc_400), (.int (7 : Int32)), (.ref b302)])
    obtain ⟨c401, A401, q401, S401, N401, H401, G401⟩ := id V389
    have hin401 : ¬ ((7 : Int32) < 0 ∨ c401.slots.size ≤ ((7 : Int32)).toNatClampNeg) := inb_of S401 ⟨by decide, by decide⟩
    obtain ⟨T401, h401, X401, e401, W401, st401⟩ := stC Xh400 hx hZ hh400 A401 (j := (7 : Int32)) hin401 (g := (mkF m 166 #[.val (.int p1), .val (.int p2), .val (.int p3), .val (.long p4), .second, .val (.int kf), .val (.ref ra), .unset, .val (.ref b302), .unset, .unset] [(.int cc_400), (.int (7 : Int32)), (.ref b302)])) rfl rfl (hb hby at_166)
    refine Go.via st401 ?_
    have Z402 : n0 ≤ h401.size := Nat.le_trans Z390 (Nat.le_of_eq W401.size.symm)
    have K403 : Keep h0 h401 [] := K391.wr W401 (Or.inr sz306)
    obtain ⟨lc401, Xh401, N404⟩ := own_hide X401 (Fr.snoc X401 N400 g305)
    clear X401
    have O405 : Old Z n0 h401 := O393.wr W401 g305
    have Sf401 := Safe.wr W401 (Safe.arv hZ.alike V389 (by decide)) CR394.1 (Safe.arv hZ.alike V389 (by decide))
    have CR406 := CHr.trans CR394 (CHr.wr W401 (Safe.arv hZ.alike V389 (by decide)) CR394.1)
    have hk407 := Nat.le_trans hk395 (Nat.le_of_eq W401.size.symm)
    have V401 : Arv Z h401 b302 k302 .char (8 : Int32) [(.int (nar .char cc_316)), (.int (nar .char cc_328)), (.int (nar .char cc_340)), (.int (nar .char cc_352)), (.int (nar .char cc_364)), (.int (nar .char cc_376)), (.int (nar .char cc_388)), (.int (nar .char cc_400))] (.int (0 : Int32)) := Arv.set A401 q401 S401 N401 H401 G401 (fits_nar_char _) W401 7 rfl (Nat.le_of_ble_eq_true rfl)
    show Go p.tables e below P T401 (mkF m 167 #[.val (.int p1), .val (.int p2), .val (.int p3), .val (.long p4), .second, .val (.int kf), .val (.ref ra), .unset, .val (.ref b302), .unset, .unset] [])
    refine Go.via (fun t k => XS.iloadN Xh401.here hx rfl (hb hby at_167) rfl k) ?_
    refine Go.via (fun t k => XS.iconst Xh401.here hx rfl (hb hby at_168) k) ?_
    refine Go.via (fun t k => XS.iushr Xh401.here hx rfl (hb hby at_169) rfl k) ?_
    show Go p.tables e below P T401 (mkF m 170 #[.val (.int p1), .val (.int p2), .val (.int p3), .val (.long p4), .second, .val (.int kf), .val (.ref ra), .unset, .val (.ref b302), .unset, .unset] [(.int ((p1.toUInt32 >>> ((3 : Int32) &&& 31).toUInt32).toInt32))])
    refine Go.via (fun t k => XS.iconst Xh401.here hx rfl (hb hby at_170) k) ?_
    refine Go.via (fun t k => XS.iand Xh401.here hx rfl (hb hby at_171) rfl k) ?_
    refine Go.via (fun t k => XS.istore Xh401.here hx rfl (hb hby at_172) rfl (l' := #[.val (.int p1), .val (.int p2), .val (.int p3), .val (.long p4), .second, .val (.int kf), .val (.ref ra), .unset, .val (.ref b302), .val (.int (((p1.toUInt32 >>> ((3 : Int32) &&& 31).toUInt32).toInt32) &&& (3 : Int32))), .unset]) rfl k) ?_
    show Go p.tables e below P T401 (mkF m 174 #[.val (.int p1), .val (.int p2), .val (.int p3), .val (.long p4), .second, .val (.int kf), .val (.ref ra), .unset, .val (.ref b302), .val (.int (((p1.toUInt32 >>> ((3 : Int32) &&& 31).toUInt32).toInt32) &&& (3 : Int32))), .unset] [])
    refine Go.via (fun t k => XS.aload Xh401.here hx rfl (hb hby at_174) rfl rfl k) ?_
    show Go p.tables e below P T401 (mkF m 176 #[.val (.int p1), .val (.int p2), .val (.int p3), .val (.long p4), .second, .val (.int kf), .val (.ref ra), .unset, .val (.ref b302), .val (.int (((p1.toUInt32 >>> ((3 : Int32) &&& 31).toUInt32).toInt32) &&& (3 : Int32))), .unset] [(.ref ra)])
    refine Go.via (fun t k => XS.ifnullNo Xh401.here hx rfl (hb hby at_176) rfl k) ?_
    show Go p.tables e below P T401 (mkF m 179 #[.val (.int p1), .val (.int p2), .val (.int p3), .val (.long p4), .second, .val (.int kf), .val (.ref ra), .unset, .val (.ref b302), .val (.int (((p1.toUInt32 >>> ((3 : Int32) &&& 31).toUInt32).toInt32) &&& (3 : Int32))), .unset] [])
    refine Go.via (fun t k => XS.iload Xh401.here hx rfl (hb hby at_179) rfl k) ?_
    show Go p.tables e below P T401 (mkF m 181 #[.val (.int p1), .val (.int p2), .val (.int p3), .val (.long p4), .second, .val (.int kf), .val (.ref ra), .unset, .val (.ref b302), .val (.int (((p1.toUInt32 >>> ((3 : Int32) &&& 31).toUInt32).toInt32) &&& (3 : Int32))), .unset] [(.int (((p1.toUInt32 >>> ((3 : Int32) &&& 31).toUInt32).toInt32) &&& (3 : Int32)))])
    by_cases hc408 : (((p1.toUInt32 >>> ((3 : Int32) &&& 31).toUInt32).toInt32) &&& (3 : Int32)) = (0 : Int32)
    · refine Go.via (fun t k => XS.ifNo Xh401.here hx rfl (hb hby at_181) rfl ((if0 _ _).trans (teq hc408).2) k) ?_
      show Go p.tables e below P T401 (mkF m 184 #[.val (.int p1), .val (.int p2), .val (.int p3), .val (.long p4), .second, .val (.int kf), .val (.ref ra), .unset, .val (.ref b302), .val (.int (((p1.toUInt32 >>> ((3 : Int32) &&& 31).toUInt32).toInt32) &&& (3 : Int32))), .unset] [])
      refine Go.via (fun t k => XS.aload Xh401.here hx rfl (hb hby at_184) rfl rfl k) ?_
      show Go p.tables e below P T401 (mkF m 186 #[.val (.int p1), .val (.int p2), .val (.int p3), .val (.long p4), .second, .val (.int kf), .val (.ref ra), .unset, .val (.ref b302), .val (.int (((p1.toUInt32 >>> ((3 : Int32) &&& 31).toUInt32).toInt32) &&& (3 : Int32))), .unset] [(.ref ra)])
      have F409 : Exa Z h401 ra "java/lang/String" := (F396.wr W401)
      have F410 : Fld Z h401 ra "java/lang/String" "value" "[B" (.ref ta) := (F397.other W401 (Or.inl ne303))
      have F411 : Fld Z h401 ra "java/lang/String" "coder" "B" (.int (0 : Int32)) := (F398.other W401 (Or.inl ne303))
      have F412 : Arv Z h401 ta ka .byte (own_lg ba) (ba.map Value.int) (.int (0 : Int32)) := (F399.other W401 ne304)
      obtain ⟨cq413, kq413, q413a, q413b, q413c⟩ := isOf hZ e401 F409
      obtain ⟨_, _, ⟨T413, L413, k413, n413⟩, -, X413, ⟨Lc413, hQ413, l413, y413, z413⟩, st413⟩ := Xh401.virtualBack hx (y := (⟨"java/lang/String", "length", "()I"⟩ : MethodName)) (z := (⟨"java/lang/String", "length", "()I"⟩ : MethodName)) hown (mvT hZ (hw _ (List.mem_of_getElem? (i := 13) rfl))) (mvT hZ (hw _ (List.mem_of_getElem? (i := 14) rfl))) (notFace_of_selects (args := #[]) (mvT hZ (hw _ (List.mem_of_getElem? (i := 16) rfl)))) (mvT hZ (hw _ (List.mem_of_getElem? (i := 16) rfl))) (mvT hZ (hw _ (List.mem_of_getElem? (i := 15) rfl))) (by decide) (backOf (W := 0) (rm2 l Z a0 hw [] ra cs ta ka (own_lg ba) (ba.map Value.int) h401 n0 Z402 O405 P1 (by first | assumption | decide | omega : ¬ cs = (0 : Int32)) F409 F410 F411 F412) hZ (hw _ (List.mem_of_getElem? (i := 17) rfl)) (hw _ (List.mem_of_getElem? (i := 1) rfl)) (by decide) (by decide)) q413a q413c (g := (mkF m 186 #[.val (.int p1), .val (.int p2), .val (.int p3), .val (.long p4), .second, .val (.int kf), .val (.ref ra), .unset, .val (.ref b302), .val (.int (((p1.toUInt32 >>> ((3 : Int32) &&& 31).toUInt32).toInt32) &&& (3 : Int32))), .unset] [(.ref ra)])) rfl (by rw [hml]; rfl) (Steps.refl _) (argsL := []) (rest := []) (lenOf own_pd6 rfl) rfl (by show 2 * 0 + _ ≤ _; exact Nat.le_of_eq rfl) (hb hby at_186) (fun _ _ => ⟨rfl, e401, (by decide : 3 + 0 ≤ _), (by decide : 40 + 0 ≤ _)⟩)
      dsimp only [Pt.U, Pt.locs, Pt.cells, Pt.slots] at X413 l413 y413 z413 st413 hQ413
      subst l413 y413 z413
      obtain ⟨rfl, Nq413, hh413⟩ := hQ413
      obtain ⟨lc413, Xh413, N413⟩ := own_hide X413 (Fr.app N404 Nq413)
      clear X413
      refine Go.hop st413 ?_
      show Go p.tables e below P T413 (mkF m 189 #[.val (.int p1), .val (.int p2), .val (.int p3), .val (.long p4), .second, .val (.int kf), .val (.ref ra), .unset, .val (.ref b302), .val (.int (((p1.toUInt32 >>> ((3 : Int32) &&& 31).toUInt32).toInt32) &&& (3 : Int32))), .unset] [(.int (own_lg ba))])
      refine Go.via (fun t k => XS.istore Xh413.here hx rfl (hb hby at_189) rfl (l' := #[.val (.int p1), .val (.int p2), .val (.int p3), .val (.long p4), .second, .val (.int kf), .val (.ref ra), .unset, .val (.ref b302), .val (.int (((p1.toUInt32 >>> ((3 : Int32) &&& 31).toUInt32).toInt32) &&& (3 : Int32))), .val (.int (own_lg ba))]) rfl k) ?_
      refine Go.via (fun t k => XS.goto Xh413.here hx rfl (pc0 := 191) (pc' := 240) rfl (hb hby at_191) (by decide) (by decide) k) ?_
      have Vx414 : Arv Z h401 b302 k302 .char (8 : Int32) (([(nar .char cc_316), (nar .char cc_328), (nar .char cc_340), (nar .char cc_352), (nar .char cc_364), (nar .char cc_376), (nar .char cc_388), (nar .char cc_400)] : List Int32).map Value.int) (.int (0 : Int32)) := by
        exact V401
      exact LP1 T413 _ h401 b302 k302 ([(nar .char cc_316), (nar .char cc_328), (nar .char cc_340), (nar .char cc_352), (nar .char cc_364), (nar .char cc_376), (nar .char cc_388), (nar .char cc_400)] : List Int32) (own_lg ba) (.val (.ref ra)) (.val (.int (((p1.toUInt32 >>> ((3 : Int32) &&& 31).toUInt32).toInt32) &&& (3 : Int32)))) vm301 _ hZ hown hS301 hk407 CR406 Xh413 hh413 N413 Z402 K403 O405 Vx414 (own_allg (own_alC (own_byn u316_0) (own_alC (own_byn u328_0) (own_alC (own_byn u340_0) (own_alC (own_byn u352_0) (own_alC (own_byn u364_0) (own_alC (own_byn u376_0) (own_alC (own_byn u388_0) (own_alC (own_byn u400_0) own_al0))))))))) (Or.inr ⟨_, rfl, rfl⟩) (Or.inr ⟨_, rfl, rfl⟩)
    · refine Go.via (fun t k => XS.ifYes Xh401.here hx rfl (pc0 := 181) (pc' := 194) rfl (hb hby at_181) rfl ((if0 _ _).trans (feq hc408).2) (by decide) (by decide) k) ?_
      show Go p.tables e below P T401 (mkF m 194 #[.val (.int p1), .val (.int p2), .val (.int p3), .val (.long p4), .second, .val (.int kf), .val (.ref ra), .unset, .val (.ref b302), .val (.int (((p1.toUInt32 >>> ((3 : Int32) &&& 31).toUInt32).toInt32) &&& (3 : Int32))), .unset] [])
      refine Go.via (fun t k => XS.aload Xh401.here hx rfl (hb hby at_194) rfl rfl k) ?_
      show Go p.tables e below P T401 (mkF m 196 #[.val (.int p1), .val (.int p2), .val (.int p3), .val (.long p4), .second, .val (.int kf), .val (.ref ra), .unset, .val (.ref b302), .val (.int (((p1.toUInt32 >>> ((3 : Int32) &&& 31).toUInt32).toInt32) &&& (3 : Int32))), .unset] [(.ref ra)])
      refine Go.via (fun t k => XS.ifnullNo Xh401.here hx rfl (hb hby at_196) rfl k) ?_
      show Go p.tables e below P T401 (mkF m 199 #[.val (.int p1), .val (.int p2), .val (.int p3), .val (.long p4), .second, .val (.int kf), .val (.ref ra), .unset, .val (.ref b302), .val (.int (((p1.toUInt32 >>> ((3 : Int32) &&& 31).toUInt32).toInt32) &&& (3 : Int32))), .unset] [])
      refine Go.via (fun t k => XS.iload Xh401.here hx rfl (hb hby at_199) rfl k) ?_
      refine Go.via (fun t k => XS.iconst Xh401.here hx rfl (hb hby at_201) k) ?_
      show Go p.tables e below P T401 (mkF m 202 #[.val (.int p1), .val (.int p2), .val (.int p3), .val (.long p4), .second, .val (.int kf), .val (.ref ra), .unset, .val (.ref b302), .val (.int (((p1.toUInt32 >>> ((3 : Int32) &&& 31).toUInt32).toInt32) &&& (3 : Int32))), .unset] [(.int (1 : Int32)), (.int (((p1.toUInt32 >>> ((3 : Int32) &&& 31).toUInt32).toInt32) &&& (3 : Int32)))])
      by_cases hc415 : (((p1.toUInt32 >>> ((3 : Int32) &&& 31).toUInt32).toInt32) &&& (3 : Int32)) = (1 : Int32)
      · refine Go.via (fun t k => XS.icmpNo Xh401.here hx rfl (hb hby at_202) rfl (teq hc415).2 k) ?_
        show Go p.tables e below P T401 (mkF m 205 #[.val (.int p1), .val (.int p2), .val (.int p3), .val (.long p4), .second, .val (.int kf), .val (.ref ra), .unset, .val (.ref b302), .val (.int (((p1.toUInt32 >>> ((3 : Int32) &&& 31).toUInt32).toInt32) &&& (3 : Int32))), .unset] [])
        refine Go.via (fun t k => XS.aload Xh401.here hx rfl (hb hby at_205) rfl rfl k) ?_
        show Go p.tables e below P T401 (mkF m 207 #[.val (.int p1), .val (.int p2), .val (.int p3), .val (.long p4), .second, .val (.int kf), .val (.ref ra), .unset, .val (.ref b302), .val (.int (((p1.toUInt32 >>> ((3 : Int32) &&& 31).toUInt32).toInt32) &&& (3 : Int32))), .unset] [(.ref ra)])
        have F416 : Exa Z h401 ra "java/lang/String" := (F396.wr W401)
        have F417 : Fld Z h401 ra "java/lang/String" "value" "[B" (.ref ta) := (F397.other W401 (Or.inl ne303))
        have F418 : Fld Z h401 ra "java/lang/String" "coder" "B" (.int (0 : Int32)) := (F398.other W401 (Or.inl ne303))
        have F419 : Arv Z h401 ta ka .byte (own_lg ba) (ba.map Value.int) (.int (0 : Int32)) := (F399.other W401 ne304)
        obtain ⟨cq420, kq420, q420a, q420b, q420c⟩ := isOf hZ e401 F416
        obtain ⟨_, _, ⟨T420, L420, k420, n420⟩, -, X420, ⟨Lc420, hQ420, l420, y420, z420⟩, st420⟩ := Xh401.virtualBack hx (y := (⟨"java/lang/String", "length", "()I"⟩ : MethodName)) (z := (⟨"java/lang/String", "length", "()I"⟩ : MethodName)) hown (mvT hZ (hw _ (List.mem_of_getElem? (i := 13) rfl))) (mvT hZ (hw _ (List.mem_of_getElem? (i := 14) rfl))) (notFace_of_selects (args := #[]) (mvT hZ (hw _ (List.mem_of_getElem? (i := 16) rfl)))) (mvT hZ (hw _ (List.mem_of_getElem? (i := 16) rfl))) (mvT hZ (hw _ (List.mem_of_getElem? (i := 15) rfl))) (by decide) (backOf (W := 0) (rm2 l Z a0 hw [] ra cs ta ka (own_lg ba) (ba.map Value.int) h401 n0 Z402 O405 P1 (by first | assumption | decide | omega : ¬ cs = (0 : Int32)) F416 F417 F418 F419) hZ (hw _ (List.mem_of_getElem? (i := 17) rfl)) (hw _ (List.mem_of_getElem? (i := 1) rfl)) (by decide) (by decide)) q420a q420c (g := (mkF m 207 #[.val (.int p1), .val (.int p2), .val (.int p3), .val (.long p4), .second, .val (.int kf), .val (.ref ra), .unset, .val (.ref b302), .val (.int (((p1.toUInt32 >>> ((3 : Int32) &&& 31).toUInt32).toInt32) &&& (3 : Int32))), .unset] [(.ref ra)])) rfl (by rw [hml]; rfl) (Steps.refl _) (argsL := []) (rest := []) (lenOf own_pd6 rfl) rfl (by show 2 * 0 + _ ≤ _; exact Nat.le_of_eq rfl) (hb hby at_207) (fun _ _ => ⟨rfl, e401, (by decide : 3 + 0 ≤ _), (by decide : 40 + 0 ≤ _)⟩)
        dsimp only [Pt.U, Pt.locs, Pt.cells, Pt.slots] at X420 l420 y420 z420 st420 hQ420
        subst l420 y420 z420
        obtain ⟨rfl, Nq420, hh420⟩ := hQ420
        obtain ⟨lc420, Xh420, N420⟩ := own_hide X420 (Fr.app N404 Nq420)
        clear X420
        refine Go.hop st420 ?_
        show Go p.tables e below P T420 (mkF m 210 #[.val (.int p1), .val (.int p2), .val (.int p3), .val (.long p4), .second, .val (.int kf), .val (.ref ra), .unset, .val (.ref b302), .val (.int (((p1.toUInt32 >>> ((3 : Int32) &&& 31).toUInt32).toInt32) &&& (3 : Int32))), .unset] [(.int (own_lg ba))])
        refine Go.via (fun t k => XS.istore Xh420.here hx rfl (hb hby at_210) rfl (l' := #[.val (.int p1), .val (.int p2), .val (.int p3), .val (.long p4), .second, .val (.int kf), .val (.ref ra), .unset, .val (.ref b302), .val (.int (((p1.toUInt32 >>> ((3 : Int32) &&& 31).toUInt32).toInt32) &&& (3 : Int32))), .val (.int (own_lg ba))]) rfl k) ?_
        refine Go.via (fun t k => XS.aload Xh420.here hx rfl (hb hby at_212) rfl rfl k) ?_
        refine Go.via (fun t k => XS.iloadN Xh420.here hx rfl (hb hby at_214) rfl k) ?_
        show Go p.tables e below P T420 (mkF m 215 #[.val (.int p1), .val (.int p2), .val (.int p3), .val (.long p4), .second, .val (.int kf), .val (.ref ra), .unset, .val (.ref b302), .val (.int (((p1.toUInt32 >>> ((3 : Int32) &&& 31).toUInt32).toInt32) &&& (3 : Int32))), .val (.int (own_lg ba))] [(.int p2), (.ref b302)])
        refine Go.via (fun t k => Xh420.ldcInt hx hown (mvT hZ (hw _ (List.mem_of_getElem? (i := 113) rfl))) (g := (mkF m 215 #[.val (.int p1), .val (.int p2), .val (.int p3), .val (.long p4), .second, .val (.int kf), .val (.ref ra), .unset, .val (.ref b302), .val (.int (((p1.toUInt32 >>> ((3 : Int32) &&& 31).toUInt32).toInt32) &&& (3 : Int32))), .val (.int (own_lg ba))] [(.int p2), (.ref b302)])) rfl (hb hby at_215) t k) ?_
        show Go p.tables e below P T420 (mkF m 217 #[.val (.int p1), .val (.int p2), .val (.int p3), .val (.long p4), .second, .val (.int kf), .val (.ref ra), .unset, .val (.ref b302), .val (.int (((p1.toUInt32 >>> ((3 : Int32) &&& 31).toUInt32).toInt32) &&& (3 : Int32))), .val (.int (own_lg ba))] [(.int (2147483647 : Int32)), (.int p2), (.ref b302)])
        refine Go.via (fun t k => XS.iand Xh420.here hx rfl (hb hby at_217) rfl k) ?_
        refine Go.via (fun t k => XS.iload Xh420.here hx rfl (hb hby at_218) rfl k) ?_
        show Go p.tables e below P T420 (mkF m 220 #[.val (.int p1), .val (.int p2), .val (.int p3), .val (.long p4), .second, .val (.int kf), .val (.ref ra), .unset, .val (.ref b302), .val (.int (((p1.toUInt32 >>> ((3 : Int32) &&& 31).toUInt32).toInt32) &&& (3 : Int32))), .val (.int (own_lg ba))] [(.int (own_lg ba)), (.int (p2 &&& (2147483647 : Int32))), (.ref b302)])
        refine Go.via (fun t k => iremM Xh420 hx rfl (hb hby at_220) rfl (own_lg0 hl1) k) ?_
        show Go p.tables e below P T420 (mkF m 221 #[.val (.int p1), .val (.int p2), .val (.int p3), .val (.long p4), .second, .val (.int kf), .val (.ref ra), .unset, .val (.ref b302), .val (.int (((p1.toUInt32 >>> ((3 : Int32) &&& 31).toUInt32).toInt32) &&& (3 : Int32))), .val (.int (own_lg ba))] [(.int ((p2 &&& (2147483647 : Int32)) % (own_lg ba))), (.ref b302)])
        refine Go.via (fun t k => XS.iloadN Xh420.here hx rfl (hb hby at_221) rfl k) ?_
        refine Go.via (fun t k => XS.sipush Xh420.here hx rfl (hb hby at_222) k) ?_
        refine Go.via (fun t k => XS.iand Xh420.here hx rfl (hb hby at_225) rfl k) ?_
        show Go p.tables e below P T420 (mkF m 226 #[.val (.int p1), .val (.int p2), .val (.int p3), .val (.long p4), .second, .val (.int kf), .val (.ref ra), .unset, .val (.ref b302), .val (.int (((p1.toUInt32 >>> ((3 : Int32) &&& 31).toUInt32).toInt32) &&& (3 : Int32))), .val (.int (own_lg ba))] [(.int (p3 &&& (255 : Int32))), (.int ((p2 &&& (2147483647 : Int32)) % (own_lg ba))), (.ref b302)])
        refine Go.via (fun t k => XS.i2c Xh420.here hx rfl (hb hby at_226) rfl k) ?_
        show Go p.tables e below P T420 (mkF m 227 #[.val (.int p1), .val (.int p2), .val (.int p3), .val (.long p4), .second, .val (.int kf), .val (.ref ra), .unset, .val (.ref b302), .val (.int (((p1.toUInt32 >>> ((3 : Int32) &&& 31).toUInt32).toInt32) &&& (3 : Int32))), .val (.int (own_lg ba))] [(.int ((p3 &&& (255 : Int32)).toUInt32.toUInt16.toUInt32.toInt32)), (.int ((p2 &&& (2147483647 : Int32)) % (own_lg ba))), (.ref b302)])
        obtain ⟨c421, A421, q421, S421, N421, H421, G421⟩ := id V401
        have hin421 : ¬ (((p2 &&& (2147483647 : Int32)) % (own_lg ba)) < 0 ∨ c421.slots.size ≤ (((p2 &&& (2147483647 : Int32)) % (own_lg ba))).toNatClampNeg) := inb_of S421 ⟨(own_ix p2 hl1).1, (own_ix p2 hl1).2.1⟩
        obtain ⟨T421, h421, X421, e421, W421, st421⟩ := stC Xh420 hx hZ hh420 A421 (j := ((p2 &&& (2147483647 : Int32)) % (own_lg ba))) hin421 (g := (mkF m 227 #[.val (.int p1), .val (.int p2), .val (.int p3), .val (.long p4), .second, .val (.int kf), .val (.ref ra), .unset, .val (.ref b302), .val (.int (((p1.toUInt32 >>> ((3 : Int32) &&& 31).toUInt32).toInt32) &&& (3 : Int32))), .val (.int (own_lg ba))] [(.int ((p3 &&& (255 : Int32)).toUInt32.toUInt16.toUInt32.toInt32)), (.int ((p2 &&& (2147483647 : Int32)) % (own_lg ba))), (.ref b302)])) rfl rfl (hb hby at_227)
        refine Go.via st421 ?_
        have Z422 : n0 ≤ h421.size := Nat.le_trans Z402 (Nat.le_of_eq W421.size.symm)
        have K423 : Keep h0 h421 [] := K403.wr W421 (Or.inr sz306)
        obtain ⟨lc421, Xh421, N424⟩ := own_hide X421 (Fr.snoc X421 N420 g305)
        clear X421
        have O425 : Old Z n0 h421 := O405.wr W421 g305
        have Sf421 := Safe.wr W421 (Safe.arv hZ.alike V401 (by decide)) CR406.1 (Safe.arv hZ.alike V401 (by decide))
        have CR426 := CHr.trans CR406 (CHr.wr W421 (Safe.arv hZ.alike V401 (by decide)) CR406.1)
        have hk427 := Nat.le_trans hk407 (Nat.le_of_eq W421.size.symm)
        have V421 : Arv Z h421 b302 k302 .char (8 : Int32) ([(.int (nar .char cc_316)), (.int (nar .char cc_328)), (.int (nar .char cc_340)), (.int (nar .char cc_352)), (.int (nar .char cc_364)), (.int (nar .char cc_376)), (.int (nar .char cc_388)), (.int (nar .char cc_400))].set (((p2 &&& (2147483647 : Int32)) % (own_lg ba)).toNatClampNeg) (.int (nar .char ((p3 &&& (255 : Int32)).toUInt32.toUInt16.toUInt32.toInt32)))) (.int (0 : Int32)) := Arv.set A421 q421 S421 N421 H421 G421 (fits_nar_char _) W421 ((p2 &&& (2147483647 : Int32)) % (own_lg ba)).toNatClampNeg rfl (by exact (own_ix p2 hl1).2.2)
        show Go p.tables e below P T421 (mkF m 228 #[.val (.int p1), .val (.int p2), .val (.int p3), .val (.long p4), .second, .val (.int kf), .val (.ref ra), .unset, .val (.ref b302), .val (.int (((p1.toUInt32 >>> ((3 : Int32) &&& 31).toUInt32).toInt32) &&& (3 : Int32))), .val (.int (own_lg ba))] [])
        refine Go.via (fun t k => XS.goto Xh421.here hx rfl (pc0 := 228) (pc' := 240) rfl (hb hby at_228) (by decide) (by decide) k) ?_
        have Vx428 : Arv Z h421 b302 k302 .char (8 : Int32) ((([(nar .char cc_316), (nar .char cc_328), (nar .char cc_340), (nar .char cc_352), (nar .char cc_364), (nar .char cc_376), (nar .char cc_388), (nar .char cc_400)] : List Int32).set (((p2 &&& (2147483647 : Int32)) % (own_lg ba)).toNatClampNeg) (nar .char ((p3 &&& (255 : Int32)).toUInt32.toUInt16.toUInt32.toInt32))).map Value.int) (.int (0 : Int32)) := by
          rw [List.map_set]; exact V421
        exact LP1 T421 _ h421 b302 k302 (([(nar .char cc_316), (nar .char cc_328), (nar .char cc_340), (nar .char cc_352), (nar .char cc_364), (nar .char cc_376), (nar .char cc_388), (nar .char cc_400)] : List Int32).set (((p2 &&& (2147483647 : Int32)) % (own_lg ba)).toNatClampNeg) (nar .char ((p3 &&& (255 : Int32)).toUInt32.toUInt16.toUInt32.toInt32))) (own_lg ba) (.val (.ref ra)) (.val (.int (((p1.toUInt32 >>> ((3 : Int32) &&& 31).toUInt32).toInt32) &&& (3 : Int32)))) vm301 _ hZ hown hS301 hk427 CR426 Xh421 e421 N424 Z422 K423 O425 Vx428 (own_set (own_allg (own_alC (own_byn u316_0) (own_alC (own_byn u328_0) (own_alC (own_byn u340_0) (own_alC (own_byn u352_0) (own_alC (own_byn u364_0) (own_alC (own_byn u376_0) (own_alC (own_byn u388_0) (own_alC (own_byn u400_0) own_al0))))))))) (own_byn (own_byc _))) (Or.inr ⟨_, rfl, rfl⟩) (Or.inr ⟨_, rfl, rfl⟩)
      · refine Go.via (fun t k => XS.icmpYes Xh401.here hx rfl (pc0 := 202) (pc' := 231) rfl (hb hby at_202) rfl (feq hc415).2 (by decide) (by decide) k) ?_
        show Go p.tables e below P T401 (mkF m 231 #[.val (.int p1), .val (.int p2), .val (.int p3), .val (.long p4), .second, .val (.int kf), .val (.ref ra), .unset, .val (.ref b302), .val (.int (((p1.toUInt32 >>> ((3 : Int32) &&& 31).toUInt32).toInt32) &&& (3 : Int32))), .unset] [])
        refine Go.via (fun t k => XS.iloadN Xh401.here hx rfl (hb hby at_231) rfl k) ?_
        show Go p.tables e below P T401 (mkF m 232 #[.val (.int p1), .val (.int p2), .val (.int p3), .val (.long p4), .second, .val (.int kf), .val (.ref ra), .unset, .val (.ref b302), .val (.int (((p1.toUInt32 >>> ((3 : Int32) &&& 31).toUInt32).toInt32) &&& (3 : Int32))), .unset] [(.int p2)])
        refine Go.via (fun t k => Xh401.ldcInt hx hown (mvT hZ (hw _ (List.mem_of_getElem? (i := 113) rfl))) (g := (mkF m 232 #[.val (.int p1), .val (.int p2), .val (.int p3), .val (.long p4), .second, .val (.int kf), .val (.ref ra), .unset, .val (.ref b302), .val (.int (((p1.toUInt32 >>> ((3 : Int32) &&& 31).toUInt32).toInt32) &&& (3 : Int32))), .unset] [(.int p2)])) rfl (hb hby at_232) t k) ?_
        show Go p.tables e below P T401 (mkF m 234 #[.val (.int p1), .val (.int p2), .val (.int p3), .val (.long p4), .second, .val (.int kf), .val (.ref ra), .unset, .val (.ref b302), .val (.int (((p1.toUInt32 >>> ((3 : Int32) &&& 31).toUInt32).toInt32) &&& (3 : Int32))), .unset] [(.int (2147483647 : Int32)), (.int p2)])
        refine Go.via (fun t k => XS.iand Xh401.here hx rfl (hb hby at_234) rfl k) ?_
        refine Go.via (fun t k => XS.bipush Xh401.here hx rfl (hb hby at_235) k) ?_
        show Go p.tables e below P T401 (mkF m 237 #[.val (.int p1), .val (.int p2), .val (.int p3), .val (.long p4), .second, .val (.int kf), .val (.ref ra), .unset, .val (.ref b302), .val (.int (((p1.toUInt32 >>> ((3 : Int32) &&& 31).toUInt32).toInt32) &&& (3 : Int32))), .unset] [(.int (9 : Int32)), (.int (p2 &&& (2147483647 : Int32)))])
        refine Go.via (fun t k => iremM Xh401 hx rfl (hb hby at_237) rfl (by decide) k) ?_
        show Go p.tables e below P T401 (mkF m 238 #[.val (.int p1), .val (.int p2), .val (.int p3), .val (.long p4), .second, .val (.int kf), .val (.ref ra), .unset, .val (.ref b302), .val (.int (((p1.toUInt32 >>> ((3 : Int32) &&& 31).toUInt32).toInt32) &&& (3 : Int32))), .unset] [(.int ((p2 &&& (2147483647 : Int32)) % (9 : Int32)))])
        refine Go.via (fun t k => XS.istore Xh401.here hx rfl (hb hby at_238) rfl (l' := #[.val (.int p1), .val (.int p2), .val (.int p3), .val (.long p4), .second, .val (.int kf), .val (.ref ra), .unset, .val (.ref b302), .val (.int (((p1.toUInt32 >>> ((3 : Int32) &&& 31).toUInt32).toInt32) &&& (3 : Int32))), .val (.int ((p2 &&& (2147483647 : Int32)) % (9 : Int32)))]) rfl k) ?_
        have Vx429 : Arv Z h401 b302 k302 .char (8 : Int32) (([(nar .char cc_316), (nar .char cc_328), (nar .char cc_340), (nar .char cc_352), (nar .char cc_364), (nar .char cc_376), (nar .char cc_388), (nar .char cc_400)] : List Int32).map Value.int) (.int (0 : Int32)) := by
          exact V401
        exact LP1 T401 _ h401 b302 k302 ([(nar .char cc_316), (nar .char cc_328), (nar .char cc_340), (nar .char cc_352), (nar .char cc_364), (nar .char cc_376), (nar .char cc_388), (nar .char cc_400)] : List Int32) ((p2 &&& (2147483647 : Int32)) % (9 : Int32)) (.val (.ref ra)) (.val (.int (((p1.toUInt32 >>> ((3 : Int32) &&& 31).toUInt32).toInt32) &&& (3 : Int32)))) vm301 _ hZ hown hS301 hk407 CR406 Xh401 e401 N404 Z402 K403 O405 Vx429 (own_allg (own_alC (own_byn u316_0) (own_alC (own_byn u328_0) (own_alC (own_byn u340_0) (own_alC (own_byn u352_0) (own_alC (own_byn u364_0) (own_alC (own_byn u376_0) (own_alC (own_byn u388_0) (own_alC (own_byn u400_0) own_al0))))))))) (Or.inr ⟨_, rfl, rfl⟩) (Or.inr ⟨_, rfl, rfl⟩)
  show Go p.tables e below P s₁ (mkF m 9 #[.val (.int p1), .val (.int p2), .val (.int p3), .val (.long p4), .second, .val (.int kf), .val .null, .unset, .unset, .unset, .unset] [])
  refine Go.via (fun t k => XS.iload X0.here hx rfl (hb hby at_9) rfl k) ?_
  show Go p.tables e below P s₁ (mkF m 11 #[.val (.int p1), .val (.int p2), .val (.int p3), .val (.long p4), .second, .val (.int kf), .val .null, .unset, .unset, .unset, .unset] [(.int kf)])
  by_cases hc430 : kf = (0 : Int32)
  · refine Go.via (fun t k => XS.ifNo X0.here hx rfl (hb hby at_11) rfl ((if0 _ _).trans (teq hc430).2) k) ?_
    show Go p.tables e below P s₁ (mkF m 14 #[.val (.int p1), .val (.int p2), .val (.int p3), .val (.long p4), .second, .val (.int kf), .val .null, .unset, .unset, .unset, .unset] [])
    obtain ⟨a431, T431, h431, kn431, b431, kb431, X431, e431, E431, hS431, hk431, hZ, hown, Ex431, Fc431, Fv431, Va431, lta431, ltb431, hC431, -, ne431, st431⟩ := ldcCH X0 hx hZ hown (hw _ (List.mem_of_getElem? (i := 0) rfl)) (own_sa hw) e0 hS0 (Nat.zero_le _) (own_EW hw) (by decide : (("com/example/tri3/tri3/StageKindNamedPinLaw", 7) : String × Nat) ∈ consts_1) CR0.1 (vs := [(.int (102 : Int32)), (.int (101 : Int32)), (.int (116 : Int32)), (.int (99 : Int32)), (.int (104 : Int32))]) (z := (5 : Int32)) ⟨by decide, rfl⟩ (by decide) rfl (g := (mkF m 14 #[.val (.int p1), .val (.int p2), .val (.int p3), .val (.long p4), .second, .val (.int kf), .val .null, .unset, .unset, .unset, .unset] [])) rfl (hb hby at_14) (n := 20) (by decide) (by decide) (by decide) (by decide)
    refine Go.via st431 ?_
    have CR432 := CHr.trans CR0 hC431
    have Z433 : n0 ≤ h431.size := Nat.le_trans Z0 E431.1
    have K434 : Keep h0 h431 [] := K0.ext E431
    have O435 : Old Z n0 h431 := O0.ext E431
    have Vb431 : Arv Z h431 b431 kb431 .byte (own_lg ([(102 : Int32), (101 : Int32), (116 : Int32), (99 : Int32), (104 : Int32)] : List Int32)) (([(102 : Int32), (101 : Int32), (116 : Int32), (99 : Int32), (104 : Int32)] : List Int32).map Value.int) (.int (0 : Int32)) := by
      rw [show own_lg ([(102 : Int32), (101 : Int32), (116 : Int32), (99 : Int32), (104 : Int32)] : List Int32) = (5 : Int32) from rfl]; exact Va431
    show Go p.tables e below P T431 (mkF m 16 #[.val (.int p1), .val (.int p2), .val (.int p3), .val (.long p4), .second, .val (.int kf), .val .null, .unset, .unset, .unset, .unset] [(.ref a431)])
    refine Go.via (fun t k => XS.astore X431.here hx rfl (hb hby at_16) rfl rfl (l' := #[.val (.int p1), .val (.int p2), .val (.int p3), .val (.long p4), .second, .val (.int kf), .val (.ref a431), .unset, .unset, .unset, .unset]) rfl k) ?_
    refine Go.via (fun t k => XS.goto X431.here hx rfl (pc0 := 18) (pc' := 57) rfl (hb hby at_18) (by decide) (by decide) k) ?_
    exact LP301 T431 _ h431 a431 b431 kb431 ([(102 : Int32), (101 : Int32), (116 : Int32), (99 : Int32), (104 : Int32)] : List Int32) T431.vm _ hZ hown hS431 hk431 CR432 (ownUp X431 (by decide) (by decide)) e431 N0 Z433 K434 O435 Ex431 Fv431 Fc431 Vb431 (by decide) (fun q => absurd (hc430.symm.trans q) (by decide))
  · refine Go.via (fun t k => XS.ifYes X0.here hx rfl (pc0 := 11) (pc' := 21) rfl (hb hby at_11) rfl ((if0 _ _).trans (feq hc430).2) (by decide) (by decide) k) ?_
    show Go p.tables e below P s₁ (mkF m 21 #[.val (.int p1), .val (.int p2), .val (.int p3), .val (.long p4), .second, .val (.int kf), .val .null, .unset, .unset, .unset, .unset] [])
    refine Go.via (fun t k => XS.iload X0.here hx rfl (hb hby at_21) rfl k) ?_
    refine Go.via (fun t k => XS.iconst X0.here hx rfl (hb hby at_23) k) ?_
    show Go p.tables e below P s₁ (mkF m 24 #[.val (.int p1), .val (.int p2), .val (.int p3), .val (.long p4), .second, .val (.int kf), .val .null, .unset, .unset, .unset, .unset] [(.int (1 : Int32)), (.int kf)])
    by_cases hc436 : kf = (1 : Int32)
    · refine Go.via (fun t k => XS.icmpNo X0.here hx rfl (hb hby at_24) rfl (teq hc436).2 k) ?_
      show Go p.tables e below P s₁ (mkF m 27 #[.val (.int p1), .val (.int p2), .val (.int p3), .val (.long p4), .second, .val (.int kf), .val .null, .unset, .unset, .unset, .unset] [])
      obtain ⟨a437, T437, h437, kn437, b437, kb437, X437, e437, E437, hS437, hk437, hZ, hown, Ex437, Fc437, Fv437, Va437, lta437, ltb437, hC437, -, ne437, st437⟩ := ldcCH X0 hx hZ hown (hw _ (List.mem_of_getElem? (i := 110) rfl)) (own_sa hw) e0 hS0 (Nat.zero_le _) (own_EW hw) (by decide : (("com/example/tri3/tri3/StageKindNamedPinLaw", 9) : String × Nat) ∈ consts_1) CR0.1 (vs := [(.int (99 : Int32)), (.int (97 : Int32)), (.int (108 : Int32)), (.int (108 : Int32))]) (z := (4 : Int32)) ⟨by decide, rfl⟩ (by decide) rfl (g := (mkF m 27 #[.val (.int p1), .val (.int p2), .val (.int p3), .val (.long p4), .second, .val (.int kf), .val .null, .unset, .unset, .unset, .unset] [])) rfl (hb hby at_27) (n := 16) (by decide) (by decide) (by decide) (by decide)
      refine Go.via st437 ?_
      have CR438 := CHr.trans CR0 hC437
      have Z439 : n0 ≤ h437.size := Nat.le_trans Z0 E437.1
      have K440 : Keep h0 h437 [] := K0.ext E437
      have O441 : Old Z n0 h437 := O0.ext E437
      have Vb437 : Arv Z h437 b437 kb437 .byte (own_lg ([(99 : Int32), (97 : Int32), (108 : Int32), (108 : Int32)] : List Int32)) (([(99 : Int32), (97 : Int32), (108 : Int32), (108 : Int32)] : List Int32).map Value.int) (.int (0 : Int32)) := by
        rw [show own_lg ([(99 : Int32), (97 : Int32), (108 : Int32), (108 : Int32)] : List Int32) = (4 : Int32) from rfl]; exact Va437
      show Go p.tables e below P T437 (mkF m 29 #[.val (.int p1), .val (.int p2), .val (.int p3), .val (.long p4), .second, .val (.int kf), .val .null, .unset, .unset, .unset, .unset] [(.ref a437)])
      refine Go.via (fun t k => XS.astore X437.here hx rfl (hb hby at_29) rfl rfl (l' := #[.val (.int p1), .val (.int p2), .val (.int p3), .val (.long p4), .second, .val (.int kf), .val (.ref a437), .unset, .unset, .unset, .unset]) rfl k) ?_
      refine Go.via (fun t k => XS.goto X437.here hx rfl (pc0 := 31) (pc' := 57) rfl (hb hby at_31) (by decide) (by decide) k) ?_
      exact LP301 T437 _ h437 a437 b437 kb437 ([(99 : Int32), (97 : Int32), (108 : Int32), (108 : Int32)] : List Int32) T437.vm _ hZ hown hS437 hk437 CR438 (ownUp X437 (by decide) (by decide)) e437 N0 Z439 K440 O441 Ex437 Fv437 Fc437 Vb437 (by decide) (fun q => absurd (hc436.symm.trans q) (by decide))
    · refine Go.via (fun t k => XS.icmpYes X0.here hx rfl (pc0 := 24) (pc' := 34) rfl (hb hby at_24) rfl (feq hc436).2 (by decide) (by decide) k) ?_
      show Go p.tables e below P s₁ (mkF m 34 #[.val (.int p1), .val (.int p2), .val (.int p3), .val (.long p4), .second, .val (.int kf), .val .null, .unset, .unset, .unset, .unset] [])
      refine Go.via (fun t k => XS.iload X0.here hx rfl (hb hby at_34) rfl k) ?_
      refine Go.via (fun t k => XS.iconst X0.here hx rfl (hb hby at_36) k) ?_
      show Go p.tables e below P s₁ (mkF m 37 #[.val (.int p1), .val (.int p2), .val (.int p3), .val (.long p4), .second, .val (.int kf), .val .null, .unset, .unset, .unset, .unset] [(.int (2 : Int32)), (.int kf)])
      by_cases hc442 : kf = (2 : Int32)
      · refine Go.via (fun t k => XS.icmpNo X0.here hx rfl (hb hby at_37) rfl (teq hc442).2 k) ?_
        show Go p.tables e below P s₁ (mkF m 40 #[.val (.int p1), .val (.int p2), .val (.int p3), .val (.long p4), .second, .val (.int kf), .val .null, .unset, .unset, .unset, .unset] [])
        obtain ⟨a443, T443, h443, kn443, b443, kb443, X443, e443, E443, hS443, hk443, hZ, hown, Ex443, Fc443, Fv443, Va443, lta443, ltb443, hC443, -, ne443, st443⟩ := ldcCH X0 hx hZ hown (hw _ (List.mem_of_getElem? (i := 109) rfl)) (own_sa hw) e0 hS0 (Nat.zero_le _) (own_EW hw) (by decide : (("com/example/tri3/tri3/StageKindNamedPinLaw", 11) : String × Nat) ∈ consts_1) CR0.1 (vs := [(.int (115 : Int32)), (.int (113 : Int32)), (.int (108 : Int32))]) (z := (3 : Int32)) ⟨by decide, rfl⟩ (by decide) rfl (g := (mkF m 40 #[.val (.int p1), .val (.int p2), .val (.int p3), .val (.long p4), .second, .val (.int kf), .val .null, .unset, .unset, .unset, .unset] [])) rfl (hb hby at_40) (n := 12) (by decide) (by decide) (by decide) (by decide)
        refine Go.via st443 ?_
        have CR444 := CHr.trans CR0 hC443
        have Z445 : n0 ≤ h443.size := Nat.le_trans Z0 E443.1
        have K446 : Keep h0 h443 [] := K0.ext E443
        have O447 : Old Z n0 h443 := O0.ext E443
        have Vb443 : Arv Z h443 b443 kb443 .byte (own_lg ([(115 : Int32), (113 : Int32), (108 : Int32)] : List Int32)) (([(115 : Int32), (113 : Int32), (108 : Int32)] : List Int32).map Value.int) (.int (0 : Int32)) := by
          rw [show own_lg ([(115 : Int32), (113 : Int32), (108 : Int32)] : List Int32) = (3 : Int32) from rfl]; exact Va443
        show Go p.tables e below P T443 (mkF m 42 #[.val (.int p1), .val (.int p2), .val (.int p3), .val (.long p4), .second, .val (.int kf), .val .null, .unset, .unset, .unset, .unset] [(.ref a443)])
        refine Go.via (fun t k => XS.astore X443.here hx rfl (hb hby at_42) rfl rfl (l' := #[.val (.int p1), .val (.int p2), .val (.int p3), .val (.long p4), .second, .val (.int kf), .val (.ref a443), .unset, .unset, .unset, .unset]) rfl k) ?_
        refine Go.via (fun t k => XS.goto X443.here hx rfl (pc0 := 44) (pc' := 57) rfl (hb hby at_44) (by decide) (by decide) k) ?_
        exact LP301 T443 _ h443 a443 b443 kb443 ([(115 : Int32), (113 : Int32), (108 : Int32)] : List Int32) T443.vm _ hZ hown hS443 hk443 CR444 (ownUp X443 (by decide) (by decide)) e443 N0 Z445 K446 O447 Ex443 Fv443 Fc443 Vb443 (by decide) (fun q => absurd (hc442.symm.trans q) (by decide))
      · refine Go.via (fun t k => XS.icmpYes X0.here hx rfl (pc0 := 37) (pc' := 47) rfl (hb hby at_37) rfl (feq hc442).2 (by decide) (by decide) k) ?_
        show Go p.tables e below P s₁ (mkF m 47 #[.val (.int p1), .val (.int p2), .val (.int p3), .val (.long p4), .second, .val (.int kf), .val .null, .unset, .unset, .unset, .unset] [])
        refine Go.via (fun t k => XS.iload X0.here hx rfl (hb hby at_47) rfl k) ?_
        refine Go.via (fun t k => XS.iconst X0.here hx rfl (hb hby at_49) k) ?_
        show Go p.tables e below P s₁ (mkF m 50 #[.val (.int p1), .val (.int p2), .val (.int p3), .val (.long p4), .second, .val (.int kf), .val .null, .unset, .unset, .unset, .unset] [(.int (3 : Int32)), (.int kf)])
        by_cases hc448 : kf = (3 : Int32)
        · refine Go.via (fun t k => XS.icmpNo X0.here hx rfl (hb hby at_50) rfl (teq hc448).2 k) ?_
          show Go p.tables e below P s₁ (mkF m 53 #[.val (.int p1), .val (.int p2), .val (.int p3), .val (.long p4), .second, .val (.int kf), .val .null, .unset, .unset, .unset, .unset] [])
          obtain ⟨a449, T449, h449, kn449, b449, kb449, X449, e449, E449, hS449, hk449, hZ, hown, Ex449, Fc449, Fv449, Va449, lta449, ltb449, hC449, -, ne449, st449⟩ := ldcCH X0 hx hZ hown (hw _ (List.mem_of_getElem? (i := 112) rfl)) (own_sa hw) e0 hS0 (Nat.zero_le _) (own_EW hw) (by decide : (("com/example/tri3/tri3/StageKindNamedPinLaw", 13) : String × Nat) ∈ consts_1) CR0.1 (vs := [(.int (100 : Int32)), (.int (101 : Int32)), (.int (108 : Int32)), (.int (105 : Int32)), (.int (118 : Int32)), (.int (101 : Int32)), (.int (114 : Int32))]) (z := (7 : Int32)) ⟨by decide, rfl⟩ (by decide) rfl (g := (mkF m 53 #[.val (.int p1), .val (.int p2), .val (.int p3), .val (.long p4), .second, .val (.int kf), .val .null, .unset, .unset, .unset, .unset] [])) rfl (hb hby at_53) (n := 28) (by decide) (by decide) (by decide) (by decide)
          refine Go.via st449 ?_
          have CR450 := CHr.trans CR0 hC449
          have Z451 : n0 ≤ h449.size := Nat.le_trans Z0 E449.1
          have K452 : Keep h0 h449 [] := K0.ext E449
          have O453 : Old Z n0 h449 := O0.ext E449
          have Vb449 : Arv Z h449 b449 kb449 .byte (own_lg ([(100 : Int32), (101 : Int32), (108 : Int32), (105 : Int32), (118 : Int32), (101 : Int32), (114 : Int32)] : List Int32)) (([(100 : Int32), (101 : Int32), (108 : Int32), (105 : Int32), (118 : Int32), (101 : Int32), (114 : Int32)] : List Int32).map Value.int) (.int (0 : Int32)) := by
            rw [show own_lg ([(100 : Int32), (101 : Int32), (108 : Int32), (105 : Int32), (118 : Int32), (101 : Int32), (114 : Int32)] : List Int32) = (7 : Int32) from rfl]; exact Va449
          show Go p.tables e below P T449 (mkF m 55 #[.val (.int p1), .val (.int p2), .val (.int p3), .val (.long p4), .second, .val (.int kf), .val .null, .unset, .unset, .unset, .unset] [(.ref a449)])
          refine Go.via (fun t k => XS.astore X449.here hx rfl (hb hby at_55) rfl rfl (l' := #[.val (.int p1), .val (.int p2), .val (.int p3), .val (.long p4), .second, .val (.int kf), .val (.ref a449), .unset, .unset, .unset, .unset]) rfl k) ?_
          exact LP301 T449 _ h449 a449 b449 kb449 ([(100 : Int32), (101 : Int32), (108 : Int32), (105 : Int32), (118 : Int32), (101 : Int32), (114 : Int32)] : List Int32) T449.vm _ hZ hown hS449 hk449 CR450 X449 e449 N0 Z451 K452 O453 Ex449 Fv449 Fc449 Vb449 (by decide) (fun q => absurd (hc448.symm.trans q) (by decide))
        · refine Go.via (fun t k => XS.icmpYes X0.here hx rfl (pc0 := 50) (pc' := 57) rfl (hb hby at_50) rfl (feq hc448).2 (by decide) (by decide) k) ?_
          show Go p.tables e below P s₁ (mkF m 57 #[.val (.int p1), .val (.int p2), .val (.int p3), .val (.long p4), .second, .val (.int kf), .val .null, .unset, .unset, .unset, .unset] [])
          refine Go.via (fun t k => XS.iload X0.here hx rfl (hb hby at_57) rfl k) ?_
          refine Go.via (fun t k => XS.iconst X0.here hx rfl (hb hby at_59) k) ?_
          show Go p.tables e below P s₁ (mkF m 60 #[.val (.int p1), .val (.int p2), .val (.int p3), .val (.long p4), .second, .val (.int kf), .val .null, .unset, .unset, .unset, .unset] [(.int (4 : Int32)), (.int kf)])
          by_cases hc454 : kf = (4 : Int32)
          · refine Go.via (fun t k => XS.icmpNo X0.here hx rfl (hb hby at_60) rfl (teq hc454).2 k) ?_
            show Go p.tables e below P s₁ (mkF m 63 #[.val (.int p1), .val (.int p2), .val (.int p3), .val (.long p4), .second, .val (.int kf), .val .null, .unset, .unset, .unset, .unset] [])
            refine Go.via (fun t k => XS.aconstNull X0.here hx rfl (hb hby at_63) k) ?_
            show Go p.tables e below P s₁ (mkF m 64 #[.val (.int p1), .val (.int p2), .val (.int p3), .val (.long p4), .second, .val (.int kf), .val .null, .unset, .unset, .unset, .unset] [.null])
            refine Go.via (fun t k => XS.astore X0.here hx rfl (hb hby at_64) rfl rfl (l' := #[.val (.int p1), .val (.int p2), .val (.int p3), .val (.long p4), .second, .val (.int kf), .val .null, .val .null, .unset, .unset, .unset]) rfl k) ?_
            refine Go.via (fun t k => XS.goto X0.here hx rfl (pc0 := 66) (pc' := 249) rfl (hb hby at_66) (by decide) (by decide) k) ?_
            refine Go.via (fun t k => XS.aload X0.here hx rfl (hb hby at_249) rfl rfl k) ?_
            show Go p.tables e below P s₁ (mkF m 251 #[.val (.int p1), .val (.int p2), .val (.int p3), .val (.long p4), .second, .val (.int kf), .val .null, .val .null, .unset, .unset, .unset] [.null])
            refine Go.via (fun t k => XS.ifnonnullNo X0.here hx rfl (hb hby at_251) rfl k) ?_
            show Go p.tables e below P s₁ (mkF m 254 #[.val (.int p1), .val (.int p2), .val (.int p3), .val (.long p4), .second, .val (.int kf), .val .null, .val .null, .unset, .unset, .unset] [])
            refine Go.via (fun t k => XS.aconstNull X0.here hx rfl (hb hby at_254) k) ?_
            show Go p.tables e below P s₁ (mkF m 255 #[.val (.int p1), .val (.int p2), .val (.int p3), .val (.long p4), .second, .val (.int kf), .val .null, .val .null, .unset, .unset, .unset] [.null])
            refine Go.via (fun t k => XS.astore X0.here hx rfl (hb hby at_255) rfl rfl (l' := #[.val (.int p1), .val (.int p2), .val (.int p3), .val (.long p4), .second, .val (.int kf), .val .null, .val .null, .val .null, .unset, .unset]) rfl k) ?_
            refine Go.via (fun t k => XS.goto X0.here hx rfl (pc0 := 257) (pc' := 335) rfl (hb hby at_257) (by decide) (by decide) k) ?_
            refine Go.via (fun t k => XS.aload X0.here hx rfl (hb hby at_335) rfl rfl k) ?_
            show Go p.tables e below P s₁ (mkF m 337 #[.val (.int p1), .val (.int p2), .val (.int p3), .val (.long p4), .second, .val (.int kf), .val .null, .val .null, .val .null, .unset, .unset] [.null])
            obtain ⟨_, _, ⟨T455, L455, k455, n455⟩, -, X455, ⟨Lc455, hQ455, l455, y455, z455⟩, st455⟩ := Jvm.LawKit.callS X0 hx (y := (⟨"com/example/tri3/tri3/StageKind", "named", "(Ljava/lang/String;)Lcom/example/tri3/tri3/StageKind;"⟩ : MethodName)) hown (mvT hZ (hw _ (List.mem_of_getElem? (i := 85) rfl))) (mvT hZ (hw _ (List.mem_of_getElem? (i := 86) rfl))) (mvT hZ (hw _ (List.mem_of_getElem? (i := 83) rfl))) (mvT hZ (hw _ (List.mem_of_getElem? (i := 87) rfl))) (by decide) (backOf (W := 0) (rm18vnull l Z a0 hw [] va kva aF sF tF kF aC sC tC kC aS sS tS kS aD sD tD kD h0 n0 Z0 O0 P5 P6 P7 P8 P9 P10 P11 P12 P13 P14 P15 P16 P17 P18 P19 P20 P21 P22 P23 P24 P25 P26 P27 P28 P29 P30 P31) hZ (hw _ (List.mem_of_getElem? (i := 87) rfl)) (hw _ (List.mem_of_getElem? (i := 83) rfl)) (by decide) (by decide)) (g := (mkF m 337 #[.val (.int p1), .val (.int p2), .val (.int p3), .val (.long p4), .second, .val (.int kf), .val .null, .val .null, .val .null, .unset, .unset] [.null])) rfl (by rw [hml]; rfl) (argsL := [.null]) (rest := []) (lenOf own_pd13 rfl) rfl (by show 2 * 0 + _ ≤ _; exact Nat.le_of_eq rfl) (hb hby at_337) (fun _ _ => ⟨rfl, e0, (by decide : 0 + 1 ≤ _), (by decide : 0 + 4 ≤ _)⟩)
            dsimp only [Pt.U, Pt.locs, Pt.cells, Pt.slots] at X455 l455 y455 z455 st455 hQ455
            subst l455 y455 z455
            obtain ⟨rfl, Nq455, K455⟩ := hQ455
            obtain ⟨lc455, Xh455, N455⟩ := own_hide X455 (Fr.app N0 Nq455)
            clear X455
            refine Go.via st455 ?_
            have Z456 : n0 ≤ T455.heap.size := Nat.le_trans Z0 K455.1
            have K457 : Keep h0 T455.heap [] := K0.trans K455 own_all0
            have CR458 := CHr.trans CR0 (CHr.keep K455 sf0 CR0.1)
            have O459 : Old Z n0 T455.heap := O0.keep K455 own_all0
            show Go p.tables e below P T455 (mkF m 340 #[.val (.int p1), .val (.int p2), .val (.int p3), .val (.long p4), .second, .val (.int kf), .val .null, .val .null, .val .null, .unset, .unset] [.null])
            refine Go.via (fun t k => XS.aload Xh455.here hx rfl (hb hby at_340) rfl rfl k) ?_
            show Go p.tables e below P T455 (mkF m 342 #[.val (.int p1), .val (.int p2), .val (.int p3), .val (.long p4), .second, .val (.int kf), .val .null, .val .null, .val .null, .unset, .unset] [.null, .null])
            refine Go.via (fun t k => Jvm.RoadKit.acmp (g := (mkF m 342 #[.val (.int p1), .val (.int p2), .val (.int p3), .val (.long p4), .second, .val (.int kf), .val .null, .val .null, .val .null, .unset, .unset] [.null, .null])) Xh455 hx rfl rfl rfl (pc0 := 342) (pc' := 345) (same := true) rfl (hb hby at_342) rfl (decide_eq_true rfl) (by decide) (by decide) k) ?_
            show Go p.tables e below P T455 (mkF m 345 #[.val (.int p1), .val (.int p2), .val (.int p3), .val (.long p4), .second, .val (.int kf), .val .null, .val .null, .val .null, .unset, .unset] [])
            refine Go.via (fun t k => XS.iconst Xh455.here hx rfl (hb hby at_345) k) ?_
            refine Go.via (fun t k => XS.goto Xh455.here hx rfl (pc0 := 346) (pc' := 350) rfl (hb hby at_346) (by decide) (by decide) k) ?_
            show Go p.tables e below P T455 (mkF m 350 #[.val (.int p1), .val (.int p2), .val (.int p3), .val (.long p4), .second, .val (.int kf), .val .null, .val .null, .val .null, .unset, .unset] [(.int (1 : Int32))])
            obtain ⟨fs, hr, hrun, hended, hend⟩ := Xh455.leaveW hS0 (by exact (Nat.zero_le _)) (v := some (.int (1 : Int32))) (fun h => by rw [Bd.returns] at h; cases h)
            have hCf : CHr Z consts_1 s.vm s.heap (T455.setFrames fs).vm (T455.setFrames fs).heap := by
              rw [hh]
              show CHr Z consts_1 s.vm h0 T455.vm T455.heap
              exact CHr.trans CR458 (CHv.at Xh455 hZ (own_EW hw) CR458.1)
            refine ⟨_, _, retZ Xh455 hx (t := .boolean) Bd.returns (by simp) (hb hby at_350) rfl hr, hrun, hended, hP _ _ ⟨_, _, rfl, ?_, hCf, own_rew hend (by decide) (by decide)⟩⟩
            show Q0 Z p1 p2 p3 p4 cs fm va kva aF sF tF kF aC sC tC kC aS sS tS kS aD sD tD kD h0 n0 _ T455.heap _
            exact ⟨rfl, N455⟩
          · refine Go.via (fun t k => XS.icmpYes X0.here hx rfl (pc0 := 60) (pc' := 69) rfl (hb hby at_60) rfl (feq hc454).2 (by decide) (by decide) k) ?_
            show Go p.tables e below P s₁ (mkF m 69 #[.val (.int p1), .val (.int p2), .val (.int p3), .val (.long p4), .second, .val (.int kf), .val .null, .unset, .unset, .unset, .unset] [])
            refine Go.via (fun t k => XS.bipush X0.here hx rfl (hb hby at_69) k) ?_
            show Go p.tables e below P s₁ (mkF m 71 #[.val (.int p1), .val (.int p2), .val (.int p3), .val (.long p4), .second, .val (.int kf), .val .null, .unset, .unset, .unset, .unset] [(.int (8 : Int32))])
            obtain ⟨T461, h461, k461, X461, e461, E461, A461, st461⟩ := newP X0 hx hZ (hw _ (List.mem_of_getElem? (i := 8) rfl)) e0 (g := (mkF m 71 #[.val (.int p1), .val (.int p2), .val (.int p3), .val (.long p4), .second, .val (.int kf), .val .null, .unset, .unset, .unset, .unset] [(.int (8 : Int32))])) rfl (hb hby at_71) rfl (by decide) (cap := 8) (by decide) (by decide) (by decide) (by decide)
            obtain ⟨b461, g461⟩ : ∃ z, z = h0.size := ⟨_, rfl⟩
            rw [← g461] at A461 st461
            refine Go.via st461 ?_
            have g462 : n0 ≤ b461 := Nat.le_trans Z0 (Nat.le_of_eq g461.symm)
            have sz463 : h0.size ≤ b461 := Nat.le_trans K0.1 (Nat.le_of_eq g461.symm)
            have Z464 : n0 ≤ h461.size := Nat.le_trans Z0 E461.1
            have K465 : Keep h0 h461 [] := K0.ext E461
            have O466 : Old Z n0 h461 := O0.ext E461
            have CR467 := CHr.trans CR0 (CHr.ext E461 CR0.1)
            have V461 : Arv Z h461 b461 k461 .char (8 : Int32) [(.int (0 : Int32)), (.int (0 : Int32)), (.int (0 : Int32)), (.int (0 : Int32)), (.int (0 : Int32)), (.int (0 : Int32)), (.int (0 : Int32)), (.int (0 : Int32))] (.int (0 : Int32)) := (Arv.new A461 (by decide)).pad (pad_rep [] (.int (0 : Int32)) 8)
            show Go p.tables e below P T461 (mkF m 73 #[.val (.int p1), .val (.int p2), .val (.int p3), .val (.long p4), .second, .val (.int kf), .val .null, .unset, .unset, .unset, .unset] [(.ref b461)])
            refine Go.via (fun t k => XS.astore X461.here hx rfl (hb hby at_73) rfl rfl (l' := #[.val (.int p1), .val (.int p2), .val (.int p3), .val (.long p4), .second, .val (.int kf), .val .null, .unset, .val (.ref b461), .unset, .unset]) rfl k) ?_
            refine Go.via (fun t k => XS.aload X461.here hx rfl (hb hby at_75) rfl rfl k) ?_
            refine Go.via (fun t k => XS.iconst X461.here hx rfl (hb hby at_77) k) ?_
            show Go p.tables e below P T461 (mkF m 78 #[.val (.int p1), .val (.int p2), .val (.int p3), .val (.long p4), .second, .val (.int kf), .val .null, .unset, .val (.ref b461), .unset, .unset] [(.int (0 : Int32)), (.ref b461)])
            refine Go.via (fun t k => XS.aload X461.here hx rfl (hb hby at_78) rfl rfl k) ?_
            refine Go.via (fun t k => XS.iconst X461.here hx rfl (hb hby at_80) k) ?_
            refine Go.via (fun t k => XS.lloadN X461.here hx rfl (hb hby at_81) rfl k) ?_
            show Go p.tables e below P T461 (mkF m 82 #[.val (.int p1), .val (.int p2), .val (.int p3), .val (.long p4), .second, .val (.int kf), .val .null, .unset, .val (.ref b461), .unset, .unset] [(.long p4), (.int (0 : Int32)), .null, (.int (0 : Int32)), (.ref b461)])
            obtain ⟨_, _, ⟨T468, L468, k468, n468⟩, -, X468, ⟨Lc468, hQ468, l468, y468, z468⟩, st468⟩ := Jvm.LawKit.callS X461 hx (y := (⟨"com/example/tri3/tri3/StageKindNamedPinLaw", "pick", "(Ljava/lang/String;IJ)C"⟩ : MethodName)) hown (mvT hZ (hw _ (List.mem_of_getElem? (i := 9) rfl))) (mvT hZ (hw _ (List.mem_of_getElem? (i := 10) rfl))) (mvT hZ (hw _ (List.mem_of_getElem? (i := 11) rfl))) (mvT hZ (hw _ (List.mem_of_getElem? (i := 12) rfl))) (by decide) (backOf (W := 2) (rm1n l Z a0 hw [] (0 : Int32) p4 h461 n0 Z464 ) hZ (hw _ (List.mem_of_getElem? (i := 12) rfl)) (hw _ (List.mem_of_getElem? (i := 11) rfl)) (by decide) (by decide)) (g := (mkF m 82 #[.val (.int p1), .val (.int p2), .val (.int p3), .val (.long p4), .second, .val (.int kf), .val .null, .unset, .val (.ref b461), .unset, .unset] [(.long p4), (.int (0 : Int32)), .null, (.int (0 : Int32)), (.ref b461)])) rfl (by rw [hml]; rfl) (argsL := [.null, (.int (0 : Int32)), (.long p4)]) (rest := [(.int (0 : Int32)), (.ref b461)]) (lenOf own_pd14 rfl) rfl (by show 2 * 0 + _ ≤ _; exact Nat.le_of_eq rfl) (hb hby at_82) (fun _ _ => ⟨rfl, e461, (by decide : 1 + 0 ≤ _), (by decide : 8 + 0 ≤ _)⟩)
            dsimp only [Pt.U, Pt.locs, Pt.cells, Pt.slots] at X468 l468 y468 z468 st468 hQ468
            subst l468 y468 z468
            obtain ⟨cc_468, rfl, Nq468, hh468, u468_0⟩ := hQ468
            obtain ⟨lc468, Xh468, N468⟩ := own_hide X468 (Fr.app N0 Nq468)
            clear X468
            refine Go.via st468 ?_
            show Go p.tables e below P T468 (mkF m 85 #[.val (.int p1), .val (.int p2), .val (.int p3), .val (.long p4), .second, .val (.int kf), .val .null, .unset, .val (.ref b461), .unset, .unset] [(.int cc_468), (.int (0 : Int32)), (.ref b461)])
            obtain ⟨c469, A469, q469, S469, N469, H469, G469⟩ := id V461
            have hin469 : ¬ ((0 : Int32) < 0 ∨ c469.slots.size ≤ ((0 : Int32)).toNatClampNeg) := inb_of S469 ⟨by decide, by decide⟩
            obtain ⟨T469, h469, X469, e469, W469, st469⟩ := stC Xh468 hx hZ hh468 A469 (j := (0 : Int32)) hin469 (g := (mkF m 85 #[.val (.int p1), .val (.int p2), .val (.int p3), .val (.long p4), .second, .val (.int kf), .val .null, .unset, .val (.ref b461), .unset, .unset] [(.int cc_468), (.int (0 : Int32)), (.ref b461)])) rfl rfl (hb hby at_85)
            refine Go.via st469 ?_
            have Z470 : n0 ≤ h469.size := Nat.le_trans Z464 (Nat.le_of_eq W469.size.symm)
            have K471 : Keep h0 h469 [] := K465.wr W469 (Or.inr sz463)
            obtain ⟨lc469, Xh469, N472⟩ := own_hide X469 (Fr.snoc X469 N468 g462)
            clear X469
            have O473 : Old Z n0 h469 := O466.wr W469 g462
            have Sf469 := Safe.wr W469 (Safe.arv hZ.alike V461 (by decide)) CR467.1 (Safe.arv hZ.alike V461 (by decide))
            have CR474 := CHr.trans CR467 (CHr.wr W469 (Safe.arv hZ.alike V461 (by decide)) CR467.1)
            have V469 : Arv Z h469 b461 k461 .char (8 : Int32) [(.int (nar .char cc_468)), (.int (0 : Int32)), (.int (0 : Int32)), (.int (0 : Int32)), (.int (0 : Int32)), (.int (0 : Int32)), (.int (0 : Int32)), (.int (0 : Int32))] (.int (0 : Int32)) := Arv.set A469 q469 S469 N469 H469 G469 (fits_nar_char _) W469 0 rfl (Nat.le_of_ble_eq_true rfl)
            show Go p.tables e below P T469 (mkF m 86 #[.val (.int p1), .val (.int p2), .val (.int p3), .val (.long p4), .second, .val (.int kf), .val .null, .unset, .val (.ref b461), .unset, .unset] [])
            refine Go.via (fun t k => XS.aload Xh469.here hx rfl (hb hby at_86) rfl rfl k) ?_
            refine Go.via (fun t k => XS.iconst Xh469.here hx rfl (hb hby at_88) k) ?_
            refine Go.via (fun t k => XS.aload Xh469.here hx rfl (hb hby at_89) rfl rfl k) ?_
            show Go p.tables e below P T469 (mkF m 91 #[.val (.int p1), .val (.int p2), .val (.int p3), .val (.long p4), .second, .val (.int kf), .val .null, .unset, .val (.ref b461), .unset, .unset] [.null, (.int (1 : Int32)), (.ref b461)])
            refine Go.via (fun t k => XS.iconst Xh469.here hx rfl (hb hby at_91) k) ?_
            refine Go.via (fun t k => XS.lloadN Xh469.here hx rfl (hb hby at_92) rfl k) ?_
            show Go p.tables e below P T469 (mkF m 93 #[.val (.int p1), .val (.int p2), .val (.int p3), .val (.long p4), .second, .val (.int kf), .val .null, .unset, .val (.ref b461), .unset, .unset] [(.long p4), (.int (1 : Int32)), .null, (.int (1 : Int32)), (.ref b461)])
            obtain ⟨_, _, ⟨T475, L475, k475, n475⟩, -, X475, ⟨Lc475, hQ475, l475, y475, z475⟩, st475⟩ := Jvm.LawKit.callS Xh469 hx (y := (⟨"com/example/tri3/tri3/StageKindNamedPinLaw", "pick", "(Ljava/lang/String;IJ)C"⟩ : MethodName)) hown (mvT hZ (hw _ (List.mem_of_getElem? (i := 9) rfl))) (mvT hZ (hw _ (List.mem_of_getElem? (i := 10) rfl))) (mvT hZ (hw _ (List.mem_of_getElem? (i := 11) rfl))) (mvT hZ (hw _ (List.mem_of_getElem? (i := 12) rfl))) (by decide) (backOf (W := 2) (rm1n l Z a0 hw [] (1 : Int32) p4 h469 n0 Z470 ) hZ (hw _ (List.mem_of_getElem? (i := 12) rfl)) (hw _ (List.mem_of_getElem? (i := 11) rfl)) (by decide) (by decide)) (g := (mkF m 93 #[.val (.int p1), .val (.int p2), .val (.int p3), .val (.long p4), .second, .val (.int kf), .val .null, .unset, .val (.ref b461), .unset, .unset] [(.long p4), (.int (1 : Int32)), .null, (.int (1 : Int32)), (.ref b461)])) rfl (by rw [hml]; rfl) (argsL := [.null, (.int (1 : Int32)), (.long p4)]) (rest := [(.int (1 : Int32)), (.ref b461)]) (lenOf own_pd14 rfl) rfl (by show 2 * 0 + _ ≤ _; exact Nat.le_of_eq rfl) (hb hby at_93) (fun _ _ => ⟨rfl, e469, (by decide : 1 + 0 ≤ _), (by decide : 8 + 0 ≤ _)⟩)
            dsimp only [Pt.U, Pt.locs, Pt.cells, Pt.slots] at X475 l475 y475 z475 st475 hQ475
            subst l475 y475 z475
            obtain ⟨cc_475, rfl, Nq475, hh475, u475_0⟩ := hQ475
            obtain ⟨lc475, Xh475, N475⟩ := own_hide X475 (Fr.app N472 Nq475)
            clear X475
            refine Go.via st475 ?_
            show Go p.tables e below P T475 (mkF m 96 #[.val (.int p1), .val (.int p2), .val (.int p3), .val (.long p4), .second, .val (.int kf), .val .null, .unset, .val (.ref b461), .unset, .unset] [(.int cc_475), (.int (1 : Int32)), (.ref b461)])
            obtain ⟨c476, A476, q476, S476, N476, H476, G476⟩ := id V469
            have hin476 : ¬ ((1 : Int32) < 0 ∨ c476.slots.size ≤ ((1 : Int32)).toNatClampNeg) := inb_of S476 ⟨by decide, by decide⟩
            obtain ⟨T476, h476, X476, e476, W476, st476⟩ := stC Xh475 hx hZ hh475 A476 (j := (1 : Int32)) hin476 (g := (mkF m 96 #[.val (.int p1), .val (.int p2), .val (.int p3), .val (.long p4), .second, .val (.int kf), .val .null, .unset, .val (.ref b461), .unset, .unset] [(.int cc_475), (.int (1 : Int32)), (.ref b461)])) rfl rfl (hb hby at_96)
            refine Go.via st476 ?_
            have Z477 : n0 ≤ h476.size := Nat.le_trans Z470 (Nat.le_of_eq W476.size.symm)
            have K478 : Keep h0 h476 [] := K471.wr W476 (Or.inr sz463)
            obtain ⟨lc476, Xh476, N479⟩ := own_hide X476 (Fr.snoc X476 N475 g462)
            clear X476
            have O480 : Old Z n0 h476 := O473.wr W476 g462
            have Sf476 := Safe.wr W476 (Safe.arv hZ.alike V469 (by decide)) CR474.1 (Safe.arv hZ.alike V469 (by decide))
            have CR481 := CHr.trans CR474 (CHr.wr W476 (Safe.arv hZ.alike V469 (by decide)) CR474.1)
            have V476 : Arv Z h476 b461 k461 .char (8 : Int32) [(.int (nar .char cc_468)), (.int (nar .char cc_475)), (.int (0 : Int32)), (.int (0 : Int32)), (.int (0 : Int32)), (.int (0 : Int32)), (.int (0 : Int32)), (.int (0 : Int32))] (.int (0 : Int32)) := Arv.set A476 q476 S476 N476 H476 G476 (fits_nar_char _) W476 1 rfl (Nat.le_of_ble_eq_true rfl)
            show Go p.tables e below P T476 (mkF m 97 #[.val (.int p1), .val (.int p2), .val (.int p3), .val (.long p4), .second, .val (.int kf), .val .null, .unset, .val (.ref b461), .unset, .unset] [])
            refine Go.via (fun t k => XS.aload Xh476.here hx rfl (hb hby at_97) rfl rfl k) ?_
            refine Go.via (fun t k => XS.iconst Xh476.here hx rfl (hb hby at_99) k) ?_
            refine Go.via (fun t k => XS.aload Xh476.here hx rfl (hb hby at_100) rfl rfl k) ?_
            show Go p.tables e below P T476 (mkF m 102 #[.val (.int p1), .val (.int p2), .val (.int p3), .val (.long p4), .second, .val (.int kf), .val .null, .unset, .val (.ref b461), .unset, .unset] [.null, (.int (2 : Int32)), (.ref b461)])
            refine Go.via (fun t k => XS.iconst Xh476.here hx rfl (hb hby at_102) k) ?_
            refine Go.via (fun t k => XS.lloadN Xh476.here hx rfl (hb hby at_103) rfl k) ?_
            show Go p.tables e below P T476 (mkF m 104 #[.val (.int p1), .val (.int p2), .val (.int p3), .val (.long p4), .second, .val (.int kf), .val .null, .unset, .val (.ref b461), .unset, .unset] [(.long p4), (.int (2 : Int32)), .null, (.int (2 : Int32)), (.ref b461)])
            obtain ⟨_, _, ⟨T482, L482, k482, n482⟩, -, X482, ⟨Lc482, hQ482, l482, y482, z482⟩, st482⟩ := Jvm.LawKit.callS Xh476 hx (y := (⟨"com/example/tri3/tri3/StageKindNamedPinLaw", "pick", "(Ljava/lang/String;IJ)C"⟩ : MethodName)) hown (mvT hZ (hw _ (List.mem_of_getElem? (i := 9) rfl))) (mvT hZ (hw _ (List.mem_of_getElem? (i := 10) rfl))) (mvT hZ (hw _ (List.mem_of_getElem? (i := 11) rfl))) (mvT hZ (hw _ (List.mem_of_getElem? (i := 12) rfl))) (by decide) (backOf (W := 2) (rm1n l Z a0 hw [] (2 : Int32) p4 h476 n0 Z477 ) hZ (hw _ (List.mem_of_getElem? (i := 12) rfl)) (hw _ (List.mem_of_getElem? (i := 11) rfl)) (by decide) (by decide)) (g := (mkF m 104 #[.val (.int p1), .val (.int p2), .val (.int p3), .val (.long p4), .second, .val (.int kf), .val .null, .unset, .val (.ref b461), .unset, .unset] [(.long p4), (.int (2 : Int32)), .null, (.int (2 : Int32)), (.ref b461)])) rfl (by rw [hml]; rfl) (argsL := [.null, (.int (2 : Int32)), (.long p4)]) (rest := [(.int (2 : Int32)), (.ref b461)]) (lenOf own_pd14 rfl) rfl (by show 2 * 0 + _ ≤ _; exact Nat.le_of_eq rfl) (hb hby at_104) (fun _ _ => ⟨rfl, e476, (by decide : 1 + 0 ≤ _), (by decide : 8 + 0 ≤ _)⟩)
            dsimp only [Pt.U, Pt.locs, Pt.cells, Pt.slots] at X482 l482 y482 z482 st482 hQ482
            subst l482 y482 z482
            obtain ⟨cc_482, rfl, Nq482, hh482, u482_0⟩ := hQ482
            obtain ⟨lc482, Xh482, N482⟩ := own_hide X482 (Fr.app N479 Nq482)
            clear X482
            refine Go.via st482 ?_
            show Go p.tables e below P T482 (mkF m 107 #[.val (.int p1), .val (.int p2), .val (.int p3), .val (.long p4), .second, .val (.int kf), .val .null, .unset, .val (.ref b461), .unset, .unset] [(.int cc_482), (.int (2 : Int32)), (.ref b461)])
            obtain ⟨c483, A483, q483, S483, N483, H483, G483⟩ := id V476
            have hin483 : ¬ ((2 : Int32) < 0 ∨ c483.slots.size ≤ ((2 : Int32)).toNatClampNeg) := inb_of S483 ⟨by decide, by decide⟩
            obtain ⟨T483, h483, X483, e483, W483, st483⟩ := stC Xh482 hx hZ hh482 A483 (j := (2 : Int32)) hin483 (g := (mkF m 107 #[.val (.int p1), .val (.int p2), .val (.int p3), .val (.long p4), .second, .val (.int kf), .val .null, .unset, .val (.ref b461), .unset, .unset] [(.int cc_482), (.int (2 : Int32)), (.ref b461)])) rfl rfl (hb hby at_107)
            refine Go.via st483 ?_
            have Z484 : n0 ≤ h483.size := Nat.le_trans Z477 (Nat.le_of_eq W483.size.symm)
            have K485 : Keep h0 h483 [] := K478.wr W483 (Or.inr sz463)
            obtain ⟨lc483, Xh483, N486⟩ := own_hide X483 (Fr.snoc X483 N482 g462)
            clear X483
            have O487 : Old Z n0 h483 := O480.wr W483 g462
            have Sf483 := Safe.wr W483 (Safe.arv hZ.alike V476 (by decide)) CR481.1 (Safe.arv hZ.alike V476 (by decide))
            have CR488 := CHr.trans CR481 (CHr.wr W483 (Safe.arv hZ.alike V476 (by decide)) CR481.1)
            have V483 : Arv Z h483 b461 k461 .char (8 : Int32) [(.int (nar .char cc_468)), (.int (nar .char cc_475)), (.int (nar .char cc_482)), (.int (0 : Int32)), (.int (0 : Int32)), (.int (0 : Int32)), (.int (0 : Int32)), (.int (0 : Int32))] (.int (0 : Int32)) := Arv.set A483 q483 S483 N483 H483 G483 (fits_nar_char _) W483 2 rfl (Nat.le_of_ble_eq_true rfl)
            show Go p.tables e below P T483 (mkF m 108 #[.val (.int p1), .val (.int p2), .val (.int p3), .val (.long p4), .second, .val (.int kf), .val .null, .unset, .val (.ref b461), .unset, .unset] [])
            refine Go.via (fun t k => XS.aload Xh483.here hx rfl (hb hby at_108) rfl rfl k) ?_
            refine Go.via (fun t k => XS.iconst Xh483.here hx rfl (hb hby at_110) k) ?_
            refine Go.via (fun t k => XS.aload Xh483.here hx rfl (hb hby at_111) rfl rfl k) ?_
            show Go p.tables e below P T483 (mkF m 113 #[.val (.int p1), .val (.int p2), .val (.int p3), .val (.long p4), .second, .val (.int kf), .val .null, .unset, .val (.ref b461), .unset, .unset] [.null, (.int (3 : Int32)), (.ref b461)])
            refine Go.via (fun t k => XS.iconst Xh483.here hx rfl (hb hby at_113) k) ?_
            refine Go.via (fun t k => XS.lloadN Xh483.here hx rfl (hb hby at_114) rfl k) ?_
            show Go p.tables e below P T483 (mkF m 115 #[.val (.int p1), .val (.int p2), .val (.int p3), .val (.long p4), .second, .val (.int kf), .val .null, .unset, .val (.ref b461), .unset, .unset] [(.long p4), (.int (3 : Int32)), .null, (.int (3 : Int32)), (.ref b461)])
            obtain ⟨_, _, ⟨T489, L489, k489, n489⟩, -, X489, ⟨Lc489, hQ489, l489, y489, z489⟩, st489⟩ := Jvm.LawKit.callS Xh483 hx (y := (⟨"com/example/tri3/tri3/StageKindNamedPinLaw", "pick", "(Ljava/lang/String;IJ)C"⟩ : MethodName)) hown (mvT hZ (hw _ (List.mem_of_getElem? (i := 9) rfl))) (mvT hZ (hw _ (List.mem_of_getElem? (i := 10) rfl))) (mvT hZ (hw _ (List.mem_of_getElem? (i := 11) rfl))) (mvT hZ (hw _ (List.mem_of_getElem? (i := 12) rfl))) (by decide) (backOf (W := 2) (rm1n l Z a0 hw [] (3 : Int32) p4 h483 n0 Z484 ) hZ (hw _ (List.mem_of_getElem? (i := 12) rfl)) (hw _ (List.mem_of_getElem? (i := 11) rfl)) (by decide) (by decide)) (g := (mkF m 115 #[.val (.int p1), .val (.int p2), .val (.int p3), .val (.long p4), .second, .val (.int kf), .val .null, .unset, .val (.ref b461), .unset, .unset] [(.long p4), (.int (3 : Int32)), .null, (.int (3 : Int32)), (.ref b461)])) rfl (by rw [hml]; rfl) (argsL := [.null, (.int (3 : Int32)), (.long p4)]) (rest := [(.int (3 : Int32)), (.ref b461)]) (lenOf own_pd14 rfl) rfl (by show 2 * 0 + _ ≤ _; exact Nat.le_of_eq rfl) (hb hby at_115) (fun _ _ => ⟨rfl, e483, (by decide : 1 + 0 ≤ _), (by decide : 8 + 0 ≤ _)⟩)
            dsimp only [Pt.U, Pt.locs, Pt.cells, Pt.slots] at X489 l489 y489 z489 st489 hQ489
            subst l489 y489 z489
            obtain ⟨cc_489, rfl, Nq489, hh489, u489_0⟩ := hQ489
            obtain ⟨lc489, Xh489, N489⟩ := own_hide X489 (Fr.app N486 Nq489)
            clear X489
            refine Go.via st489 ?_
            show Go p.tables e below P T489 (mkF m 118 #[.val (.int p1), .val (.int p2), .val (.int p3), .val (.long p4), .second, .val (.int kf), .val .null, .unset, .val (.ref b461), .unset, .unset] [(.int cc_489), (.int (3 : Int32)), (.ref b461)])
            obtain ⟨c490, A490, q490, S490, N490, H490, G490⟩ := id V483
            have hin490 : ¬ ((3 : Int32) < 0 ∨ c490.slots.size ≤ ((3 : Int32)).toNatClampNeg) := inb_of S490 ⟨by decide, by decide⟩
            obtain ⟨T490, h490, X490, e490, W490, st490⟩ := stC Xh489 hx hZ hh489 A490 (j := (3 : Int32)) hin490 (g := (mkF m 118 #[.val (.int p1), .val (.int p2), .val (.int p3), .val (.long p4), .second, .val (.int kf), .val .null, .unset, .val (.ref b461), .unset, .unset] [(.int cc_489), (.int (3 : Int32)), (.ref b461)])) rfl rfl (hb hby at_118)
            refine Go.via st490 ?_
            have Z491 : n0 ≤ h490.size := Nat.le_trans Z484 (Nat.le_of_eq W490.size.symm)
            have K492 : Keep h0 h490 [] := K485.wr W490 (Or.inr sz463)
            obtain ⟨lc490, Xh490, N493⟩ := own_hide X490 (Fr.snoc X490 N489 g462)
            clear X490
            have O494 : Old Z n0 h490 := O487.wr W490 g462
            have Sf490 := Safe.wr W490 (Safe.arv hZ.alike V483 (by decide)) CR488.1 (Safe.arv hZ.alike V483 (by decide))
            have CR495 := CHr.trans CR488 (CHr.wr W490 (Safe.arv hZ.alike V483 (by decide)) CR488.1)
            have V490 : Arv Z h490 b461 k461 .char (8 : Int32) [(.int (nar .char cc_468)), (.int (nar .char cc_475)), (.int (nar .char cc_482)), (.int (nar .char cc_489)), (.int (0 : Int32)), (.int (0 : Int32)), (.int (0 : Int32)), (.int (0 : Int32))] (.int (0 : Int32)) := Arv.set A490 q490 S490 N490 H490 G490 (fits_nar_char _) W490 3 rfl (Nat.le_of_ble_eq_true rfl)
            show Go p.tables e below P T490 (mkF m 119 #[.val (.int p1), .val (.int p2), .val (.int p3), .val (.long p4), .second, .val (.int kf), .val .null, .unset, .val (.ref b461), .unset, .unset] [])
            refine Go.via (fun t k => XS.aload Xh490.here hx rfl (hb hby at_119) rfl rfl k) ?_
            refine Go.via (fun t k => XS.iconst Xh490.here hx rfl (hb hby at_121) k) ?_
            refine Go.via (fun t k => XS.aload Xh490.here hx rfl (hb hby at_122) rfl rfl k) ?_
            show Go p.tables e below P T490 (mkF m 124 #[.val (.int p1), .val (.int p2), .val (.int p3), .val (.long p4), .second, .val (.int kf), .val .null, .unset, .val (.ref b461), .unset, .unset] [.null, (.int (4 : Int32)), (.ref b461)])
            refine Go.via (fun t k => XS.iconst Xh490.here hx rfl (hb hby at_124) k) ?_
            refine Go.via (fun t k => XS.lloadN Xh490.here hx rfl (hb hby at_125) rfl k) ?_
            show Go p.tables e below P T490 (mkF m 126 #[.val (.int p1), .val (.int p2), .val (.int p3), .val (.long p4), .second, .val (.int kf), .val .null, .unset, .val (.ref b461), .unset, .unset] [(.long p4), (.int (4 : Int32)), .null, (.int (4 : Int32)), (.ref b461)])
            obtain ⟨_, _, ⟨T496, L496, k496, n496⟩, -, X496, ⟨Lc496, hQ496, l496, y496, z496⟩, st496⟩ := Jvm.LawKit.callS Xh490 hx (y := (⟨"com/example/tri3/tri3/StageKindNamedPinLaw", "pick", "(Ljava/lang/String;IJ)C"⟩ : MethodName)) hown (mvT hZ (hw _ (List.mem_of_getElem? (i := 9) rfl))) (mvT hZ (hw _ (List.mem_of_getElem? (i := 10) rfl))) (mvT hZ (hw _ (List.mem_of_getElem? (i := 11) rfl))) (mvT hZ (hw _ (List.mem_of_getElem? (i := 12) rfl))) (by decide) (backOf (W := 2) (rm1n l Z a0 hw [] (4 : Int32) p4 h490 n0 Z491 ) hZ (hw _ (List.mem_of_getElem? (i := 12) rfl)) (hw _ (List.mem_of_getElem? (i := 11) rfl)) (by decide) (by decide)) (g := (mkF m 126 #[.val (.int p1), .val (.int p2), .val (.int p3), .val (.long p4), .second, .val (.int kf), .val .null, .unset, .val (.ref b461), .unset, .unset] [(.long p4), (.int (4 : Int32)), .null, (.int (4 : Int32)), (.ref b461)])) rfl (by rw [hml]; rfl) (argsL := [.null, (.int (4 : Int32)), (.long p4)]) (rest := [(.int (4 : Int32)), (.ref b461)]) (lenOf own_pd14 rfl) rfl (by show 2 * 0 + _ ≤ _; exact Nat.le_of_eq rfl) (hb hby at_126) (fun _ _ => ⟨rfl, e490, (by decide : 1 + 0 ≤ _), (by decide : 8 + 0 ≤ _)⟩)
            dsimp only [Pt.U, Pt.locs, Pt.cells, Pt.slots] at X496 l496 y496 z496 st496 hQ496
            subst l496 y496 z496
            obtain ⟨cc_496, rfl, Nq496, hh496, u496_0⟩ := hQ496
            obtain ⟨lc496, Xh496, N496⟩ := own_hide X496 (Fr.app N493 Nq496)
            clear X496
            refine Go.via st496 ?_
            show Go p.tables e below P T496 (mkF m 129 #[.val (.int p1), .val (.int p2), .val (.int p3), .val (.long p4), .second, .val (.int kf), .val .null, .unset, .val (.ref b461), .unset, .unset] [(.int cc_496), (.int (4 : Int32)), (.ref b461)])
            obtain ⟨c497, A497, q497, S497, N497, H497, G497⟩ := id V490
            have hin497 : ¬ ((4 : Int32) < 0 ∨ c497.slots.size ≤ ((4 : Int32)).toNatClampNeg) := inb_of S497 ⟨by decide, by decide⟩
            obtain ⟨T497, h497, X497, e497, W497, st497⟩ := stC Xh496 hx hZ hh496 A497 (j := (4 : Int32)) hin497 (g := (mkF m 129 #[.val (.int p1), .val (.int p2), .val (.int p3), .val (.long p4), .second, .val (.int kf), .val .null, .unset, .val (.ref b461), .unset, .unset] [(.int cc_496), (.int (4 : Int32)), (.ref b461)])) rfl rfl (hb hby at_129)
            refine Go.via st497 ?_
            have Z498 : n0 ≤ h497.size := Nat.le_trans Z491 (Nat.le_of_eq W497.size.symm)
            have K499 : Keep h0 h497 [] := K492.wr W497 (Or.inr sz463)
            obtain ⟨lc497, Xh497, N500⟩ := own_hide X497 (Fr.snoc X497 N496 g462)
            clear X497
            have O501 : Old Z n0 h497 := O494.wr W497 g462
            have Sf497 := Safe.wr W497 (Safe.arv hZ.alike V490 (by decide)) CR495.1 (Safe.arv hZ.alike V490 (by decide))
            have CR502 := CHr.trans CR495 (CHr.wr W497 (Safe.arv hZ.alike V490 (by decide)) CR495.1)
            have V497 : Arv Z h497 b461 k461 .char (8 : Int32) [(.int (nar .char cc_468)), (.int (nar .char cc_475)), (.int (nar .char cc_482)), (.int (nar .char cc_489)), (.int (nar .char cc_496)), (.int (0 : Int32)), (.int (0 : Int32)), (.int (0 : Int32))] (.int (0 : Int32)) := Arv.set A497 q497 S497 N497 H497 G497 (fits_nar_char _) W497 4 rfl (Nat.le_of_ble_eq_true rfl)
            show Go p.tables e below P T497 (mkF m 130 #[.val (.int p1), .val (.int p2), .val (.int p3), .val (.long p4), .second, .val (.int kf), .val .null, .unset, .val (.ref b461), .unset, .unset] [])
            refine Go.via (fun t k => XS.aload Xh497.here hx rfl (hb hby at_130) rfl rfl k) ?_
            refine Go.via (fun t k => XS.iconst Xh497.here hx rfl (hb hby at_132) k) ?_
            refine Go.via (fun t k => XS.aload Xh497.here hx rfl (hb hby at_133) rfl rfl k) ?_
            show Go p.tables e below P T497 (mkF m 135 #[.val (.int p1), .val (.int p2), .val (.int p3), .val (.long p4), .second, .val (.int kf), .val .null, .unset, .val (.ref b461), .unset, .unset] [.null, (.int (5 : Int32)), (.ref b461)])
            refine Go.via (fun t k => XS.iconst Xh497.here hx rfl (hb hby at_135) k) ?_
            refine Go.via (fun t k => XS.lloadN Xh497.here hx rfl (hb hby at_136) rfl k) ?_
            show Go p.tables e below P T497 (mkF m 137 #[.val (.int p1), .val (.int p2), .val (.int p3), .val (.long p4), .second, .val (.int kf), .val .null, .unset, .val (.ref b461), .unset, .unset] [(.long p4), (.int (5 : Int32)), .null, (.int (5 : Int32)), (.ref b461)])
            obtain ⟨_, _, ⟨T503, L503, k503, n503⟩, -, X503, ⟨Lc503, hQ503, l503, y503, z503⟩, st503⟩ := Jvm.LawKit.callS Xh497 hx (y := (⟨"com/example/tri3/tri3/StageKindNamedPinLaw", "pick", "(Ljava/lang/String;IJ)C"⟩ : MethodName)) hown (mvT hZ (hw _ (List.mem_of_getElem? (i := 9) rfl))) (mvT hZ (hw _ (List.mem_of_getElem? (i := 10) rfl))) (mvT hZ (hw _ (List.mem_of_getElem? (i := 11) rfl))) (mvT hZ (hw _ (List.mem_of_getElem? (i := 12) rfl))) (by decide) (backOf (W := 2) (rm1n l Z a0 hw [] (5 : Int32) p4 h497 n0 Z498 ) hZ (hw _ (List.mem_of_getElem? (i := 12) rfl)) (hw _ (List.mem_of_getElem? (i := 11) rfl)) (by decide) (by decide)) (g := (mkF m 137 #[.val (.int p1), .val (.int p2), .val (.int p3), .val (.long p4), .second, .val (.int kf), .val .null, .unset, .val (.ref b461), .unset, .unset] [(.long p4), (.int (5 : Int32)), .null, (.int (5 : Int32)), (.ref b461)])) rfl (by rw [hml]; rfl) (argsL := [.null, (.int (5 : Int32)), (.long p4)]) (rest := [(.int (5 : Int32)), (.ref b461)]) (lenOf own_pd14 rfl) rfl (by show 2 * 0 + _ ≤ _; exact Nat.le_of_eq rfl) (hb hby at_137) (fun _ _ => ⟨rfl, e497, (by decide : 1 + 0 ≤ _), (by decide : 8 + 0 ≤ _)⟩)
            dsimp only [Pt.U, Pt.locs, Pt.cells, Pt.slots] at X503 l503 y503 z503 st503 hQ503
            subst l503 y503 z503
            obtain ⟨cc_503, rfl, Nq503, hh503, u503_0⟩ := hQ503
            obtain ⟨lc503, Xh503, N503⟩ := own_hide X503 (Fr.app N500 Nq503)
            clear X503
            refine Go.via st503 ?_
            show Go p.tables e below P T503 (mkF m 140 #[.val (.int p1), .val (.int p2), .val (.int p3), .val (.long p4), .second, .val (.int kf), .val .null, .unset, .val (.ref b461), .unset, .unset] [(.int cc_503), (.int (5 : Int32)), (.ref b461)])
            obtain ⟨c504, A504, q504, S504, N504, H504, G504⟩ := id V497
            have hin504 : ¬ ((5 : Int32) < 0 ∨ c504.slots.size ≤ ((5 : Int32)).toNatClampNeg) := inb_of S504 ⟨by decide, by decide⟩
            obtain ⟨T504, h504, X504, e504, W504, st504⟩ := stC Xh503 hx hZ hh503 A504 (j := (5 : Int32)) hin504 (g := (mkF m 140 #[.val (.int p1), .val (.int p2), .val (.int p3), .val (.long p4), .second, .val (.int kf), .val .null, .unset, .val (.ref b461), .unset, .unset] [(.int cc_503), (.int (5 : Int32)), (.ref b461)])) rfl rfl (hb hby at_140)
            refine Go.via st504 ?_
            have Z505 : n0 ≤ h504.size := Nat.le_trans Z498 (Nat.le_of_eq W504.size.symm)
            have K506 : Keep h0 h504 [] := K499.wr W504 (Or.inr sz463)
            obtain ⟨lc504, Xh504, N507⟩ := own_hide X504 (Fr.snoc X504 N503 g462)
            clear X504
            have O508 : Old Z n0 h504 := O501.wr W504 g462
            have Sf504 := Safe.wr W504 (Safe.arv hZ.alike V497 (by decide)) CR502.1 (Safe.arv hZ.alike V497 (by decide))
            have CR509 := CHr.trans CR502 (CHr.wr W504 (Safe.arv hZ.alike V497 (by decide)) CR502.1)
            have V504 : Arv Z h504 b461 k461 .char (8 : Int32) [(.int (nar .char cc_468)), (.int (nar .char cc_475)), (.int (nar .char cc_482)), (.int (nar .char cc_489)), (.int (nar .char cc_496)), (.int (nar .char cc_503)), (.int (0 : Int32)), (.int (0 : Int32))] (.int (0 : Int32)) := Arv.set A504 q504 S504 N504 H504 G504 (fits_nar_char _) W504 5 rfl (Nat.le_of_ble_eq_true rfl)
            show Go p.tables e below P T504 (mkF m 141 #[.val (.int p1), .val (.int p2), .val (.int p3), .val (.long p4), .second, .val (.int kf), .val .null, .unset, .val (.ref b461), .unset, .unset] [])
            refine Go.via (fun t k => XS.aload Xh504.here hx rfl (hb hby at_141) rfl rfl k) ?_
            refine Go.via (fun t k => XS.bipush Xh504.here hx rfl (hb hby at_143) k) ?_
            refine Go.via (fun t k => XS.aload Xh504.here hx rfl (hb hby at_145) rfl rfl k) ?_
            show Go p.tables e below P T504 (mkF m 147 #[.val (.int p1), .val (.int p2), .val (.int p3), .val (.long p4), .second, .val (.int kf), .val .null, .unset, .val (.ref b461), .unset, .unset] [.null, (.int (6 : Int32)), (.ref b461)])
            refine Go.via (fun t k => XS.bipush Xh504.here hx rfl (hb hby at_147) k) ?_
            refine Go.via (fun t k => XS.lloadN Xh504.here hx rfl (hb hby at_149) rfl k) ?_
            show Go p.tables e below P T504 (mkF m 150 #[.val (.int p1), .val (.int p2), .val (.int p3), .val (.long p4), .second, .val (.int kf), .val .null, .unset, .val (.ref b461), .unset, .unset] [(.long p4), (.int (6 : Int32)), .null, (.int (6 : Int32)), (.ref b461)])
            obtain ⟨_, _, ⟨T510, L510, k510, n510⟩, -, X510, ⟨Lc510, hQ510, l510, y510, z510⟩, st510⟩ := Jvm.LawKit.callS Xh504 hx (y := (⟨"com/example/tri3/tri3/StageKindNamedPinLaw", "pick", "(Ljava/lang/String;IJ)C"⟩ : MethodName)) hown (mvT hZ (hw _ (List.mem_of_getElem? (i := 9) rfl))) (mvT hZ (hw _ (List.mem_of_getElem? (i := 10) rfl))) (mvT hZ (hw _ (List.mem_of_getElem? (i := 11) rfl))) (mvT hZ (hw _ (List.mem_of_getElem? (i := 12) rfl))) (by decide) (backOf (W := 2) (rm1n l Z a0 hw [] (6 : Int32) p4 h504 n0 Z505 ) hZ (hw _ (List.mem_of_getElem? (i := 12) rfl)) (hw _ (List.mem_of_getElem? (i := 11) rfl)) (by decide) (by decide)) (g := (mkF m 150 #[.val (.int p1), .val (.int p2), .val (.int p3), .val (.long p4), .second, .val (.int kf), .val .null, .unset, .val (.ref b461), .unset, .unset] [(.long p4), (.int (6 : Int32)), .null, (.int (6 : Int32)), (.ref b461)])) rfl (by rw [hml]; rfl) (argsL := [.null, (.int (6 : Int32)), (.long p4)]) (rest := [(.int (6 : Int32)), (.ref b461)]) (lenOf own_pd14 rfl) rfl (by show 2 * 0 + _ ≤ _; exact Nat.le_of_eq rfl) (hb hby at_150) (fun _ _ => ⟨rfl, e504, (by decide : 1 + 0 ≤ _), (by decide : 8 + 0 ≤ _)⟩)
            dsimp only [Pt.U, Pt.locs, Pt.cells, Pt.slots] at X510 l510 y510 z510 st510 hQ510
            subst l510 y510 z510
            obtain ⟨cc_510, rfl, Nq510, hh510, u510_0⟩ := hQ510
            obtain ⟨lc510, Xh510, N510⟩ := own_hide X510 (Fr.app N507 Nq510)
            clear X510
            refine Go.via st510 ?_
            show Go p.tables e below P T510 (mkF m 153 #[.val (.int p1), .val (.int p2), .val (.int p3), .val (.long p4), .second, .val (.int kf), .val .null, .unset, .val (.ref b461), .unset, .unset] [(.int cc_510), (.int (6 : Int32)), (.ref b461)])
            obtain ⟨c511, A511, q511, S511, N511, H511, G511⟩ := id V504
            have hin511 : ¬ ((6 : Int32) < 0 ∨ c511.slots.size ≤ ((6 : Int32)).toNatClampNeg) := inb_of S511 ⟨by decide, by decide⟩
            obtain ⟨T511, h511, X511, e511, W511, st511⟩ := stC Xh510 hx hZ hh510 A511 (j := (6 : Int32)) hin511 (g := (mkF m 153 #[.val (.int p1), .val (.int p2), .val (.int p3), .val (.long p4), .second, .val (.int kf), .val .null, .unset, .val (.ref b461), .unset, .unset] [(.int cc_510), (.int (6 : Int32)), (.ref b461)])) rfl rfl (hb hby at_153)
            refine Go.via st511 ?_
            have Z512 : n0 ≤ h511.size := Nat.le_trans Z505 (Nat.le_of_eq W511.size.symm)
            have K513 : Keep h0 h511 [] := K506.wr W511 (Or.inr sz463)
            obtain ⟨lc511, Xh511, N514⟩ := own_hide X511 (Fr.snoc X511 N510 g462)
            clear X511
            have O515 : Old Z n0 h511 := O508.wr W511 g462
            have Sf511 := Safe.wr W511 (Safe.arv hZ.alike V504 (by decide)) CR509.1 (Safe.arv hZ.alike V504 (by decide))
            have CR516 := CHr.trans CR509 (CHr.wr W511 (Safe.arv hZ.alike V504 (by decide)) CR509.1)
            have V511 : Arv Z h511 b461 k461 .char (8 : Int32) [(.int (nar .char cc_468)), (.int (nar .char cc_475)), (.int (nar .char cc_482)), (.int (nar .char cc_489)), (.int (nar .char cc_496)), (.int (nar .char cc_503)), (.int (nar .char cc_510)), (.int (0 : Int32))] (.int (0 : Int32)) := Arv.set A511 q511 S511 N511 H511 G511 (fits_nar_char _) W511 6 rfl (Nat.le_of_ble_eq_true rfl)
            show Go p.tables e below P T511 (mkF m 154 #[.val (.int p1), .val (.int p2), .val (.int p3), .val (.long p4), .second, .val (.int kf), .val .null, .unset, .val (.ref b461), .unset, .unset] [])
            refine Go.via (fun t k => XS.aload Xh511.here hx rfl (hb hby at_154) rfl rfl k) ?_
            refine Go.via (fun t k => XS.bipush Xh511.here hx rfl (hb hby at_156) k) ?_
            refine Go.via (fun t k => XS.aload Xh511.here hx rfl (hb hby at_158) rfl rfl k) ?_
            show Go p.tables e below P T511 (mkF m 160 #[.val (.int p1), .val (.int p2), .val (.int p3), .val (.long p4), .second, .val (.int kf), .val .null, .unset, .val (.ref b461), .unset, .unset] [.null, (.int (7 : Int32)), (.ref b461)])
            refine Go.via (fun t k => XS.bipush Xh511.here hx rfl (hb hby at_160) k) ?_
            refine Go.via (fun t k => XS.lloadN Xh511.here hx rfl (hb hby at_162) rfl k) ?_
            show Go p.tables e below P T511 (mkF m 163 #[.val (.int p1), .val (.int p2), .val (.int p3), .val (.long p4), .second, .val (.int kf), .val .null, .unset, .val (.ref b461), .unset, .unset] [(.long p4), (.int (7 : Int32)), .null, (.int (7 : Int32)), (.ref b461)])
            obtain ⟨_, _, ⟨T517, L517, k517, n517⟩, -, X517, ⟨Lc517, hQ517, l517, y517, z517⟩, st517⟩ := Jvm.LawKit.callS Xh511 hx (y := (⟨"com/example/tri3/tri3/StageKindNamedPinLaw", "pick", "(Ljava/lang/String;IJ)C"⟩ : MethodName)) hown (mvT hZ (hw _ (List.mem_of_getElem? (i := 9) rfl))) (mvT hZ (hw _ (List.mem_of_getElem? (i := 10) rfl))) (mvT hZ (hw _ (List.mem_of_getElem? (i := 11) rfl))) (mvT hZ (hw _ (List.mem_of_getElem? (i := 12) rfl))) (by decide) (backOf (W := 2) (rm1n l Z a0 hw [] (7 : Int32) p4 h511 n0 Z512 ) hZ (hw _ (List.mem_of_getElem? (i := 12) rfl)) (hw _ (List.mem_of_getElem? (i := 11) rfl)) (by decide) (by decide)) (g := (mkF m 163 #[.val (.int p1), .val (.int p2), .val (.int p3), .val (.long p4), .second, .val (.int kf), .val .null, .unset, .val (.ref b461), .unset, .unset] [(.long p4), (.int (7 : Int32)), .null, (.int (7 : Int32)), (.ref b461)])) rfl (by rw [hml]; rfl) (argsL := [.null, (.int (7 : Int32)), (.long p4)]) (rest := [(.int (7 : Int32)), (.ref b461)]) (lenOf own_pd14 rfl) rfl (by show 2 * 0 + _ ≤ _; exact Nat.le_of_eq rfl) (hb hby at_163) (fun _ _ => ⟨rfl, e511, (by decide : 1 + 0 ≤ _), (by decide : 8 + 0 ≤ _)⟩)
            dsimp only [Pt.U, Pt.locs, Pt.cells, Pt.slots] at X517 l517 y517 z517 st517 hQ517
            subst l517 y517 z517
            obtain ⟨cc_517, rfl, Nq517, hh517, u517_0⟩ := hQ517
            obtain ⟨lc517, Xh517, N517⟩ := own_hide X517 (Fr.app N514 Nq517)
            clear X517
            refine Go.via st517 ?_
            show Go p.tables e below P T517 (mkF m 166 #[.val (.int p1), .val (.int p2), .val (.int p3), .val (.long p4), .second, .val (.int kf), .val .null, .unset, .val (.ref b461), .unset, .unset] [(.int cc_517), (.int (7 : Int32)), (.ref b461)])
            obtain ⟨c518, A518, q518, S518, N518, H518, G518⟩ := id V511
            have hin518 : ¬ ((7 : Int32) < 0 ∨ c518.slots.size ≤ ((7 : Int32)).toNatClampNeg) := inb_of S518 ⟨by decide, by decide⟩
            obtain ⟨T518, h518, X518, e518, W518, st518⟩ := stC Xh517 hx hZ hh517 A518 (j := (7 : Int32)) hin518 (g := (mkF m 166 #[.val (.int p1), .val (.int p2), .val (.int p3), .val (.long p4), .second, .val (.int kf), .val .null, .unset, .val (.ref b461), .unset, .unset] [(.int cc_517), (.int (7 : Int32)), (.ref b461)])) rfl rfl (hb hby at_166)
            refine Go.via st518 ?_
            have Z519 : n0 ≤ h518.size := Nat.le_trans Z512 (Nat.le_of_eq W518.size.symm)
            have K520 : Keep h0 h518 [] := K513.wr W518 (Or.inr sz463)
            obtain ⟨lc518, Xh518, N521⟩ := own_hide X518 (Fr.snoc X518 N517 g462)
            clear X518
            have O522 : Old Z n0 h518 := O515.wr W518 g462
            have Sf518 := Safe.wr W518 (Safe.arv hZ.alike V511 (by decide)) CR516.1 (Safe.arv hZ.alike V511 (by decide))
            have CR523 := CHr.trans CR516 (CHr.wr W518 (Safe.arv hZ.alike V511 (by decide)) CR516.1)
            have V518 : Arv Z h518 b461 k461 .char (8 : Int32) [(.int (nar .char cc_468)), (.int (nar .char cc_475)), (.int (nar .char cc_482)), (.int (nar .char cc_489)), (.int (nar .char cc_496)), (.int (nar .char cc_503)), (.int (nar .char cc_510)), (.int (nar .char cc_517))] (.int (0 : Int32)) := Arv.set A518 q518 S518 N518 H518 G518 (fits_nar_char _) W518 7 rfl (Nat.le_of_ble_eq_true rfl)
            show Go p.tables e below P T518 (mkF m 167 #[.val (.int p1), .val (.int p2), .val (.int p3), .val (.long p4), .second, .val (.int kf), .val .null, .unset, .val (.ref b461), .unset, .unset] [])
            refine Go.via (fun t k => XS.iloadN Xh518.here hx rfl (hb hby at_167) rfl k) ?_
            refine Go.via (fun t k => XS.iconst Xh518.here hx rfl (hb hby at_168) k) ?_
            refine Go.via (fun t k => XS.iushr Xh518.here hx rfl (hb hby at_169) rfl k) ?_
            show Go p.tables e below P T518 (mkF m 170 #[.val (.int p1), .val (.int p2), .val (.int p3), .val (.long p4), .second, .val (.int kf), .val .null, .unset, .val (.ref b461), .unset, .unset] [(.int ((p1.toUInt32 >>> ((3 : Int32) &&& 31).toUInt32).toInt32))])
            refine Go.via (fun t k => XS.iconst Xh518.here hx rfl (hb hby at_170) k) ?_
            refine Go.via (fun t k => XS.iand Xh518.here hx rfl (hb hby at_171) rfl k) ?_
            refine Go.via (fun t k => XS.istore Xh518.here hx rfl (hb hby at_172) rfl (l' := #[.val (.int p1), .val (.int p2), .val (.int p3), .val (.long p4), .second, .val (.int kf), .val .null, .unset, .val (.ref b461), .val (.int (((p1.toUInt32 >>> ((3 : Int32) &&& 31).toUInt32).toInt32) &&& (3 : Int32))), .unset]) rfl k) ?_
            show Go p.tables e below P T518 (mkF m 174 #[.val (.int p1), .val (.int p2), .val (.int p3), .val (.long p4), .second, .val (.int kf), .val .null, .unset, .val (.ref b461), .val (.int (((p1.toUInt32 >>> ((3 : Int32) &&& 31).toUInt32).toInt32) &&& (3 : Int32))), .unset] [])
            refine Go.via (fun t k => XS.aload Xh518.here hx rfl (hb hby at_174) rfl rfl k) ?_
            show Go p.tables e below P T518 (mkF m 176 #[.val (.int p1), .val (.int p2), .val (.int p3), .val (.long p4), .second, .val (.int kf), .val .null, .unset, .val (.ref b461), .val (.int (((p1.toUInt32 >>> ((3 : Int32) &&& 31).toUInt32).toInt32) &&& (3 : Int32))), .unset] [.null])
            refine Go.via (fun t k => XS.ifnullYes Xh518.here hx rfl (pc0 := 176) (pc' := 194) rfl (hb hby at_176) rfl (by decide) (by decide) k) ?_
            show Go p.tables e below P T518 (mkF m 194 #[.val (.int p1), .val (.int p2), .val (.int p3), .val (.long p4), .second, .val (.int kf), .val .null, .unset, .val (.ref b461), .val (.int (((p1.toUInt32 >>> ((3 : Int32) &&& 31).toUInt32).toInt32) &&& (3 : Int32))), .unset] [])
            refine Go.via (fun t k => XS.aload Xh518.here hx rfl (hb hby at_194) rfl rfl k) ?_
            show Go p.tables e below P T518 (mkF m 196 #[.val (.int p1), .val (.int p2), .val (.int p3), .val (.long p4), .second, .val (.int kf), .val .null, .unset, .val (.ref b461), .val (.int (((p1.toUInt32 >>> ((3 : Int32) &&& 31).toUInt32).toInt32) &&& (3 : Int32))), .unset] [.null])
            refine Go.via (fun t k => XS.ifnullYes Xh518.here hx rfl (pc0 := 196) (pc' := 231) rfl (hb hby at_196) rfl (by decide) (by decide) k) ?_
            show Go p.tables e below P T518 (mkF m 231 #[.val (.int p1), .val (.int p2), .val (.int p3), .val (.long p4), .second, .val (.int kf), .val .null, .unset, .val (.ref b461), .val (.int (((p1.toUInt32 >>> ((3 : Int32) &&& 31).toUInt32).toInt32) &&& (3 : Int32))), .unset] [])
            refine Go.via (fun t k => XS.iloadN Xh518.here hx rfl (hb hby at_231) rfl k) ?_
            show Go p.tables e below P T518 (mkF m 232 #[.val (.int p1), .val (.int p2), .val (.int p3), .val (.long p4), .second, .val (.int kf), .val .null, .unset, .val (.ref b461), .val (.int (((p1.toUInt32 >>> ((3 : Int32) &&& 31).toUInt32).toInt32) &&& (3 : Int32))), .unset] [(.int p2)])
            refine Go.via (fun t k => Xh518.ldcInt hx hown (mvT hZ (hw _ (List.mem_of_getElem? (i := 113) rfl))) (g := (mkF m 232 #[.val (.int p1), .val (.int p2), .val (.int p3), .val (.long p4), .second, .val (.int kf), .val .null, .unset, .val (.ref b461), .val (.int (((p1.toUInt32 >>> ((3 : Int32) &&& 31).toUInt32).toInt32) &&& (3 : Int32))), .unset] [(.int p2)])) rfl (hb hby at_232) t k) ?_
            show Go p.tables e below P T518 (mkF m 234 #[.val (.int p1), .val (.int p2), .val (.int p3), .val (.long p4), .second, .val (.int kf), .val .null, .unset, .val (.ref b461), .val (.int (((p1.toUInt32 >>> ((3 : Int32) &&& 31).toUInt32).toInt32) &&& (3 : Int32))), .unset] [(.int (2147483647 : Int32)), (.int p2)])
            refine Go.via (fun t k => XS.iand Xh518.here hx rfl (hb hby at_234) rfl k) ?_
            refine Go.via (fun t k => XS.bipush Xh518.here hx rfl (hb hby at_235) k) ?_
            show Go p.tables e below P T518 (mkF m 237 #[.val (.int p1), .val (.int p2), .val (.int p3), .val (.long p4), .second, .val (.int kf), .val .null, .unset, .val (.ref b461), .val (.int (((p1.toUInt32 >>> ((3 : Int32) &&& 31).toUInt32).toInt32) &&& (3 : Int32))), .unset] [(.int (9 : Int32)), (.int (p2 &&& (2147483647 : Int32)))])
            refine Go.via (fun t k => iremM Xh518 hx rfl (hb hby at_237) rfl (by decide) k) ?_
            show Go p.tables e below P T518 (mkF m 238 #[.val (.int p1), .val (.int p2), .val (.int p3), .val (.long p4), .second, .val (.int kf), .val .null, .unset, .val (.ref b461), .val (.int (((p1.toUInt32 >>> ((3 : Int32) &&& 31).toUInt32).toInt32) &&& (3 : Int32))), .unset] [(.int ((p2 &&& (2147483647 : Int32)) % (9 : Int32)))])
            refine Go.via (fun t k => XS.istore Xh518.here hx rfl (hb hby at_238) rfl (l' := #[.val (.int p1), .val (.int p2), .val (.int p3), .val (.long p4), .second, .val (.int kf), .val .null, .unset, .val (.ref b461), .val (.int (((p1.toUInt32 >>> ((3 : Int32) &&& 31).toUInt32).toInt32) &&& (3 : Int32))), .val (.int ((p2 &&& (2147483647 : Int32)) % (9 : Int32)))]) rfl k) ?_
            have Vx524 : Arv Z h518 b461 k461 .char (8 : Int32) (([(nar .char cc_468), (nar .char cc_475), (nar .char cc_482), (nar .char cc_489), (nar .char cc_496), (nar .char cc_503), (nar .char cc_510), (nar .char cc_517)] : List Int32).map Value.int) (.int (0 : Int32)) := by
              exact V518
            exact LP1 T518 _ h518 b461 k461 ([(nar .char cc_468), (nar .char cc_475), (nar .char cc_482), (nar .char cc_489), (nar .char cc_496), (nar .char cc_503), (nar .char cc_510), (nar .char cc_517)] : List Int32) ((p2 &&& (2147483647 : Int32)) % (9 : Int32)) (.val .null) (.val (.int (((p1.toUInt32 >>> ((3 : Int32) &&& 31).toUInt32).toInt32) &&& (3 : Int32)))) s.vm _ hZ hown hS0 (Nat.zero_le _) CR523 (ownUp Xh518 (by decide) (by decide)) e518 N521 Z519 K520 O522 Vx524 (own_allg (own_alC (own_byn u468_0) (own_alC (own_byn u475_0) (own_alC (own_byn u482_0) (own_alC (own_byn u489_0) (own_alC (own_byn u496_0) (own_alC (own_byn u503_0) (own_alC (own_byn u510_0) (own_alC (own_byn u517_0) own_al0))))))))) (Or.inr ⟨_, rfl, rfl⟩) (Or.inr ⟨_, rfl, rfl⟩)
set_option maxRecDepth 65536 in
set_option maxHeartbeats 40000000 in
theorem comes_1 {Post : Tables → Env → Array Value → State → Outcome → State → Prop} (hpost : ∀ tb e args s v u, (limb_1_1.after args s (.returned v) u = true ∧ limb_1_2.after args s (.returned v) u = true ∧ True) → ReturnedEndW s (.returned v) u (Jvm.fieldLocs frame_1_writes args s ++ Jvm.arrayLocs frame_1_arrays args s ++ Jvm.staticLocs frame_1_statics s) 32 5312 → Post tb e args s (.returned v) u) :
    ArmFor flags0 classFile x code maxLocals ret World_1 tables_1 room_1 Calls_1 rest_1 Pre_1 Post := by
  intro l hfl _ _ p e ha hc hk s m args below hf hA hF happ hP
  obtain ⟨hcalls, hrest, hpre⟩ := hP
  obtain ⟨-, -, -, hnamed, -, -, -, hat⟩ := (Spec.applies_iff hf).mp happ
  obtain ⟨hg, hn⟩ := and_e (Cond.before_iff.mp (show (Jvm.Cond.and given_1 narrow_1).before args s = true from hpre))
  obtain ⟨hv0, hr0⟩ := and_e hg
  obtain ⟨hv1, hr1⟩ := and_e hr0
  obtain ⟨hv2, hr2⟩ := and_e hr1
  obtain ⟨hv3, hr3⟩ := and_e hr2
  obtain ⟨w0, w1, w2, w3, rfl⟩ : ∃ w0 w1 w2 w3 : Value, args = #[w0, w1, w2, w3] := by
    have hs : args.size = 4 := by simpa [Cond.value, given_1] using hv0
    obtain ⟨L⟩ := args
    match L, hs with
    | [w0, w1, w2, w3], _ => exact ⟨w0, w1, w2, w3, rfl⟩
  have hw := fun d (hd : d ∈ tables_1) => atoms_spec (ws := Jvm.Cond.code x code maxLocals ret :: tables_1) hat d (List.mem_cons_of_mem _ hd)
  have hfit : Fit s := fun {y c} hc i hi => by
    obtain ⟨ha, rfl⟩ := Array.getElem?_eq_some_iff.mp hc
    have q := List.all_eq_true.mp ((Array.all_eq_true_iff_forall_mem.mp hF) _ (Array.getElem_mem ha)) i (List.mem_range.mpr hi)
    simpa [Array.getElem?_eq_getElem hi] using q
  obtain ⟨hsets, hown0⟩ := atoms_of _ (rest_1_c_eq ▸ (show rest_1_c.before _ s = true from hrest))
  have hr00 := Cond.before_iff.mp hown0
  obtain ⟨i0, ei0⟩ := is_v hv1
  obtain rfl : w0 = (.int i0) := Option.some.inj ei0
  obtain ⟨i1, ei1⟩ := is_v hv2
  obtain rfl : w1 = (.int i1) := Option.some.inj ei1
  obtain ⟨i2, ei2⟩ := is_v hv3
  obtain rfl : w2 = (.int i2) := Option.some.inj ei2
  obtain ⟨i3, ei3⟩ := isL_v hr3
  obtain rfl : w3 = (.long i3) := Option.some.inj ei3
  have ncs := not_v (Cond.before_iff.mp (hsets _ (List.mem_of_getElem? (i := 2) rfl)))
  obtain ⟨cs, ecs⟩ := is_v (Cond.before_iff.mp (hsets _ (List.mem_of_getElem? (i := 1) rfl)))
  have Scs : Sta s s.heap "java/lang/String" "COMPACT_STRINGS" "Z" (.int cs) := Sta.start ecs (Or.inl (hsets _ (List.mem_of_getElem? (i := 0) rfl)))
  have hcs : ¬ (cs = (0 : Int32)) := gotF (Cond.eq_ints ecs (Term.int_eval (0))) ncs
  obtain ⟨fm, efm, rfm⟩ := isR_v (Cond.before_iff.mp (hsets _ (List.mem_of_getElem? (i := 8) rfl)))
  have Sfm : Sta s s.heap "jdk/internal/util/Preconditions" "SIOOBE_FORMATTER" "Ljava/util/function/BiFunction;" fm := Sta.start efm (Or.inl (hsets _ (List.mem_of_getElem? (i := 7) rfl)))
  obtain ⟨hn1, hn2⟩ := and_e hn
  obtain ⟨hn3, hn4⟩ := and_e hn2
  obtain ⟨hn5, hn6⟩ := and_e hn4
  obtain ⟨hn7, hn8⟩ := and_e hn6
  obtain ⟨hn9, hn10⟩ := and_e hn8
  obtain ⟨hn11, hn12⟩ := and_e hn10
  obtain ⟨hn13, hn14⟩ := and_e hn12
  obtain ⟨hn15, hn16⟩ := and_e hn14
  obtain ⟨hn17, hn18⟩ := and_e hn16
  obtain ⟨hn19, hn20⟩ := and_e hn18
  obtain ⟨hn21, hn22⟩ := and_e hn20
  obtain ⟨hn23, hn24⟩ := and_e hn22
  obtain ⟨hn25, hn26⟩ := and_e hn24
  obtain ⟨hn27, hn28⟩ := and_e hn26
  obtain ⟨hn29, hn30⟩ := and_e hn28
  obtain ⟨hn31, hn32⟩ := and_e hn30
  obtain ⟨hn33, hn34⟩ := and_e hn32
  obtain ⟨hn35, hn36⟩ := and_e hn34
  obtain ⟨hn37, hn38⟩ := and_e hn36
  obtain ⟨hn39, hn40⟩ := and_e hn38
  obtain ⟨hn41, hn42⟩ := and_e hn40
  obtain ⟨hn43, hn44⟩ := and_e hn42
  obtain ⟨hn45, hn46⟩ := and_e hn44
  obtain ⟨hn47, hn48⟩ := and_e hn46
  obtain ⟨hn49, hn50⟩ := and_e hn48
  obtain ⟨hn51, hn52⟩ := and_e hn50
  obtain ⟨hn53, hn54⟩ := and_e hn52
  obtain ⟨hn55, hn56⟩ := and_e hn54
  obtain ⟨hn57, hn58⟩ := and_e hn56
  obtain ⟨hn59, hn60⟩ := and_e hn58
  obtain ⟨hn61, hn62⟩ := and_e hn60
  obtain ⟨hn63, hn64⟩ := and_e hn62
  obtain ⟨hn65, hn66⟩ := and_e hn64
  obtain ⟨hn67, hn68⟩ := and_e hn66
  obtain ⟨hn69, hn70⟩ := and_e hn68
  obtain ⟨hn71, hn72⟩ := and_e hn70
  obtain ⟨hn73, hn74⟩ := and_e hn72
  obtain ⟨hn75, hn76⟩ := and_e hn74
  obtain ⟨hn77, hn78⟩ := and_e hn76
  obtain ⟨hn79, hn80⟩ := and_e hn78
  obtain ⟨hn81, hn82⟩ := and_e hn80
  obtain ⟨hn83, hn84⟩ := and_e hn82
  obtain ⟨hn85, hn86⟩ := and_e hn84
  obtain ⟨hn87, hn88⟩ := and_e hn86
  obtain ⟨hn89, hn90⟩ := and_e hn88
  obtain ⟨aF, e_aF⟩ := exa_v hn1
  have Sta_aF : Sta s s.heap "com/example/tri3/tri3/StageKind" "FETCH" "Lcom/example/tri3/tri3/StageKind;" (.ref aF) := Sta.start e_aF (Or.inr ⟨(hw _ (List.mem_of_getElem? (i := 83) rfl)), (hw _ (List.mem_of_getElem? (i := 84) rfl))⟩)
  have Ex_aF : Exa s s.heap aF "com/example/tri3/tri3/StageKind" := Exa.start e_aF hn1
  obtain ⟨va, e_va⟩ := arr_v hn3
  have Sta_va : Sta s s.heap "com/example/tri3/tri3/StageKind" "$VALUES" "[Lcom/example/tri3/tri3/StageKind;" (.ref va) := Sta.start e_va (Or.inr ⟨(hw _ (List.mem_of_getElem? (i := 83) rfl)), (hw _ (List.mem_of_getElem? (i := 92) rfl))⟩)
  obtain ⟨cl_va, Ar_va⟩ := Arr.start e_va hn3
  have Ex_va : Exa s s.heap va "[Lcom/example/tri3/tri3/StageKind;" := Exa.start e_va hn5
  obtain ⟨qln91, rln91⟩ := own_len e_va Ar_va hn7
  have el92 := own_elr e_va Ar_va hn9 e_aF
  obtain ⟨aC, e_aC⟩ := exa_v hn11
  have Sta_aC : Sta s s.heap "com/example/tri3/tri3/StageKind" "CALL" "Lcom/example/tri3/tri3/StageKind;" (.ref aC) := Sta.start e_aC (Or.inr ⟨(hw _ (List.mem_of_getElem? (i := 83) rfl)), (hw _ (List.mem_of_getElem? (i := 100) rfl))⟩)
  have Ex_aC : Exa s s.heap aC "com/example/tri3/tri3/StageKind" := Exa.start e_aC hn11
  have el93 := own_elr e_va Ar_va hn13 e_aC
  obtain ⟨aS, e_aS⟩ := exa_v hn15
  have Sta_aS : Sta s s.heap "com/example/tri3/tri3/StageKind" "SQL" "Lcom/example/tri3/tri3/StageKind;" (.ref aS) := Sta.start e_aS (Or.inr ⟨(hw _ (List.mem_of_getElem? (i := 83) rfl)), (hw _ (List.mem_of_getElem? (i := 101) rfl))⟩)
  have Ex_aS : Exa s s.heap aS "com/example/tri3/tri3/StageKind" := Exa.start e_aS hn15
  have el94 := own_elr e_va Ar_va hn17 e_aS
  obtain ⟨aD, e_aD⟩ := exa_v hn19
  have Sta_aD : Sta s s.heap "com/example/tri3/tri3/StageKind" "DELIVER" "Lcom/example/tri3/tri3/StageKind;" (.ref aD) := Sta.start e_aD (Or.inr ⟨(hw _ (List.mem_of_getElem? (i := 83) rfl)), (hw _ (List.mem_of_getElem? (i := 102) rfl))⟩)
  have Ex_aD : Exa s s.heap aD "com/example/tri3/tri3/StageKind" := Exa.start e_aD hn19
  have el95 := own_elr e_va Ar_va hn21 e_aD
  obtain ⟨sF, e_sF⟩ := exa_v hn23
  have Fd_sF : Fld s s.heap aF "com/example/tri3/tri3/StageKind" "fileName" "Ljava/lang/String;" (.ref sF) := Fld.start ((fld_at e_aF).symm.trans e_sF)
  have Ex_sF : Exa s s.heap sF "java/lang/String" := Exa.start e_sF hn23
  have fi96 : Fld s s.heap sF "java/lang/String" "coder" "B" (.int (0 : Int32)) := Fld.start ((fld_at e_sF).symm.trans (own_ieq hn25))
  obtain ⟨tF, e_tF⟩ := arr_v hn27
  have Fd_tF : Fld s s.heap sF "java/lang/String" "value" "[B" (.ref tF) := Fld.start ((fld_at e_sF).symm.trans e_tF)
  obtain ⟨cl_tF, Ar_tF⟩ := Arr.start e_tF hn27
  obtain ⟨qln97, rln97⟩ := own_len e_tF Ar_tF hn29
  obtain ⟨sC, e_sC⟩ := exa_v hn31
  have Fd_sC : Fld s s.heap aC "com/example/tri3/tri3/StageKind" "fileName" "Ljava/lang/String;" (.ref sC) := Fld.start ((fld_at e_aC).symm.trans e_sC)
  have Ex_sC : Exa s s.heap sC "java/lang/String" := Exa.start e_sC hn31
  obtain ⟨sS, e_sS⟩ := exa_v hn33
  have Fd_sS : Fld s s.heap aS "com/example/tri3/tri3/StageKind" "fileName" "Ljava/lang/String;" (.ref sS) := Fld.start ((fld_at e_aS).symm.trans e_sS)
  have Ex_sS : Exa s s.heap sS "java/lang/String" := Exa.start e_sS hn33
  obtain ⟨sD, e_sD⟩ := exa_v hn35
  have Fd_sD : Fld s s.heap aD "com/example/tri3/tri3/StageKind" "fileName" "Ljava/lang/String;" (.ref sD) := Fld.start ((fld_at e_aD).symm.trans e_sD)
  have Ex_sD : Exa s s.heap sD "java/lang/String" := Exa.start e_sD hn35
  have fi98 : Fld s s.heap sC "java/lang/String" "coder" "B" (.int (0 : Int32)) := Fld.start ((fld_at e_sC).symm.trans (own_ieq hn37))
  obtain ⟨tC, e_tC⟩ := arr_v hn39
  have Fd_tC : Fld s s.heap sC "java/lang/String" "value" "[B" (.ref tC) := Fld.start ((fld_at e_sC).symm.trans e_tC)
  obtain ⟨cl_tC, Ar_tC⟩ := Arr.start e_tC hn39
  obtain ⟨qln99, rln99⟩ := own_len e_tC Ar_tC hn41
  have fi100 : Fld s s.heap sS "java/lang/String" "coder" "B" (.int (0 : Int32)) := Fld.start ((fld_at e_sS).symm.trans (own_ieq hn43))
  obtain ⟨tS, e_tS⟩ := arr_v hn45
  have Fd_tS : Fld s s.heap sS "java/lang/String" "value" "[B" (.ref tS) := Fld.start ((fld_at e_sS).symm.trans e_tS)
  obtain ⟨cl_tS, Ar_tS⟩ := Arr.start e_tS hn45
  obtain ⟨qln101, rln101⟩ := own_len e_tS Ar_tS hn47
  have el102 := own_el e_tS Ar_tS hn49
  have el103 := own_el e_tS Ar_tS hn51
  have el104 := own_el e_tS Ar_tS hn53
  have fi105 : Fld s s.heap sD "java/lang/String" "coder" "B" (.int (0 : Int32)) := Fld.start ((fld_at e_sD).symm.trans (own_ieq hn55))
  obtain ⟨tD, e_tD⟩ := arr_v hn57
  have Fd_tD : Fld s s.heap sD "java/lang/String" "value" "[B" (.ref tD) := Fld.start ((fld_at e_sD).symm.trans e_tD)
  obtain ⟨cl_tD, Ar_tD⟩ := Arr.start e_tD hn57
  obtain ⟨qln106, rln106⟩ := own_len e_tD Ar_tD hn59
  have el107 := own_el e_tC Ar_tC hn61
  have el108 := own_el e_tC Ar_tC hn63
  have el109 := own_el e_tC Ar_tC hn65
  have el110 := own_el e_tC Ar_tC hn67
  have el111 := own_el e_tF Ar_tF hn69
  have el112 := own_el e_tF Ar_tF hn71
  have el113 := own_el e_tF Ar_tF hn73
  have el114 := own_el e_tF Ar_tF hn75
  have el115 := own_el e_tF Ar_tF hn77
  have el116 := own_el e_tD Ar_tD hn79
  have el117 := own_el e_tD Ar_tD hn81
  have el118 := own_el e_tD Ar_tD hn83
  have el119 := own_el e_tD Ar_tD hn85
  have el120 := own_el e_tD Ar_tD hn87
  have el121 := own_el e_tD Ar_tD hn89
  have el122 := own_el e_tD Ar_tD hn90
  have Av_va : Arv s s.heap va cl_va.cls (.object "com/example/tri3/tri3/StageKind") (4 : Int32) [(.ref aF), (.ref aC), (.ref aS), (.ref aD)] .null := Arv.start hfit Ar_va qln91 rln91 (by decide) rfl ⟨el92, ⟨el93, ⟨el94, ⟨el95, trivial⟩⟩⟩⟩
  have Av_tF : Arv s s.heap tF cl_tF.cls .byte (5 : Int32) [(.int (102 : Int32)), (.int (101 : Int32)), (.int (116 : Int32)), (.int (99 : Int32)), (.int (104 : Int32))] (.int (0 : Int32)) := Arv.start hfit Ar_tF qln97 rln97 (by decide) rfl ⟨el111, ⟨el112, ⟨el113, ⟨el114, ⟨el115, trivial⟩⟩⟩⟩⟩
  have Av_tC : Arv s s.heap tC cl_tC.cls .byte (4 : Int32) [(.int (99 : Int32)), (.int (97 : Int32)), (.int (108 : Int32)), (.int (108 : Int32))] (.int (0 : Int32)) := Arv.start hfit Ar_tC qln99 rln99 (by decide) rfl ⟨el107, ⟨el108, ⟨el109, ⟨el110, trivial⟩⟩⟩⟩
  have Av_tS : Arv s s.heap tS cl_tS.cls .byte (3 : Int32) [(.int (115 : Int32)), (.int (113 : Int32)), (.int (108 : Int32))] (.int (0 : Int32)) := Arv.start hfit Ar_tS qln101 rln101 (by decide) rfl ⟨el102, ⟨el103, ⟨el104, trivial⟩⟩⟩
  have Av_tD : Arv s s.heap tD cl_tD.cls .byte (7 : Int32) [(.int (100 : Int32)), (.int (101 : Int32)), (.int (108 : Int32)), (.int (105 : Int32)), (.int (118 : Int32)), (.int (101 : Int32)), (.int (114 : Int32))] (.int (0 : Int32)) := Arv.start hfit Ar_tD qln106 rln106 (by decide) rfl ⟨el116, ⟨el117, ⟨el118, ⟨el119, ⟨el120, ⟨el121, ⟨el122, trivial⟩⟩⟩⟩⟩⟩⟩
  have Ab_tF : Arv s s.heap tF cl_tF.cls .byte (own_lg ([(102 : Int32), (101 : Int32), (116 : Int32), (99 : Int32), (104 : Int32)] : List Int32)) (([(102 : Int32), (101 : Int32), (116 : Int32), (99 : Int32), (104 : Int32)] : List Int32).map Value.int) (.int (0 : Int32)) := by
    rw [show own_lg ([(102 : Int32), (101 : Int32), (116 : Int32), (99 : Int32), (104 : Int32)] : List Int32) = (5 : Int32) from rfl]; exact Av_tF
  have Ab_tC : Arv s s.heap tC cl_tC.cls .byte (own_lg ([(99 : Int32), (97 : Int32), (108 : Int32), (108 : Int32)] : List Int32)) (([(99 : Int32), (97 : Int32), (108 : Int32), (108 : Int32)] : List Int32).map Value.int) (.int (0 : Int32)) := by
    rw [show own_lg ([(99 : Int32), (97 : Int32), (108 : Int32), (108 : Int32)] : List Int32) = (4 : Int32) from rfl]; exact Av_tC
  have Ab_tS : Arv s s.heap tS cl_tS.cls .byte (own_lg ([(115 : Int32), (113 : Int32), (108 : Int32)] : List Int32)) (([(115 : Int32), (113 : Int32), (108 : Int32)] : List Int32).map Value.int) (.int (0 : Int32)) := by
    rw [show own_lg ([(115 : Int32), (113 : Int32), (108 : Int32)] : List Int32) = (3 : Int32) from rfl]; exact Av_tS
  have Ab_tD : Arv s s.heap tD cl_tD.cls .byte (own_lg ([(100 : Int32), (101 : Int32), (108 : Int32), (105 : Int32), (118 : Int32), (101 : Int32), (114 : Int32)] : List Int32)) (([(100 : Int32), (101 : Int32), (108 : Int32), (105 : Int32), (118 : Int32), (101 : Int32), (114 : Int32)] : List Int32).map Value.int) (.int (0 : Int32)) := by
    rw [show own_lg ([(100 : Int32), (101 : Int32), (108 : Int32), (105 : Int32), (118 : Int32), (101 : Int32), (114 : Int32)] : List Int32) = (7 : Int32) from rfl]; exact Av_tD
  have hCH : CHv s consts_1 s.vm s.heap := CHv.start (own_EW hw) (fun p hp => hcalls.1 p hp) (hsets _ (List.mem_of_getElem? (i := 2) rfl)) (hw _ (List.mem_of_getElem? (i := 3) rfl)) (hw _ (List.mem_of_getElem? (i := 2) rfl))
  obtain ⟨n, o, h1, h2, h3, _, L, rfl, ⟨rfl, N⟩, -, hq⟩ := rm0 l s _ hw tables_1 i0 i1 i2 i3 cs fm va cl_va.cls aF sF tF cl_tF.cls aC sC tC cl_tC.cls aS sS tS cl_tS.cls aD sD tD cl_tD.cls s.heap s.heap.size (Nat.le_refl _) (Old.start s) Scs hcs Sfm rfm Sta_va Av_va Ex_va Ex_aF Fd_sF Ex_sF Fd_tF fi96 Ab_tF Ex_aC Fd_sC Ex_sC Fd_tC fi98 Ab_tC Ex_aS Fd_sS Ex_sS Fd_tS fi100 Ab_tS Ex_aD Fd_sD Ex_sD Fd_tD fi105 Ab_tD Sta_aF Sta_aC Sta_aS Sta_aD p e ha hc hk s m _ below hf ((Spec.applies_iff_loose hf).mp happ).1 ⟨rfl, State.Warmed39.refl s, rfl, hCH⟩ trivial
  refine ⟨n, _, h1, h2, h3, hpost _ _ _ _ _ _ ⟨Cond.after_iff.mpr rfl, Cond.after_iff.mpr (eq_i res_at (Term.int_eval (1)) rfl), trivial⟩ ⟨hq.1, hq.2.1, hq.2.2.1, (hq.2.2.2.sift fun y hy => Or.inr (N y hy)).mono (by decide) (by decide)⟩⟩
theorem main_1_1 : Claimed_1_1 := comes_1 fun _ _ _ _ _ _ h hF => ⟨h.1, hF⟩
theorem main_1_2 : Claimed_1_2 := comes_1 fun _ _ _ _ _ _ h hF => ⟨h.2.1, hF⟩
end Jvm.Pilot.@@N@@
namespace Jvm.Pilot.@@N@@
open Jvm Jvm.ClassFile Sem Op Lib Jvm.Free Jvm.Stand Jvm.Pilot.@@N@@.Jvm.D
/-! MADE BY PROGRAM (witnessworld.py) out of the Statement's table words and the real class files: 22 classes; the members and pool entries that the words name. The judged class is class 1, her method 1. -/
namespace start1
open Jvm.ClassFile
def u (s : String) : CpInfo := .utf8 (stringToUtf16 s)
/-- a pool by its gaps: so many unusable entries, then the entry; so many at the end -/
def gap : Nat → List CpInfo → List CpInfo
  | 0, r => r
  | n + 1, r => .unusable :: gap n r
def poolList (es : List (Nat × CpInfo)) (last : Nat) : List CpInfo := es.foldr (fun e r => gap e.1 (e.2 :: r)) (gap last [])
def pool (es : List (Nat × CpInfo)) (last : Nat) : Array CpInfo := ⟨poolList es last⟩
def fileOf (pool : Array CpInfo) (this : Nat) (attrs : Array Attribute := #[]) (ms : Array MethodInfo := #[]) (fl : Nat := 33) (sup : Nat := 0) (ifs : Array Nat := #[]) (fds : Array FieldInfo := #[]) : ClassFile where
  minorVersion := 0
  majorVersion := 65
  constantPool := pool
  accessFlags := fl
  thisClass := this
  superClass := sup
  interfaces := ifs
  fields := fds
  methods := ms
  attributes := attrs
def plain (name : String) (sup : Option ClassId) : Class where
  name := name
  kind := .ordinary
  loader := none
  accessFlags := 33
  super := sup
  interfaces := #[]
  cf := none
  fields := #[]
  methods := #[]
  instanceTypes := #[]
  staticTypes := #[]
  resolved := #[]
  callSites := []
  init := .initialized
  statics := none
  mirror := none

def pool0 : Array CpInfo := pool [(5, u "<init>"), (0, u "()V"), (1, .class_ 10), (1, u "java/lang/Object"), (85, u "clone"), (0, u "()Ljava/lang/Object;")] 26

def k0c0 : Code := { maxStack := 0, maxLocals := 1, code := object_method_1_code, exceptionTable := #[], attributes := #[] }
def k0m0 : Method := { name := "<init>", desc := "()V", sig := { parameters := [], returnType := none }, accessFlags := 1, code := some k0c0 }
def k0m1 : Method := { name := "clone", desc := "()Ljava/lang/Object;", sig := { parameters := [], returnType := some (.object "java/lang/Object") }, accessFlags := 260, code := none }
/-- java/lang/Object -/
def k0 : Class := { plain "java/lang/Object" none with
  accessFlags := 33
  interfaces := #[]
  cf := some (fileOf pool0 8 #[] #[{ accessFlags := 1, nameIndex := 5, descriptorIndex := 6, attributes := #[] }, { accessFlags := 260, nameIndex := 96, descriptorIndex := 97, attributes := #[] }] 33 0 #[] #[])
  fields := #[]
  methods := #[k0m0, k0m1]
  instanceTypes := #[]
  staticTypes := #[]
  resolved := Array.replicate 124 none
  statics := none }

def pool1 : Array CpInfo := pool [(2, .class_ 4), (1, u "java/lang/Object"), (0, u "<init>"), (0, u "()V"), (0, .string 8), (0, u "fetch"), (0, .string 10), (0, u "call"), (0, .string 12), (0, u "sql"), (0, .string 14), (0, u "deliver"), (0, .methodref 16 17), (0, .class_ 18), (0, .nameAndType 19 20), (0, u "com/example/tri3/tri3/StageKindNamedPinLaw"), (0, u "pick"), (0, u "(Ljava/lang/String;IJ)C"), (0, .methodref 22 23), (0, .class_ 24), (0, .nameAndType 25 26), (0, u "java/lang/String"), (0, u "length"), (0, u "()I"), (0, .integer 2147483647), (0, .methodref 16 29), (0, .nameAndType 30 31), (0, u "make"), (0, u "([CI)Ljava/lang/String;"), (0, .methodref 22 33), (0, .nameAndType 34 35), (0, u "equals"), (0, u "(Ljava/lang/Object;)Z"), (0, .fieldref 37 38), (0, .class_ 39), (0, .nameAndType 40 41), (0, u "com/example/tri3/tri3/StageKind"), (0, u "FETCH"), (0, u "Lcom/example/tri3/tri3/StageKind;"), (0, .fieldref 37 43), (0, .nameAndType 44 41), (0, u "CALL"), (0, .fieldref 37 46), (0, .nameAndType 47 41), (0, u "SQL"), (0, .fieldref 37 49), (0, .nameAndType 50 41), (0, u "DELIVER"), (0, .methodref 37 52), (0, .nameAndType 53 54), (0, u "named"), (0, u "(Ljava/lang/String;)Lcom/example/tri3/tri3/StageKind;"), (0, .methodref 22 56), (0, .nameAndType 57 58), (0, u "charAt"), (0, u "(I)C"), (0, .long 255), (1, .methodref 22 62), (0, .nameAndType 5 63), (0, u "([C)V"), (2, u "law"), (0, u "(IIIJ)Z")] 5

def k1m0 : Method := { name := "<init>", desc := "()V", sig := { parameters := [], returnType := none }, accessFlags := 1, code := none }
def k1c1 : Code := { maxStack := 6, maxLocals := 11, code := code, exceptionTable := #[], attributes := #[] }
def k1m1 : Method := { name := "law", desc := "(IIIJ)Z", sig := { parameters := [.int, .int, .int, .long], returnType := some .boolean }, accessFlags := 9, code := some k1c1 }
def k1c2 : Code := { maxStack := 4, maxLocals := 4, code := method_3_code, exceptionTable := #[], attributes := #[] }
def k1m2 : Method := { name := "pick", desc := "(Ljava/lang/String;IJ)C", sig := { parameters := [(.object "java/lang/String"), .int, .long], returnType := some .char }, accessFlags := 10, code := some k1c2 }
def k1c3 : Code := { maxStack := 7, maxLocals := 2, code := method_4_code, exceptionTable := #[], attributes := #[] }
def k1m3 : Method := { name := "make", desc := "([CI)Ljava/lang/String;", sig := { parameters := [(.array .char), .int], returnType := some (.object "java/lang/String") }, accessFlags := 10, code := some k1c3 }
/-- com/example/tri3/tri3/StageKindNamedPinLaw -/
def k1 : Class := { plain "com/example/tri3/tri3/StageKindNamedPinLaw" (some 0) with
  accessFlags := 49
  interfaces := #[]
  cf := some (fileOf pool1 16 #[] #[{ accessFlags := 1, nameIndex := 5, descriptorIndex := 6, attributes := #[] }, { accessFlags := 9, nameIndex := 66, descriptorIndex := 67, attributes := #[] }, { accessFlags := 10, nameIndex := 19, descriptorIndex := 20, attributes := #[] }, { accessFlags := 10, nameIndex := 30, descriptorIndex := 31, attributes := #[] }] 49 2 #[] #[])
  fields := #[]
  methods := #[k1m0, k1m1, k1m2, k1m3]
  instanceTypes := #[]
  staticTypes := #[]
  resolved := Array.replicate 73 none
  statics := none }

def pool2 : Array CpInfo := pool [(1, .class_ 2), (0, u "java/io/Serializable"), (0, .class_ 4), (0, u "java/lang/Object")] 2

/-- java/io/Serializable -/
def k2 : Class := { plain "java/io/Serializable" (some 0) with
  accessFlags := 1537
  interfaces := #[]
  cf := some (fileOf pool2 1 #[] #[] 1537 3 #[] #[])
  fields := #[]
  methods := #[]
  instanceTypes := #[]
  staticTypes := #[]
  resolved := Array.replicate 7 none
  statics := none }

def pool3 : Array CpInfo := pool [(1, .class_ 2), (0, u "java/lang/Comparable"), (0, .class_ 4), (0, u "java/lang/Object")] 7

/-- java/lang/Comparable -/
def k3 : Class := { plain "java/lang/Comparable" (some 0) with
  accessFlags := 1537
  interfaces := #[]
  cf := some (fileOf pool3 1 #[] #[] 1537 3 #[] #[])
  fields := #[]
  methods := #[]
  instanceTypes := #[]
  staticTypes := #[]
  resolved := Array.replicate 12 none
  statics := none }

def pool4 : Array CpInfo := pool [(2, .class_ 4), (1, u "java/lang/CharSequence"), (42, .class_ 48), (0, u "java/lang/CharSequence$1CodePointIterator"), (10, .class_ 60), (0, u "java/lang/CharSequence$1CharIterator"), (5, .class_ 67), (0, u "java/lang/Object")] 63

/-- java/lang/CharSequence -/
def k4 : Class := { plain "java/lang/CharSequence" (some 0) with
  accessFlags := 1537
  interfaces := #[]
  cf := some (fileOf pool4 2 #[.nestMembers #[47, 59]] #[] 1537 66 #[] #[])
  fields := #[]
  methods := #[]
  instanceTypes := #[]
  staticTypes := #[]
  resolved := Array.replicate 131 none
  statics := none }

def pool5 : Array CpInfo := pool [(1, .class_ 2), (0, u "java/lang/constant/Constable"), (0, .class_ 4), (0, u "java/lang/Object")] 6

/-- java/lang/constant/Constable -/
def k5 : Class := { plain "java/lang/constant/Constable" (some 0) with
  accessFlags := 1537
  interfaces := #[]
  cf := some (fileOf pool5 1 #[] #[] 1537 3 #[] #[])
  fields := #[]
  methods := #[]
  instanceTypes := #[]
  staticTypes := #[]
  resolved := Array.replicate 11 none
  statics := none }

def pool6 : Array CpInfo := pool [(1, .class_ 2), (0, u "java/lang/constant/ConstantDesc"), (0, .class_ 4), (0, u "java/lang/Object")] 32

/-- java/lang/constant/ConstantDesc -/
def k6 : Class := { plain "java/lang/constant/ConstantDesc" (some 0) with
  accessFlags := 1537
  interfaces := #[]
  cf := some (fileOf pool6 1 #[] #[] 1537 3 #[] #[])
  fields := #[]
  methods := #[]
  instanceTypes := #[]
  staticTypes := #[]
  resolved := Array.replicate 37 none
  statics := none }

def pool7 : Array CpInfo := pool [(1, .methodref 2 3), (0, .class_ 4), (0, .nameAndType 5 6), (0, u "java/lang/Object"), (0, u "<init>"), (0, u "()V"), (0, .string 8), (0, u ""), (0, .fieldref 10 11), (0, .class_ 12), (0, .nameAndType 13 14), (0, u "java/lang/String"), (0, u "value"), (0, u "[B"), (0, .fieldref 10 16), (0, .nameAndType 17 18), (0, u "coder"), (0, u "B"), (2, u "hash"), (0, u "I"), (2, u "hashIsZero"), (0, u "Z"), (0, .methodref 10 28), (0, .nameAndType 5 29), (0, u "([CIILjava/lang/Void;)V"), (8, .fieldref 10 39), (0, .nameAndType 40 26), (0, u "COMPACT_STRINGS"), (1, .class_ 44), (1, u "java/lang/StringUTF16"), (0, u "compress"), (1, .methodref 42 48), (0, .nameAndType 49 50), (0, u "coderFromArrayLen"), (0, u "([BI)B"), (56, .class_ 109), (1, u "java/lang/StringLatin1"), (32, u "()Z"), (34, .methodref 42 178), (0, .nameAndType 45 179), (0, u "([CII)[B"), (154, u "()I"), (0, .methodref 10 336), (0, .nameAndType 17 337), (0, u "()B"), (25, u "([BI)C"), (27, u "(II)V"), (35, u "(I)C"), (64, .methodref 10 493), (0, .nameAndType 494 142), (0, u "isLatin1"), (0, .methodref 107 496), (0, .nameAndType 497 363), (0, u "charAt"), (3, u "checkIndex"), (5, u "length"), (33, .methodref 107 542), (0, .nameAndType 543 544), (0, u "equals"), (0, u "([B[B)Z"), (28, u "(Ljava/lang/Object;)Z"), (1, .class_ 576), (0, u "java/lang/CharSequence"), (22, u "CASE_INSENSITIVE_ORDER"), (0, u "Ljava/util/Comparator;"), (409, u "([C)V"), (42, .fieldref 1054 1055), (0, .class_ 1056), (0, .nameAndType 1057 1058), (0, u "jdk/internal/util/Preconditions"), (0, u "SIOOBE_FORMATTER"), (0, u "Ljava/util/function/BiFunction;"), (0, .methodref 1054 1060), (0, .nameAndType 501 1061), (0, u "(IILjava/util/function/BiFunction;)I"), (39, u "serialPersistentFields"), (0, u "[Ljava/io/ObjectStreamField;"), (0, .class_ 1104), (0, u "java/lang/String$CaseInsensitiveComparator"), (1, .class_ 1107), (0, u "java/io/Serializable"), (0, .class_ 1109), (0, u "java/lang/Comparable"), (0, .class_ 1111), (0, u "java/lang/constant/Constable"), (0, .class_ 1113), (0, u "java/lang/constant/ConstantDesc"), (2, u "serialVersionUID"), (0, u "J"), (3, u "REPL"), (0, u "C"), (2, u "LATIN1"), (1, u "UTF16")] 323

def k7m0 : Method := { name := "<init>", desc := "()V", sig := { parameters := [], returnType := none }, accessFlags := 1, code := none }
def k7c1 : Code := { maxStack := 5, maxLocals := 2, code := jdk_42_method_3_code, exceptionTable := #[], attributes := #[] }
def k7m1 : Method := { name := "<init>", desc := "([C)V", sig := { parameters := [(.array .char)], returnType := none }, accessFlags := 1, code := some k7c1 }
def k7c2 : Code := { maxStack := 2, maxLocals := 1, code := jdk_42_method_54_code, exceptionTable := #[], attributes := #[] }
def k7m2 : Method := { name := "length", desc := "()I", sig := { parameters := [], returnType := some .int }, accessFlags := 1, code := some k7c2 }
def k7c3 : Code := { maxStack := 2, maxLocals := 2, code := jdk_42_method_56_code, exceptionTable := #[], attributes := #[] }
def k7m3 : Method := { name := "charAt", desc := "(I)C", sig := { parameters := [.int], returnType := some .char }, accessFlags := 1, code := some k7c3 }
def k7c4 : Code := { maxStack := 2, maxLocals := 3, code := jdk_42_method_66_code, exceptionTable := #[], attributes := #[] }
def k7m4 : Method := { name := "equals", desc := "(Ljava/lang/Object;)Z", sig := { parameters := [(.object "java/lang/Object")], returnType := some .boolean }, accessFlags := 1, code := some k7c4 }
def k7c5 : Code := { maxStack := 4, maxLocals := 6, code := jdk_42_method_149_code, exceptionTable := #[], attributes := #[] }
def k7m5 : Method := { name := "<init>", desc := "([CIILjava/lang/Void;)V", sig := { parameters := [(.array .char), .int, .int, (.object "java/lang/Void")], returnType := none }, accessFlags := 2, code := some k7c5 }
def k7c6 : Code := { maxStack := 1, maxLocals := 1, code := jdk_42_method_152_code, exceptionTable := #[], attributes := #[] }
def k7m6 : Method := { name := "coder", desc := "()B", sig := { parameters := [], returnType := some .byte }, accessFlags := 0, code := some k7c6 }
def k7c7 : Code := { maxStack := 1, maxLocals := 1, code := jdk_42_method_154_code, exceptionTable := #[], attributes := #[] }
def k7m7 : Method := { name := "isLatin1", desc := "()Z", sig := { parameters := [], returnType := some .boolean }, accessFlags := 0, code := some k7c7 }
def k7c8 : Code := { maxStack := 3, maxLocals := 2, code := jdk_42_method_155_code, exceptionTable := #[], attributes := #[] }
def k7m8 : Method := { name := "checkIndex", desc := "(II)V", sig := { parameters := [.int, .int], returnType := none }, accessFlags := 8, code := some k7c8 }
/-- java/lang/String -/
def k7 : Class := { plain "java/lang/String" (some 0) with
  accessFlags := 49
  interfaces := #[2, 3, 4, 5, 6]
  cf := some (fileOf pool7 10 #[.nestMembers #[1103]] #[{ accessFlags := 1, nameIndex := 5, descriptorIndex := 6, attributes := #[] }, { accessFlags := 1, nameIndex := 5, descriptorIndex := 1010, attributes := #[] }, { accessFlags := 1, nameIndex := 507, descriptorIndex := 334, attributes := #[] }, { accessFlags := 1, nameIndex := 497, descriptorIndex := 427, attributes := #[] }, { accessFlags := 1, nameIndex := 543, descriptorIndex := 573, attributes := #[] }, { accessFlags := 2, nameIndex := 5, descriptorIndex := 29, attributes := #[] }, { accessFlags := 0, nameIndex := 17, descriptorIndex := 337, attributes := #[] }, { accessFlags := 0, nameIndex := 494, descriptorIndex := 142, attributes := #[] }, { accessFlags := 8, nameIndex := 501, descriptorIndex := 391, attributes := #[] }] 49 2 #[1106, 1108, 575, 1110, 1112] #[{ accessFlags := 18, nameIndex := 13, descriptorIndex := 14, attributes := #[] }, { accessFlags := 18, nameIndex := 17, descriptorIndex := 18, attributes := #[] }, { accessFlags := 2, nameIndex := 21, descriptorIndex := 22, attributes := #[] }, { accessFlags := 2, nameIndex := 25, descriptorIndex := 26, attributes := #[] }, { accessFlags := 26, nameIndex := 1116, descriptorIndex := 1117, attributes := #[] }, { accessFlags := 24, nameIndex := 40, descriptorIndex := 26, attributes := #[] }, { accessFlags := 26, nameIndex := 1101, descriptorIndex := 1102, attributes := #[] }, { accessFlags := 26, nameIndex := 1121, descriptorIndex := 1122, attributes := #[] }, { accessFlags := 25, nameIndex := 599, descriptorIndex := 600, attributes := #[] }, { accessFlags := 24, nameIndex := 1125, descriptorIndex := 18, attributes := #[] }, { accessFlags := 24, nameIndex := 1127, descriptorIndex := 18, attributes := #[] }])
  fields := #[{ name := "value", type := (.array .byte), accessFlags := 18, slot := 0, constantValue := 0 }, { name := "coder", type := .byte, accessFlags := 18, slot := 1, constantValue := 0 }, { name := "hash", type := .int, accessFlags := 2, slot := 2, constantValue := 0 }, { name := "hashIsZero", type := .boolean, accessFlags := 2, slot := 3, constantValue := 0 }, { name := "serialVersionUID", type := .long, accessFlags := 26, slot := 0, constantValue := 0 }, { name := "COMPACT_STRINGS", type := .boolean, accessFlags := 24, slot := 1, constantValue := 0 }, { name := "serialPersistentFields", type := (.array (.object "java/io/ObjectStreamField")), accessFlags := 26, slot := 2, constantValue := 0 }, { name := "REPL", type := .char, accessFlags := 26, slot := 3, constantValue := 0 }, { name := "CASE_INSENSITIVE_ORDER", type := (.object "java/util/Comparator"), accessFlags := 25, slot := 4, constantValue := 0 }, { name := "LATIN1", type := .byte, accessFlags := 24, slot := 5, constantValue := 0 }, { name := "UTF16", type := .byte, accessFlags := 24, slot := 6, constantValue := 0 }]
  methods := #[k7m0, k7m1, k7m2, k7m3, k7m4, k7m5, k7m6, k7m7, k7m8]
  instanceTypes := #[(.array .byte), .byte, .int, .boolean]
  staticTypes := #[.long, .boolean, (.array (.object "java/io/ObjectStreamField")), .char, (.object "java/util/Comparator"), .byte, .byte]
  resolved := Array.replicate 1451 none
  statics := some 0 }

def pool8 : Array CpInfo := pool [(1, .class_ 2), (0, u "java/lang/String"), (1, .class_ 6), (1, u "java/lang/Object"), (0, u "<init>"), (0, u "()V"), (0, .methodref 1 10), (0, .nameAndType 11 12), (0, u "checkIndex"), (0, u "(II)V"), (1, .class_ 16), (1, u "java/lang/StringLatin1"), (36, u "([BI)C"), (67, u "$assertionsDisabled"), (0, u "Z"), (98, .class_ 223), (1, u "java/lang/StringLatin1$LinesSpliterator"), (28, u "charAt"), (28, u "equals"), (0, u "([B[B)Z"), (107, .class_ 391), (0, u "java/lang/StringLatin1$CharsSpliterator")] 3

def k8m0 : Method := { name := "<init>", desc := "()V", sig := { parameters := [], returnType := none }, accessFlags := 0, code := none }
def k8c1 : Code := { maxStack := 2, maxLocals := 2, code := jdk_43_method_2_code, exceptionTable := #[], attributes := #[] }
def k8m1 : Method := { name := "charAt", desc := "([BI)C", sig := { parameters := [(.array .byte), .int], returnType := some .char }, accessFlags := 9, code := some k8c1 }
def k8c2 : Code := { maxStack := 3, maxLocals := 3, code := jdk_43_method_13_code, exceptionTable := #[], attributes := #[] }
def k8m2 : Method := { name := "equals", desc := "([B[B)Z", sig := { parameters := [(.array .byte), (.array .byte)], returnType := some .boolean }, accessFlags := 9, code := some k8c2 }
/-- java/lang/StringLatin1 -/
def k8 : Class := { plain "java/lang/StringLatin1" (some 0) with
  accessFlags := 48
  interfaces := #[]
  cf := some (fileOf pool8 14 #[.nestMembers #[390, 221]] #[{ accessFlags := 0, nameIndex := 7, descriptorIndex := 8, attributes := #[] }, { accessFlags := 9, nameIndex := 252, descriptorIndex := 53, attributes := #[] }, { accessFlags := 9, nameIndex := 281, descriptorIndex := 282, attributes := #[] }] 48 4 #[] #[{ accessFlags := 4120, nameIndex := 121, descriptorIndex := 122, attributes := #[] }])
  fields := #[{ name := "$assertionsDisabled", type := .boolean, accessFlags := 4120, slot := 0, constantValue := 0 }]
  methods := #[k8m0, k8m1, k8m2]
  instanceTypes := #[]
  staticTypes := #[.boolean]
  resolved := Array.replicate 395 none
  statics := none }

def pool9 : Array CpInfo := pool [(2, .class_ 4), (1, u "java/lang/Object"), (0, u "<init>"), (0, u "()V"), (17, .class_ 26), (1, u "jdk/internal/util/Preconditions"), (6, u "checkIndex"), (21, .class_ 56), (0, u "jdk/internal/util/Preconditions$4"), (57, .class_ 115), (0, u "jdk/internal/util/Preconditions$1"), (7, u "SIOOBE_FORMATTER"), (0, u "Ljava/util/function/BiFunction;"), (0, .class_ 126), (0, u "jdk/internal/util/Preconditions$2"), (3, u "AIOOBE_FORMATTER"), (0, .class_ 132), (0, u "jdk/internal/util/Preconditions$3"), (3, u "IOOBE_FORMATTER"), (41, u "(IILjava/util/function/BiFunction;)I")] 15

def k9m0 : Method := { name := "<init>", desc := "()V", sig := { parameters := [], returnType := none }, accessFlags := 1, code := none }
def k9c1 : Code := { maxStack := 3, maxLocals := 3, code := jdk_41_method_11_code, exceptionTable := #[], attributes := #[] }
def k9m1 : Method := { name := "checkIndex", desc := "(IILjava/util/function/BiFunction;)I", sig := { parameters := [.int, .int, (.object "java/util/function/BiFunction")], returnType := some .int }, accessFlags := 9, code := some k9c1 }
/-- jdk/internal/util/Preconditions -/
def k9 : Class := { plain "jdk/internal/util/Preconditions" (some 0) with
  accessFlags := 33
  interfaces := #[]
  cf := some (fileOf pool9 24 #[.nestMembers #[55, 131, 125, 114]] #[{ accessFlags := 1, nameIndex := 5, descriptorIndex := 6, attributes := #[] }, { accessFlags := 9, nameIndex := 33, descriptorIndex := 178, attributes := #[] }] 33 2 #[] #[{ accessFlags := 25, nameIndex := 123, descriptorIndex := 124, attributes := #[] }, { accessFlags := 25, nameIndex := 130, descriptorIndex := 124, attributes := #[] }, { accessFlags := 25, nameIndex := 136, descriptorIndex := 124, attributes := #[] }])
  fields := #[{ name := "SIOOBE_FORMATTER", type := (.object "java/util/function/BiFunction"), accessFlags := 25, slot := 0, constantValue := 0 }, { name := "AIOOBE_FORMATTER", type := (.object "java/util/function/BiFunction"), accessFlags := 25, slot := 1, constantValue := 0 }, { name := "IOOBE_FORMATTER", type := (.object "java/util/function/BiFunction"), accessFlags := 25, slot := 2, constantValue := 0 }]
  methods := #[k9m0, k9m1]
  instanceTypes := #[]
  staticTypes := #[(.object "java/util/function/BiFunction"), (.object "java/util/function/BiFunction"), (.object "java/util/function/BiFunction")]
  resolved := Array.replicate 194 none
  statics := some 1 }

def pool10 : Array CpInfo := pool [(6, .class_ 8), (1, u "java/lang/Object"), (0, u "<init>"), (0, u "()V"), (1, .class_ 14), (1, u "java/lang/StringUTF16"), (31, u "$assertionsDisabled"), (0, u "Z"), (13, u "HI_BYTE_SHIFT"), (0, u "I"), (2, u "LO_BYTE_SHIFT"), (49, .methodref 12 116), (0, .nameAndType 117 118), (0, u "compress"), (0, u "([CI[BII)I"), (3, u "([CII)[B"), (138, u "coderFromArrayLen"), (0, u "([BI)B"), (106, .class_ 371), (1, u "java/lang/StringUTF16$LinesSpliterator"), (58, u "MAX_LENGTH"), (196, .class_ 628), (0, u "java/lang/StringUTF16$CodePointsSpliterator"), (0, .class_ 630), (0, u "java/lang/StringUTF16$CharsSpliterator")] 4

def k10m0 : Method := { name := "<init>", desc := "()V", sig := { parameters := [], returnType := none }, accessFlags := 0, code := none }
def k10c1 : Code := { maxStack := 2, maxLocals := 2, code := jdk_52_method_15_code, exceptionTable := #[], attributes := #[] }
def k10m1 : Method := { name := "coderFromArrayLen", desc := "([BI)B", sig := { parameters := [(.array .byte), .int], returnType := some .byte }, accessFlags := 8, code := some k10c1 }
def k10c2 : Code := { maxStack := 5, maxLocals := 6, code := jdk_52_method_16_code, exceptionTable := #[], attributes := #[] }
def k10m2 : Method := { name := "compress", desc := "([CII)[B", sig := { parameters := [(.array .char), .int, .int], returnType := some (.array .byte) }, accessFlags := 9, code := some k10c2 }
def k10c3 : Code := { maxStack := 3, maxLocals := 7, code := jdk_52_method_21_code, exceptionTable := #[], attributes := #[] }
def k10m3 : Method := { name := "compress", desc := "([CI[BII)I", sig := { parameters := [(.array .char), .int, (.array .byte), .int, .int], returnType := some .int }, accessFlags := 9, code := some k10c3 }
/-- java/lang/StringUTF16 -/
def k10 : Class := { plain "java/lang/StringUTF16" (some 0) with
  accessFlags := 48
  interfaces := #[]
  cf := some (fileOf pool10 12 #[.nestMembers #[627, 629, 369]] #[{ accessFlags := 0, nameIndex := 9, descriptorIndex := 10, attributes := #[] }, { accessFlags := 8, nameIndex := 261, descriptorIndex := 262, attributes := #[] }, { accessFlags := 9, nameIndex := 117, descriptorIndex := 122, attributes := #[] }, { accessFlags := 9, nameIndex := 117, descriptorIndex := 118, attributes := #[] }] 48 6 #[] #[{ accessFlags := 26, nameIndex := 61, descriptorIndex := 62, attributes := #[] }, { accessFlags := 26, nameIndex := 65, descriptorIndex := 62, attributes := #[] }, { accessFlags := 24, nameIndex := 430, descriptorIndex := 62, attributes := #[] }, { accessFlags := 4120, nameIndex := 46, descriptorIndex := 47, attributes := #[] }])
  fields := #[{ name := "HI_BYTE_SHIFT", type := .int, accessFlags := 26, slot := 0, constantValue := 0 }, { name := "LO_BYTE_SHIFT", type := .int, accessFlags := 26, slot := 1, constantValue := 0 }, { name := "MAX_LENGTH", type := .int, accessFlags := 24, slot := 2, constantValue := 0 }, { name := "$assertionsDisabled", type := .boolean, accessFlags := 4120, slot := 3, constantValue := 0 }]
  methods := #[k10m0, k10m1, k10m2, k10m3]
  instanceTypes := #[]
  staticTypes := #[.int, .int, .int, .boolean]
  resolved := Array.replicate 635 none
  statics := none }

def pool11 : Array CpInfo := pool [(2, .class_ 4), (1, u "java/lang/Enum"), (0, u "name"), (0, u "Ljava/lang/String;"), (2, u "ordinal"), (0, u "I"), (1, .class_ 14), (1, u "java/lang/Object"), (4, u "hash"), (86, .class_ 108), (1, u "java/lang/Enum$EnumDesc"), (2, .class_ 112), (0, u "java/lang/constant/Constable"), (0, .class_ 114), (0, u "java/lang/Comparable"), (0, .class_ 116), (0, u "java/io/Serializable")] 87

/-- java/lang/Enum -/
def k11 : Class := { plain "java/lang/Enum" (some 0) with
  accessFlags := 1057
  interfaces := #[5, 3, 2]
  cf := some (fileOf pool11 2 #[.nestMembers #[106]] #[] 1057 12 #[111, 113, 115] #[{ accessFlags := 18, nameIndex := 5, descriptorIndex := 6, attributes := #[] }, { accessFlags := 18, nameIndex := 9, descriptorIndex := 10, attributes := #[] }, { accessFlags := 2, nameIndex := 19, descriptorIndex := 10, attributes := #[] }])
  fields := #[{ name := "name", type := (.object "java/lang/String"), accessFlags := 18, slot := 0, constantValue := 0 }, { name := "ordinal", type := .int, accessFlags := 18, slot := 1, constantValue := 0 }, { name := "hash", type := .int, accessFlags := 2, slot := 2, constantValue := 0 }]
  methods := #[]
  instanceTypes := #[(.object "java/lang/String"), .int, .int]
  staticTypes := #[]
  resolved := Array.replicate 204 none
  statics := none }

def pool12 : Array CpInfo := pool [(1, .class_ 2), (0, u "com/example/tri3/tri3/StageKind"), (2, u "FETCH"), (0, u "Lcom/example/tri3/tri3/StageKind;"), (2, u "CALL"), (2, u "SQL"), (2, u "DELIVER"), (0, .fieldref 1 17), (0, .nameAndType 18 19), (0, u "$VALUES"), (0, u "[Lcom/example/tri3/tri3/StageKind;"), (0, .methodref 21 22), (0, .class_ 19), (0, .nameAndType 23 24), (0, u "clone"), (0, u "()Ljava/lang/Object;"), (1, .class_ 28), (1, u "java/lang/Enum"), (6, .fieldref 1 36), (0, .nameAndType 37 38), (0, u "fileName"), (0, u "Ljava/lang/String;"), (0, .methodref 1 40), (0, .nameAndType 41 42), (0, u "values"), (0, u "()[Lcom/example/tri3/tri3/StageKind;"), (0, .methodref 44 45), (0, .class_ 46), (0, .nameAndType 47 48), (0, u "java/lang/String"), (0, u "equals"), (0, u "(Ljava/lang/Object;)Z"), (20, u "(Ljava/lang/String;)Lcom/example/tri3/tri3/StageKind;"), (3, u "named")] 8

def k12c0 : Code := { maxStack := 1, maxLocals := 0, code := prog_28_method_1_code, exceptionTable := #[], attributes := #[] }
def k12m0 : Method := { name := "values", desc := "()[Lcom/example/tri3/tri3/StageKind;", sig := { parameters := [], returnType := some (.array (.object "com/example/tri3/tri3/StageKind")) }, accessFlags := 9, code := some k12c0 }
def k12c1 : Code := { maxStack := 2, maxLocals := 5, code := prog_28_method_4_code, exceptionTable := #[], attributes := #[] }
def k12m1 : Method := { name := "named", desc := "(Ljava/lang/String;)Lcom/example/tri3/tri3/StageKind;", sig := { parameters := [(.object "java/lang/String")], returnType := some (.object "com/example/tri3/tri3/StageKind") }, accessFlags := 8, code := some k12c1 }
/-- com/example/tri3/tri3/StageKind -/
def k12 : Class := { plain "com/example/tri3/tri3/StageKind" (some 11) with
  accessFlags := 16432
  interfaces := #[]
  cf := some (fileOf pool12 1 #[] #[{ accessFlags := 9, nameIndex := 41, descriptorIndex := 42, attributes := #[] }, { accessFlags := 8, nameIndex := 73, descriptorIndex := 69, attributes := #[] }] 16432 26 #[] #[{ accessFlags := 16409, nameIndex := 5, descriptorIndex := 6, attributes := #[] }, { accessFlags := 16409, nameIndex := 9, descriptorIndex := 6, attributes := #[] }, { accessFlags := 16409, nameIndex := 12, descriptorIndex := 6, attributes := #[] }, { accessFlags := 16409, nameIndex := 15, descriptorIndex := 6, attributes := #[] }, { accessFlags := 18, nameIndex := 37, descriptorIndex := 38, attributes := #[] }, { accessFlags := 4122, nameIndex := 18, descriptorIndex := 19, attributes := #[] }])
  fields := #[{ name := "FETCH", type := (.object "com/example/tri3/tri3/StageKind"), accessFlags := 16409, slot := 0, constantValue := 0 }, { name := "CALL", type := (.object "com/example/tri3/tri3/StageKind"), accessFlags := 16409, slot := 1, constantValue := 0 }, { name := "SQL", type := (.object "com/example/tri3/tri3/StageKind"), accessFlags := 16409, slot := 2, constantValue := 0 }, { name := "DELIVER", type := (.object "com/example/tri3/tri3/StageKind"), accessFlags := 16409, slot := 3, constantValue := 0 }, { name := "fileName", type := (.object "java/lang/String"), accessFlags := 18, slot := 3, constantValue := 0 }, { name := "$VALUES", type := (.array (.object "com/example/tri3/tri3/StageKind")), accessFlags := 4122, slot := 4, constantValue := 0 }]
  methods := #[k12m0, k12m1]
  instanceTypes := #[(.object "java/lang/String"), .int, .int, (.object "java/lang/String")]
  staticTypes := #[(.object "com/example/tri3/tri3/StageKind"), (.object "com/example/tri3/tri3/StageKind"), (.object "com/example/tri3/tri3/StageKind"), (.object "com/example/tri3/tri3/StageKind"), (.array (.object "com/example/tri3/tri3/StageKind"))]
  resolved := Array.replicate 82 none
  statics := some 2 }

def pool13 : Array CpInfo := pool [(1, .class_ 2), (0, u "java/lang/Cloneable"), (0, .class_ 4), (0, u "java/lang/Object")] 2

/-- java/lang/Cloneable -/
def k13 : Class := { plain "java/lang/Cloneable" (some 0) with
  accessFlags := 1537
  interfaces := #[]
  cf := some (fileOf pool13 1 #[] #[] 1537 3 #[] #[])
  fields := #[]
  methods := #[]
  instanceTypes := #[]
  staticTypes := #[]
  resolved := Array.replicate 7 none
  statics := none }

def pool14 : Array CpInfo := pool [(9, u "<init>"), (6, .class_ 18), (1, u "java/lang/Object"), (0, u "()V"), (1, .class_ 23), (1, u "jdk/internal/util/ArraysSupport"), (0, u "LOG2_ARRAY_LONG_INDEX_SCALE"), (0, u "I"), (2, u "U"), (0, u "Ljdk/internal/misc/Unsafe;"), (8, u "BIG_ENDIAN"), (0, u "Z"), (8, u "LOG2_BYTE_BIT_SIZE"), (4, u "LOG2_ARRAY_INT_INDEX_SCALE"), (54, u "JLA"), (0, u "Ljdk/internal/access/JavaLangAccess;"), (11, u "LOG2_ARRAY_BOOLEAN_INDEX_SCALE"), (9, u "LOG2_ARRAY_BYTE_INDEX_SCALE"), (5, u "LOG2_ARRAY_CHAR_INDEX_SCALE"), (5, u "LOG2_ARRAY_SHORT_INDEX_SCALE"), (18, u "LOG2_ARRAY_FLOAT_INDEX_SCALE"), (24, u "LOG2_ARRAY_DOUBLE_INDEX_SCALE"), (89, u "T_BOOLEAN"), (2, u "T_CHAR"), (1, u "T_FLOAT"), (1, u "T_DOUBLE"), (1, u "T_BYTE"), (1, u "T_SHORT"), (1, u "T_INT"), (1, u "T_LONG"), (1, u "SOFT_MAX_ARRAY_LENGTH")] 83

def k14m0 : Method := { name := "<init>", desc := "()V", sig := { parameters := [], returnType := none }, accessFlags := 2, code := none }
/-- jdk/internal/util/ArraysSupport -/
def k14 : Class := { plain "jdk/internal/util/ArraysSupport" (some 0) with
  accessFlags := 33
  interfaces := #[]
  cf := some (fileOf pool14 21 #[] #[{ accessFlags := 2, nameIndex := 9, descriptorIndex := 19, attributes := #[] }] 33 16 #[] #[{ accessFlags := 24, nameIndex := 28, descriptorIndex := 29, attributes := #[] }, { accessFlags := 26, nameIndex := 38, descriptorIndex := 39, attributes := #[] }, { accessFlags := 25, nameIndex := 121, descriptorIndex := 25, attributes := #[] }, { accessFlags := 25, nameIndex := 131, descriptorIndex := 25, attributes := #[] }, { accessFlags := 25, nameIndex := 137, descriptorIndex := 25, attributes := #[] }, { accessFlags := 25, nameIndex := 143, descriptorIndex := 25, attributes := #[] }, { accessFlags := 25, nameIndex := 53, descriptorIndex := 25, attributes := #[] }, { accessFlags := 25, nameIndex := 24, descriptorIndex := 25, attributes := #[] }, { accessFlags := 25, nameIndex := 162, descriptorIndex := 25, attributes := #[] }, { accessFlags := 25, nameIndex := 187, descriptorIndex := 25, attributes := #[] }, { accessFlags := 26, nameIndex := 48, descriptorIndex := 25, attributes := #[] }, { accessFlags := 25, nameIndex := 277, descriptorIndex := 25, attributes := #[] }, { accessFlags := 25, nameIndex := 280, descriptorIndex := 25, attributes := #[] }, { accessFlags := 25, nameIndex := 282, descriptorIndex := 25, attributes := #[] }, { accessFlags := 25, nameIndex := 284, descriptorIndex := 25, attributes := #[] }, { accessFlags := 25, nameIndex := 286, descriptorIndex := 25, attributes := #[] }, { accessFlags := 25, nameIndex := 288, descriptorIndex := 25, attributes := #[] }, { accessFlags := 25, nameIndex := 290, descriptorIndex := 25, attributes := #[] }, { accessFlags := 25, nameIndex := 292, descriptorIndex := 25, attributes := #[] }, { accessFlags := 26, nameIndex := 108, descriptorIndex := 109, attributes := #[] }, { accessFlags := 25, nameIndex := 294, descriptorIndex := 25, attributes := #[] }])
  fields := #[{ name := "U", type := (.object "jdk/internal/misc/Unsafe"), accessFlags := 24, slot := 0, constantValue := 0 }, { name := "BIG_ENDIAN", type := .boolean, accessFlags := 26, slot := 1, constantValue := 0 }, { name := "LOG2_ARRAY_BOOLEAN_INDEX_SCALE", type := .int, accessFlags := 25, slot := 2, constantValue := 0 }, { name := "LOG2_ARRAY_BYTE_INDEX_SCALE", type := .int, accessFlags := 25, slot := 3, constantValue := 0 }, { name := "LOG2_ARRAY_CHAR_INDEX_SCALE", type := .int, accessFlags := 25, slot := 4, constantValue := 0 }, { name := "LOG2_ARRAY_SHORT_INDEX_SCALE", type := .int, accessFlags := 25, slot := 5, constantValue := 0 }, { name := "LOG2_ARRAY_INT_INDEX_SCALE", type := .int, accessFlags := 25, slot := 6, constantValue := 0 }, { name := "LOG2_ARRAY_LONG_INDEX_SCALE", type := .int, accessFlags := 25, slot := 7, constantValue := 0 }, { name := "LOG2_ARRAY_FLOAT_INDEX_SCALE", type := .int, accessFlags := 25, slot := 8, constantValue := 0 }, { name := "LOG2_ARRAY_DOUBLE_INDEX_SCALE", type := .int, accessFlags := 25, slot := 9, constantValue := 0 }, { name := "LOG2_BYTE_BIT_SIZE", type := .int, accessFlags := 26, slot := 10, constantValue := 0 }, { name := "T_BOOLEAN", type := .int, accessFlags := 25, slot := 11, constantValue := 0 }, { name := "T_CHAR", type := .int, accessFlags := 25, slot := 12, constantValue := 0 }, { name := "T_FLOAT", type := .int, accessFlags := 25, slot := 13, constantValue := 0 }, { name := "T_DOUBLE", type := .int, accessFlags := 25, slot := 14, constantValue := 0 }, { name := "T_BYTE", type := .int, accessFlags := 25, slot := 15, constantValue := 0 }, { name := "T_SHORT", type := .int, accessFlags := 25, slot := 16, constantValue := 0 }, { name := "T_INT", type := .int, accessFlags := 25, slot := 17, constantValue := 0 }, { name := "T_LONG", type := .int, accessFlags := 25, slot := 18, constantValue := 0 }, { name := "JLA", type := (.object "jdk/internal/access/JavaLangAccess"), accessFlags := 26, slot := 19, constantValue := 0 }, { name := "SOFT_MAX_ARRAY_LENGTH", type := .int, accessFlags := 25, slot := 20, constantValue := 0 }]
  methods := #[k14m0]
  instanceTypes := #[]
  staticTypes := #[(.object "jdk/internal/misc/Unsafe"), .boolean, .int, .int, .int, .int, .int, .int, .int, .int, .int, .int, .int, .int, .int, .int, .int, .int, .int, (.object "jdk/internal/access/JavaLangAccess"), .int]
  resolved := Array.replicate 378 none
  statics := none }

/-- the primitive byte -/
def k15 : Class := { plain "byte" none with kind := .primitive 'B', accessFlags := 0x411 }
/-- [B -/
def k16 : Class := { plain "[B" (some 0) with kind := .array 15 .byte, interfaces := #[13, 2], accessFlags := 1041 }

/-- the primitive char -/
def k17 : Class := { plain "char" none with kind := .primitive 'C', accessFlags := 0x411 }
/-- [C -/
def k18 : Class := { plain "[C" (some 0) with kind := .array 17 .char, interfaces := #[13, 2], accessFlags := 1041 }

/-- the primitive int -/
def k19 : Class := { plain "int" none with kind := .primitive 'I', accessFlags := 0x411 }
/-- [I -/
def k20 : Class := { plain "[I" (some 0) with kind := .array 19 .int, interfaces := #[13, 2], accessFlags := 1041 }

/-- [Lcom/example/tri3/tri3/StageKind; -/
def k21 : Class := { plain "[Lcom/example/tri3/tri3/StageKind;" (some 0) with kind := .array 12 (.object "com/example/tri3/tri3/StageKind"), interfaces := #[13, 2], accessFlags := 1041 }

def heap : Heap := #[{ cls := 7, slots := #[.long 0, .int 1, .null, .int 0, .null, .int 0, .int 0], vm := .statics 7 },
  { cls := 9, slots := #[.null, .null, .null], vm := .statics 9 },
  { cls := 12, slots := #[.ref 4, .ref 5, .ref 6, .ref 7, .ref 3], vm := .statics 12 },
  { cls := 21, slots := #[.ref 4, .ref 5, .ref 6, .ref 7], vm := .none },
  { cls := 12, slots := #[.null, .int 0, .int 0, .ref 8], vm := .none },
  { cls := 12, slots := #[.null, .int 1, .int 0, .ref 9], vm := .none },
  { cls := 12, slots := #[.null, .int 2, .int 0, .ref 10], vm := .none },
  { cls := 12, slots := #[.null, .int 3, .int 0, .ref 11], vm := .none },
  { cls := 7, slots := #[.ref 12, .int 0, .int 0, .int 0], vm := .none },
  { cls := 7, slots := #[.ref 13, .int 0, .int 0, .int 0], vm := .none },
  { cls := 7, slots := #[.ref 14, .int 0, .int 0, .int 0], vm := .none },
  { cls := 7, slots := #[.ref 15, .int 0, .int 0, .int 0], vm := .none },
  { cls := 16, slots := #[.int 102, .int 101, .int 116, .int 99, .int 104], vm := .none },
  { cls := 16, slots := #[.int 99, .int 97, .int 108, .int 108], vm := .none },
  { cls := 16, slots := #[.int 115, .int 113, .int 108], vm := .none },
  { cls := 16, slots := #[.int 100, .int 101, .int 108, .int 105, .int 118, .int 101, .int 114], vm := .none }]
def classes : Array Class := #[k0, k1, k2, k3, k4, k5, k6, k7, k8, k9, k10, k11, k12, k13, k14, k15, k16, k17, k18, k19, k20, k21]
def interned : List (Array UInt16 × Addr) := []
def slotsUsed : Nat := 70
def theMethod : MethodId := ⟨1, 1⟩
def args0 : Array Value := #[.int 5, .int 5, .int 5, .long 5]
def aboutOver (below : List Frame) : State where
  vm := { classes := classes, interned := interned.toArray }
  heap := heap
  slotsUsed := slotsUsed
  threads := #[{ frames := .invoking theMethod args0 :: below }]
def below0 : List Frame := [.native { method := ⟨0, 0⟩, args := #[] }]
def about1 : State := aboutOver below0
def p0 : Program := .bare "" "" ""
def e0 : Env := launch0.env 0 0 0
theorem w_frames : about1.frames = Frame.invoking theMethod args0 :: below0 := rfl
set_option maxRecDepth 65536 in
theorem w_args : argsFit about1.vm theMethod args0 = true := by decide +kernel
set_option maxRecDepth 65536 in
theorem w_heap : heapFits about1 = true := by decide +kernel
set_option maxRecDepth 65536 in
theorem w_runnable : about1.curStatus? = some .runnable := by decide +kernel
set_option maxRecDepth 65536 in
theorem w_alone : about1.alone = true := by decide +kernel
set_option maxRecDepth 65536 in
theorem w_named : about1.methodNamed? x = some theMethod := by decide +kernel
set_option maxRecDepth 65536 in
theorem w_hears : about1.hears theMethod below0 = true := by decide +kernel
set_option maxRecDepth 65536 in
theorem w_ripe : about1.ripe theMethod args0 below0 = true := by decide +kernel
theorem w_running : about1.status = .running := rfl
set_option maxRecDepth 65536 in
theorem w_room : about1.hasRoom e0.platform room_1 = true :=
  launch0.hasRoom_least _ room_1 (by decide +kernel) (by decide +kernel) (by decide +kernel) (by decide +kernel) (by decide +kernel) (by decide +kernel)
theorem allAtoms_all (ts : List Jvm.Cond) (a : Array Jvm.Value) (st : Jvm.State) : (allAtoms ts).before a st = ts.all (fun c => c.before a st) := by
  induction ts with
  | nil => rfl
  | cons c t ih =>
    show (Jvm.Cond.and c (allAtoms t)).before a st = _
    rw [Jvm.Cond.before_and, ih, List.all_cons]
def words1 : List Jvm.Cond := Jvm.Cond.code x code maxLocals ret :: tables_1
/-- a 'code' word, met by the world's own term for the bytes: nothing is compared byte by byte -/
theorem code_word {y : MethodName} {bytes : ByteArray} {mx : Nat} {rt : Option FieldType} {a : Array Value} {s : State} {m : MethodId} {meth : Method} {c : Code} (h1 : s.methodNamed? y = some m) (h2 : s.vm.method? m = some meth) (h3 : meth.code = some c) (h4 : c.code = bytes)
    (h5 : (c.maxLocals == mx && c.exceptionTable.isEmpty && decide (c.maxStack ≤ mostOperands) && decide (meth.sig.returnType = rt) && !meth.locks && decide (parseMethodDescriptor y.desc = some meth.sig)) = true) : (Jvm.Cond.code y bytes mx rt).before a s = true := by
  simp only [Bool.and_eq_true, beq_iff_eq, Bool.not_eq_true', decide_eq_true_eq] at h5
  obtain ⟨⟨⟨⟨⟨g1, g2⟩, g3⟩, g4⟩, g5⟩, g6⟩ := h5
  simp [Cond.before, Cond.holds, Cond.value, h1, h2, h3, h4, g1, g2, g3, g4, g5, g6]
def isCode : Jvm.Cond → Bool
  | .code _ _ _ _ => true
  | _ => false
theorem all_split {L : List Jvm.Cond} {P : Jvm.Cond → Bool} (h1 : L.all (fun c => isCode c || P c) = true) (h2 : ∀ c ∈ L.filter isCode, P c = true) : L.all P = true := by
  refine List.all_eq_true.mpr fun c hc => ?_
  have h := List.all_eq_true.mp h1 c hc
  rcases Bool.eq_false_or_eq_true (isCode c) with hi | hi
  · exact h2 c (List.mem_filter.mpr ⟨hc, hi⟩)
  · simpa [hi] using h
set_option maxRecDepth 65536 in
theorem w_c0 : (Jvm.Cond.code x code maxLocals ret).before args0 about1 = true := code_word (m := ⟨1, 1⟩) (meth := k1m1) (c := k1c1) (by decide +kernel) rfl rfl rfl (by decide +kernel)
set_option maxRecDepth 65536 in
theorem w_c1 : (Jvm.Cond.code ({ cls := "com/example/tri3/tri3/StageKindNamedPinLaw", name := "pick", desc := "(Ljava/lang/String;IJ)C" } : Jvm.MethodName) method_3_code (4 : Nat) (Option.some Jvm.ClassFile.FieldType.char)).before args0 about1 = true := code_word (m := ⟨1, 2⟩) (meth := k1m2) (c := k1c2) (by decide +kernel) rfl rfl rfl (by decide +kernel)
set_option maxRecDepth 65536 in
theorem w_c2 : (Jvm.Cond.code ({ cls := "java/lang/String", name := "length", desc := "()I" } : Jvm.MethodName) jdk_42_method_54_code (1 : Nat) (Option.some Jvm.ClassFile.FieldType.int)).before args0 about1 = true := code_word (m := ⟨7, 2⟩) (meth := k7m2) (c := k7c2) (by decide +kernel) rfl rfl rfl (by decide +kernel)
set_option maxRecDepth 65536 in
theorem w_c3 : (Jvm.Cond.code ({ cls := "java/lang/String", name := "coder", desc := "()B" } : Jvm.MethodName) jdk_42_method_152_code (1 : Nat) (Option.some Jvm.ClassFile.FieldType.byte)).before args0 about1 = true := code_word (m := ⟨7, 6⟩) (meth := k7m6) (c := k7c6) (by decide +kernel) rfl rfl rfl (by decide +kernel)
set_option maxRecDepth 65536 in
theorem w_c4 : (Jvm.Cond.code ({ cls := "java/lang/String", name := "charAt", desc := "(I)C" } : Jvm.MethodName) jdk_42_method_56_code (2 : Nat) (Option.some Jvm.ClassFile.FieldType.char)).before args0 about1 = true := code_word (m := ⟨7, 3⟩) (meth := k7m3) (c := k7c3) (by decide +kernel) rfl rfl rfl (by decide +kernel)
set_option maxRecDepth 65536 in
theorem w_c5 : (Jvm.Cond.code ({ cls := "java/lang/String", name := "isLatin1", desc := "()Z" } : Jvm.MethodName) jdk_42_method_154_code (1 : Nat) (Option.some Jvm.ClassFile.FieldType.boolean)).before args0 about1 = true := code_word (m := ⟨7, 7⟩) (meth := k7m7) (c := k7c7) (by decide +kernel) rfl rfl rfl (by decide +kernel)
set_option maxRecDepth 65536 in
theorem w_c6 : (Jvm.Cond.code ({ cls := "java/lang/StringLatin1", name := "charAt", desc := "([BI)C" } : Jvm.MethodName) jdk_43_method_2_code (2 : Nat) (Option.some Jvm.ClassFile.FieldType.char)).before args0 about1 = true := code_word (m := ⟨8, 1⟩) (meth := k8m1) (c := k8c1) (by decide +kernel) rfl rfl rfl (by decide +kernel)
set_option maxRecDepth 65536 in
theorem w_c7 : (Jvm.Cond.code ({ cls := "java/lang/String", name := "checkIndex", desc := "(II)V" } : Jvm.MethodName) jdk_42_method_155_code (2 : Nat) (Option.none : Option Jvm.ClassFile.FieldType)).before args0 about1 = true := code_word (m := ⟨7, 8⟩) (meth := k7m8) (c := k7c8) (by decide +kernel) rfl rfl rfl (by decide +kernel)
set_option maxRecDepth 65536 in
theorem w_c8 : (Jvm.Cond.code ({ cls := "jdk/internal/util/Preconditions", name := "checkIndex", desc := "(IILjava/util/function/BiFunction;)I" } : Jvm.MethodName) jdk_41_method_11_code (3 : Nat) (Option.some Jvm.ClassFile.FieldType.int)).before args0 about1 = true := code_word (m := ⟨9, 1⟩) (meth := k9m1) (c := k9c1) (by decide +kernel) rfl rfl rfl (by decide +kernel)
set_option maxRecDepth 65536 in
theorem w_c9 : (Jvm.Cond.code ({ cls := "com/example/tri3/tri3/StageKindNamedPinLaw", name := "make", desc := "([CI)Ljava/lang/String;" } : Jvm.MethodName) method_4_code (2 : Nat) (Option.some (Jvm.ClassFile.FieldType.object "java/lang/String"))).before args0 about1 = true := code_word (m := ⟨1, 3⟩) (meth := k1m3) (c := k1c3) (by decide +kernel) rfl rfl rfl (by decide +kernel)
set_option maxRecDepth 65536 in
theorem w_c10 : (Jvm.Cond.code ({ cls := "java/lang/String", name := "<init>", desc := "([C)V" } : Jvm.MethodName) jdk_42_method_3_code (2 : Nat) (Option.none : Option Jvm.ClassFile.FieldType)).before args0 about1 = true := code_word (m := ⟨7, 1⟩) (meth := k7m1) (c := k7c1) (by decide +kernel) rfl rfl rfl (by decide +kernel)
set_option maxRecDepth 65536 in
theorem w_c11 : (Jvm.Cond.code ({ cls := "java/lang/String", name := "<init>", desc := "([CIILjava/lang/Void;)V" } : Jvm.MethodName) jdk_42_method_149_code (6 : Nat) (Option.none : Option Jvm.ClassFile.FieldType)).before args0 about1 = true := code_word (m := ⟨7, 5⟩) (meth := k7m5) (c := k7c5) (by decide +kernel) rfl rfl rfl (by decide +kernel)
set_option maxRecDepth 65536 in
theorem w_c12 : (Jvm.Cond.code ({ cls := "java/lang/Object", name := "<init>", desc := "()V" } : Jvm.MethodName) object_method_1_code (1 : Nat) (Option.none : Option Jvm.ClassFile.FieldType)).before args0 about1 = true := code_word (m := ⟨0, 0⟩) (meth := k0m0) (c := k0c0) (by decide +kernel) rfl rfl rfl (by decide +kernel)
set_option maxRecDepth 65536 in
theorem w_c13 : (Jvm.Cond.code ({ cls := "java/lang/StringUTF16", name := "compress", desc := "([CII)[B" } : Jvm.MethodName) jdk_52_method_16_code (6 : Nat) (Option.some (Jvm.ClassFile.FieldType.array Jvm.ClassFile.FieldType.byte))).before args0 about1 = true := code_word (m := ⟨10, 2⟩) (meth := k10m2) (c := k10c2) (by decide +kernel) rfl rfl rfl (by decide +kernel)
set_option maxRecDepth 65536 in
theorem w_c14 : (Jvm.Cond.code ({ cls := "java/lang/StringUTF16", name := "compress", desc := "([CI[BII)I" } : Jvm.MethodName) jdk_52_method_21_code (7 : Nat) (Option.some Jvm.ClassFile.FieldType.int)).before args0 about1 = true := code_word (m := ⟨10, 3⟩) (meth := k10m3) (c := k10c3) (by decide +kernel) rfl rfl rfl (by decide +kernel)
set_option maxRecDepth 65536 in
theorem w_c15 : (Jvm.Cond.code ({ cls := "java/lang/StringUTF16", name := "coderFromArrayLen", desc := "([BI)B" } : Jvm.MethodName) jdk_52_method_15_code (2 : Nat) (Option.some Jvm.ClassFile.FieldType.byte)).before args0 about1 = true := code_word (m := ⟨10, 1⟩) (meth := k10m1) (c := k10c1) (by decide +kernel) rfl rfl rfl (by decide +kernel)
set_option maxRecDepth 65536 in
theorem w_c16 : (Jvm.Cond.code ({ cls := "java/lang/String", name := "equals", desc := "(Ljava/lang/Object;)Z" } : Jvm.MethodName) jdk_42_method_66_code (3 : Nat) (Option.some Jvm.ClassFile.FieldType.boolean)).before args0 about1 = true := code_word (m := ⟨7, 4⟩) (meth := k7m4) (c := k7c4) (by decide +kernel) rfl rfl rfl (by decide +kernel)
set_option maxRecDepth 65536 in
theorem w_c17 : (Jvm.Cond.code ({ cls := "java/lang/StringLatin1", name := "equals", desc := "([B[B)Z" } : Jvm.MethodName) jdk_43_method_13_code (3 : Nat) (Option.some Jvm.ClassFile.FieldType.boolean)).before args0 about1 = true := code_word (m := ⟨8, 2⟩) (meth := k8m2) (c := k8c2) (by decide +kernel) rfl rfl rfl (by decide +kernel)
set_option maxRecDepth 65536 in
theorem w_c18 : (Jvm.Cond.code ({ cls := "com/example/tri3/tri3/StageKind", name := "named", desc := "(Ljava/lang/String;)Lcom/example/tri3/tri3/StageKind;" } : Jvm.MethodName) prog_28_method_4_code (5 : Nat) (Option.some (Jvm.ClassFile.FieldType.object "com/example/tri3/tri3/StageKind"))).before args0 about1 = true := code_word (m := ⟨12, 1⟩) (meth := k12m1) (c := k12c1) (by decide +kernel) rfl rfl rfl (by decide +kernel)
set_option maxRecDepth 65536 in
theorem w_c19 : (Jvm.Cond.code ({ cls := "com/example/tri3/tri3/StageKind", name := "values", desc := "()[Lcom/example/tri3/tri3/StageKind;" } : Jvm.MethodName) prog_28_method_1_code (0 : Nat) (Option.some (Jvm.ClassFile.FieldType.array (Jvm.ClassFile.FieldType.object "com/example/tri3/tri3/StageKind")))).before args0 about1 = true := code_word (m := ⟨12, 0⟩) (meth := k12m0) (c := k12c0) (by decide +kernel) rfl rfl rfl (by decide +kernel)
def codes1 : List Jvm.Cond := [Jvm.Cond.code x code maxLocals ret, Jvm.Cond.code ({ cls := "com/example/tri3/tri3/StageKindNamedPinLaw", name := "pick", desc := "(Ljava/lang/String;IJ)C" } : Jvm.MethodName) method_3_code (4 : Nat) (Option.some Jvm.ClassFile.FieldType.char), Jvm.Cond.code ({ cls := "java/lang/String", name := "length", desc := "()I" } : Jvm.MethodName) jdk_42_method_54_code (1 : Nat) (Option.some Jvm.ClassFile.FieldType.int), Jvm.Cond.code ({ cls := "java/lang/String", name := "coder", desc := "()B" } : Jvm.MethodName) jdk_42_method_152_code (1 : Nat) (Option.some Jvm.ClassFile.FieldType.byte), Jvm.Cond.code ({ cls := "java/lang/String", name := "charAt", desc := "(I)C" } : Jvm.MethodName) jdk_42_method_56_code (2 : Nat) (Option.some Jvm.ClassFile.FieldType.char), Jvm.Cond.code ({ cls := "java/lang/String", name := "isLatin1", desc := "()Z" } : Jvm.MethodName) jdk_42_method_154_code (1 : Nat) (Option.some Jvm.ClassFile.FieldType.boolean), Jvm.Cond.code ({ cls := "java/lang/StringLatin1", name := "charAt", desc := "([BI)C" } : Jvm.MethodName) jdk_43_method_2_code (2 : Nat) (Option.some Jvm.ClassFile.FieldType.char), Jvm.Cond.code ({ cls := "java/lang/String", name := "checkIndex", desc := "(II)V" } : Jvm.MethodName) jdk_42_method_155_code (2 : Nat) (Option.none : Option Jvm.ClassFile.FieldType), Jvm.Cond.code ({ cls := "jdk/internal/util/Preconditions", name := "checkIndex", desc := "(IILjava/util/function/BiFunction;)I" } : Jvm.MethodName) jdk_41_method_11_code (3 : Nat) (Option.some Jvm.ClassFile.FieldType.int), Jvm.Cond.code ({ cls := "com/example/tri3/tri3/StageKindNamedPinLaw", name := "make", desc := "([CI)Ljava/lang/String;" } : Jvm.MethodName) method_4_code (2 : Nat) (Option.some (Jvm.ClassFile.FieldType.object "java/lang/String")), Jvm.Cond.code ({ cls := "java/lang/String", name := "<init>", desc := "([C)V" } : Jvm.MethodName) jdk_42_method_3_code (2 : Nat) (Option.none : Option Jvm.ClassFile.FieldType), Jvm.Cond.code ({ cls := "java/lang/String", name := "<init>", desc := "([CIILjava/lang/Void;)V" } : Jvm.MethodName) jdk_42_method_149_code (6 : Nat) (Option.none : Option Jvm.ClassFile.FieldType), Jvm.Cond.code ({ cls := "java/lang/Object", name := "<init>", desc := "()V" } : Jvm.MethodName) object_method_1_code (1 : Nat) (Option.none : Option Jvm.ClassFile.FieldType), Jvm.Cond.code ({ cls := "java/lang/StringUTF16", name := "compress", desc := "([CII)[B" } : Jvm.MethodName) jdk_52_method_16_code (6 : Nat) (Option.some (Jvm.ClassFile.FieldType.array Jvm.ClassFile.FieldType.byte)), Jvm.Cond.code ({ cls := "java/lang/StringUTF16", name := "compress", desc := "([CI[BII)I" } : Jvm.MethodName) jdk_52_method_21_code (7 : Nat) (Option.some Jvm.ClassFile.FieldType.int), Jvm.Cond.code ({ cls := "java/lang/StringUTF16", name := "coderFromArrayLen", desc := "([BI)B" } : Jvm.MethodName) jdk_52_method_15_code (2 : Nat) (Option.some Jvm.ClassFile.FieldType.byte), Jvm.Cond.code ({ cls := "java/lang/String", name := "equals", desc := "(Ljava/lang/Object;)Z" } : Jvm.MethodName) jdk_42_method_66_code (3 : Nat) (Option.some Jvm.ClassFile.FieldType.boolean), Jvm.Cond.code ({ cls := "java/lang/StringLatin1", name := "equals", desc := "([B[B)Z" } : Jvm.MethodName) jdk_43_method_13_code (3 : Nat) (Option.some Jvm.ClassFile.FieldType.boolean), Jvm.Cond.code ({ cls := "com/example/tri3/tri3/StageKind", name := "named", desc := "(Ljava/lang/String;)Lcom/example/tri3/tri3/StageKind;" } : Jvm.MethodName) prog_28_method_4_code (5 : Nat) (Option.some (Jvm.ClassFile.FieldType.object "com/example/tri3/tri3/StageKind")), Jvm.Cond.code ({ cls := "com/example/tri3/tri3/StageKind", name := "values", desc := "()[Lcom/example/tri3/tri3/StageKind;" } : Jvm.MethodName) prog_28_method_1_code (0 : Nat) (Option.some (Jvm.ClassFile.FieldType.array (Jvm.ClassFile.FieldType.object "com/example/tri3/tri3/StageKind")))]
set_option maxRecDepth 65536 in
theorem codes_eq : words1.filter isCode = codes1 := rfl
theorem w_codes : ∀ c ∈ words1.filter isCode, c.before args0 about1 = true := by
  rw [codes_eq]
  intro c hc
  simp only [codes1, List.mem_cons, List.not_mem_nil, or_false] at hc
  rcases hc with rfl | rfl | rfl | rfl | rfl | rfl | rfl | rfl | rfl | rfl | rfl | rfl | rfl | rfl | rfl | rfl | rfl | rfl | rfl | rfl
  · exact w_c0
  · exact w_c1
  · exact w_c2
  · exact w_c3
  · exact w_c4
  · exact w_c5
  · exact w_c6
  · exact w_c7
  · exact w_c8
  · exact w_c9
  · exact w_c10
  · exact w_c11
  · exact w_c12
  · exact w_c13
  · exact w_c14
  · exact w_c15
  · exact w_c16
  · exact w_c17
  · exact w_c18
  · exact w_c19
set_option maxRecDepth 65536 in
theorem w_t1 : (words1.take 24).all (fun c => isCode c || c.before args0 about1) = true := by decide +kernel
set_option maxRecDepth 65536 in
theorem w_t2 : ((words1.drop 24).take 24).all (fun c => isCode c || c.before args0 about1) = true := by decide +kernel
set_option maxRecDepth 65536 in
theorem w_t3 : (((words1.drop 24).drop 24).take 24).all (fun c => isCode c || c.before args0 about1) = true := by decide +kernel
set_option maxRecDepth 65536 in
theorem w_t4 : ((((words1.drop 24).drop 24).drop 24).take 24).all (fun c => isCode c || c.before args0 about1) = true := by decide +kernel
set_option maxRecDepth 65536 in
theorem w_t5 : ((((words1.drop 24).drop 24).drop 24).drop 24).all (fun c => isCode c || c.before args0 about1) = true := by decide +kernel
theorem w_tables : (allAtoms (Jvm.Cond.code x code maxLocals ret :: tables_1)).before args0 about1 = true := by
  rw [allAtoms_all]
  show words1.all (fun c => c.before args0 about1) = true
  refine all_split ?_ w_codes
  rw [← List.take_append_drop 24 words1, List.all_append, w_t1, ← List.take_append_drop 24 (words1.drop 24), List.all_append, w_t2, ← List.take_append_drop 24 ((words1.drop 24).drop 24), List.all_append, w_t3, ← List.take_append_drop 24 (((words1.drop 24).drop 24).drop 24), List.all_append, w_t4, w_t5]
  rfl
set_option maxRecDepth 65536 in
theorem w_rest : rest_1_c.before args0 about1 = true := by decide +kernel
set_option maxRecDepth 65536 in
theorem w_case : (Jvm.Cond.and given_1 narrow_1).before args0 about1 = true := by decide +kernel
set_option maxRecDepth 65536 in
theorem w_consts : constsHeld consts_1 about1 := Jvm.Lit.constsHeldB_iff.mp (by decide +kernel)
theorem w_applies : (headSpec (Jvm.Cond.code x code maxLocals ret :: tables_1) room_1).applies x e0.platform about1 = true :=
  (Spec.applies_iff w_frames).mpr ⟨w_running, w_runnable, w_alone, w_named, w_hears, w_ripe, w_room, w_tables⟩
theorem atStart : AtStart classFile x code maxLocals ret World_1 tables_1 room_1 Calls_1 rest_1 Pre_1 launch0 p0 e0 about1 theMethod args0 below0 :=
  ⟨lists_1, trivial, launch0.admits_env _ _ _, launch0.least_env, fairChoices_fair.cas, fairChoices_fair.clock, w_frames, w_args, w_heap, w_applies, ⟨w_consts, trivial⟩, w_rest, w_case⟩
end start1
theorem witness_1 : WitnessClaimed_1 := ⟨start1.p0, start1.e0, start1.about1, start1.theMethod, start1.args0, start1.below0, start1.atStart⟩
end Jvm.Pilot.@@N@@
