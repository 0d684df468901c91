import JvmDerived
import JvmDerived.Pilot.@@N@@Statement
import JvmDerived.Pilot.@@N@@Code
set_option linter.unusedVariables false
set_option linter.unusedSimpArgs false
/- laws to paste: Road.backV (cut by pick.py; bodies as the Statement names them) -/
namespace Jvm.Pilot.@@N@@
namespace StrChars
open Jvm Sem ClassFile Op Lib Jvm.Stand Jvm.Free.XT Jvm.Free.ALB Jvm.Free.JM Jvm.Free
open Jvm.Lib.Cold (StaticIs)
/-- a char array whose places are chars -/
def Ch (a : Addr) (A : Cell) (U : State) : Prop := Arr .char a A U ∧ Typed .char A
theorem Ch.mv {a : Addr} {A : Cell} {U U' : State} (h : Ch a A U) (hal : U.vm.Alike U'.vm) (hh : U'.heap = U.heap) : Ch a A U' := ⟨h.1.mv hal hh, h.2⟩
theorem Ch.keep {a : Addr} {A : Cell} {U U' : State} (h : Ch a A U) (hal : U.vm.Alike U'.vm) (hk : U'.heap[a]? = some A) : Ch a A U' := ⟨h.1.keep hal hk, h.2⟩
/-- what place i of a char[]'s cell holds -/
def cv (A : Cell) (i : Nat) : Int32 := match A.slots[i]? with | some (.int x) => x | _ => 0
theorem Ch.get {a : Addr} {A : Cell} {U : State} (h : Ch a A U) {i : Nat} (hi : i < A.slots.size) : A.slots[i]? = some (.int (cv A i)) := by
  have e := Array.getElem?_eq_getElem hi
  have f := h.2 i _ e
  unfold cv; rw [e]
  generalize A.slots[i] = v at f
  cases v <;> simp [fits] at f ⊢
/-- the byte that i2b leaves of a char -/
def lo8 (x : Int32) : Int32 := x.toInt8.toInt32
theorem fits_lo8 (y : Int32) : fits .byte (.int (lo8 y)) = true := by
  have h1 := y.toInt8.le_toInt
  have h2 := y.toInt8.toInt_lt
  simp only [lo8, fits, Bool.and_eq_true, decide_eq_true_eq, Int32.le_iff_toInt_le, Int8.toInt_toInt32, show (-128 : Int32).toInt = -128 from by decide, show (127 : Int32).toInt = 127 from by decide]
  omega
/-- A' is A but that each place j of lo .. hi - 1 holds f j -/
def Laid (A A' : Cell) (lo hi : Nat) (f : Nat → Value) : Prop := A'.cls = A.cls ∧ A'.vm = A.vm ∧ A'.slots.size = A.slots.size ∧ ∀ i, A'.slots[i]? = if lo ≤ i ∧ i < hi then some (f i) else A.slots[i]?
theorem Laid.zero (A : Cell) (lo : Nat) (f : Nat → Value) : Laid A A lo (lo + 0) f := ⟨rfl, rfl, rfl, fun i => by rw [if_neg (by omega)]⟩
theorem Laid.step {A Ak : Cell} {lo k : Nat} {f : Nat → Value} {v : Value} (h : Laid A Ak lo k f) (hlo : lo ≤ k) (hk : k < Ak.slots.size) (hv : v = f k) : Laid A (Ak.setSlot k v) lo (k + 1) f := by
  refine ⟨h.1, h.2.1, by simpa [Cell.setSlot] using h.2.2.1, fun i => ?_⟩
  by_cases e : k = i
  · subst e; rw [Cell.slots_setSlot_self v hk, if_pos (by omega), hv]
  · rw [Cell.slots_setSlot_ne v e, h.2.2.2 i]
    by_cases q : lo ≤ i ∧ i < k
    · rw [if_pos q, if_pos (by omega)]
    · rw [if_neg q, if_neg (by omega)]
def U16 : String := "java/lang/StringUTF16"
namespace Cmp5
def yN : MethodName := ⟨"java/lang/StringUTF16", "compress", "([CI[BII)I"⟩
abbrev yB : ByteArray := jdk_52_method_21_code
theorem d0 : decode yB 0 = .ok (.iconst 0, 1) := by decide +kernel
theorem d1 : decode yB 1 = .ok (.istore 5, 2) := by decide +kernel
theorem d3 : decode yB 3 = .ok (.iload 5, 2) := by decide +kernel
theorem d5 : decode yB 5 = .ok (.iload 4, 2) := by decide +kernel
theorem d7 : decode yB 7 = .ok (.if_icmp (.ge) 37, 3) := by decide +kernel
theorem d10 : decode yB 10 = .ok (.aload_n 0, 1) := by decide +kernel
theorem d11 : decode yB 11 = .ok (.iload_n 1, 1) := by decide +kernel
theorem d12 : decode yB 12 = .ok (.caload, 1) := by decide +kernel
theorem d13 : decode yB 13 = .ok (.istore 6, 2) := by decide +kernel
theorem d15 : decode yB 15 = .ok (.iload 6, 2) := by decide +kernel
theorem d17 : decode yB 17 = .ok (.sipush 255, 3) := by decide +kernel
theorem d20 : decode yB 20 = .ok (.if_icmp (.le) 6, 3) := by decide +kernel
theorem d26 : decode yB 26 = .ok (.aload_n 2, 1) := by decide +kernel
theorem d27 : decode yB 27 = .ok (.iload_n 3, 1) := by decide +kernel
theorem d28 : decode yB 28 = .ok (.iload 6, 2) := by decide +kernel
theorem d30 : decode yB 30 = .ok (.i2b, 1) := by decide +kernel
theorem d31 : decode yB 31 = .ok (.bastore, 1) := by decide +kernel
theorem d32 : decode yB 32 = .ok (.iinc 1 1, 3) := by decide +kernel
theorem d35 : decode yB 35 = .ok (.iinc 3 1, 3) := by decide +kernel
theorem d38 : decode yB 38 = .ok (.iinc 5 1, 3) := by decide +kernel
theorem d41 : decode yB 41 = .ok (.goto (-38), 3) := by decide +kernel
theorem d44 : decode yB 44 = .ok (.iload 4, 2) := by decide +kernel
theorem d46 : decode yB 46 = .ok (.ireturn, 1) := by decide +kernel
def site : List Cond := []
def tab : Cond := tabOf yN yB 7 (some .int) site
def P (b : Addr) (A : Cell) (d : Addr) (B : Cell) (o q len : Nat) (args : Array Value) (s : State) : Prop := args = #[.ref b, .int (Int32.ofNat o), .ref d, .int (Int32.ofNat q), .int (Int32.ofNat len)] ∧ Ch b A s ∧ Arr .byte d B s ∧ b ≠ d ∧ o + len ≤ A.slots.size ∧ q + len ≤ B.slots.size ∧ ∀ i, i < len → ¬ 255 < cv A (o + i)
def E (b : Addr) (A : Cell) (d : Addr) (B : Cell) (o q len : Nat) (r : Option Value) (s u : State) : Prop := r = some (.int (Int32.ofNat len)) ∧ ∃ B', Put d B' s u ∧ Laid B B' q (q + len) (fun j => Value.int (lo8 (cv A (o + (j - q)))))
/-- no char of the range above 255: len; the places written hold each char's low byte -/
theorem law (l : Launch) (b : Addr) (A : Cell) (d : Addr) (B : Cell) (o q len : Nat) : Law l yN 5 5 0 0 yB 7 (some .int) site (P b A d B o q len) (E b A d B o q len) (copyLocs d q len) 0 0 := by
  refine Law.of_walk (plainFor_of_name (by decide +kernel)) (by decide +kernel) (by decide +kernel) (by decide) (fun _ _ h => by rw [h.1]; rfl) (fun _ U U' hal hh h => ⟨h.1, h.2.1.mv hal hh, h.2.2.1.mv hal hh, h.2.2.2⟩) (fun r U U' V V' h1 hal h2 h => ⟨h.1, h.2.elim fun B' q => ⟨B', q.1.mv h1 h2, q.2⟩⟩) ?_
  intro p e s m args below meth c s₁ X0 hexec hbytes hml hret hlk hnm hown hh0 W hP
  obtain ⟨rfl, hA, hB, hne, l1, l2, hp⟩ := hP
  have c1 : Steps p.tables e below (s₁.setTop (entryFrame m #[.ref b, .int (Int32.ofNat o), .ref d, .int (Int32.ofNat q), .int (Int32.ofNat len)] 7)) (s₁.setTop (mkF m 0 #[.val (.ref b), .val (.int (Int32.ofNat o)), .val (.ref d), .val (.int (Int32.ofNat q)), .val (.int (Int32.ofNat len)), .unset, .unset] [])) := entry rfl
  have hA0 := hA.1.mv X0.warmed.alike hh0
  have hB0 := hB.mv X0.warmed.alike hh0
  have a31 := hA.1.2.2.2
  have c2 : Steps p.tables e below (s₁.setTop (entryFrame m #[.ref b, .int (Int32.ofNat o), .ref d, .int (Int32.ofNat q), .int (Int32.ofNat len)] 7)) (s₁.setTop (mkF m 3 #[.val (.ref b), .val (.int (Int32.ofNat o)), .val (.ref d), .val (.int (Int32.ofNat q)), .val (.int (Int32.ofNat len)), .val (.int 0), .unset] [])) := c1.trans (by
    refine iconstV X0.here hexec rfl 0 (hb hbytes d0) (by decide) ?_
    refine XS.istore X0.here hexec rfl (hb hbytes d1) rfl rfl ?_
    exact Steps.refl _)
  have loop : ∀ (r i : Nat), i + r = len → ∀ (z : Slot), (z = .unset ∨ ∃ w, z = .val w ∧ w.category = 1) → ∀ (Tl : State) (Bk : Cell), Stand p l e { frames := 0, locals := 0, cells := 0, slots := 0 } s m #[.ref b, .int (Int32.ofNat o), .ref d, .int (Int32.ofNat q), .int (Int32.ofNat len)] below meth c Tl ([] ++ copyLocs d q i) 0 0 → Put d Bk s₁ Tl → Laid B Bk q (q + i) (fun j => Value.int (lo8 (cv A (o + (j - q))))) →
      Steps p.tables e below (s₁.setTop (entryFrame m #[.ref b, .int (Int32.ofNat o), .ref d, .int (Int32.ofNat q), .int (Int32.ofNat len)] 7)) (Tl.setTop (mkF m 3 #[.val (.ref b), .val (.int (Int32.ofNat (o + i))), .val (.ref d), .val (.int (Int32.ofNat (q + i))), .val (.int (Int32.ofNat len)), .val (.int (Int32.ofNat i)), z] [])) → ∃ (T' : State) (B' : Cell) (z' : Slot), Stand p l e { frames := 0, locals := 0, cells := 0, slots := 0 } s m #[.ref b, .int (Int32.ofNat o), .ref d, .int (Int32.ofNat q), .int (Int32.ofNat len)] below meth c T' ([] ++ copyLocs d q len) 0 0 ∧ Put d B' s₁ T' ∧ Laid B B' q (q + len) (fun j => Value.int (lo8 (cv A (o + (j - q))))) ∧
      Steps p.tables e below (s₁.setTop (entryFrame m #[.ref b, .int (Int32.ofNat o), .ref d, .int (Int32.ofNat q), .int (Int32.ofNat len)] 7)) (T'.setTop (mkF m 3 #[.val (.ref b), .val (.int (Int32.ofNat (o + len))), .val (.ref d), .val (.int (Int32.ofNat (q + len))), .val (.int (Int32.ofNat len)), .val (.int (Int32.ofNat len)), z'] [])) := by
    intro r
    induction r with
    | zero =>
      intro i hi z hz Tl Bk Xl pl fl cl
      have hil : i = len := by omega
      rw [hil] at Xl fl cl
      exact ⟨Tl, Bk, z, Xl, pl, fl, cl⟩
    | succ r ih =>
      intro i hi z hz Tl Bk Xl pl fl cl
      have all := X0.warmed.alike.symm.trans Xl.warmed.alike
      have hAl := hA0.keep all (pl.other hne hA0.1)
      have hBk := hB0.like all pl.1 fl.1 fl.2.1 fl.2.2.1
      have hlt : q + i < Bk.slots.size := by rw [fl.2.2.1]; omega
      have c3 : Steps p.tables e below (s₁.setTop (entryFrame m #[.ref b, .int (Int32.ofNat o), .ref d, .int (Int32.ofNat q), .int (Int32.ofNat len)] 7)) (Tl.setTop (mkF m 12 #[.val (.ref b), .val (.int (Int32.ofNat (o + i))), .val (.ref d), .val (.int (Int32.ofNat (q + i))), .val (.int (Int32.ofNat len)), .val (.int (Int32.ofNat i)), z] [.int (Int32.ofNat (o + i)), .ref b])) := cl.trans (by
        refine XS.iload Xl.here hexec rfl (hb hbytes d3) rfl ?_
        refine XS.iload Xl.here hexec rfl (hb hbytes d5) rfl ?_
        refine XS.icmpNo Xl.here hexec rfl (hb hbytes d7) rfl (ii_ge_f (lt32 (by omega) (by omega))) ?_
        refine XS.aloadN Xl.here hexec rfl (hb hbytes d10) rfl rfl ?_
        refine XS.iloadN Xl.here hexec rfl (hb hbytes d11) rfl ?_
        exact Steps.refl _)
      have c4 : Steps p.tables e below (s₁.setTop (entryFrame m #[.ref b, .int (Int32.ofNat o), .ref d, .int (Int32.ofNat q), .int (Int32.ofNat len)] 7)) (Tl.setTop (mkF m 13 #[.val (.ref b), .val (.int (Int32.ofNat (o + i))), .val (.ref d), .val (.int (Int32.ofNat (q + i))), .val (.int (Int32.ofNat len)), .val (.int (Int32.ofNat i)), z] [.int (cv A (o + i))])) := c3.trans (by
        refine Xl.aget hexec hAl rfl (hA.get (i := o + i) (by omega)) rfl rfl (hb hbytes d12) ?_
        exact Steps.refl _)
      have c5 : Steps p.tables e below (s₁.setTop (entryFrame m #[.ref b, .int (Int32.ofNat o), .ref d, .int (Int32.ofNat q), .int (Int32.ofNat len)] 7)) (Tl.setTop (mkF m 15 #[.val (.ref b), .val (.int (Int32.ofNat (o + i))), .val (.ref d), .val (.int (Int32.ofNat (q + i))), .val (.int (Int32.ofNat len)), .val (.int (Int32.ofNat i)), .val (.int (cv A (o + i)))] [])) := c4.trans (by
        refine XS.istoreS Xl.here hexec rfl (hb hbytes d13) rfl rfl hz ?_
        exact Steps.refl _)
      have c6 : Steps p.tables e below (s₁.setTop (entryFrame m #[.ref b, .int (Int32.ofNat o), .ref d, .int (Int32.ofNat q), .int (Int32.ofNat len)] 7)) (Tl.setTop (mkF m 31 #[.val (.ref b), .val (.int (Int32.ofNat (o + i))), .val (.ref d), .val (.int (Int32.ofNat (q + i))), .val (.int (Int32.ofNat len)), .val (.int (Int32.ofNat i)), .val (.int (cv A (o + i)))] [.int (lo8 (cv A (o + i))), .int (Int32.ofNat (q + i)), .ref d])) := c5.trans (by
        refine XS.iload Xl.here hexec rfl (hb hbytes d15) rfl ?_
        refine sipushV Xl.here hexec rfl 255 (hb hbytes d17) (by decide) ?_
        refine XS.icmpYes Xl.here hexec rfl (pc0 := 20) rfl (hb hbytes d20) rfl (ii_le_t (hp i (by omega))) (by decide) rfl ?_
        refine XS.aloadN Xl.here hexec rfl (hb hbytes d26) rfl rfl ?_
        refine XS.iloadN Xl.here hexec rfl (hb hbytes d27) rfl ?_
        refine XS.iload Xl.here hexec rfl (hb hbytes d28) rfl ?_
        refine i2b Xl.here hexec rfl (hb hbytes d30) rfl ?_
        exact Steps.refl _)
      obtain ⟨T7, X7, p7, st7⟩ := Xl.aput hexec hBk rfl hlt rfl (fits_lo8 (cv A (o + i))) (g := (mkF m 31 #[.val (.ref b), .val (.int (Int32.ofNat (o + i))), .val (.ref d), .val (.int (Int32.ofNat (q + i))), .val (.int (Int32.ofNat len)), .val (.int (Int32.ofNat i)), .val (.int (cv A (o + i)))] [.int (lo8 (cv A (o + i))), .int (Int32.ofNat (q + i)), .ref d])) rfl (rest := []) rfl (hb hbytes d31)
      have c8 : Steps p.tables e below (s₁.setTop (entryFrame m #[.ref b, .int (Int32.ofNat o), .ref d, .int (Int32.ofNat q), .int (Int32.ofNat len)] 7)) (T7.setTop (mkF m 32 #[.val (.ref b), .val (.int (Int32.ofNat (o + i))), .val (.ref d), .val (.int (Int32.ofNat (q + i))), .val (.int (Int32.ofNat len)), .val (.int (Int32.ofNat i)), .val (.int (cv A (o + i)))] [])) := c6.trans (st7 _ (Steps.refl _))
      have c9 : Steps p.tables e below (s₁.setTop (entryFrame m #[.ref b, .int (Int32.ofNat o), .ref d, .int (Int32.ofNat q), .int (Int32.ofNat len)] 7)) (T7.setTop (mkF m 3 #[.val (.ref b), .val (.int (Int32.ofNat (o + i) + 1)), .val (.ref d), .val (.int (Int32.ofNat (q + i) + 1)), .val (.int (Int32.ofNat len)), .val (.int (Int32.ofNat i + 1)), .val (.int (cv A (o + i)))] [])) := c8.trans (by
        refine iincV X7.here hexec rfl 1 (hb hbytes d32) (by decide) rfl rfl ?_
        refine iincV X7.here hexec rfl 1 (hb hbytes d35) (by decide) rfl rfl ?_
        refine iincV X7.here hexec rfl 1 (hb hbytes d38) (by decide) rfl rfl ?_
        refine XS.goto X7.here hexec rfl (pc0 := 41) rfl (hb hbytes d41) (by decide) rfl ?_
        exact Steps.refl _)
      have c10 : Steps p.tables e below (s₁.setTop (entryFrame m #[.ref b, .int (Int32.ofNat o), .ref d, .int (Int32.ofNat q), .int (Int32.ofNat len)] 7)) (T7.setTop (mkF m 3 #[.val (.ref b), .val (.int (Int32.ofNat (o + (i + 1)))), .val (.ref d), .val (.int (Int32.ofNat (q + (i + 1)))), .val (.int (Int32.ofNat len)), .val (.int (Int32.ofNat (i + 1))), .val (.int (cv A (o + i)))] [])) := by
        have := c9
        rw [succ32, succ32, succ32] at this
        exact this
      exact ih (i + 1) (by omega) _ (Or.inr ⟨_, rfl, rfl⟩) T7 _ (by rw [copyLocs_step, ← List.append_assoc]; exact X7) (pl.trans p7) (fl.step (by omega) hlt (by simp)) c10
  obtain ⟨T9, B9, z9, X9, p9, f9, g9⟩ := loop len 0 (by omega) .unset (Or.inl rfl) s₁ B (by simpa [copyLocs] using X0) ⟨hB0.1, fun _ _ => rfl, rfl⟩ (Laid.zero _ _ _) c2
  have c11 : Steps p.tables e below (s₁.setTop (entryFrame m #[.ref b, .int (Int32.ofNat o), .ref d, .int (Int32.ofNat q), .int (Int32.ofNat len)] 7)) (T9.setTop (mkF m 46 #[.val (.ref b), .val (.int (Int32.ofNat (o + len))), .val (.ref d), .val (.int (Int32.ofNat (q + len))), .val (.int (Int32.ofNat len)), .val (.int (Int32.ofNat len)), z9] [.int (Int32.ofNat len)])) := g9.trans (by
    refine XS.iload X9.here hexec rfl (hb hbytes d3) rfl ?_
    refine XS.iload X9.here hexec rfl (hb hbytes d5) rfl ?_
    refine XS.icmpYes X9.here hexec rfl (pc0 := 7) rfl (hb hbytes d7) rfl (ii_ge_t (nlt32 (by omega) (Nat.le_refl _))) (by decide) rfl ?_
    refine XS.iload X9.here hexec rfl (hb hbytes d44) rfl ?_
    exact Steps.refl _)
  exact ⟨T9, some (.int (Int32.ofNat len)), _, _, _, X9, by simp, rfl, rfl, (fun h => by cases h), ⟨rfl, B9, p9.from hh0, f9⟩, fun fs hl => c11.trans (X9.ireturnOut hexec hret rfl (Or.inl rfl) (hb hbytes d46) hl)⟩
end Cmp5
namespace Cmp3
def yN : MethodName := ⟨"java/lang/StringUTF16", "compress", "([CII)[B"⟩
abbrev yB : ByteArray := jdk_52_method_16_code
theorem d0 : decode yB 0 = .ok (.iload_n 2, 1) := by decide +kernel
theorem d1 : decode yB 1 = .ok (.newarray .byte, 2) := by decide +kernel
theorem d3 : decode yB 3 = .ok (.astore_n 3, 1) := by decide +kernel
theorem d4 : decode yB 4 = .ok (.aload_n 0, 1) := by decide +kernel
theorem d5 : decode yB 5 = .ok (.iload_n 1, 1) := by decide +kernel
theorem d6 : decode yB 6 = .ok (.aload_n 3, 1) := by decide +kernel
theorem d7 : decode yB 7 = .ok (.iconst 0, 1) := by decide +kernel
theorem d8 : decode yB 8 = .ok (.iload_n 2, 1) := by decide +kernel
theorem d9 : decode yB 9 = .ok (.invokestatic 115, 3) := by decide +kernel
theorem d12 : decode yB 12 = .ok (.istore 4, 2) := by decide +kernel
theorem d14 : decode yB 14 = .ok (.iload 4, 2) := by decide +kernel
theorem d16 : decode yB 16 = .ok (.iload_n 2, 1) := by decide +kernel
theorem d17 : decode yB 17 = .ok (.if_icmp (.eq) 40, 3) := by decide +kernel
theorem d57 : decode yB 57 = .ok (.aload_n 3, 1) := by decide +kernel
theorem d58 : decode yB 58 = .ok (.areturn, 1) := by decide +kernel
def site : List Cond := [.arrayClass .byte, Cmp5.tab] ++ staticW U16 115 Cmp5.yN
def tab : Cond := tabOf yN yB 6 (some (.array .byte)) site
def P (b : Addr) (A : Cell) (o len : Nat) (args : Array Value) (s : State) : Prop := args = #[.ref b, .int (Int32.ofNat o), .int (Int32.ofNat len)] ∧ Ch b A s ∧ o + len ≤ A.slots.size ∧ len ≤ 536870912 ∧ ∀ i, i < len → ¬ 255 < cv A (o + i)
def E (b : Addr) (A : Cell) (o len : Nat) (r : Option Value) (s u : State) : Prop := NewArr .byte "[B" len (fun j => .int (lo8 (cv A (o + j)))) r s u ∧ u.heap.size = s.heap.size + 1
/-- no char of the range above 255: a new byte[] of their low bytes -/
theorem law (l : Launch) (b : Addr) (A : Cell) (o len : Nat) : Law l yN 3 3 1 18 yB 6 (some (.array .byte)) site (P b A o len) (E b A o len) [] 1 len := by
  refine Law.of_walk (plainFor_of_name (by decide +kernel)) (by decide +kernel) (by decide +kernel) (by decide) (fun _ _ h => by rw [h.1]; rfl) (fun _ U U' hal hh h => ⟨h.1, h.2.1.mv hal hh, h.2.2⟩) (fun r U U' V V' h1 hal h2 h => ⟨NewArr.mv r U U' V V' h1 hal h2 h.1, by rw [h1, h2]; exact h.2⟩) ?_
  intro p e s m args below meth c s₁ X0 hexec hbytes hml hret hlk hnm hown hh0 W hP
  obtain ⟨rfl, hA, l1, l2, hp⟩ := hP
  have a31 := hA.1.2.2.2
  have c1 : Steps p.tables e below (s₁.setTop (entryFrame m #[.ref b, .int (Int32.ofNat o), .int (Int32.ofNat len)] 6)) (s₁.setTop (mkF m 0 #[.val (.ref b), .val (.int (Int32.ofNat o)), .val (.int (Int32.ofNat len)), .unset, .unset, .unset] [])) := entry rfl
  have c2 : Steps p.tables e below (s₁.setTop (entryFrame m #[.ref b, .int (Int32.ofNat o), .int (Int32.ofNat len)] 6)) (s₁.setTop (mkF m 1 #[.val (.ref b), .val (.int (Int32.ofNat o)), .val (.int (Int32.ofNat len)), .unset, .unset, .unset] [.int (Int32.ofNat len)])) := c1.trans (by
    refine XS.iloadN X0.here hexec rfl (hb hbytes d0) rfl ?_
    exact Steps.refl _)
  obtain ⟨T3, B3, X3, ba3, bs3, bv3, bh3, bf3, st3⟩ := X0.anew hexec (atype := .byte) (wk W (.arrayClass .byte)) rfl (by show len * 1 ≤ _; omega) (by omega) (g := (mkF m 1 #[.val (.ref b), .val (.int (Int32.ofNat o)), .val (.int (Int32.ofNat len)), .unset, .unset, .unset] [.int (Int32.ofNat len)])) rfl (hb hbytes d1) (rest := []) rfl (Nat.le_refl _) (by show 0 + len ≤ len; omega)
  rw [hh0] at ba3 st3
  have kp3 : XT.Kept s T3 := (XT.Kept.of_eq hh0).push bh3
  have hA3 := hA.keep X3.warmed.alike (kp3 _ _ hA.1.1)
  have hne : b ≠ s.heap.size := hA.1.ne
  have c4 : Steps p.tables e below (s₁.setTop (entryFrame m #[.ref b, .int (Int32.ofNat o), .int (Int32.ofNat len)] 6)) (T3.setTop (mkF m 3 #[.val (.ref b), .val (.int (Int32.ofNat o)), .val (.int (Int32.ofNat len)), .unset, .unset, .unset] [.ref s.heap.size])) := c2.trans (st3 _ (Steps.refl _))
  have c5 : Steps p.tables e below (s₁.setTop (entryFrame m #[.ref b, .int (Int32.ofNat o), .int (Int32.ofNat len)] 6)) (T3.setTop (mkF m 9 #[.val (.ref b), .val (.int (Int32.ofNat o)), .val (.int (Int32.ofNat len)), .val (.ref s.heap.size), .unset, .unset] [.int (Int32.ofNat len), .int 0, .ref s.heap.size, .int (Int32.ofNat o), .ref b])) := c4.trans (by
    refine XS.astoreN X3.here hexec rfl (hb hbytes d3) rfl rfl rfl ?_
    refine XS.aloadN X3.here hexec rfl (hb hbytes d4) rfl rfl ?_
    refine XS.iloadN X3.here hexec rfl (hb hbytes d5) rfl ?_
    refine XS.aloadN X3.here hexec rfl (hb hbytes d6) rfl rfl ?_
    refine iconstV X3.here hexec rfl 0 (hb hbytes d7) (by decide) ?_
    refine XS.iloadN X3.here hexec rfl (hb hbytes d8) rfl ?_
    exact Steps.refl _)
  obtain ⟨v6, T6, X6, E6, g6⟩ := X3.callS hexec (Cmp5.law l b A s.heap.size B3 o 0 len) hown (wks W (staticW U16 115 Cmp5.yN)) (wk W Cmp5.tab) (W := 0) (Nat.le_of_ble_eq_true rfl) (Nat.le_of_ble_eq_true rfl) (Nat.le_refl _) (by show 0 + len + 0 ≤ len; omega) (g := (mkF m 9 #[.val (.ref b), .val (.int (Int32.ofNat o)), .val (.int (Int32.ofNat len)), .val (.ref s.heap.size), .unset, .unset] [.int (Int32.ofNat len), .int (Int32.ofNat 0), .ref s.heap.size, .int (Int32.ofNat o), .ref b])) rfl (by rw [hml]; rfl) c5 (argsL := [.ref b, .int (Int32.ofNat o), .ref s.heap.size, .int (Int32.ofNat 0), .int (Int32.ofNat len)]) (rest := []) rfl rfl (by show 2 * 0 + 0 ≤ _; decide) (hb hbytes d9) (⟨rfl, hA3, ba3, hne, l1, by rw [bs3]; simp, hp⟩)
  obtain ⟨rfl, B6, p6, f6⟩ := E6
  have c7 : Steps p.tables e below (s₁.setTop (entryFrame m #[.ref b, .int (Int32.ofNat o), .int (Int32.ofNat len)] 6)) (T6.setTop (mkF m 12 #[.val (.ref b), .val (.int (Int32.ofNat o)), .val (.int (Int32.ofNat len)), .val (.ref s.heap.size), .unset, .unset] [.int (Int32.ofNat len)])) := g6
  have c8 : Steps p.tables e below (s₁.setTop (entryFrame m #[.ref b, .int (Int32.ofNat o), .int (Int32.ofNat len)] 6)) (T6.setTop (mkF m 58 #[.val (.ref b), .val (.int (Int32.ofNat o)), .val (.int (Int32.ofNat len)), .val (.ref s.heap.size), .val (.int (Int32.ofNat len)), .unset] [.ref s.heap.size])) := c7.trans (by
    refine XS.istore X6.here hexec rfl (hb hbytes d12) rfl rfl ?_
    refine XS.iload X6.here hexec rfl (hb hbytes d14) rfl ?_
    refine XS.iloadN X6.here hexec rfl (hb hbytes d16) rfl ?_
    refine XS.icmpYes X6.here hexec rfl (pc0 := 17) rfl (hb hbytes d17) rfl (ii_eq_t rfl) (by decide) rfl ?_
    refine XS.aloadN X6.here hexec rfl (hb hbytes d57) rfl rfl ?_
    exact Steps.refl _)
  have X8 := X6.wide (L' := []) (cells' := 1) (slots' := len) (fun x hx hlt => by
    simp only [List.nil_append, copyLocs, List.mem_map, List.mem_range] at hx
    obtain ⟨i, -, rfl⟩ := hx
    exact absurd hlt (Nat.lt_irrefl _)) (Nat.le_refl _) (by omega)
  exact ⟨T6, some (.ref s.heap.size), _, _, _, X8, rfl, rfl, rfl, (fun h => by cases h), ⟨⟨rfl, B6, ba3.like (X3.warmed.alike.symm.trans X6.warmed.alike) p6.1 f6.1 f6.2.1 f6.2.2.1, f6.2.1.trans bv3, by rw [X6.warmed.alike.findClass, f6.1]; exact bf3, by rw [f6.2.2.1, bs3]; simp, fun j hj => by rw [f6.2.2.2 j, if_pos (by omega)]; rfl, kp3.put p6 (Nat.le_refl _)⟩, by rw [p6.2.2, bh3, hh0]; simp⟩, fun fs hl => c8.trans (X8.areturnOut hexec rfl hret rfl (hb hbytes d58) hl)⟩
end Cmp3
namespace CodL
def yN : MethodName := ⟨"java/lang/StringUTF16", "coderFromArrayLen", "([BI)B"⟩
abbrev yB : ByteArray := jdk_52_method_15_code
theorem d0 : decode yB 0 = .ok (.iload_n 1, 1) := by decide +kernel
theorem d1 : decode yB 1 = .ok (.aload_n 0, 1) := by decide +kernel
theorem d2 : decode yB 2 = .ok (.arraylength, 1) := by decide +kernel
theorem d3 : decode yB 3 = .ok (.isub, 1) := by decide +kernel
theorem d4 : decode yB 4 = .ok (.bipush 31, 2) := by decide +kernel
theorem d6 : decode yB 6 = .ok (.iushr, 1) := by decide +kernel
theorem d7 : decode yB 7 = .ok (.i2b, 1) := by decide +kernel
theorem d8 : decode yB 8 = .ok (.ireturn, 1) := by decide +kernel
def site : List Cond := []
def tab : Cond := tabOf yN yB 2 (some .byte) site
def P (d : Addr) (B : Cell) (args : Array Value) (s : State) : Prop := args = #[.ref d, .int (Int32.ofNat B.slots.size)] ∧ Arr .byte d B s
def E (r : Option Value) (s u : State) : Prop := XT.PureE (some (.int 0)) r s u
/-- an array as long as the number of chars: LATIN1 -/
theorem law (l : Launch) (d : Addr) (B : Cell) : Law l yN 2 2 0 0 yB 2 (some .byte) site (P d B) E [] 0 0 := by
  refine Law.of_walk (plainFor_of_name (by decide +kernel)) (by decide +kernel) (by decide +kernel) (by decide) (fun _ _ h => by rw [h.1]; rfl) (fun _ U U' hal hh h => ⟨h.1, h.2.mv hal hh⟩) (fun r U U' V V' h1 hal h2 h => XT.PureE.mv r U U' V V' h1 hal h2 h) ?_
  intro p e s m args below meth c s₁ X0 hexec hbytes hml hret hlk hnm hown hh0 W hP
  obtain ⟨rfl, hB⟩ := hP
  have hB0 := hB.mv X0.warmed.alike hh0
  have c1 : Steps p.tables e below (s₁.setTop (entryFrame m #[.ref d, .int (Int32.ofNat B.slots.size)] 2)) (s₁.setTop (mkF m 0 #[.val (.ref d), .val (.int (Int32.ofNat B.slots.size))] [])) := entry rfl
  have c2 : Steps p.tables e below (s₁.setTop (entryFrame m #[.ref d, .int (Int32.ofNat B.slots.size)] 2)) (s₁.setTop (mkF m 2 #[.val (.ref d), .val (.int (Int32.ofNat B.slots.size))] [.ref d, .int (Int32.ofNat B.slots.size)])) := c1.trans (by
    refine XS.iloadN X0.here hexec rfl (hb hbytes d0) rfl ?_
    refine XS.aloadN X0.here hexec rfl (hb hbytes d1) rfl rfl ?_
    exact Steps.refl _)
  have c3 : Steps p.tables e below (s₁.setTop (entryFrame m #[.ref d, .int (Int32.ofNat B.slots.size)] 2)) (s₁.setTop (mkF m 8 #[.val (.ref d), .val (.int (Int32.ofNat B.slots.size))] [.int (lo8 (ushr (Int32.ofNat B.slots.size - Int32.ofNat B.slots.size) 31))])) := c2.trans (by
    refine X0.alen hexec hB0 rfl rfl (hb hbytes d2) ?_
    refine XS.isub X0.here hexec rfl (hb hbytes d3) rfl ?_
    refine bipushV X0.here hexec rfl 31 (hb hbytes d4) (by decide) ?_
    refine iushr X0.here hexec rfl (hb hbytes d6) rfl ?_
    refine i2b X0.here hexec rfl (hb hbytes d7) rfl ?_
    exact Steps.refl _)
  have e0 : lo8 (ushr (Int32.ofNat B.slots.size - Int32.ofNat B.slots.size) 31) = 0 := by rw [Int32.sub_self]; decide
  rw [e0] at c3
  exact ⟨s₁, some (.int 0), _, _, _, X0, rfl, rfl, rfl, (fun h => by cases h), ⟨rfl, hh0⟩, fun fs hl => c3.trans (X0.ireturnOut hexec hret rfl (Or.inr (Or.inr (Or.inl rfl))) (hb hbytes d8) hl)⟩
end CodL
/-- the String at a is Latin-1 over a new byte[] (the heap's one new cell): the low bytes of the len chars of A from o on; every cell but a is kept -/
def Got (a : Addr) (D : Cell) (fV fC : Field) (A : Cell) (o len : Nat) (r : Option Value) (s u : State) : Prop := r = none ∧ ∃ D' V : Cell, Blank "java/lang/String" a D' u ∧ Same D D' [fV.slot, fC.slot] ∧ D'.slots[fV.slot]? = some (.ref s.heap.size) ∧ D'.slots[fC.slot]? = some (.int 0) ∧ Arr .byte s.heap.size V u ∧ V.vm = .none ∧ u.vm.findClass "[B" = some V.cls ∧ V.slots.size = len ∧ (∀ j, j < len → V.slots[j]? = some (.int (lo8 (cv A (o + j))))) ∧ (∀ (y : Addr) (c : Cell), y ≠ a → s.heap[y]? = some c → u.heap[y]? = some c) ∧ u.heap.size = s.heap.size + 1
theorem Got.mv {a : Addr} {D A : Cell} {fV fC : Field} {o len : Nat} : ∀ r (U U' V V' : State), U'.heap = U.heap → V.vm.Alike V'.vm → V'.heap = V.heap → Got a D fV fC A o len r U V → Got a D fV fC A o len r U' V' :=
  fun r U U' V V' h1 hal h2 ⟨e0, D', X, a1, a2, a3, a4, a5, a6, a7, a8, a9, a10, a11⟩ => ⟨e0, D', X, a1.mv hal h2, a2, by rw [h1]; exact a3, a4, by rw [h1]; exact a5.mv hal h2, a6, by rw [hal.findClass]; exact a7, a8, a9, by rw [h1, h2]; exact a10, by rw [h1, h2]; exact a11⟩
namespace New4
def yN : MethodName := ⟨"java/lang/String", "<init>", "([CIILjava/lang/Void;)V"⟩
abbrev yB : ByteArray := jdk_42_method_149_code
theorem d0 : decode yB 0 = .ok (.aload_n 0, 1) := by decide +kernel
theorem d1 : decode yB 1 = .ok (.invokespecial 1, 3) := by decide +kernel
theorem d4 : decode yB 4 = .ok (.iload_n 3, 1) := by decide +kernel
theorem d5 : decode yB 5 = .ok (.ifCond (.ne) 22, 3) := by decide +kernel
theorem d27 : decode yB 27 = .ok (.getstatic 38, 3) := by decide +kernel
theorem d30 : decode yB 30 = .ok (.ifCond (.eq) 28, 3) := by decide +kernel
theorem d33 : decode yB 33 = .ok (.aload_n 1, 1) := by decide +kernel
theorem d34 : decode yB 34 = .ok (.iload_n 2, 1) := by decide +kernel
theorem d35 : decode yB 35 = .ok (.iload_n 3, 1) := by decide +kernel
theorem d36 : decode yB 36 = .ok (.invokestatic 177, 3) := by decide +kernel
theorem d39 : decode yB 39 = .ok (.astore 5, 2) := by decide +kernel
theorem d41 : decode yB 41 = .ok (.aload_n 0, 1) := by decide +kernel
theorem d42 : decode yB 42 = .ok (.aload 5, 2) := by decide +kernel
theorem d44 : decode yB 44 = .ok (.iload_n 3, 1) := by decide +kernel
theorem d45 : decode yB 45 = .ok (.invokestatic 47, 3) := by decide +kernel
theorem d48 : decode yB 48 = .ok (.putfield 15, 3) := by decide +kernel
theorem d51 : decode yB 51 = .ok (.aload_n 0, 1) := by decide +kernel
theorem d52 : decode yB 52 = .ok (.aload 5, 2) := by decide +kernel
theorem d54 : decode yB 54 = .ok (.putfield 9, 3) := by decide +kernel
theorem d57 : decode yB 57 = .ok (.return_, 1) := by decide +kernel
def site : List Cond := [.fieldLink "java/lang/String" 38 "java/lang/String" "COMPACT_STRINGS" "Z", Cmp3.tab, CodL.tab, .laysFinal "java/lang/String" "java/lang/String" "value" "[B", .fieldLink "java/lang/String" 9 "java/lang/String" "value" "[B", .laysFinal "java/lang/String" "java/lang/String" "coder" "B", .fieldLink "java/lang/String" 15 "java/lang/String" "coder" "B"] ++ objW "java/lang/String" 1 ++ staticW "java/lang/String" 177 Cmp3.yN ++ staticW "java/lang/String" 47 CodL.yN
def tab : Cond := tabOf yN yB 6 none site
def P (a : Addr) (D : Cell) (fV fC : Field) (b : Addr) (A : Cell) (z : Int32) (o len : Nat) (args : Array Value) (s : State) : Prop := args = #[.ref a, .ref b, .int (Int32.ofNat o), .int (Int32.ofNat len), .null] ∧ Blank "java/lang/String" a D s ∧ Found "java/lang/String" "value" "[B" fV s ∧ Found "java/lang/String" "coder" "B" fC s ∧ Ch b A s ∧ StaticIs s "java/lang/String" "COMPACT_STRINGS" "Z" (.int z) ∧ ¬ z = 0 ∧ 0 < len ∧ o + len ≤ A.slots.size ∧ len ≤ 536870912 ∧ ∀ i, i < len → ¬ 255 < cv A (o + i)
def E (a : Addr) (D : Cell) (fV fC : Field) (A : Cell) (o len : Nat) (r : Option Value) (s u : State) : Prop := Got a D fV fC A o len r s u
/-- len > 0, no char of the range above 255: a Latin-1 String of their low bytes -/
theorem law (l : Launch) (a : Addr) (D : Cell) (fV fC : Field) (b : Addr) (A : Cell) (z : Int32) (o len : Nat) : Law l yN 5 4 2 35 yB 6 none site (P a D fV fC b A z o len) (E a D fV fC A o len) [⟨a, fC.slot⟩, ⟨a, fV.slot⟩] 1 len := by
  refine Law.of_walk (plainFor_of_name (by decide +kernel)) (by decide +kernel) (by decide +kernel) (by decide) (fun _ _ h => by rw [h.1]; rfl) (fun _ U U' hal hh h => ⟨h.1, h.2.1.mv hal hh, h.2.2.1.al hal, h.2.2.2.1.al hal, h.2.2.2.2.1.mv hal hh, h.2.2.2.2.2.1.there hal hh, h.2.2.2.2.2.2⟩) (fun r U U' V V' h1 hal h2 h => Got.mv r U U' V V' h1 hal h2 h) ?_
  intro p e s m args below meth c s₁ X0 hexec hbytes hml hret hlk hnm hown hh0 W hP
  obtain ⟨rfl, hB, f1, f2, hA, s1, hz, l0, l1, l2, hp⟩ := hP
  have a31 := hA.1.2.2.2
  have c1 : Steps p.tables e below (s₁.setTop (entryFrame m #[.ref a, .ref b, .int (Int32.ofNat o), .int (Int32.ofNat len), .null] 6)) (s₁.setTop (mkF m 0 #[.val (.ref a), .val (.ref b), .val (.int (Int32.ofNat o)), .val (.int (Int32.ofNat len)), .val .null, .unset] [])) := entry rfl
  have c2 : Steps p.tables e below (s₁.setTop (entryFrame m #[.ref a, .ref b, .int (Int32.ofNat o), .int (Int32.ofNat len), .null] 6)) (s₁.setTop (mkF m 1 #[.val (.ref a), .val (.ref b), .val (.int (Int32.ofNat o)), .val (.int (Int32.ofNat len)), .val .null, .unset] [.ref a])) := c1.trans (by
    refine XS.aloadN X0.here hexec rfl (hb hbytes d0) rfl rfl ?_
    exact Steps.refl _)
  obtain ⟨T3, X3, q3, st3⟩ := X0.oinit hexec hown (wks W (objW "java/lang/String" 1)) (g := (mkF m 1 #[.val (.ref a), .val (.ref b), .val (.int (Int32.ofNat o)), .val (.int (Int32.ofNat len)), .val .null, .unset] [.ref a])) rfl (by rw [hml]; rfl) (rest := []) rfl (hb hbytes d1) (W := 0) (by show 2 * 0 + 0 ≤ _; decide) (Nat.le_of_ble_eq_true rfl) (Nat.le_of_ble_eq_true rfl)
  have hh3 := q3.trans hh0
  have c4 : Steps p.tables e below (s₁.setTop (entryFrame m #[.ref a, .ref b, .int (Int32.ofNat o), .int (Int32.ofNat len), .null] 6)) (T3.setTop (mkF m 27 #[.val (.ref a), .val (.ref b), .val (.int (Int32.ofNat o)), .val (.int (Int32.ofNat len)), .val .null, .unset] [])) := (c2.trans (st3 _ (Steps.refl _))).trans (by
    refine XS.iloadN X3.here hexec rfl (hb hbytes d4) rfl ?_
    refine XS.ifYes X3.here hexec rfl (pc0 := 5) rfl (hb hbytes d5) rfl (i0_ne_t (nz32 (by omega) l0)) (by decide) rfl ?_
    exact Steps.refl _)
  obtain ⟨T5, X5, q5, st5⟩ := X3.sget hexec hown (wk W (.fieldLink "java/lang/String" 38 "java/lang/String" "COMPACT_STRINGS" "Z")) s1 (fun _ _ h => by rw [hh3]; exact h) (g := (mkF m 27 #[.val (.ref a), .val (.ref b), .val (.int (Int32.ofNat o)), .val (.int (Int32.ofNat len)), .val .null, .unset] [])) rfl (hb hbytes d27)
  have hh5 := q5.trans hh3
  have c6 : Steps p.tables e below (s₁.setTop (entryFrame m #[.ref a, .ref b, .int (Int32.ofNat o), .int (Int32.ofNat len), .null] 6)) (T5.setTop (mkF m 30 #[.val (.ref a), .val (.ref b), .val (.int (Int32.ofNat o)), .val (.int (Int32.ofNat len)), .val .null, .unset] [.int z])) := c4.trans (st5 _ (Steps.refl _))
  have c7 : Steps p.tables e below (s₁.setTop (entryFrame m #[.ref a, .ref b, .int (Int32.ofNat o), .int (Int32.ofNat len), .null] 6)) (T5.setTop (mkF m 36 #[.val (.ref a), .val (.ref b), .val (.int (Int32.ofNat o)), .val (.int (Int32.ofNat len)), .val .null, .unset] [.int (Int32.ofNat len), .int (Int32.ofNat o), .ref b])) := c6.trans (by
    refine XS.ifNo X5.here hexec rfl (hb hbytes d30) rfl (i0_eq_f hz) ?_
    refine XS.aloadN X5.here hexec rfl (hb hbytes d33) rfl rfl ?_
    refine XS.iloadN X5.here hexec rfl (hb hbytes d34) rfl ?_
    refine XS.iloadN X5.here hexec rfl (hb hbytes d35) rfl ?_
    exact Steps.refl _)
  obtain ⟨v8, T8, X8, E8, g8⟩ := X5.callS hexec (Cmp3.law l b A o len) hown (wks W (staticW "java/lang/String" 177 Cmp3.yN)) (wk W Cmp3.tab) (W := 0) (Nat.le_of_ble_eq_true rfl) (Nat.le_of_ble_eq_true rfl) (Nat.le_refl _) (by show 0 + len ≤ len; omega) (g := (mkF m 36 #[.val (.ref a), .val (.ref b), .val (.int (Int32.ofNat o)), .val (.int (Int32.ofNat len)), .val .null, .unset] [.int (Int32.ofNat len), .int (Int32.ofNat o), .ref b])) rfl (by rw [hml]; rfl) c7 (argsL := [.ref b, .int (Int32.ofNat o), .int (Int32.ofNat len)]) (rest := []) rfl rfl (by show 2 * 0 + 0 ≤ _; decide) (hb hbytes d36) (⟨rfl, hA.mv X5.warmed.alike hh5, l1, l2, hp⟩)
  obtain ⟨e8, z8⟩ := E8
  obtain ⟨rfl, N, n1, n2, n3, n4, n5, n6⟩ := NewArr.mv _ T5 s _ _ hh5.symm (Vm.Alike.refl _) rfl e8
  rw [hh5] at z8
  have hB1 := hB.keep X8.warmed.alike (n6 _ _ hB.1)
  have hne : s.heap.size ≠ a := (Nat.ne_of_lt (Array.getElem?_eq_some_iff.mp hB.1).1).symm
  have c9 : Steps p.tables e below (s₁.setTop (entryFrame m #[.ref a, .ref b, .int (Int32.ofNat o), .int (Int32.ofNat len), .null] 6)) (T8.setTop (mkF m 39 #[.val (.ref a), .val (.ref b), .val (.int (Int32.ofNat o)), .val (.int (Int32.ofNat len)), .val .null, .unset] [.ref s.heap.size])) := g8
  have c10 : Steps p.tables e below (s₁.setTop (entryFrame m #[.ref a, .ref b, .int (Int32.ofNat o), .int (Int32.ofNat len), .null] 6)) (T8.setTop (mkF m 45 #[.val (.ref a), .val (.ref b), .val (.int (Int32.ofNat o)), .val (.int (Int32.ofNat len)), .val .null, .val (.ref s.heap.size)] [.int (Int32.ofNat N.slots.size), .ref s.heap.size, .ref a])) := by
    have hc : Steps p.tables e below (s₁.setTop (entryFrame m #[.ref a, .ref b, .int (Int32.ofNat o), .int (Int32.ofNat len), .null] 6)) (T8.setTop (mkF m 45 #[.val (.ref a), .val (.ref b), .val (.int (Int32.ofNat o)), .val (.int (Int32.ofNat len)), .val .null, .val (.ref s.heap.size)] [.int (Int32.ofNat len), .ref s.heap.size, .ref a])) := c9.trans (by
      refine XS.astore X8.here hexec rfl (hb hbytes d39) rfl rfl rfl ?_
      refine XS.aloadN X8.here hexec rfl (hb hbytes d41) rfl rfl ?_
      refine XS.aload X8.here hexec rfl (hb hbytes d42) rfl rfl ?_
      refine XS.iloadN X8.here hexec rfl (hb hbytes d44) rfl ?_
      exact Steps.refl _)
    rw [n4]; exact hc
  obtain ⟨v11, T11, X11, E11, g11⟩ := X8.callS hexec (CodL.law l s.heap.size N) hown (wks W (staticW "java/lang/String" 47 CodL.yN)) (wk W CodL.tab) (W := 1) (Nat.le_of_ble_eq_true rfl) (Nat.le_of_ble_eq_true rfl) (Nat.le_refl _) (by show 0 + len + 0 ≤ len; omega) (g := (mkF m 45 #[.val (.ref a), .val (.ref b), .val (.int (Int32.ofNat o)), .val (.int (Int32.ofNat len)), .val .null, .val (.ref s.heap.size)] [.int (Int32.ofNat N.slots.size), .ref s.heap.size, .ref a])) rfl (by rw [hml]; rfl) c10 (argsL := [.ref s.heap.size, .int (Int32.ofNat N.slots.size)]) (rest := [.ref a]) rfl rfl (by show 2 * 0 + (1 + 0) ≤ _; decide) (hb hbytes d45) (⟨rfl, n1⟩)
  obtain ⟨rfl, q11⟩ := E11
  have hB11 := hB1.mv (X8.warmed.alike.symm.trans X11.warmed.alike) q11
  have c12 : Steps p.tables e below (s₁.setTop (entryFrame m #[.ref a, .ref b, .int (Int32.ofNat o), .int (Int32.ofNat len), .null] 6)) (T11.setTop (mkF m 48 #[.val (.ref a), .val (.ref b), .val (.int (Int32.ofNat o)), .val (.int (Int32.ofNat len)), .val .null, .val (.ref s.heap.size)] [.int 0, .ref a])) := g11
  obtain ⟨T13, X13, p13, bl13, sl13, st13⟩ := X11.finit hexec hown (wk W (.fieldLink "java/lang/String" 15 "java/lang/String" "coder" "B")) (Or.inr ⟨_, (wk W (.laysFinal "java/lang/String" "java/lang/String" "coder" "B"))⟩) (Or.inl ⟨rfl, hnm⟩) f2 (Or.inl rfl) hB11 (t := .byte) (by decide +kernel) rfl (g := (mkF m 48 #[.val (.ref a), .val (.ref b), .val (.int (Int32.ofNat o)), .val (.int (Int32.ofNat len)), .val .null, .val (.ref s.heap.size)] [.int 0, .ref a])) rfl (rest := []) rfl (hb hbytes d48)
  have c14 : Steps p.tables e below (s₁.setTop (entryFrame m #[.ref a, .ref b, .int (Int32.ofNat o), .int (Int32.ofNat len), .null] 6)) (T13.setTop (mkF m 54 #[.val (.ref a), .val (.ref b), .val (.int (Int32.ofNat o)), .val (.int (Int32.ofNat len)), .val .null, .val (.ref s.heap.size)] [.ref s.heap.size, .ref a])) := (c12.trans (st13 _ (Steps.refl _))).trans (by
    refine XS.aloadN X13.here hexec rfl (hb hbytes d51) rfl rfl ?_
    refine XS.aload X13.here hexec rfl (hb hbytes d52) rfl rfl ?_
    exact Steps.refl _)
  obtain ⟨T15, X15, p15, bl15, sl15, st15⟩ := X13.finit hexec hown (wk W (.fieldLink "java/lang/String" 9 "java/lang/String" "value" "[B")) (Or.inr ⟨_, (wk W (.laysFinal "java/lang/String" "java/lang/String" "value" "[B"))⟩) (Or.inl ⟨rfl, hnm⟩) f1 (Or.inl rfl) bl13 (t := (.array .byte)) (by decide +kernel) rfl (g := (mkF m 54 #[.val (.ref a), .val (.ref b), .val (.int (Int32.ofNat o)), .val (.int (Int32.ofNat len)), .val .null, .val (.ref s.heap.size)] [.ref s.heap.size, .ref a])) rfl (rest := []) rfl (hb hbytes d54)
  have c16 : Steps p.tables e below (s₁.setTop (entryFrame m #[.ref a, .ref b, .int (Int32.ofNat o), .int (Int32.ofNat len), .null] 6)) (T15.setTop (mkF m 57 #[.val (.ref a), .val (.ref b), .val (.int (Int32.ofNat o)), .val (.int (Int32.ofNat len)), .val .null, .val (.ref s.heap.size)] [])) := c14.trans (st15 _ (Steps.refl _))
  have ap := apart (Or.inr ⟨_, (wk W (.laysFinal "java/lang/String" "java/lang/String" "value" "[B"))⟩) (Or.inr ⟨_, (wk W (.laysFinal "java/lang/String" "java/lang/String" "coder" "B"))⟩) f1 f2 (t₁ := .array .byte) (t₂ := .byte) (by decide +kernel) (by decide +kernel) (by decide)
  have al := X8.warmed.alike.symm.trans X15.warmed.alike
  have n7 : T11.heap[s.heap.size]? = some N := by rw [q11]; exact n1.1
  exact ⟨T15, none, _, _, _, X15, by simp, rfl, by omega, (fun _ => rfl), ⟨rfl, _, N, bl15, ((Same.refl D _).set _ (by simp)).set _ (by simp), sl15, (Cell.slots_setSlot_ne _ ap).trans sl13, n1.keep al (p15.other hne (p13.other hne n7)), n2, by rw [al.findClass]; exact n3, n4, n5, fun y c h1 h2 => p15.other h1 (p13.other h1 (by rw [q11]; exact n6 y c h2)), by rw [p15.2.2, p13.2.2, q11]; exact z8⟩, fun fs hl => c16.trans (X15.returnOut hexec hret (hb hbytes d57) hl)⟩
end New4
namespace New1
def yN : MethodName := ⟨"java/lang/String", "<init>", "([C)V"⟩
abbrev yB : ByteArray := jdk_42_method_3_code
theorem d0 : decode yB 0 = .ok (.aload_n 0, 1) := by decide +kernel
theorem d1 : decode yB 1 = .ok (.aload_n 1, 1) := by decide +kernel
theorem d2 : decode yB 2 = .ok (.iconst 0, 1) := by decide +kernel
theorem d3 : decode yB 3 = .ok (.aload_n 1, 1) := by decide +kernel
theorem d4 : decode yB 4 = .ok (.arraylength, 1) := by decide +kernel
theorem d5 : decode yB 5 = .ok (.aconst_null, 1) := by decide +kernel
theorem d6 : decode yB 6 = .ok (.invokespecial 27, 3) := by decide +kernel
theorem d9 : decode yB 9 = .ok (.return_, 1) := by decide +kernel
def site : List Cond := [New4.tab] ++ initW "java/lang/String" 27 New4.yN
def tab : Cond := tabOf yN yB 2 none site
def P (a : Addr) (D : Cell) (fV fC : Field) (b : Addr) (A : Cell) (z : Int32) (args : Array Value) (s : State) : Prop := args = #[.ref a, .ref b] ∧ Blank "java/lang/String" a D s ∧ Found "java/lang/String" "value" "[B" fV s ∧ Found "java/lang/String" "coder" "B" fC s ∧ Ch b A s ∧ StaticIs s "java/lang/String" "COMPACT_STRINGS" "Z" (.int z) ∧ ¬ z = 0 ∧ 0 < A.slots.size ∧ A.slots.size ≤ 536870912 ∧ ∀ i, i < A.slots.size → ¬ 255 < cv A i
def E (a : Addr) (D : Cell) (fV fC : Field) (A : Cell) (r : Option Value) (s u : State) : Prop := Got a D fV fC A 0 A.slots.size r s u
/-- new String(chars), not empty, no char above 255: a Latin-1 String of their low bytes -/
theorem law (l : Launch) (a : Addr) (D : Cell) (fV fC : Field) (b : Addr) (A : Cell) (z : Int32) : Law l yN 2 1 3 52 yB 2 none site (P a D fV fC b A z) (E a D fV fC A) [⟨a, fC.slot⟩, ⟨a, fV.slot⟩] 1 A.slots.size := by
  refine Law.of_walk (plainFor_of_name (by decide +kernel)) (by decide +kernel) (by decide +kernel) (by decide) (fun _ _ h => by rw [h.1]; rfl) (fun _ U U' hal hh h => ⟨h.1, h.2.1.mv hal hh, h.2.2.1.al hal, h.2.2.2.1.al hal, h.2.2.2.2.1.mv hal hh, h.2.2.2.2.2.1.there hal hh, h.2.2.2.2.2.2⟩) (fun r U U' V V' h1 hal h2 h => Got.mv r U U' V V' h1 hal h2 h) ?_
  intro p e s m args below meth c s₁ X0 hexec hbytes hml hret hlk hnm hown hh0 W hP
  obtain ⟨rfl, hB, f1, f2, hA, s1, hz, l0, l2, hp⟩ := hP
  have c1 : Steps p.tables e below (s₁.setTop (entryFrame m #[.ref a, .ref b] 2)) (s₁.setTop (mkF m 0 #[.val (.ref a), .val (.ref b)] [])) := entry rfl
  have c2 : Steps p.tables e below (s₁.setTop (entryFrame m #[.ref a, .ref b] 2)) (s₁.setTop (mkF m 6 #[.val (.ref a), .val (.ref b)] [.null, .int (Int32.ofNat A.slots.size), .int 0, .ref b, .ref a])) := c1.trans (by
    refine XS.aloadN X0.here hexec rfl (hb hbytes d0) rfl rfl ?_
    refine XS.aloadN X0.here hexec rfl (hb hbytes d1) rfl rfl ?_
    refine iconstV X0.here hexec rfl 0 (hb hbytes d2) (by decide) ?_
    refine XS.aloadN X0.here hexec rfl (hb hbytes d3) rfl rfl ?_
    refine X0.alen hexec (hA.1.mv X0.warmed.alike hh0) rfl rfl (hb hbytes d4) ?_
    refine XS.aconstNull X0.here hexec rfl (hb hbytes d5) ?_
    exact Steps.refl _)
  obtain ⟨v3, T3, X3, E3, g3⟩ := X0.callN hexec (New4.law l a D fV fC b A z 0 A.slots.size) rfl hown (wks W (initW "java/lang/String" 27 New4.yN)) (W New4.tab (by simp only [site, List.mem_cons, List.mem_append, true_or, or_true])) (W := 0) (Nat.le_of_ble_eq_true rfl) (Nat.le_of_ble_eq_true rfl) (Nat.le_refl _) (by show 0 + A.slots.size ≤ A.slots.size; omega) (g := (mkF m 6 #[.val (.ref a), .val (.ref b)] [.null, .int (Int32.ofNat A.slots.size), .int (Int32.ofNat 0), .ref b, .ref a])) rfl (by rw [hml]; rfl) c2 (argsL := [.ref b, .int (Int32.ofNat 0), .int (Int32.ofNat A.slots.size), .null]) (rest := []) rfl rfl (by show 2 * 0 + 0 ≤ _; decide) (hb hbytes d6) (⟨rfl, hB.mv X0.warmed.alike hh0, f1.al X0.warmed.alike, f2.al X0.warmed.alike, hA.mv X0.warmed.alike hh0, s1.there X0.warmed.alike hh0, hz, l0, by omega, l2, fun i hi => by rw [Nat.zero_add]; exact hp i hi⟩)
  have e0 := Got.mv _ s₁ s _ _ hh0.symm (Vm.Alike.refl _) rfl E3
  obtain rfl := e0.1
  have c4 : Steps p.tables e below (s₁.setTop (entryFrame m #[.ref a, .ref b] 2)) (T3.setTop (mkF m 9 #[.val (.ref a), .val (.ref b)] [])) := g3
  exact ⟨T3, none, _, _, _, X3, by simp, rfl, by omega, (fun _ => rfl), e0, fun fs hl => c4.trans (X3.returnOut hexec hret (hb hbytes d9) hl)⟩
theorem pays {l : Launch} {R : Room} {p : Program} {e : Env} {below : List Frame} {s : State} {sargs : Array Value} {len W : Nat} (a : Addr) (D : Cell) (fV fC : Field) (b : Addr) (A : Cell) (z : Int32) (htab : tab.before sargs s = true) (hfr : 4 ≤ R.frames) (hlo : W + 65 ≤ R.locals) :
    Back l R p e below s sargs yN len W (fun A₁ a₁ => A₁.cells + 1 ≤ R.cells ∧ A₁.slots + A.slots.size ≤ R.slots ∧ P a D fV fC b A z a₁ A₁.U) (fun A₁ _ v₁ B₁ => E a D fV fC A v₁ A₁.U B₁.U ∧ B₁.locs = A₁.locs ++ [⟨a, fC.slot⟩, ⟨a, fV.slot⟩] ∧ B₁.cells = A₁.cells + 1 ∧ B₁.slots = A₁.slots + A.slots.size) :=
  (law l a D fV fC b A z).pays htab hfr (by omega)
end New1
end StrChars
namespace StrChars.Road
open Jvm Sem ClassFile Op Lib Jvm.Stand Jvm.Free Jvm.Free.XT
open Jvm.Lib.Cold (StaticIs)
abbrev ST : String := "java/lang/String"
/-- every table word that New1's law asks, flat -/
abbrev words : List Jvm.Cond := [.code New1.yN New1.yB 2 none, .initialized ST, .methodLink ST 27 New4.yN, .instanceMethod New4.yN,
  .code New4.yN New4.yB 6 none, .fieldLink ST 38 ST "COMPACT_STRINGS" "Z", .laysFinal ST ST "value" "[B", .fieldLink ST 9 ST "value" "[B", .laysFinal ST ST "coder" "B", .fieldLink ST 15 ST "coder" "B",
  .methodLink ST 1 Lib.objectInit, .instanceMethod Lib.objectInit, .code Lib.objectInit ⟨#[0xb1]⟩ 1 none, .methodLink ST 177 Cmp3.yN, .static Cmp3.yN, .methodLink ST 47 CodL.yN, .static CodL.yN,
  .code Cmp3.yN Cmp3.yB 6 (some (.array .byte)), .initialized U16, .arrayClass .byte, .methodLink U16 115 Cmp5.yN, .static Cmp5.yN, .code Cmp5.yN Cmp5.yB 7 (some .int), .code CodL.yN CodL.yB 2 (some .byte)]
theorem tab_of {a : Array Value} {s : State} (h : ∀ w ∈ words, w.before a s = true) : New1.tab.before a s = true := by
  have h5 : Cmp5.tab.before a s = true := unparts (wk h (.code Cmp5.yN Cmp5.yB 7 (some .int))) (wks h (.initialized Cmp5.yN.cls :: Cmp5.site))
  have hc : CodL.tab.before a s = true := unparts (wk h (.code CodL.yN CodL.yB 2 (some .byte))) (wks h (.initialized CodL.yN.cls :: CodL.site))
  have q5 : ∀ w ∈ Cmp5.tab :: words, w.before a s = true := fun w hw => (List.mem_cons.mp hw).elim (fun e => e ▸ h5) (h w)
  have h3 : Cmp3.tab.before a s = true := unparts (wk q5 (.code Cmp3.yN Cmp3.yB 6 (some (.array .byte)))) (wks q5 (.initialized Cmp3.yN.cls :: Cmp3.site))
  have q3 : ∀ w ∈ Cmp3.tab :: CodL.tab :: words, w.before a s = true := fun w hw => (List.mem_cons.mp hw).elim (fun e => e ▸ h3) fun hw => (List.mem_cons.mp hw).elim (fun e => e ▸ hc) (h w)
  have h4 : New4.tab.before a s = true := unparts (wk q3 (.code New4.yN New4.yB 6 none)) (wks q3 (.initialized New4.yN.cls :: New4.site))
  have q4 : ∀ w ∈ New4.tab :: words, w.before a s = true := fun w hw => (List.mem_cons.mp hw).elim (fun e => e ▸ h4) (h w)
  exact unparts (wk q4 (.code New1.yN New1.yB 2 none)) (wks q4 (.initialized New1.yN.cls :: New1.site))
/-- the words ride from the start Z to the walk's own state -/
theorem moved {Z s : State} {a0 args : Array Value} (hZ : Z.Warmed39 s.vm) (hw : ∀ d ∈ words, d.before a0 Z = true) : ∀ d ∈ words, d.before args s = true := fun d hd => by
  have q := hw d hd
  have t : ∀ d ∈ words, d = .arrayClass .byte ∨ (d.onTables && d.keepsFace) = true := by decide +kernel
  rcases t d hd with rfl | t
  · exact RoadKit.mvA hZ q
  · exact RoadKit.mv hZ q t
/-- WHAT COMES BACK, over the tables of the start Z: h the heap at the call, h' behind it -/
def Q (Z : State) (x : Addr) (A : Cell) (h : Heap) (v : Option Value) (h' : Heap) (L : List Loc) : Prop := v = none ∧ (∀ y ∈ L, y.base = x) ∧ RoadKit.Keep h h' [x] ∧ h'.size = h.size + 1 ∧ RoadKit.Exa Z h' x ST ∧ RoadKit.Fld Z h' x ST "value" "[B" (.ref h.size) ∧ RoadKit.Fld Z h' x ST "coder" "B" (.int 0) ∧
  (∃ V : Cell, RoadKit.Arr Z h' h.size V .byte ∧ V.vm = .none ∧ Z.vm.findClass "[B" = some V.cls ∧ V.slots.size = A.slots.size ∧ ∀ j, j < A.slots.size → V.slots[j]? = some (.int (lo8 (cv A j)))) ∧
  ∀ (O n d : String) (w : Value), RoadKit.Fld Z h x O n d w → RoadKit.slotOf Z O n d ≠ RoadKit.slotOf Z ST "value" "[B" → RoadKit.slotOf Z O n d ≠ RoadKit.slotOf Z ST "coder" "B" → RoadKit.Fld Z h' x O n d w
/-- **new String(chars) AT A CALL, IN THE ROAD'S FORM**: for specialBack behind newO: x the fresh String, b the char[] with the cell A -/
theorem back {p : Program} {l : Launch} {e : Env} {R : Room} {s : State} {args : Array Value} {below : List Frame} {len W : Nat} {Z : State} {a0 : Array Value} {h : Heap} (hZ : Z.Warmed39 s.vm) (hw : ∀ d ∈ words, d.before a0 Z = true) {kI : Nat} (wi : (Jvm.Cond.instantiable ST kI).before a0 Z = true)
    {x b : Addr} {A : Cell} {z : Int32} {v0 c0 : Value} (E : RoadKit.Exa Z h x ST) (V : RoadKit.Fld Z h x ST "value" "[B" v0) (C : RoadKit.Fld Z h x ST "coder" "B" c0) (K : RoadKit.Arr Z h b A .char) (hty : Typed .char A) (S : RoadKit.Sta Z h ST "COMPACT_STRINGS" "Z" (.int z)) (hz : ¬ z = 0)
    (l0 : 0 < A.slots.size) (l2 : A.slots.size ≤ 536870912) (hp : ∀ i, i < A.slots.size → ¬ 255 < cv A i) (hfr : 4 ≤ R.frames) (hlo : W + 65 ≤ R.locals) :
    Back l R p e below s args New1.yN len W (fun P a => a = #[.ref x, .ref b] ∧ P.U.heap = h ∧ P.cells + 1 ≤ R.cells ∧ P.slots + A.slots.size ≤ R.slots)
      (fun P _ v B => ∃ L, Q Z x A h v B.U.heap L ∧ B.locs = P.locs ++ L ∧ B.cells = P.cells + 1 ∧ B.slots = P.slots + A.slots.size) := by
  intro m meth c P g ig mk a X hg hsize hdg hW hn hp'
  obtain ⟨rfl, rfl, r1, r2⟩ := hp'
  have al : Z.vm.Alike P.U.vm := hZ.alike.trans X.warmed.alike
  obtain ⟨D, cfV, kV, iV, fV, hD, gV, stV, knV, obV, asV, slV⟩ := id V
  obtain ⟨D', cfC, kC, iC, fC, hD', gC, stC, -, -, asC, slC⟩ := id C
  cases hD.symm.trans hD'
  obtain ⟨D2, kD, e1, e2, e3, e4, e5⟩ := id E
  cases hD.symm.trans e1
  obtain ⟨c2, k2, i1, i2, i3, -⟩ := Cond.instantiable_spec wi
  cases e2.symm.trans i1
  cases e3.symm.trans i2
  obtain ⟨kU, u1, u2⟩ := al.2.2 _ _ e3
  have hB : Blank ST x D P.U := ⟨hD, ⟨knV, fun q hq => by rw [hq] at obV; cases obV⟩, by rw [al.findClass]; exact e2, kU, u1, by rw [u2]; exact i3, by rw [u2]; exact e5 i3⟩
  have F1 : Found ST "value" "[B" fV P.U := ⟨SBG.found_only al ⟨cfV, kV, iV, gV⟩, stV⟩
  have F2 : Found ST "coder" "B" fC P.U := ⟨SBG.found_only al ⟨cfC, kC, iC, gC⟩, stC⟩
  have hA : Ch b A P.U := ⟨⟨K.1, State.isArrayOf_alike al K.2.1, K.2.2, by omega⟩, hty⟩
  have hS : StaticIs P.U ST "COMPACT_STRINGS" "Z" (.int z) := by
    obtain ⟨cfS, iS, kS, fS, st, cS, t1, t2, t3, t4, t5, t6, t7⟩ := S
    exact StaticIs.there (s := { Z with heap := P.U.heap }) ⟨cfS, iS, kS, fS, st, cS, t1, t2, t3, t4, t5, (fun q => by rw [q] at t6; cases t6), t7⟩ al rfl
  obtain ⟨v, B, X', ⟨⟨hv, E', V', q1, q2, q3, q4, q5, q6, q7, q8, q9, q10, q11⟩, hl, hc, hs⟩, st⟩ := New1.pays x D fV fC b A z (tab_of (moved hZ hw)) hfr hlo m meth c P g ig mk _ X hg hsize hdg hW hn ⟨r1, r2, rfl, hB, F1, F2, hA, hS, hz, l0, l2, hp⟩
  have al' : Z.vm.Alike B.U.vm := hZ.alike.trans X'.warmed.alike
  have hsz : E'.slots.size = D.slots.size := by
    obtain ⟨-, -, -, kB, w1, w2, w3⟩ := q1
    obtain ⟨kB', y1, y2⟩ := al'.2.2 _ _ e3
    rw [q2.2.1] at w1
    cases w1.symm.trans y1
    rw [w3, e5 i3, y2]
  refine ⟨v, B, X', ⟨_, ⟨hv, ?_, ⟨by omega, fun y cy hy hn' => q10 y cy (by simpa using hn') hy, fun y cy hy => ?_⟩, q11, ⟨E', _, q1.1, by rw [q2.2.1]; exact e2, by rw [q2.2.1]; exact e3, by rw [q2.1]; exact obV, fun _ => by rw [hsz]; exact e5 i3⟩,
    ⟨E', cfV, kV, iV, fV, q1.1, gV, stV, by rw [q2.1]; exact knV, by rw [q2.1]; exact obV, by rw [q2.2.1]; exact asV, q3⟩, ⟨E', cfC, kC, iC, fC, q1.1, gC, stC, by rw [q2.1]; exact knV, by rw [q2.1]; exact obV, by rw [q2.2.1]; exact asC, q4⟩,
    ⟨V', ⟨q5.1, State.isArrayOf_alike al'.symm q5.2.1, q5.2.2.1⟩, q6, by rw [← al'.findClass]; exact q7, q8, fun j hj => by have := q9 j hj; rwa [Nat.zero_add] at this⟩, fun O n d w F n1 n2 => ?_⟩, hl, hc, hs⟩, st⟩
  · intro y hy
    simp only [List.mem_cons, List.not_mem_nil, or_false] at hy
    rcases hy with rfl | rfl <;> rfl
  · by_cases q : y = x
    · subst q
      cases hD.symm.trans hy
      exact ⟨E', q1.1, q2.2.1, q2.1, hsz⟩
    · exact ⟨cy, q10 y cy q hy, rfl, rfl, rfl⟩
  · obtain ⟨D3, cf, k, i, f, g1, g2, g3, g4, g5, g6, g7⟩ := F
    cases hD.symm.trans g1
    simp only [RoadKit.slotOf, g2, gV, gC, Option.map_some, Option.getD_some] at n1 n2
    exact ⟨E', cf, k, i, f, q1.1, g2, g3, by rw [q2.1]; exact g4, by rw [q2.1]; exact g5, by rw [q2.2.1]; exact g6, by rw [q2.2.2 f.slot (by simp [n1, n2])]; exact g7⟩
end StrChars.Road
namespace StrChars.Road
open Jvm Sem ClassFile Op Lib Jvm.Stand Jvm.Free Jvm.Free.XT
/-- WHAT COMES BACK, the byte[] as a list of values -/
def QA (Z : State) (x : Addr) (zn : Int32) (cs : List Int32) (h : Heap) (v : Option Value) (h' : Heap) (L : List Loc) : Prop := v = none ∧ (∀ y ∈ L, y.base = x) ∧ RoadKit.Keep h h' [x] ∧ h'.size = h.size + 1 ∧ RoadKit.Exa Z h' x ST ∧ RoadKit.Fld Z h' x ST "value" "[B" (.ref h.size) ∧ RoadKit.Fld Z h' x ST "coder" "B" (.int 0) ∧
  (∃ kb, Z.vm.findClass "[B" = some kb ∧ RoadKit.Arv Z h' h.size kb .byte zn (cs.map fun c => .int (lo8 c)) (.int 0)) ∧
  ∀ (O n d : String) (w : Value), RoadKit.Fld Z h x O n d w → RoadKit.slotOf Z O n d ≠ RoadKit.slotOf Z ST "value" "[B" → RoadKit.slotOf Z O n d ≠ RoadKit.slotOf Z ST "coder" "B" → RoadKit.Fld Z h' x O n d w
/-- **new String(chars) AT A CALL, THE ARRAYS AS LISTS**: the char[] at b holds cs, not empty, no char above 255 -/
theorem backArv {p : Program} {l : Launch} {e : Env} {R : Room} {s : State} {args : Array Value} {below : List Frame} {len W : Nat} {Z : State} {a0 : Array Value} {h : Heap} (hZ : Z.Warmed39 s.vm) (hw : ∀ d ∈ words, d.before a0 Z = true) {kI : Nat} (wi : (Jvm.Cond.instantiable ST kI).before a0 Z = true)
    {x b : Addr} {k : ClassId} {zn z : Int32} {cs : List Int32} {dv v0 c0 : Value} (E : RoadKit.Exa Z h x ST) (V : RoadKit.Fld Z h x ST "value" "[B" v0) (C : RoadKit.Fld Z h x ST "coder" "B" c0) (K : RoadKit.Arv Z h b k .char zn (cs.map Value.int) dv) (S : RoadKit.Sta Z h ST "COMPACT_STRINGS" "Z" (.int z)) (hz : ¬ z = 0)
    (hlen : zn.toNatClampNeg = cs.length) (h0 : 0 < cs.length) (hbig : cs.length ≤ 536870912) (hall : ∀ c ∈ cs, ¬ 255 < c) (hfr : 4 ≤ R.frames) (hlo : W + 65 ≤ R.locals) :
    Back l R p e below s args New1.yN len W (fun P a => a = #[.ref x, .ref b] ∧ P.U.heap = h ∧ P.cells + 1 ≤ R.cells ∧ P.slots + cs.length ≤ R.slots)
      (fun P _ v B => ∃ L, QA Z x zn cs h v B.U.heap L ∧ B.locs = P.locs ++ L ∧ B.cells = P.cells + 1 ∧ B.slots = P.slots + cs.length) := by
  obtain ⟨A, K1, K2, K3, K4, K5, K6⟩ := K
  have e : A.slots.size = cs.length := K3.trans hlen
  have hat : ∀ (i : Nat) (hi : i < cs.length), A.slots[i]? = some (.int cs[i]) := fun i hi => by rw [K5 i (by omega)]; simp [List.getD_eq_getElem?_getD, hi]
  have hcv : ∀ (i : Nat) (hi : i < cs.length), cv A i = cs[i] := fun i hi => by unfold cv; rw [hat i hi]
  have hty : Typed .char A := fun i v hv => by
    have hi : i < A.slots.size := (Array.getElem?_eq_some_iff.mp hv).1
    have q := K5 i hi
    rw [hv] at q
    rw [Option.some.inj q]
    exact K6 i hi
  refine Back.mono (back hZ hw wi E V C K1 hty S hz (by omega) (by omega) (fun i hi => by rw [hcv i (by omega)]; exact hall _ (List.getElem_mem _)) hfr hlo) (fun P a hp => ⟨hp.1, hp.2.1, hp.2.2.1, by rw [e]; exact hp.2.2.2⟩) (fun P a v B hp hq => ?_)
  obtain ⟨L, ⟨q1, q2, q3, q4, q5, q6, q7, ⟨V', v1, v2, v3, v4, v5⟩, q9⟩, hl, hc, hs⟩ := hq
  refine ⟨L, ⟨q1, q2, q3, q4, q5, q6, q7, ⟨V'.cls, v3, V', v1, rfl, by rw [v4, e, hlen], K4, fun i hi => ?_, fun i hi => ?_⟩, q9⟩, hl, hc, by rw [hs, e]⟩
  · have hi' : i < cs.length := by omega
    rw [v5 i (by omega), hcv i hi']; simp [List.getD_eq_getElem?_getD, hi']
  · have hi' : i < cs.length := by omega
    simp only [List.getD_eq_getElem?_getD, List.getElem?_map, List.getElem?_eq_getElem hi', Option.map_some, Option.getD_some]
    exact fits_lo8 _
end StrChars.Road
namespace StrChars.Road
open Jvm Sem ClassFile Op Lib Jvm.Stand Jvm.Free Jvm.Free.XT
/-- WHAT COMES BACK, in the writer's own shape -/
def QV (Z : State) (x : Addr) (N : Int32) (bs : List Int32) (h : Heap) (n0 : Nat) (v : Option Value) (h' : Heap) (L : List Loc) : Prop := v = none ∧ RoadKit.Fr n0 L ∧ RoadKit.Keep h h' [x] ∧ RoadKit.Exa Z h' x ST ∧ RoadKit.Fld Z h' x ST "coder" "B" (.int 0) ∧
  ∃ (t : Addr) (kb : ClassId), n0 ≤ t ∧ h.size ≤ t ∧ ¬ t = x ∧ RoadKit.Fld Z h' x ST "value" "[B" (.ref t) ∧ RoadKit.Arv Z h' t kb .byte N (bs.map Value.int) (.int 0)
/-- **new String(chars) AT A CALL, FOR THE WRITER**: a char[] of n known ints, each 0 to 255 -/
theorem backV {p : Program} {l : Launch} {e : Env} {R : Room} {s : State} {args : Array Value} {below : List Frame} {len W : Nat} {Z : State} {a0 : Array Value} {h : Heap} (hZ : Z.Warmed39 s.vm) (hw : ∀ d ∈ words, d.before a0 Z = true) {kI : Nat} (wi : (Jvm.Cond.instantiable ST kI).before a0 Z = true)
    {x b : Addr} {kC : ClassId} {cs bs : List Int32} {d v0 c0 : Value} {z N : Int32} {n n0 : Nat} (hx0 : n0 ≤ x) (hh0 : n0 ≤ h.size) (E : RoadKit.Exa Z h x ST) (V : RoadKit.Fld Z h x ST "value" "[B" v0) (C : RoadKit.Fld Z h x ST "coder" "B" c0) (K : RoadKit.Arv Z h b kC .char N (cs.map Value.int) d) (S : RoadKit.Sta Z h ST "COMPACT_STRINGS" "Z" (.int z)) (hz : ¬ z = 0)
    (hn : cs.length = n) (hN : N = Int32.ofNat n) (l0 : 0 < n) (l2 : n ≤ 4000) (hp : ∀ c ∈ cs, ¬ c < 0 ∧ ¬ (255 : Int32) < c) (hb : bs = cs.map (fun c => c.toInt8.toInt32)) (hfr : 4 ≤ R.frames) (hlo : W + 65 ≤ R.locals) :
    Back l R p e below s args (⟨"java/lang/String", "<init>", "([C)V"⟩ : MethodName) len W (fun P a => a = #[.ref x, .ref b] ∧ P.U.heap = h ∧ P.cells + 1 ≤ R.cells ∧ P.slots + n ≤ R.slots)
      (fun P _ v B => ∃ L, QV Z x N bs h n0 v B.U.heap L ∧ B.locs = P.locs ++ L ∧ B.cells = P.cells + 1 ∧ B.slots = P.slots + n) := by
  subst hn hN hb
  refine Back.mono (backArv hZ hw wi E V C K S hz (n32 (by omega)) l0 (by omega) (fun c hc => (hp c hc).2) hfr hlo) (fun P a hp => hp) (fun P a v B hp hq => ?_)
  obtain ⟨L, ⟨q1, q2, q3, q4, q5, q6, q7, ⟨kb, v1, v2⟩, q9⟩, hl, hc, hs⟩ := hq
  exact ⟨L, ⟨q1, fun y hy => by rw [q2 y hy]; exact hx0, q3, q5, q7, h.size, kb, hh0, Nat.le_refl _, Nat.ne_of_gt E.lt, q6, by rw [List.map_map]; exact v2⟩, hl, hc, hs⟩
end StrChars.Road
end Jvm.Pilot.@@N@@
namespace Jvm.RoadKit
open Sem ClassFile Op Lib Jvm.Stand Jvm.Free Jvm.LawKit
section Own
variable {p : Program} {l : Launch} {e : Env} {R : Room} {s : State} {m : MethodId} {args : Array Value} {below : List Frame} {meth : Method} {c : Code} {T : State} {locs : List Loc} {cells slots : Nat}
theorem retI (X : Stand p l e R s m args below meth c T locs cells slots) (hx : p.tables.exec = Jvm.exec) {pc : Nat} {Ls : Array Slot} {z : Int32} {rest : List Value} (hret : meth.sig.returnType = some .int) (hd : decode c.code pc = .ok (.ireturn, 1)) {fs : List Frame}
    (hl : ∀ (f : JFrame) (acts : List Action), f.method = m → f.locked = none → f.entered = [] → (doReturn e (T.setTop f) acts (some (.int z))).1 = T.setFrames fs) : Steps p.tables e below (T.setTop (mkF m pc Ls (.int z :: rest))) (T.setFrames fs) :=
  retOut X hx hret rfl (Or.inl ⟨rfl, Or.inl rfl, _, rfl⟩) hd hl
theorem retJ (X : Stand p l e R s m args below meth c T locs cells slots) (hx : p.tables.exec = Jvm.exec) {pc : Nat} {Ls : Array Slot} {z : Int64} {rest : List Value} (hret : meth.sig.returnType = some .long) (hd : decode c.code pc = .ok (.lreturn, 1)) {fs : List Frame}
    (hl : ∀ (f : JFrame) (acts : List Action), f.method = m → f.locked = none → f.entered = [] → (doReturn e (T.setTop f) acts (some (.long z))).1 = T.setFrames fs) : Steps p.tables e below (T.setTop (mkF m pc Ls (.long z :: rest))) (T.setFrames fs) :=
  retOut X hx hret rfl (Or.inr (Or.inl ⟨rfl, rfl, _, rfl⟩)) hd hl
theorem retA (X : Stand p l e R s m args below meth c T locs cells slots) (hx : p.tables.exec = Jvm.exec) {pc : Nat} {Ls : Array Slot} {t : FieldType} {z : Value} {rest : List Value} (hret : meth.sig.returnType = some t) (hn : narrow t z = z) (ht : t.isReference = true) (hz : z.isRef = true) (hd : decode c.code pc = .ok (.areturn, 1)) {fs : List Frame}
    (hl : ∀ (f : JFrame) (acts : List Action), f.method = m → f.locked = none → f.entered = [] → (doReturn e (T.setTop f) acts (some z)).1 = T.setFrames fs) : Steps p.tables e below (T.setTop (mkF m pc Ls (z :: rest))) (T.setFrames fs) :=
  retOut X hx hret hn (Or.inr (Or.inr (Or.inr (Or.inr ⟨rfl, ht, hz⟩)))) hd hl
theorem retZ (X : Stand p l e R s m args below meth c T locs cells slots) (hx : p.tables.exec = Jvm.exec) {pc : Nat} {Ls : Array Slot} {z r : Int32} {t : FieldType} {rest : List Value} (hret : meth.sig.returnType = some t) (ht : t = .boolean ∨ t = .byte ∨ t = .char ∨ t = .short)
    (hd : decode c.code pc = .ok (.ireturn, 1)) (hn : nar t z = r) {fs : List Frame} (hl : ∀ (f : JFrame) (acts : List Action), f.method = m → f.locked = none → f.entered = [] → (doReturn e (T.setTop f) acts (some (.int r))).1 = T.setFrames fs) :
    Steps p.tables e below (T.setTop (mkF m pc Ls (.int z :: rest))) (T.setFrames fs) := retN X hx hret ht hd (by rw [hn]; exact hl)
theorem ownUp (X : Stand p l e R s m args below meth c T locs cells slots) {cells' slots' : Nat} (h1 : cells ≤ cells') (h2 : slots ≤ slots') : Stand p l e R s m args below meth c T locs cells' slots' :=
  ⟨X.admits, X.cas, X.clock, X.frames, X.room, X.hears, X.method, X.code, X.here, X.tail, X.warmed, X.limits, X.bytes, X.same.mono h1 h2⟩
theorem own_hide (X : Stand p l e R s m args below meth c T locs cells slots) {n0 : Nat} (N : Fr n0 locs) : ∃ L, Stand p l e R s m args below meth c T L cells slots ∧ Fr n0 L := ⟨_, X, N⟩
end Own
def Go (tb : Tables) (e : Env) (below : List Frame) (P : Outcome → State → Prop) (T : State) (f : JFrame) : Prop :=
  ∃ s₂ o, Steps tb e below (T.setTop f) s₂ ∧ s₂.status = .running ∧ Ended s₂ below o ∧ P o s₂
theorem Go.via {tb : Tables} {e : Env} {below : List Frame} {P : Outcome → State → Prop} {T T' : State} {f f' : JFrame} (st : ∀ t, Steps tb e below (T'.setTop f') t → Steps tb e below (T.setTop f) t) (k : Go tb e below P T' f') : Go tb e below P T f := by
  obtain ⟨s₂, o, h, r⟩ := k; exact ⟨s₂, o, st _ h, r⟩
theorem Go.hop {tb : Tables} {e : Env} {below : List Frame} {P : Outcome → State → Prop} {T T' : State} {f f' : JFrame} (st : Steps tb e below (T.setTop f) (T'.setTop f')) (k : Go tb e below P T' f') : Go tb e below P T f := by
  obtain ⟨s₂, o, h, r⟩ := k; exact ⟨s₂, o, st.trans h, r⟩
theorem own_nin0 {a : Addr} : a ∉ ([] : List Addr) := fun q => nomatch q
theorem own_ninC {a b : Addr} {l : List Addr} (h : a ≠ b) (h' : a ∉ l) : a ∉ b :: l := fun q => (List.mem_cons.mp q).elim h h'
theorem own_nb {x : Int32} (h : x = 0 ∨ x = 1) : nar .boolean x = x := by rcases h with rfl | rfl <;> rfl
theorem own_nnb {x : Int32} (h : x = 0 ∨ x = 1) : narrow .boolean (.int x) = .int x := by rcases h with rfl | rfl <;> rfl
theorem own_fb {x : Int32} (h : x = 0 ∨ x = 1) : fits .boolean (.int x) = true := by rcases h with rfl | rfl <;> rfl
theorem own_all0 {P : Addr → Prop} : ∀ x ∈ ([] : List Addr), P x := fun _ q => nomatch q
theorem own_allC {P : Addr → Prop} {a : Addr} {l : List Addr} (h : P a) (h' : ∀ x ∈ l, P x) : ∀ x ∈ a :: l, P x := fun x q => (List.mem_cons.mp q).elim (fun e => e ▸ h) (h' x)
theorem own_m0 {k : Int32} : ∀ p ∈ ([] : List (Int × Int)), p.1 ≠ k.toInt := fun _ q => nomatch q
theorem own_mC {k x : Int32} {a o : Int} {l : List (Int × Int)} (h : ¬ k = x) (hx : x.toInt = a) (t : ∀ p ∈ l, p.1 ≠ k.toInt) : ∀ p ∈ (a, o) :: l, p.1 ≠ k.toInt := fun p q => (List.mem_cons.mp q).elim (fun e r => h (Int32.toInt_inj.mp (by rw [hx, ← r, e]))) (t p)
theorem own_cat {v : Value} (h : v.isRef = true) : v.category = 1 := by rcases ref_cases h with rfl | ⟨a, rfl⟩ <;> rfl
theorem own_nat {n : Nat} (h : n < 2147483648) : n.toInt32.toInt = n := len_toInt h
theorem own_ltN {i n : Nat} (hi : i < 2147483648) (hn : n < 2147483648) : i.toInt32 < n.toInt32 ↔ i < n := by
  rw [Int32.lt_iff_toInt_lt, own_nat hi, own_nat hn]; omega
theorem own_succ (i : Nat) : i.toInt32 + 1 = (i + 1).toInt32 := (Int32.ofNat_add i 1).symm
theorem own_nneg {i : Nat} (hi : i < 2147483648) : ¬ i.toInt32 < 0 := by
  rw [Int32.lt_iff_toInt_lt, own_nat hi]; simp
theorem own_clamp {i : Nat} (hi : i < 2147483648) : i.toInt32.toNatClampNeg = i := by
  show i.toInt32.toInt.toNat = i
  rw [own_nat hi]; rfl
end Jvm.RoadKit
namespace Jvm.Pilot.@@N@@
open Jvm Jvm.ClassFile Sem Op Lib Jvm.Free Jvm.Stand Jvm.LawKit Jvm.RoadKit Bundle Jvm.Pilot.@@N@@.Jvm.D
theorem own_ch (x : Int32) : ¬ nar .char ((x &&& (255 : Int32)).toUInt32.toUInt16.toUInt32.toInt32) < 0 ∧ ¬ (255 : Int32) < nar .char ((x &&& (255 : Int32)).toUInt32.toUInt16.toUInt32.toInt32) := by
  show ¬ ((x &&& (255 : Int32)).toUInt32.toUInt16.toUInt32.toInt32).toUInt32.toUInt16.toUInt32.toInt32 < 0 ∧ ¬ (255 : Int32) < ((x &&& (255 : Int32)).toUInt32.toUInt16.toUInt32.toInt32).toUInt32.toUInt16.toUInt32.toInt32
  rw [i2c_mask, i2c_mask, Int32.lt_iff_toInt_lt, Int32.lt_iff_toInt_lt]
  have := c_and x 255 (by decide)
  have e1 : (255 : Int32).toInt = 255 := rfl
  have e2 : (0 : Int32).toInt = 0 := rfl
  omega
theorem own_al0 {P : Int32 → Prop} : ∀ c ∈ ([] : List Int32), P c := fun _ q => nomatch q
theorem own_alC {P : Int32 → Prop} {a : Int32} {l : List Int32} (h : P a) (h' : ∀ x ∈ l, P x) : ∀ x ∈ a :: l, P x := fun x q => (List.mem_cons.mp q).elim (fun e => e ▸ h) (h' x)
theorem own_ws {a0 : Array Value} {Z : State} (hw : ∀ d ∈ tables_1, d.before a0 Z = true) : ∀ d ∈ StrChars.Road.words, d.before a0 Z = true := fun d hd => hw d ((by decide +kernel : ∀ d ∈ StrChars.Road.words, d ∈ tables_1) d hd)
theorem own_rem3 (x : Int32) : ((x &&& (2147483647 : Int32)) % (3 : Int32)) = (0 : Int32) ∨ ((x &&& (2147483647 : Int32)) % (3 : Int32)) = (1 : Int32) ∨ ((x &&& (2147483647 : Int32)) % (3 : Int32)) = (2 : Int32) := by
  have h1 := (c_and x 2147483647 (by decide)).1
  have h2 := (c_irem (x &&& (2147483647 : Int32)) 3 3 rfl).1 h1
  have h4 : ∀ k : Int32, ((x &&& (2147483647 : Int32)) % (3 : Int32)).toInt = k.toInt → ((x &&& (2147483647 : Int32)) % (3 : Int32)) = k := fun k q => Int32.toInt_inj.mp q
  have c : ((x &&& (2147483647 : Int32)) % (3 : Int32)).toInt = 0 ∨ ((x &&& (2147483647 : Int32)) % (3 : Int32)).toInt = 1 ∨ ((x &&& (2147483647 : Int32)) % (3 : Int32)).toInt = 2 := by omega
  rcases c with c | c | c
  · exact Or.inl (h4 0 c)
  · exact Or.inr (Or.inl (h4 1 c))
  · exact Or.inr (Or.inr (h4 2 c))
theorem own_pd0 : parseMethodDescriptor "([C)V" = some ⟨[(.array .char)], none⟩ := by decide +kernel
theorem own_pn0 : plainName "com/example/referee/referee/parse/OpenElementsPopPinLaw" = true := by first | (simp [plainName, overriddenIn]; done) | decide +kernel
theorem d1_0 : decode method_2_code 0 = .ok (.iconst 2, 1) := by decide +kernel
theorem d1_1 : decode method_2_code 1 = .ok (.newarray .char, 2) := by decide +kernel
theorem d1_3 : decode method_2_code 3 = .ok (.astore_n 1, 1) := by decide +kernel
theorem d1_4 : decode method_2_code 4 = .ok (.aload_n 1, 1) := by decide +kernel
theorem d1_5 : decode method_2_code 5 = .ok (.iconst 0, 1) := by decide +kernel
theorem d1_6 : decode method_2_code 6 = .ok (.iload_n 0, 1) := by decide +kernel
theorem d1_7 : decode method_2_code 7 = .ok (.sipush 255, 3) := by decide +kernel
theorem d1_10 : decode method_2_code 10 = .ok (.iand, 1) := by decide +kernel
theorem d1_11 : decode method_2_code 11 = .ok (.i2c, 1) := by decide +kernel
theorem d1_12 : decode method_2_code 12 = .ok (.castore, 1) := by decide +kernel
theorem d1_13 : decode method_2_code 13 = .ok (.aload_n 1, 1) := by decide +kernel
theorem d1_14 : decode method_2_code 14 = .ok (.iconst 1, 1) := by decide +kernel
theorem d1_15 : decode method_2_code 15 = .ok (.iload_n 0, 1) := by decide +kernel
theorem d1_16 : decode method_2_code 16 = .ok (.bipush 8, 2) := by decide +kernel
theorem d1_18 : decode method_2_code 18 = .ok (.iushr, 1) := by decide +kernel
theorem d1_19 : decode method_2_code 19 = .ok (.sipush 255, 3) := by decide +kernel
theorem d1_22 : decode method_2_code 22 = .ok (.iand, 1) := by decide +kernel
theorem d1_23 : decode method_2_code 23 = .ok (.i2c, 1) := by decide +kernel
theorem d1_24 : decode method_2_code 24 = .ok (.castore, 1) := by decide +kernel
theorem d1_25 : decode method_2_code 25 = .ok (.new 7, 3) := by decide +kernel
theorem d1_28 : decode method_2_code 28 = .ok (.dup, 1) := by decide +kernel
theorem d1_29 : decode method_2_code 29 = .ok (.aload_n 1, 1) := by decide +kernel
theorem d1_30 : decode method_2_code 30 = .ok (.invokespecial 9, 3) := by decide +kernel
theorem d1_33 : decode method_2_code 33 = .ok (.areturn, 1) := by decide +kernel
theorem ef_1 (m : MethodId) (x0 : Int32) : entryFrame m #[(.int x0)] 2 = mkF m 0 #[.val (.int x0), .unset] [] := by first | (simp [entryFrame, mkF, argsToLocals, Value.category]; done) | rfl
def Q1 (Z : State) (pc : Int32) (cs : Int32) (h0 : Heap) (n0 : Nat) (v : Option Value) (h : Heap) (L : List Loc) : Prop := ∃ (r : Addr), v = some (.ref r) ∧ Fr n0 L ∧ Keep h0 h [] ∧ h0.size ≤ r ∧ Exa Z h r "java/lang/String"
set_option maxRecDepth 65536 in
set_option maxHeartbeats 40000000 in
theorem rm1 (l : Launch) (Z : State) (a0 : Array Value) (hw : ∀ d ∈ tables_1, d.before a0 Z = true) (ws : List Jvm.Cond) (pc : Int32) (cs : Int32) (h0 : Heap) (n0 : Nat) (Z0 : n0 ≤ h0.size) (O0 : Old Z n0 h0) (P1 : Sta Z Z.heap "java/lang/String" "COMPACT_STRINGS" "Z" (.int cs)) (hcs : ¬ cs = (0 : Int32)) :
    MetFree l (⟨"com/example/referee/referee/parse/OpenElementsPopPinLaw", "str", "(I)Ljava/lang/String;"⟩ : MethodName) (head1 (Jvm.Cond.code (⟨"com/example/referee/referee/parse/OpenElementsPopPinLaw", "str", "(I)Ljava/lang/String;"⟩ : MethodName) method_2_code 2 (some (.object "java/lang/String")) :: ws) ({ frames := 4, cells := 3, slots := 8, locals := 66 } : Room)) (fun a U => a = #[(.int pc)] ∧ Z.Warmed39 U.vm ∧ U.heap = h0) (fun _ _ _ _ _ => True) (fun _ U o U' => ∃ v L, o = .returned v ∧ Q1 Z pc cs h0 n0 v U'.heap L ∧ FrameEnd U o U' L ({ frames := 4, cells := 3, slots := 8, locals := 66 } : Room).cells ({ frames := 4, cells := 3, slots := 8, locals := 66 } : Room).slots) := by
  refine MetFree.of_bodySF (plainFor_of_name own_pn0) hisR ?_
  intro p e s m args below meth c s₁ Bd hml0 hP hK
  obtain ⟨rfl, hZ, hh⟩ := hP
  have hx := Bd.exec
  have hby := Bd.bytes
  have hml : c.maxLocals = 2 := hml0
  have hown : s.vm.findClass "com/example/referee/referee/parse/OpenElementsPopPinLaw" = some m.cls := findClass_of_methodNamed Bd.named
  have hnm := (name_of_methodNamed Bd.named Bd.method).1
  have X0 : Stand p l e ({ frames := 4, cells := 3, slots := 8, locals := 66 } : Room) s m #[(.int pc)] below meth c s₁ [] 0 0 := Stand.of_body Bd
  have e0 : s₁.heap = h0 := by rw [← hh, Bd.state]; rfl
  have N0 := Fr.nil n0
  have K0 : Keep h0 h0 [] := Keep.refl _ _
  suffices GO : ∀ P : Outcome → State → Prop, (∀ o U', (∃ v L, o = .returned v ∧ Q1 Z pc cs h0 n0 v U'.heap L ∧ FrameEnd s o U' L ({ frames := 4, cells := 3, slots := 8, locals := 66 } : Room).cells ({ frames := 4, cells := 3, slots := 8, locals := 66 } : Room).slots) → P o U') → Go p.tables e below P s₁ (mkF m 0 #[.val (.int pc), .unset] []) by
    obtain ⟨s2, o, st, r⟩ := GO _ (fun _ _ q => q)
    exact ⟨s2, o, castTop (ef_1 m pc) st, r⟩
  clear hh
  intro P hP
  show Go p.tables e below P s₁ (mkF m 0 #[.val (.int pc), .unset] [])
  refine Go.via (fun t k => XS.iconst X0.here hx rfl (hb hby d1_0) k) ?_
  show Go p.tables e below P s₁ (mkF m 1 #[.val (.int pc), .unset] [(.int (2 : Int32))])
  obtain ⟨T1, h1, k1, X1, e1, E1, A1, st1⟩ := newP X0 hx hZ (hw _ (List.mem_of_getElem? (i := 5) rfl)) e0 (g := (mkF m 1 #[.val (.int pc), .unset] [(.int (2 : Int32))])) rfl (hb hby d1_1) rfl (by decide) (cap := 2) (by decide) (by decide) (by decide) (by decide)
  obtain ⟨b1, g1⟩ : ∃ z, z = h0.size := ⟨_, rfl⟩
  rw [← g1] at A1 st1
  refine Go.via st1 ?_
  have g2 : n0 ≤ b1 := Nat.le_trans Z0 (Nat.le_of_eq g1.symm)
  have sz3 : h0.size ≤ b1 := Nat.le_trans K0.1 (Nat.le_of_eq g1.symm)
  have Z4 : n0 ≤ h1.size := Nat.le_trans Z0 E1.1
  have K5 : Keep h0 h1 [] := K0.ext E1
  have O6 : Old Z n0 h1 := O0.ext E1
  have V1 : Arv Z h1 b1 k1 .char (2 : Int32) [(.int (0 : Int32)), (.int (0 : Int32))] (.int (0 : Int32)) := (Arv.new A1 (by decide)).pad (pad_rep [] (.int (0 : Int32)) 2)
  show Go p.tables e below P T1 (mkF m 3 #[.val (.int pc), .unset] [(.ref b1)])
  refine Go.via (fun t k => XS.astoreN X1.here hx rfl (hb hby d1_3) rfl rfl (l' := #[.val (.int pc), .val (.ref b1)]) rfl k) ?_
  show Go p.tables e below P T1 (mkF m 4 #[.val (.int pc), .val (.ref b1)] [])
  refine Go.via (fun t k => XS.aloadN X1.here hx rfl (hb hby d1_4) rfl rfl k) ?_
  show Go p.tables e below P T1 (mkF m 5 #[.val (.int pc), .val (.ref b1)] [(.ref b1)])
  refine Go.via (fun t k => XS.iconst X1.here hx rfl (hb hby d1_5) k) ?_
  show Go p.tables e below P T1 (mkF m 6 #[.val (.int pc), .val (.ref b1)] [(.int (0 : Int32)), (.ref b1)])
  refine Go.via (fun t k => XS.iloadN X1.here hx rfl (hb hby d1_6) rfl k) ?_
  show Go p.tables e below P T1 (mkF m 7 #[.val (.int pc), .val (.ref b1)] [(.int pc), (.int (0 : Int32)), (.ref b1)])
  refine Go.via (fun t k => XS.sipush X1.here hx rfl (hb hby d1_7) k) ?_
  show Go p.tables e below P T1 (mkF m 10 #[.val (.int pc), .val (.ref b1)] [(.int (255 : Int32)), (.int pc), (.int (0 : Int32)), (.ref b1)])
  refine Go.via (fun t k => XS.iand X1.here hx rfl (hb hby d1_10) rfl k) ?_
  show Go p.tables e below P T1 (mkF m 11 #[.val (.int pc), .val (.ref b1)] [(.int (pc &&& (255 : Int32))), (.int (0 : Int32)), (.ref b1)])
  refine Go.via (fun t k => XS.i2c X1.here hx rfl (hb hby d1_11) rfl k) ?_
  show Go p.tables e below P T1 (mkF m 12 #[.val (.int pc), .val (.ref b1)] [(.int ((pc &&& (255 : Int32)).toUInt32.toUInt16.toUInt32.toInt32)), (.int (0 : Int32)), (.ref b1)])
  obtain ⟨c7, A7, q7, S7, N7, H7, G7⟩ := id V1
  have hin7 : ¬ ((0 : Int32) < 0 ∨ c7.slots.size ≤ ((0 : Int32)).toNatClampNeg) := inb_of S7 ⟨by decide, by decide⟩
  obtain ⟨T7, h7, X7, e7, W7, st7⟩ := stC X1 hx hZ e1 A7 (j := (0 : Int32)) hin7 (g := (mkF m 12 #[.val (.int pc), .val (.ref b1)] [(.int ((pc &&& (255 : Int32)).toUInt32.toUInt16.toUInt32.toInt32)), (.int (0 : Int32)), (.ref b1)])) rfl rfl (hb hby d1_12)
  refine Go.via st7 ?_
  have Z8 : n0 ≤ h7.size := Nat.le_trans Z4 (Nat.le_of_eq W7.size.symm)
  have K9 : Keep h0 h7 [] := K5.wr W7 (Or.inr sz3)
  obtain ⟨lc7, Xh7, N10⟩ := own_hide X7 (Fr.snoc X7 N0 g2)
  clear X7
  have O11 : Old Z n0 h7 := O6.wr W7 g2
  have V7 : Arv Z h7 b1 k1 .char (2 : Int32) [(.int (nar .char ((pc &&& (255 : Int32)).toUInt32.toUInt16.toUInt32.toInt32))), (.int (0 : Int32))] (.int (0 : Int32)) := Arv.set A7 q7 S7 N7 H7 G7 (fits_nar_char _) W7 0 rfl (Nat.le_of_ble_eq_true rfl)
  show Go p.tables e below P T7 (mkF m 13 #[.val (.int pc), .val (.ref b1)] [])
  refine Go.via (fun t k => XS.aloadN Xh7.here hx rfl (hb hby d1_13) rfl rfl k) ?_
  show Go p.tables e below P T7 (mkF m 14 #[.val (.int pc), .val (.ref b1)] [(.ref b1)])
  refine Go.via (fun t k => XS.iconst Xh7.here hx rfl (hb hby d1_14) k) ?_
  show Go p.tables e below P T7 (mkF m 15 #[.val (.int pc), .val (.ref b1)] [(.int (1 : Int32)), (.ref b1)])
  refine Go.via (fun t k => XS.iloadN Xh7.here hx rfl (hb hby d1_15) rfl k) ?_
  show Go p.tables e below P T7 (mkF m 16 #[.val (.int pc), .val (.ref b1)] [(.int pc), (.int (1 : Int32)), (.ref b1)])
  refine Go.via (fun t k => XS.bipush Xh7.here hx rfl (hb hby d1_16) k) ?_
  show Go p.tables e below P T7 (mkF m 18 #[.val (.int pc), .val (.ref b1)] [(.int (8 : Int32)), (.int pc), (.int (1 : Int32)), (.ref b1)])
  refine Go.via (fun t k => XS.iushr Xh7.here hx rfl (hb hby d1_18) rfl k) ?_
  show Go p.tables e below P T7 (mkF m 19 #[.val (.int pc), .val (.ref b1)] [(.int ((pc.toUInt32 >>> ((8 : Int32) &&& 31).toUInt32).toInt32)), (.int (1 : Int32)), (.ref b1)])
  refine Go.via (fun t k => XS.sipush Xh7.here hx rfl (hb hby d1_19) k) ?_
  show Go p.tables e below P T7 (mkF m 22 #[.val (.int pc), .val (.ref b1)] [(.int (255 : Int32)), (.int ((pc.toUInt32 >>> ((8 : Int32) &&& 31).toUInt32).toInt32)), (.int (1 : Int32)), (.ref b1)])
  refine Go.via (fun t k => XS.iand Xh7.here hx rfl (hb hby d1_22) rfl k) ?_
  show Go p.tables e below P T7 (mkF m 23 #[.val (.int pc), .val (.ref b1)] [(.int (((pc.toUInt32 >>> ((8 : Int32) &&& 31).toUInt32).toInt32) &&& (255 : Int32))), (.int (1 : Int32)), (.ref b1)])
  refine Go.via (fun t k => XS.i2c Xh7.here hx rfl (hb hby d1_23) rfl k) ?_
  show Go p.tables e below P T7 (mkF m 24 #[.val (.int pc), .val (.ref b1)] [(.int ((((pc.toUInt32 >>> ((8 : Int32) &&& 31).toUInt32).toInt32) &&& (255 : Int32)).toUInt32.toUInt16.toUInt32.toInt32)), (.int (1 : Int32)), (.ref b1)])
  obtain ⟨c12, A12, q12, S12, N12, H12, G12⟩ := id V7
  have hin12 : ¬ ((1 : Int32) < 0 ∨ c12.slots.size ≤ ((1 : Int32)).toNatClampNeg) := inb_of S12 ⟨by decide, by decide⟩
  obtain ⟨T12, h12, X12, e12, W12, st12⟩ := stC Xh7 hx hZ e7 A12 (j := (1 : Int32)) hin12 (g := (mkF m 24 #[.val (.int pc), .val (.ref b1)] [(.int ((((pc.toUInt32 >>> ((8 : Int32) &&& 31).toUInt32).toInt32) &&& (255 : Int32)).toUInt32.toUInt16.toUInt32.toInt32)), (.int (1 : Int32)), (.ref b1)])) rfl rfl (hb hby d1_24)
  refine Go.via st12 ?_
  have Z13 : n0 ≤ h12.size := Nat.le_trans Z8 (Nat.le_of_eq W12.size.symm)
  have K14 : Keep h0 h12 [] := K9.wr W12 (Or.inr sz3)
  obtain ⟨lc12, Xh12, N15⟩ := own_hide X12 (Fr.snoc X12 N10 g2)
  clear X12
  have O16 : Old Z n0 h12 := O11.wr W12 g2
  have V12 : Arv Z h12 b1 k1 .char (2 : Int32) [(.int (nar .char ((pc &&& (255 : Int32)).toUInt32.toUInt16.toUInt32.toInt32))), (.int (nar .char ((((pc.toUInt32 >>> ((8 : Int32) &&& 31).toUInt32).toInt32) &&& (255 : Int32)).toUInt32.toUInt16.toUInt32.toInt32)))] (.int (0 : Int32)) := Arv.set A12 q12 S12 N12 H12 G12 (fits_nar_char _) W12 1 rfl (Nat.le_of_ble_eq_true rfl)
  show Go p.tables e below P T12 (mkF m 25 #[.val (.int pc), .val (.ref b1)] [])
  obtain ⟨T17, h17, X17, e17, E17, A17, D17, -, st17⟩ := newO Xh12 hx hZ hown (hw _ (List.mem_of_getElem? (i := 6) rfl)) (hw _ (List.mem_of_getElem? (i := 7) rfl)) (hw _ (List.mem_of_getElem? (i := 8) rfl)) e12 (g := (mkF m 25 #[.val (.int pc), .val (.ref b1)] [])) rfl (hb hby d1_25) (by decide) (by decide)
  obtain ⟨b17, g17⟩ : ∃ z, z = h12.size := ⟨_, rfl⟩
  rw [← g17] at A17 D17 st17
  refine Go.via st17 ?_
  have ne18 : b1 ≠ b17 := Nat.ne_of_lt (Nat.lt_of_lt_of_le V12.lt (Nat.le_of_eq g17.symm))
  have g19 : n0 ≤ b17 := Nat.le_trans Z13 (Nat.le_of_eq g17.symm)
  have sz20 : h0.size ≤ b17 := Nat.le_trans K14.1 (Nat.le_of_eq g17.symm)
  have Z21 : n0 ≤ h17.size := Nat.le_trans Z13 E17.1
  have K22 : Keep h0 h17 [] := K14.ext E17
  have O23 : Old Z n0 h17 := O16.ext E17
  show Go p.tables e below P T17 (mkF m 28 #[.val (.int pc), .val (.ref b1)] [(.ref b17)])
  refine Go.via (fun t k => XS.dup X17.here hx rfl (hb hby d1_28) rfl rfl k) ?_
  show Go p.tables e below P T17 (mkF m 29 #[.val (.int pc), .val (.ref b1)] [(.ref b17), (.ref b17)])
  refine Go.via (fun t k => XS.aloadN X17.here hx rfl (hb hby d1_29) rfl rfl k) ?_
  show Go p.tables e below P T17 (mkF m 30 #[.val (.int pc), .val (.ref b1)] [(.ref b1), (.ref b17), (.ref b17)])
  have F24 : Arv Z h17 b1 k1 .char (2 : Int32) [(.int (nar .char ((pc &&& (255 : Int32)).toUInt32.toUInt16.toUInt32.toInt32))), (.int (nar .char ((((pc.toUInt32 >>> ((8 : Int32) &&& 31).toUInt32).toInt32) &&& (255 : Int32)).toUInt32.toUInt16.toUInt32.toInt32)))] (.int (0 : Int32)) := (V12.ext E17)
  obtain ⟨_, _, ⟨T25, L25, k25, n25⟩, -, X25, ⟨Lc25, hQ25, l25, y25, z25⟩, st25⟩ := X17.specialBack hx (y := (⟨"java/lang/String", "<init>", "([C)V"⟩ : MethodName)) rfl hown (mvT hZ (hw _ (List.mem_of_getElem? (i := 9) rfl))) (mvT hZ (hw _ (List.mem_of_getElem? (i := 10) rfl))) (mvT hZ (hw _ (List.mem_of_getElem? (i := 11) rfl))) (by decide) (StrChars.Road.backV (W := 1) hZ (own_ws hw) (kI := 4) (hw _ (List.mem_of_getElem? (i := 7) rfl)) (cs := ([(nar .char ((pc &&& (255 : Int32)).toUInt32.toUInt16.toUInt32.toInt32)), (nar .char ((((pc.toUInt32 >>> ((8 : Int32) &&& 31).toUInt32).toInt32) &&& (255 : Int32)).toUInt32.toUInt16.toUInt32.toInt32))] : List Int32)) (bs := ([((nar .char ((pc &&& (255 : Int32)).toUInt32.toUInt16.toUInt32.toInt32))).toInt8.toInt32, ((nar .char ((((pc.toUInt32 >>> ((8 : Int32) &&& 31).toUInt32).toInt32) &&& (255 : Int32)).toUInt32.toUInt16.toUInt32.toInt32))).toInt8.toInt32] : List Int32)) (n := 2) g19 Z21 A17 (D17 (Or.inr (hw _ (List.mem_of_getElem? (i := 34) rfl))) (ty := (.array .byte)) (by decide) : Fld Z h17 b17 "java/lang/String" "value" "[B" .null) (D17 (Or.inr (hw _ (List.mem_of_getElem? (i := 32) rfl))) (ty := .byte) (by decide) : Fld Z h17 b17 "java/lang/String" "coder" "B" (.int (0 : Int32))) F24 (P1.ext O23.2) hcs rfl rfl (by decide) (by decide) (own_alC (own_ch _) (own_alC (own_ch _) own_al0)) rfl (by decide) (by decide)) (g := (mkF m 30 #[.val (.int pc), .val (.ref b1)] [(.ref b1), (.ref b17), (.ref b17)])) rfl (by rw [hml]; rfl) (Steps.refl _) (a := b17) (argsL := [(.ref b1)]) (rest := [(.ref b17)]) (lenOf own_pd0 rfl) rfl (by show 2 * 0 + _ ≤ _; exact Nat.le_of_eq rfl) (hb hby d1_30) (fun _ _ => ⟨rfl, e17, (by decide : 2 + 1 ≤ _), (by decide : 6 + 2 ≤ _)⟩)
  dsimp only [Pt.U, Pt.locs, Pt.cells, Pt.slots] at X25 l25 y25 z25 st25 hQ25
  subst l25 y25 z25
  obtain ⟨rfl, Nq25, K25, Ex25, Fc25, t25, kb25, -, lt25, ne25, Fv25, Va25⟩ := hQ25
  obtain ⟨lc25, Xh25, N25⟩ := own_hide X25 (Fr.app N15 Nq25)
  clear X25
  refine Go.hop st25 ?_
  have ne26 : b1 ≠ t25 := Nat.ne_of_lt (Nat.lt_of_lt_of_le F24.lt lt25)
  have ne27 : b17 ≠ t25 := Nat.ne_of_lt (Nat.lt_of_lt_of_le A17.lt lt25)
  have g28 : n0 ≤ t25 := Nat.le_trans Z21 lt25
  have sz29 : h0.size ≤ t25 := Nat.le_trans K22.1 lt25
  have Z30 : n0 ≤ T25.heap.size := Nat.le_trans Z21 K25.1
  have K31 : Keep h0 T25.heap [] := K22.trans K25 (own_allC (Or.inr sz20) own_all0)
  have O32 : Old Z n0 T25.heap := O23.keep K25 (own_allC g19 own_all0)
  have Vt25 : Arv Z T25.heap t25 kb25 .byte (2 : Int32) [(.int ((nar .char ((pc &&& (255 : Int32)).toUInt32.toUInt16.toUInt32.toInt32))).toInt8.toInt32), (.int ((nar .char ((((pc.toUInt32 >>> ((8 : Int32) &&& 31).toUInt32).toInt32) &&& (255 : Int32)).toUInt32.toUInt16.toUInt32.toInt32))).toInt8.toInt32)] (.int (0 : Int32)) := Va25
  show Go p.tables e below P T25 (mkF m 33 #[.val (.int pc), .val (.ref b1)] [(.ref b17)])
  obtain ⟨fs, hr, hrun, hended, hW, hsame⟩ := Xh25.leave (v := some (.ref b17)) (fun h => by rw [Bd.returns] at h; cases h)
  refine ⟨_, _, retA Xh25 hx Bd.returns rfl rfl rfl (hb hby d1_33) hr, hrun, hended, hP _ _ ⟨_, _, rfl, ?_, ⟨_, rfl⟩, hW, hsame.mono (by decide) (by decide)⟩⟩
  show Q1 Z pc cs h0 n0 _ T25.heap _
  exact ⟨b17, rfl, N25, K31, sz20, Ex25⟩
theorem own_pn1 : plainName "com/example/referee/referee/parse/OpenElements" = true := by first | (simp [plainName, overriddenIn]; done) | decide +kernel
theorem d8_0 : decode prog_65_method_1_code 0 = .ok (.aload_n 0, 1) := by decide +kernel
theorem d8_1 : decode prog_65_method_1_code 1 = .ok (.invokespecial 1, 3) := by decide +kernel
theorem d8_4 : decode prog_65_method_1_code 4 = .ok (.aload_n 0, 1) := by decide +kernel
theorem d8_5 : decode prog_65_method_1_code 5 = .ok (.bipush 64, 2) := by decide +kernel
theorem d8_7 : decode prog_65_method_1_code 7 = .ok (.anewarray 9, 3) := by decide +kernel
theorem d8_10 : decode prog_65_method_1_code 10 = .ok (.putfield 11, 3) := by decide +kernel
theorem d8_13 : decode prog_65_method_1_code 13 = .ok (.aload_n 0, 1) := by decide +kernel
theorem d8_14 : decode prog_65_method_1_code 14 = .ok (.sipush 256, 3) := by decide +kernel
theorem d8_17 : decode prog_65_method_1_code 17 = .ok (.newarray .char, 2) := by decide +kernel
theorem d8_19 : decode prog_65_method_1_code 19 = .ok (.putfield 15, 3) := by decide +kernel
theorem d8_22 : decode prog_65_method_1_code 22 = .ok (.aload_n 0, 1) := by decide +kernel
theorem d8_23 : decode prog_65_method_1_code 23 = .ok (.bipush 16, 2) := by decide +kernel
theorem d8_25 : decode prog_65_method_1_code 25 = .ok (.newarray .int, 2) := by decide +kernel
theorem d8_27 : decode prog_65_method_1_code 27 = .ok (.putfield 19, 3) := by decide +kernel
theorem d8_30 : decode prog_65_method_1_code 30 = .ok (.return_, 1) := by decide +kernel
theorem ef_8 (m : MethodId) (x0 : Addr) : entryFrame m #[(.ref x0)] 1 = mkF m 0 #[.val (.ref x0)] [] := by first | (simp [entryFrame, mkF, argsToLocals, Value.category]; done) | rfl
def Q8 (Z : State) (oa : Addr) (h0 : Heap) (n0 : Nat) (v : Option Value) (h : Heap) (L : List Loc) : Prop := ∃ (sh : Addr) (ks : ClassId), v = none ∧ Fr n0 L ∧ Keep h0 h [oa] ∧ h0.size ≤ sh ∧ Exa Z h oa "com/example/referee/referee/parse/OpenElements" ∧ Fld Z h oa "com/example/referee/referee/parse/OpenElements" "shallow" "[Ljava/lang/String;" (.ref sh) ∧ Fld Z h oa "com/example/referee/referee/parse/OpenElements" "size" "I" (.int (0 : Int32)) ∧ Arv Z h sh ks (.object "java/lang/String") (64 : Int32) (List.replicate 64 .null) .null ∧ (Ovr Z ks "java/lang/String") ∧ (oa ≠ sh)
set_option maxRecDepth 65536 in
set_option maxHeartbeats 40000000 in
theorem rm8 (l : Launch) (Z : State) (a0 : Array Value) (hw : ∀ d ∈ tables_1, d.before a0 Z = true) (ws : List Jvm.Cond) (oa : Addr) (h0 : Heap) (n0 : Nat) (Z0 : n0 ≤ h0.size) (P0 : Exa Z h0 oa "com/example/referee/referee/parse/OpenElements") (P1 : Fld Z h0 oa "com/example/referee/referee/parse/OpenElements" "shallow" "[Ljava/lang/String;" .null) (P2 : Fld Z h0 oa "com/example/referee/referee/parse/OpenElements" "names" "[C" .null) (P3 : Fld Z h0 oa "com/example/referee/referee/parse/OpenElements" "ends" "[I" .null) (P4 : Fld Z h0 oa "com/example/referee/referee/parse/OpenElements" "size" "I" (.int (0 : Int32))) (ga : n0 ≤ oa) :
    MetFree l (⟨"com/example/referee/referee/parse/OpenElements", "<init>", "()V"⟩ : MethodName) (head1 (Jvm.Cond.code (⟨"com/example/referee/referee/parse/OpenElements", "<init>", "()V"⟩ : MethodName) prog_65_method_1_code 1 none :: ws) ({ frames := 1, cells := 3, slots := 336, locals := 12 } : Room)) (fun a U => a = #[(.ref oa)] ∧ Z.Warmed39 U.vm ∧ U.heap = h0) (fun _ _ _ _ _ => True) (fun _ U o U' => ∃ v L, o = .returned v ∧ Q8 Z oa h0 n0 v U'.heap L ∧ FrameEnd U o U' L ({ frames := 1, cells := 3, slots := 336, locals := 12 } : Room).cells ({ frames := 1, cells := 3, slots := 336, locals := 12 } : Room).slots) := by
  refine MetFree.of_bodySF (plainFor_of_name own_pn1) hisR ?_
  intro p e s m args below meth c s₁ Bd hml0 hP hK
  obtain ⟨rfl, hZ, hh⟩ := hP
  have hx := Bd.exec
  have hby := Bd.bytes
  have hml : c.maxLocals = 1 := hml0
  have hown : s.vm.findClass "com/example/referee/referee/parse/OpenElements" = some m.cls := findClass_of_methodNamed Bd.named
  have hnm := (name_of_methodNamed Bd.named Bd.method).1
  have X0 : Stand p l e ({ frames := 1, cells := 3, slots := 336, locals := 12 } : Room) s m #[(.ref oa)] below meth c s₁ [] 0 0 := Stand.of_body Bd
  have e0 : s₁.heap = h0 := by rw [← hh, Bd.state]; rfl
  have N0 := Fr.nil n0
  have K0 : Keep h0 h0 [oa] := Keep.refl _ _
  suffices GO : ∀ P : Outcome → State → Prop, (∀ o U', (∃ v L, o = .returned v ∧ Q8 Z oa h0 n0 v U'.heap L ∧ FrameEnd s o U' L ({ frames := 1, cells := 3, slots := 336, locals := 12 } : Room).cells ({ frames := 1, cells := 3, slots := 336, locals := 12 } : Room).slots) → P o U') → Go p.tables e below P s₁ (mkF m 0 #[.val (.ref oa)] []) by
    obtain ⟨s2, o, st, r⟩ := GO _ (fun _ _ q => q)
    exact ⟨s2, o, castTop (ef_8 m oa) st, r⟩
  clear hh
  intro P hP
  show Go p.tables e below P s₁ (mkF m 0 #[.val (.ref oa)] [])
  refine Go.via (fun t k => XS.aloadN X0.here hx rfl (hb hby d8_0) rfl rfl k) ?_
  show Go p.tables e below P s₁ (mkF m 1 #[.val (.ref oa)] [(.ref oa)])
  obtain ⟨T1, X1, e1, st1⟩ := initO X0 hx hZ hown (hw _ (List.mem_of_getElem? (i := 41) rfl)) (hw _ (List.mem_of_getElem? (i := 17) rfl)) (hw _ (List.mem_of_getElem? (i := 18) rfl)) e0 (g := (mkF m 1 #[.val (.ref oa)] [(.ref oa)])) rfl (by rw [hml]; rfl) rfl (hb hby d8_1) (by decide) (W := 0) (by show 2 * 0 + _ ≤ _; exact Nat.le_of_eq rfl) (by decide)
  refine Go.via st1 ?_
  show Go p.tables e below P T1 (mkF m 4 #[.val (.ref oa)] [])
  refine Go.via (fun t k => XS.aloadN X1.here hx rfl (hb hby d8_4) rfl rfl k) ?_
  show Go p.tables e below P T1 (mkF m 5 #[.val (.ref oa)] [(.ref oa)])
  refine Go.via (fun t k => XS.bipush X1.here hx rfl (hb hby d8_5) k) ?_
  show Go p.tables e below P T1 (mkF m 7 #[.val (.ref oa)] [(.int (64 : Int32)), (.ref oa)])
  obtain ⟨T2, h2, k2, X2, e2, E2, A2, O2, st2⟩ := newR X1 hx hZ hown (hw _ (List.mem_of_getElem? (i := 42) rfl)) (hw _ (List.mem_of_getElem? (i := 43) rfl)) e1 (g := (mkF m 7 #[.val (.ref oa)] [(.int (64 : Int32)), (.ref oa)])) rfl (hb hby d8_7) rfl (by decide) (cap := 64) (by decide) (by decide) (by decide) (by decide)
  obtain ⟨b2, g2⟩ : ∃ z, z = h0.size := ⟨_, rfl⟩
  rw [← g2] at A2 st2
  refine Go.via st2 ?_
  have ne3 : oa ≠ b2 := Nat.ne_of_lt (Nat.lt_of_lt_of_le P0.lt (Nat.le_of_eq g2.symm))
  have g4 : n0 ≤ b2 := Nat.le_trans Z0 (Nat.le_of_eq g2.symm)
  have sz5 : h0.size ≤ b2 := Nat.le_trans K0.1 (Nat.le_of_eq g2.symm)
  have Z6 : n0 ≤ h2.size := Nat.le_trans Z0 E2.1
  have K7 : Keep h0 h2 [oa] := K0.ext E2
  have V2 : Arv Z h2 b2 k2 (.object "java/lang/String") (64 : Int32) (List.replicate 64 .null) .null := (Arv.new A2 (by decide)).pad (pad_rep [] .null 64)
  show Go p.tables e below P T2 (mkF m 10 #[.val (.ref oa)] [(.ref b2), (.ref oa)])
  have F8 : Exa Z h2 oa "com/example/referee/referee/parse/OpenElements" := (P0.ext E2)
  have F9 : Fld Z h2 oa "com/example/referee/referee/parse/OpenElements" "shallow" "[Ljava/lang/String;" .null := (P1.ext E2)
  have F10 : Fld Z h2 oa "com/example/referee/referee/parse/OpenElements" "names" "[C" .null := (P2.ext E2)
  have F11 : Fld Z h2 oa "com/example/referee/referee/parse/OpenElements" "ends" "[I" .null := (P3.ext E2)
  have F12 : Fld Z h2 oa "com/example/referee/referee/parse/OpenElements" "size" "I" (.int (0 : Int32)) := (P4.ext E2)
  obtain ⟨T13, h13, X13, e13, W13, st13⟩ := putF X2 hx hZ hown (host := "") (Or.inl (hw _ (List.mem_of_getElem? (i := 44) rfl))) Via.refl e2 F9 F8 (Or.inr ⟨(hw _ (List.mem_of_getElem? (i := 45) rfl)), rfl, hnm⟩) (hw _ (List.mem_of_getElem? (i := 36) rfl)) (ty := (.array (.object "java/lang/String"))) (by decide) rfl rfl (g := (mkF m 10 #[.val (.ref oa)] [(.ref b2), (.ref oa)])) rfl rfl (hb hby d8_10)
  refine Go.via st13 ?_
  have Z14 : n0 ≤ h13.size := Nat.le_trans Z6 (Nat.le_of_eq W13.size.symm)
  have K15 : Keep h0 h13 [oa] := K7.wr W13 (Or.inl (List.mem_of_getElem? (i := 0) rfl))
  obtain ⟨lc13, Xh13, N16⟩ := own_hide X13 (Fr.snoc X13 N0 ga)
  clear X13
  have Fw13 := F9.same W13
  show Go p.tables e below P T13 (mkF m 13 #[.val (.ref oa)] [])
  refine Go.via (fun t k => XS.aloadN Xh13.here hx rfl (hb hby d8_13) rfl rfl k) ?_
  show Go p.tables e below P T13 (mkF m 14 #[.val (.ref oa)] [(.ref oa)])
  refine Go.via (fun t k => XS.sipush Xh13.here hx rfl (hb hby d8_14) k) ?_
  show Go p.tables e below P T13 (mkF m 17 #[.val (.ref oa)] [(.int (256 : Int32)), (.ref oa)])
  have F18 : Exa Z h13 oa "com/example/referee/referee/parse/OpenElements" := (F8.wr W13)
  have F19 : Fld Z h13 oa "com/example/referee/referee/parse/OpenElements" "names" "[C" .null := (F10.other W13 (Or.inr (slot_ne (Or.inl (hw _ (List.mem_of_getElem? (i := 47) rfl))) (Or.inr (hw _ (List.mem_of_getElem? (i := 45) rfl))) (by decide) (t := (.array .char)) (t' := (.array (.object "java/lang/String"))) (by decide) (by decide))))
  have F20 : Fld Z h13 oa "com/example/referee/referee/parse/OpenElements" "ends" "[I" .null := (F11.other W13 (Or.inr (slot_ne (Or.inl (hw _ (List.mem_of_getElem? (i := 50) rfl))) (Or.inr (hw _ (List.mem_of_getElem? (i := 45) rfl))) (by decide) (t := (.array .int)) (t' := (.array (.object "java/lang/String"))) (by decide) (by decide))))
  have F21 : Fld Z h13 oa "com/example/referee/referee/parse/OpenElements" "size" "I" (.int (0 : Int32)) := (F12.other W13 (Or.inr (slot_ne (Or.inl (hw _ (List.mem_of_getElem? (i := 57) rfl))) (Or.inr (hw _ (List.mem_of_getElem? (i := 45) rfl))) (by decide) (t := .int) (t' := (.array (.object "java/lang/String"))) (by decide) (by decide))))
  have F22 : Arv Z h13 b2 k2 (.object "java/lang/String") (64 : Int32) (List.replicate 64 .null) .null := (V2.other W13 (Ne.symm ne3))
  obtain ⟨T17, h17, k17, X17, e17, E17, A17, st17⟩ := newP Xh13 hx hZ (hw _ (List.mem_of_getElem? (i := 5) rfl)) e13 (g := (mkF m 17 #[.val (.ref oa)] [(.int (256 : Int32)), (.ref oa)])) rfl (hb hby d8_17) rfl (by decide) (cap := 256) (by decide) (by decide) (by decide) (by decide)
  obtain ⟨b17, g17⟩ : ∃ z, z = h13.size := ⟨_, rfl⟩
  rw [← g17] at A17 st17
  refine Go.via st17 ?_
  have ne23 : oa ≠ b17 := Nat.ne_of_lt (Nat.lt_of_lt_of_le F18.lt (Nat.le_of_eq g17.symm))
  have ne24 : b2 ≠ b17 := Nat.ne_of_lt (Nat.lt_of_lt_of_le F22.lt (Nat.le_of_eq g17.symm))
  have g25 : n0 ≤ b17 := Nat.le_trans Z14 (Nat.le_of_eq g17.symm)
  have sz26 : h0.size ≤ b17 := Nat.le_trans K15.1 (Nat.le_of_eq g17.symm)
  have Z27 : n0 ≤ h17.size := Nat.le_trans Z14 E17.1
  have K28 : Keep h0 h17 [oa] := K15.ext E17
  have V17 : Arv Z h17 b17 k17 .char (256 : Int32) (List.replicate 256 (.int (0 : Int32))) (.int (0 : Int32)) := (Arv.new A17 (by decide)).pad (pad_rep [] (.int (0 : Int32)) 256)
  show Go p.tables e below P T17 (mkF m 19 #[.val (.ref oa)] [(.ref b17), (.ref oa)])
  have F29 : Exa Z h17 oa "com/example/referee/referee/parse/OpenElements" := (F18.ext E17)
  have F30 : Fld Z h17 oa "com/example/referee/referee/parse/OpenElements" "names" "[C" .null := (F19.ext E17)
  have F31 : Fld Z h17 oa "com/example/referee/referee/parse/OpenElements" "shallow" "[Ljava/lang/String;" (.ref b2) := (Fw13.ext E17)
  have F32 : Fld Z h17 oa "com/example/referee/referee/parse/OpenElements" "ends" "[I" .null := (F20.ext E17)
  have F33 : Fld Z h17 oa "com/example/referee/referee/parse/OpenElements" "size" "I" (.int (0 : Int32)) := (F21.ext E17)
  have F34 : Arv Z h17 b2 k2 (.object "java/lang/String") (64 : Int32) (List.replicate 64 .null) .null := (F22.ext E17)
  obtain ⟨T35, h35, X35, e35, W35, st35⟩ := putF X17 hx hZ hown (host := "") (Or.inl (hw _ (List.mem_of_getElem? (i := 46) rfl))) Via.refl e17 F30 F29 (Or.inl (hw _ (List.mem_of_getElem? (i := 47) rfl))) (hw _ (List.mem_of_getElem? (i := 36) rfl)) (ty := (.array .char)) (by decide) rfl rfl (g := (mkF m 19 #[.val (.ref oa)] [(.ref b17), (.ref oa)])) rfl rfl (hb hby d8_19)
  refine Go.via st35 ?_
  have Z36 : n0 ≤ h35.size := Nat.le_trans Z27 (Nat.le_of_eq W35.size.symm)
  have K37 : Keep h0 h35 [oa] := K28.wr W35 (Or.inl (List.mem_of_getElem? (i := 0) rfl))
  obtain ⟨lc35, Xh35, N38⟩ := own_hide X35 (Fr.snoc X35 N16 ga)
  clear X35
  have Fw35 := F30.same W35
  show Go p.tables e below P T35 (mkF m 22 #[.val (.ref oa)] [])
  refine Go.via (fun t k => XS.aloadN Xh35.here hx rfl (hb hby d8_22) rfl rfl k) ?_
  show Go p.tables e below P T35 (mkF m 23 #[.val (.ref oa)] [(.ref oa)])
  refine Go.via (fun t k => XS.bipush Xh35.here hx rfl (hb hby d8_23) k) ?_
  show Go p.tables e below P T35 (mkF m 25 #[.val (.ref oa)] [(.int (16 : Int32)), (.ref oa)])
  have F40 : Exa Z h35 oa "com/example/referee/referee/parse/OpenElements" := (F29.wr W35)
  have F41 : Fld Z h35 oa "com/example/referee/referee/parse/OpenElements" "shallow" "[Ljava/lang/String;" (.ref b2) := (F31.other W35 (Or.inr (slot_ne (Or.inr (hw _ (List.mem_of_getElem? (i := 45) rfl))) (Or.inl (hw _ (List.mem_of_getElem? (i := 47) rfl))) (by decide) (t := (.array (.object "java/lang/String"))) (t' := (.array .char)) (by decide) (by decide))))
  have F42 : Fld Z h35 oa "com/example/referee/referee/parse/OpenElements" "ends" "[I" .null := (F32.other W35 (Or.inr (slot_ne (Or.inl (hw _ (List.mem_of_getElem? (i := 50) rfl))) (Or.inl (hw _ (List.mem_of_getElem? (i := 47) rfl))) (by decide) (t := (.array .int)) (t' := (.array .char)) (by decide) (by decide))))
  have F43 : Fld Z h35 oa "com/example/referee/referee/parse/OpenElements" "size" "I" (.int (0 : Int32)) := (F33.other W35 (Or.inr (slot_ne (Or.inl (hw _ (List.mem_of_getElem? (i := 57) rfl))) (Or.inl (hw _ (List.mem_of_getElem? (i := 47) rfl))) (by decide) (t := .int) (t' := (.array .char)) (by decide) (by decide))))
  have F44 : Arv Z h35 b2 k2 (.object "java/lang/String") (64 : Int32) (List.replicate 64 .null) .null := (F34.other W35 (Ne.symm ne3))
  have F45 : Arv Z h35 b17 k17 .char (256 : Int32) (List.replicate 256 (.int (0 : Int32))) (.int (0 : Int32)) := (V17.other W35 (Ne.symm ne23))
  obtain ⟨T39, h39, k39, X39, e39, E39, A39, st39⟩ := newP Xh35 hx hZ (hw _ (List.mem_of_getElem? (i := 48) rfl)) e35 (g := (mkF m 25 #[.val (.ref oa)] [(.int (16 : Int32)), (.ref oa)])) rfl (hb hby d8_25) rfl (by decide) (cap := 16) (by decide) (by decide) (by decide) (by decide)
  obtain ⟨b39, g39⟩ : ∃ z, z = h35.size := ⟨_, rfl⟩
  rw [← g39] at A39 st39
  refine Go.via st39 ?_
  have ne46 : oa ≠ b39 := Nat.ne_of_lt (Nat.lt_of_lt_of_le F40.lt (Nat.le_of_eq g39.symm))
  have ne47 : b2 ≠ b39 := Nat.ne_of_lt (Nat.lt_of_lt_of_le F44.lt (Nat.le_of_eq g39.symm))
  have ne48 : b17 ≠ b39 := Nat.ne_of_lt (Nat.lt_of_lt_of_le F45.lt (Nat.le_of_eq g39.symm))
  have g49 : n0 ≤ b39 := Nat.le_trans Z36 (Nat.le_of_eq g39.symm)
  have sz50 : h0.size ≤ b39 := Nat.le_trans K37.1 (Nat.le_of_eq g39.symm)
  have Z51 : n0 ≤ h39.size := Nat.le_trans Z36 E39.1
  have K52 : Keep h0 h39 [oa] := K37.ext E39
  have V39 : Arv Z h39 b39 k39 .int (16 : Int32) [(.int (0 : Int32)), (.int (0 : Int32)), (.int (0 : Int32)), (.int (0 : Int32)), (.int (0 : Int32)), (.int (0 : Int32)), (.int (0 : Int32)), (.int (0 : Int32)), (.int (0 : Int32)), (.int (0 : Int32)), (.int (0 : Int32)), (.int (0 : Int32)), (.int (0 : Int32)), (.int (0 : Int32)), (.int (0 : Int32)), (.int (0 : Int32))] (.int (0 : Int32)) := (Arv.new A39 (by decide)).pad (pad_rep [] (.int (0 : Int32)) 16)
  show Go p.tables e below P T39 (mkF m 27 #[.val (.ref oa)] [(.ref b39), (.ref oa)])
  have F53 : Exa Z h39 oa "com/example/referee/referee/parse/OpenElements" := (F40.ext E39)
  have F54 : Fld Z h39 oa "com/example/referee/referee/parse/OpenElements" "ends" "[I" .null := (F42.ext E39)
  have F55 : Fld Z h39 oa "com/example/referee/referee/parse/OpenElements" "shallow" "[Ljava/lang/String;" (.ref b2) := (F41.ext E39)
  have F56 : Fld Z h39 oa "com/example/referee/referee/parse/OpenElements" "names" "[C" (.ref b17) := (Fw35.ext E39)
  have F57 : Fld Z h39 oa "com/example/referee/referee/parse/OpenElements" "size" "I" (.int (0 : Int32)) := (F43.ext E39)
  have F58 : Arv Z h39 b2 k2 (.object "java/lang/String") (64 : Int32) (List.replicate 64 .null) .null := (F44.ext E39)
  have F59 : Arv Z h39 b17 k17 .char (256 : Int32) (List.replicate 256 (.int (0 : Int32))) (.int (0 : Int32)) := (F45.ext E39)
  obtain ⟨T60, h60, X60, e60, W60, st60⟩ := putF X39 hx hZ hown (host := "") (Or.inl (hw _ (List.mem_of_getElem? (i := 49) rfl))) Via.refl e39 F54 F53 (Or.inl (hw _ (List.mem_of_getElem? (i := 50) rfl))) (hw _ (List.mem_of_getElem? (i := 36) rfl)) (ty := (.array .int)) (by decide) rfl rfl (g := (mkF m 27 #[.val (.ref oa)] [(.ref b39), (.ref oa)])) rfl rfl (hb hby d8_27)
  refine Go.via st60 ?_
  have Z61 : n0 ≤ h60.size := Nat.le_trans Z51 (Nat.le_of_eq W60.size.symm)
  have K62 : Keep h0 h60 [oa] := K52.wr W60 (Or.inl (List.mem_of_getElem? (i := 0) rfl))
  obtain ⟨lc60, Xh60, N63⟩ := own_hide X60 (Fr.snoc X60 N38 ga)
  clear X60
  have Fw60 := F54.same W60
  show Go p.tables e below P T60 (mkF m 30 #[.val (.ref oa)] [])
  obtain ⟨fs, hr, hrun, hended, hW, hsame⟩ := Xh60.leave (v := none) (fun _ => rfl)
  have F65 : Exa Z h60 oa "com/example/referee/referee/parse/OpenElements" := (F53.wr W60)
  have F66 : Fld Z h60 oa "com/example/referee/referee/parse/OpenElements" "shallow" "[Ljava/lang/String;" (.ref b2) := (F55.other W60 (Or.inr (slot_ne (Or.inr (hw _ (List.mem_of_getElem? (i := 45) rfl))) (Or.inl (hw _ (List.mem_of_getElem? (i := 50) rfl))) (by decide) (t := (.array (.object "java/lang/String"))) (t' := (.array .int)) (by decide) (by decide))))
  have F67 : Fld Z h60 oa "com/example/referee/referee/parse/OpenElements" "size" "I" (.int (0 : Int32)) := (F57.other W60 (Or.inr (slot_ne (Or.inl (hw _ (List.mem_of_getElem? (i := 57) rfl))) (Or.inl (hw _ (List.mem_of_getElem? (i := 50) rfl))) (by decide) (t := .int) (t' := (.array .int)) (by decide) (by decide))))
  have F68 : Arv Z h60 b2 k2 (.object "java/lang/String") (64 : Int32) (List.replicate 64 .null) .null := (F58.other W60 (Ne.symm ne3))
  refine ⟨_, _, Xh60.returnOut hx Bd.returns (hb hby d8_30) hr, hrun, hended, hP _ _ ⟨_, _, rfl, ?_, ⟨_, rfl⟩, hW, hsame.mono (by decide) (by decide)⟩⟩
  show Q8 Z oa h0 n0 _ T60.heap _
  rw [e60]
  exact ⟨b2, k2, rfl, N63, K62, sz5, F65, F66, F67, F68, O2, ne3⟩
theorem d9_0 : decode prog_65_method_4_code 0 = .ok (.aload_n 0, 1) := by decide +kernel
theorem d9_1 : decode prog_65_method_4_code 1 = .ok (.getfield 23, 3) := by decide +kernel
theorem d9_4 : decode prog_65_method_4_code 4 = .ok (.bipush 64, 2) := by decide +kernel
theorem d9_6 : decode prog_65_method_4_code 6 = .ok (.if_icmp .ge 16, 3) := by decide +kernel
theorem d9_9 : decode prog_65_method_4_code 9 = .ok (.aload_n 0, 1) := by decide +kernel
theorem d9_10 : decode prog_65_method_4_code 10 = .ok (.getfield 11, 3) := by decide +kernel
theorem d9_13 : decode prog_65_method_4_code 13 = .ok (.aload_n 0, 1) := by decide +kernel
theorem d9_14 : decode prog_65_method_4_code 14 = .ok (.getfield 23, 3) := by decide +kernel
theorem d9_17 : decode prog_65_method_4_code 17 = .ok (.aload_n 1, 1) := by decide +kernel
theorem d9_18 : decode prog_65_method_4_code 18 = .ok (.aastore, 1) := by decide +kernel
theorem d9_19 : decode prog_65_method_4_code 19 = .ok (.goto 8, 3) := by decide +kernel
theorem d9_27 : decode prog_65_method_4_code 27 = .ok (.aload_n 0, 1) := by decide +kernel
theorem d9_28 : decode prog_65_method_4_code 28 = .ok (.dup, 1) := by decide +kernel
theorem d9_29 : decode prog_65_method_4_code 29 = .ok (.getfield 23, 3) := by decide +kernel
theorem d9_32 : decode prog_65_method_4_code 32 = .ok (.iconst 1, 1) := by decide +kernel
theorem d9_33 : decode prog_65_method_4_code 33 = .ok (.iadd, 1) := by decide +kernel
theorem d9_34 : decode prog_65_method_4_code 34 = .ok (.putfield 23, 3) := by decide +kernel
theorem d9_37 : decode prog_65_method_4_code 37 = .ok (.return_, 1) := by decide +kernel
theorem ef_9 (m : MethodId) (x0 : Addr) (x1 : Addr) : entryFrame m #[(.ref x0), (.ref x1)] 2 = mkF m 0 #[.val (.ref x0), .val (.ref x1)] [] := by first | (simp [entryFrame, mkF, argsToLocals, Value.category]; done) | rfl
def Q9 (Z : State) (oa : Addr) (os : Addr) (sh : Addr) (ks : ClassId) (sz : Int32) (vs : List Value) (ii : Nat) (h0 : Heap) (n0 : Nat) (v : Option Value) (h : Heap) (L : List Loc) : Prop := v = none ∧ Fr n0 L ∧ Keep h0 h [oa, sh] ∧ Exa Z h oa "com/example/referee/referee/parse/OpenElements" ∧ Fld Z h oa "com/example/referee/referee/parse/OpenElements" "shallow" "[Ljava/lang/String;" (.ref sh) ∧ Fld Z h oa "com/example/referee/referee/parse/OpenElements" "size" "I" (.int (sz + (1 : Int32))) ∧ Arv Z h sh ks (.object "java/lang/String") (64 : Int32) (vs.set ii (.ref os)) .null
set_option maxRecDepth 65536 in
set_option maxHeartbeats 40000000 in
theorem rm9 (l : Launch) (Z : State) (a0 : Array Value) (hw : ∀ d ∈ tables_1, d.before a0 Z = true) (ws : List Jvm.Cond) (oa : Addr) (os : Addr) (sh : Addr) (ks : ClassId) (sz : Int32) (vs : List Value) (ii : Nat) (h0 : Heap) (n0 : Nat) (Z0 : n0 ≤ h0.size) (P0 : Exa Z h0 oa "com/example/referee/referee/parse/OpenElements") (P1 : Fld Z h0 oa "com/example/referee/referee/parse/OpenElements" "shallow" "[Ljava/lang/String;" (.ref sh)) (P2 : Fld Z h0 oa "com/example/referee/referee/parse/OpenElements" "size" "I" (.int sz)) (P3 : Arv Z h0 sh ks (.object "java/lang/String") (64 : Int32) vs .null) (P4 : Exa Z h0 os "java/lang/String") (ovr : Ovr Z ks "java/lang/String") (ga : n0 ≤ oa) (gs : n0 ≤ sh) (hne : oa ≠ sh) (hi : ii < 64) (hv : ii < vs.length) (hsz : sz = ii.toInt32) :
    MetFree l (⟨"com/example/referee/referee/parse/OpenElements", "push", "(Ljava/lang/String;)V"⟩ : MethodName) (head1 (Jvm.Cond.code (⟨"com/example/referee/referee/parse/OpenElements", "push", "(Ljava/lang/String;)V"⟩ : MethodName) prog_65_method_4_code 2 none :: ws) ({ frames := 0, cells := 0, slots := 0, locals := 0 } : Room)) (fun a U => a = #[(.ref oa), (.ref os)] ∧ Z.Warmed39 U.vm ∧ U.heap = h0) (fun _ _ _ _ _ => True) (fun _ U o U' => ∃ v L, o = .returned v ∧ Q9 Z oa os sh ks sz vs ii h0 n0 v U'.heap L ∧ FrameEnd U o U' L ({ frames := 0, cells := 0, slots := 0, locals := 0 } : Room).cells ({ frames := 0, cells := 0, slots := 0, locals := 0 } : Room).slots) := by
  refine MetFree.of_bodySF (plainFor_of_name own_pn1) hisR ?_
  intro p e s m args below meth c s₁ Bd hml0 hP hK
  obtain ⟨rfl, hZ, hh⟩ := hP
  have hx := Bd.exec
  have hby := Bd.bytes
  have hml : c.maxLocals = 2 := hml0
  have hown : s.vm.findClass "com/example/referee/referee/parse/OpenElements" = some m.cls := findClass_of_methodNamed Bd.named
  have hnm := (name_of_methodNamed Bd.named Bd.method).1
  have X0 : Stand p l e ({ frames := 0, cells := 0, slots := 0, locals := 0 } : Room) s m #[(.ref oa), (.ref os)] below meth c s₁ [] 0 0 := Stand.of_body Bd
  have e0 : s₁.heap = h0 := by rw [← hh, Bd.state]; rfl
  have N0 := Fr.nil n0
  have K0 : Keep h0 h0 [oa, sh] := Keep.refl _ _
  suffices GO : ∀ P : Outcome → State → Prop, (∀ o U', (∃ v L, o = .returned v ∧ Q9 Z oa os sh ks sz vs ii h0 n0 v U'.heap L ∧ FrameEnd s o U' L ({ frames := 0, cells := 0, slots := 0, locals := 0 } : Room).cells ({ frames := 0, cells := 0, slots := 0, locals := 0 } : Room).slots) → P o U') → Go p.tables e below P s₁ (mkF m 0 #[.val (.ref oa), .val (.ref os)] []) by
    obtain ⟨s2, o, st, r⟩ := GO _ (fun _ _ q => q)
    exact ⟨s2, o, castTop (ef_9 m oa os) st, r⟩
  clear hh
  intro P hP
  show Go p.tables e below P s₁ (mkF m 0 #[.val (.ref oa), .val (.ref os)] [])
  refine Go.via (fun t k => XS.aloadN X0.here hx rfl (hb hby d9_0) rfl rfl k) ?_
  show Go p.tables e below P s₁ (mkF m 1 #[.val (.ref oa), .val (.ref os)] [(.ref oa)])
  obtain ⟨T1, X1, e1, st1⟩ := getF X0 hx hZ hown (host := "") (Or.inl (hw _ (List.mem_of_getElem? (i := 56) rfl))) Via.refl e0 P2 (g := (mkF m 1 #[.val (.ref oa), .val (.ref os)] [(.ref oa)])) rfl rfl (hb hby d9_1)
  refine Go.via st1 ?_
  show Go p.tables e below P T1 (mkF m 4 #[.val (.ref oa), .val (.ref os)] [(.int sz)])
  refine Go.via (fun t k => XS.bipush X1.here hx rfl (hb hby d9_4) k) ?_
  show Go p.tables e below P T1 (mkF m 6 #[.val (.ref oa), .val (.ref os)] [(.int (64 : Int32)), (.int sz)])
  refine Go.via (fun t k => XS.icmpNo X1.here hx rfl (hb hby d9_6) rfl (tlt (by rw [hsz]; exact (own_ltN (n := 64) (by omega) (by omega)).mpr hi)).2.1 k) ?_
  show Go p.tables e below P T1 (mkF m 9 #[.val (.ref oa), .val (.ref os)] [])
  refine Go.via (fun t k => XS.aloadN X1.here hx rfl (hb hby d9_9) rfl rfl k) ?_
  show Go p.tables e below P T1 (mkF m 10 #[.val (.ref oa), .val (.ref os)] [(.ref oa)])
  obtain ⟨T2, X2, e2, st2⟩ := getF X1 hx hZ hown (host := "") (Or.inl (hw _ (List.mem_of_getElem? (i := 44) rfl))) Via.refl e1 P1 (g := (mkF m 10 #[.val (.ref oa), .val (.ref os)] [(.ref oa)])) rfl rfl (hb hby d9_10)
  refine Go.via st2 ?_
  show Go p.tables e below P T2 (mkF m 13 #[.val (.ref oa), .val (.ref os)] [(.ref sh)])
  refine Go.via (fun t k => XS.aloadN X2.here hx rfl (hb hby d9_13) rfl rfl k) ?_
  show Go p.tables e below P T2 (mkF m 14 #[.val (.ref oa), .val (.ref os)] [(.ref oa), (.ref sh)])
  obtain ⟨T3, X3, e3, st3⟩ := getF X2 hx hZ hown (host := "") (Or.inl (hw _ (List.mem_of_getElem? (i := 56) rfl))) Via.refl e2 P2 (g := (mkF m 14 #[.val (.ref oa), .val (.ref os)] [(.ref oa), (.ref sh)])) rfl rfl (hb hby d9_14)
  refine Go.via st3 ?_
  show Go p.tables e below P T3 (mkF m 17 #[.val (.ref oa), .val (.ref os)] [(.int sz), (.ref sh)])
  refine Go.via (fun t k => XS.aloadN X3.here hx rfl (hb hby d9_17) rfl rfl k) ?_
  show Go p.tables e below P T3 (mkF m 18 #[.val (.ref oa), .val (.ref os)] [(.ref os), (.int sz), (.ref sh)])
  obtain ⟨c4, A4, q4, S4, N4, H4, G4⟩ := id P3
  have hin4 : ¬ (sz < 0 ∨ c4.slots.size ≤ (sz).toNatClampNeg) := inb_of S4 ⟨by rw [hsz]; exact own_nneg (by omega), by rw [hsz]; exact (own_ltN (n := 64) (by omega) (by omega)).mpr hi⟩
  obtain ⟨T4, h4, X4, e4, W4, st4⟩ := stR X3 hx hZ e3 A4 (j := sz) hin4 rfl (Sto.ofV A4 q4 ovr (Ins.self P4)) (g := (mkF m 18 #[.val (.ref oa), .val (.ref os)] [(.ref os), (.int sz), (.ref sh)])) rfl rfl (hb hby d9_18)
  refine Go.via st4 ?_
  have Z5 : n0 ≤ h4.size := Nat.le_trans Z0 (Nat.le_of_eq W4.size.symm)
  have K6 : Keep h0 h4 [oa, sh] := K0.wr W4 (Or.inl (List.mem_of_getElem? (i := 1) rfl))
  obtain ⟨lc4, Xh4, N7⟩ := own_hide X4 (Fr.snoc X4 N0 gs)
  clear X4
  have V4 : Arv Z h4 sh ks (.object "java/lang/String") (64 : Int32) (vs.set ii (.ref os)) .null := Arv.set A4 q4 S4 N4 H4 G4 rfl W4 ii (by rw [hsz, own_clamp (by omega)]) hv
  show Go p.tables e below P T4 (mkF m 19 #[.val (.ref oa), .val (.ref os)] [])
  refine Go.via (fun t k => XS.goto Xh4.here hx rfl (pc0 := 19) (pc' := 27) rfl (hb hby d9_19) (by decide) (by decide) k) ?_
  show Go p.tables e below P T4 (mkF m 27 #[.val (.ref oa), .val (.ref os)] [])
  refine Go.via (fun t k => XS.aloadN Xh4.here hx rfl (hb hby d9_27) rfl rfl k) ?_
  show Go p.tables e below P T4 (mkF m 28 #[.val (.ref oa), .val (.ref os)] [(.ref oa)])
  refine Go.via (fun t k => XS.dup Xh4.here hx rfl (hb hby d9_28) rfl rfl k) ?_
  show Go p.tables e below P T4 (mkF m 29 #[.val (.ref oa), .val (.ref os)] [(.ref oa), (.ref oa)])
  have F8 : Fld Z h4 oa "com/example/referee/referee/parse/OpenElements" "size" "I" (.int sz) := (P2.other W4 (Or.inl hne))
  obtain ⟨T9, X9, e9, st9⟩ := getF Xh4 hx hZ hown (host := "") (Or.inl (hw _ (List.mem_of_getElem? (i := 56) rfl))) Via.refl e4 F8 (g := (mkF m 29 #[.val (.ref oa), .val (.ref os)] [(.ref oa), (.ref oa)])) rfl rfl (hb hby d9_29)
  refine Go.via st9 ?_
  show Go p.tables e below P T9 (mkF m 32 #[.val (.ref oa), .val (.ref os)] [(.int sz), (.ref oa)])
  refine Go.via (fun t k => XS.iconst X9.here hx rfl (hb hby d9_32) k) ?_
  show Go p.tables e below P T9 (mkF m 33 #[.val (.ref oa), .val (.ref os)] [(.int (1 : Int32)), (.int sz), (.ref oa)])
  refine Go.via (fun t k => XS.iadd X9.here hx rfl (hb hby d9_33) rfl k) ?_
  show Go p.tables e below P T9 (mkF m 34 #[.val (.ref oa), .val (.ref os)] [(.int (sz + (1 : Int32))), (.ref oa)])
  have F10 : Exa Z h4 oa "com/example/referee/referee/parse/OpenElements" := (P0.wr W4)
  have F11 : Fld Z h4 oa "com/example/referee/referee/parse/OpenElements" "shallow" "[Ljava/lang/String;" (.ref sh) := (P1.other W4 (Or.inl hne))
  have F12 : Exa Z h4 os "java/lang/String" := (P4.wr W4)
  obtain ⟨T13, h13, X13, e13, W13, st13⟩ := putF X9 hx hZ hown (host := "") (Or.inl (hw _ (List.mem_of_getElem? (i := 56) rfl))) Via.refl e9 F8 F10 (Or.inl (hw _ (List.mem_of_getElem? (i := 57) rfl))) (hw _ (List.mem_of_getElem? (i := 36) rfl)) (ty := .int) (by decide) rfl rfl (g := (mkF m 34 #[.val (.ref oa), .val (.ref os)] [(.int (sz + (1 : Int32))), (.ref oa)])) rfl rfl (hb hby d9_34)
  refine Go.via st13 ?_
  have Z14 : n0 ≤ h13.size := Nat.le_trans Z5 (Nat.le_of_eq W13.size.symm)
  have K15 : Keep h0 h13 [oa, sh] := K6.wr W13 (Or.inl (List.mem_of_getElem? (i := 0) rfl))
  obtain ⟨lc13, Xh13, N16⟩ := own_hide X13 (Fr.snoc X13 N7 ga)
  clear X13
  have Fw13 := F8.same W13
  show Go p.tables e below P T13 (mkF m 37 #[.val (.ref oa), .val (.ref os)] [])
  obtain ⟨fs, hr, hrun, hended, hW, hsame⟩ := Xh13.leave (v := none) (fun _ => rfl)
  have F18 : Exa Z h13 oa "com/example/referee/referee/parse/OpenElements" := (F10.wr W13)
  have F19 : Fld Z h13 oa "com/example/referee/referee/parse/OpenElements" "shallow" "[Ljava/lang/String;" (.ref sh) := (F11.other W13 (Or.inr (slot_ne (Or.inr (hw _ (List.mem_of_getElem? (i := 45) rfl))) (Or.inl (hw _ (List.mem_of_getElem? (i := 57) rfl))) (by decide) (t := (.array (.object "java/lang/String"))) (t' := .int) (by decide) (by decide))))
  have F20 : Arv Z h13 sh ks (.object "java/lang/String") (64 : Int32) (vs.set ii (.ref os)) .null := (V4.other W13 (Ne.symm hne))
  refine ⟨_, _, Xh13.returnOut hx Bd.returns (hb hby d9_37) hr, hrun, hended, hP _ _ ⟨_, _, rfl, ?_, ⟨_, rfl⟩, hW, hsame.mono (by decide) (by decide)⟩⟩
  show Q9 Z oa os sh ks sz vs ii h0 n0 _ T13.heap _
  rw [e13]
  exact ⟨rfl, N16, K15, F18, F19, Fw13, F20⟩
theorem d10_0 : decode prog_65_method_6_code 0 = .ok (.aload_n 0, 1) := by decide +kernel
theorem d10_1 : decode prog_65_method_6_code 1 = .ok (.dup, 1) := by decide +kernel
theorem d10_2 : decode prog_65_method_6_code 2 = .ok (.getfield 23, 3) := by decide +kernel
theorem d10_5 : decode prog_65_method_6_code 5 = .ok (.iconst 1, 1) := by decide +kernel
theorem d10_6 : decode prog_65_method_6_code 6 = .ok (.isub, 1) := by decide +kernel
theorem d10_7 : decode prog_65_method_6_code 7 = .ok (.putfield 23, 3) := by decide +kernel
theorem d10_10 : decode prog_65_method_6_code 10 = .ok (.aload_n 0, 1) := by decide +kernel
theorem d10_11 : decode prog_65_method_6_code 11 = .ok (.getfield 23, 3) := by decide +kernel
theorem d10_14 : decode prog_65_method_6_code 14 = .ok (.bipush 64, 2) := by decide +kernel
theorem d10_16 : decode prog_65_method_6_code 16 = .ok (.if_icmp .ge 13, 3) := by decide +kernel
theorem d10_19 : decode prog_65_method_6_code 19 = .ok (.aload_n 0, 1) := by decide +kernel
theorem d10_20 : decode prog_65_method_6_code 20 = .ok (.getfield 11, 3) := by decide +kernel
theorem d10_23 : decode prog_65_method_6_code 23 = .ok (.aload_n 0, 1) := by decide +kernel
theorem d10_24 : decode prog_65_method_6_code 24 = .ok (.getfield 23, 3) := by decide +kernel
theorem d10_27 : decode prog_65_method_6_code 27 = .ok (.aconst_null, 1) := by decide +kernel
theorem d10_28 : decode prog_65_method_6_code 28 = .ok (.aastore, 1) := by decide +kernel
theorem d10_29 : decode prog_65_method_6_code 29 = .ok (.return_, 1) := by decide +kernel
theorem ef_10 (m : MethodId) (x0 : Addr) : entryFrame m #[(.ref x0)] 1 = mkF m 0 #[.val (.ref x0)] [] := by first | (simp [entryFrame, mkF, argsToLocals, Value.category]; done) | rfl
def Q10 (Z : State) (oa : Addr) (sh : Addr) (ks : ClassId) (sz : Int32) (vs : List Value) (ii : Nat) (h0 : Heap) (n0 : Nat) (v : Option Value) (h : Heap) (L : List Loc) : Prop := v = none ∧ Fr n0 L ∧ Keep h0 h [oa, sh] ∧ Exa Z h oa "com/example/referee/referee/parse/OpenElements" ∧ Fld Z h oa "com/example/referee/referee/parse/OpenElements" "shallow" "[Ljava/lang/String;" (.ref sh) ∧ Fld Z h oa "com/example/referee/referee/parse/OpenElements" "size" "I" (.int (sz - (1 : Int32))) ∧ Arv Z h sh ks (.object "java/lang/String") (64 : Int32) (vs.set ii .null) .null
set_option maxRecDepth 65536 in
set_option maxHeartbeats 40000000 in
theorem rm10 (l : Launch) (Z : State) (a0 : Array Value) (hw : ∀ d ∈ tables_1, d.before a0 Z = true) (ws : List Jvm.Cond) (oa : Addr) (sh : Addr) (ks : ClassId) (sz : Int32) (vs : List Value) (ii : Nat) (h0 : Heap) (n0 : Nat) (Z0 : n0 ≤ h0.size) (P0 : Exa Z h0 oa "com/example/referee/referee/parse/OpenElements") (P1 : Fld Z h0 oa "com/example/referee/referee/parse/OpenElements" "shallow" "[Ljava/lang/String;" (.ref sh)) (P2 : Fld Z h0 oa "com/example/referee/referee/parse/OpenElements" "size" "I" (.int sz)) (P3 : Arv Z h0 sh ks (.object "java/lang/String") (64 : Int32) vs .null) (ga : n0 ≤ oa) (gs : n0 ≤ sh) (hne : oa ≠ sh) (hi : ii < 64) (hv : ii < vs.length) (hsz : (sz - (1 : Int32)) = ii.toInt32) :
    MetFree l (⟨"com/example/referee/referee/parse/OpenElements", "pop", "()V"⟩ : MethodName) (head1 (Jvm.Cond.code (⟨"com/example/referee/referee/parse/OpenElements", "pop", "()V"⟩ : MethodName) prog_65_method_6_code 1 none :: ws) ({ frames := 0, cells := 0, slots := 0, locals := 0 } : Room)) (fun a U => a = #[(.ref oa)] ∧ Z.Warmed39 U.vm ∧ U.heap = h0) (fun _ _ _ _ _ => True) (fun _ U o U' => ∃ v L, o = .returned v ∧ Q10 Z oa sh ks sz vs ii h0 n0 v U'.heap L ∧ FrameEnd U o U' L ({ frames := 0, cells := 0, slots := 0, locals := 0 } : Room).cells ({ frames := 0, cells := 0, slots := 0, locals := 0 } : Room).slots) := by
  refine MetFree.of_bodySF (plainFor_of_name own_pn1) hisR ?_
  intro p e s m args below meth c s₁ Bd hml0 hP hK
  obtain ⟨rfl, hZ, hh⟩ := hP
  have hx := Bd.exec
  have hby := Bd.bytes
  have hml : c.maxLocals = 1 := hml0
  have hown : s.vm.findClass "com/example/referee/referee/parse/OpenElements" = some m.cls := findClass_of_methodNamed Bd.named
  have hnm := (name_of_methodNamed Bd.named Bd.method).1
  have X0 : Stand p l e ({ frames := 0, cells := 0, slots := 0, locals := 0 } : Room) s m #[(.ref oa)] below meth c s₁ [] 0 0 := Stand.of_body Bd
  have e0 : s₁.heap = h0 := by rw [← hh, Bd.state]; rfl
  have N0 := Fr.nil n0
  have K0 : Keep h0 h0 [oa, sh] := Keep.refl _ _
  suffices GO : ∀ P : Outcome → State → Prop, (∀ o U', (∃ v L, o = .returned v ∧ Q10 Z oa sh ks sz vs ii h0 n0 v U'.heap L ∧ FrameEnd s o U' L ({ frames := 0, cells := 0, slots := 0, locals := 0 } : Room).cells ({ frames := 0, cells := 0, slots := 0, locals := 0 } : Room).slots) → P o U') → Go p.tables e below P s₁ (mkF m 0 #[.val (.ref oa)] []) by
    obtain ⟨s2, o, st, r⟩ := GO _ (fun _ _ q => q)
    exact ⟨s2, o, castTop (ef_10 m oa) st, r⟩
  clear hh
  intro P hP
  show Go p.tables e below P s₁ (mkF m 0 #[.val (.ref oa)] [])
  refine Go.via (fun t k => XS.aloadN X0.here hx rfl (hb hby d10_0) rfl rfl k) ?_
  show Go p.tables e below P s₁ (mkF m 1 #[.val (.ref oa)] [(.ref oa)])
  refine Go.via (fun t k => XS.dup X0.here hx rfl (hb hby d10_1) rfl rfl k) ?_
  show Go p.tables e below P s₁ (mkF m 2 #[.val (.ref oa)] [(.ref oa), (.ref oa)])
  obtain ⟨T1, X1, e1, st1⟩ := getF X0 hx hZ hown (host := "") (Or.inl (hw _ (List.mem_of_getElem? (i := 56) rfl))) Via.refl e0 P2 (g := (mkF m 2 #[.val (.ref oa)] [(.ref oa), (.ref oa)])) rfl rfl (hb hby d10_2)
  refine Go.via st1 ?_
  show Go p.tables e below P T1 (mkF m 5 #[.val (.ref oa)] [(.int sz), (.ref oa)])
  refine Go.via (fun t k => XS.iconst X1.here hx rfl (hb hby d10_5) k) ?_
  show Go p.tables e below P T1 (mkF m 6 #[.val (.ref oa)] [(.int (1 : Int32)), (.int sz), (.ref oa)])
  refine Go.via (fun t k => XS.isub X1.here hx rfl (hb hby d10_6) rfl k) ?_
  show Go p.tables e below P T1 (mkF m 7 #[.val (.ref oa)] [(.int (sz - (1 : Int32))), (.ref oa)])
  obtain ⟨T2, h2, X2, e2, W2, st2⟩ := putF X1 hx hZ hown (host := "") (Or.inl (hw _ (List.mem_of_getElem? (i := 56) rfl))) Via.refl e1 P2 P0 (Or.inl (hw _ (List.mem_of_getElem? (i := 57) rfl))) (hw _ (List.mem_of_getElem? (i := 36) rfl)) (ty := .int) (by decide) rfl rfl (g := (mkF m 7 #[.val (.ref oa)] [(.int (sz - (1 : Int32))), (.ref oa)])) rfl rfl (hb hby d10_7)
  refine Go.via st2 ?_
  have Z3 : n0 ≤ h2.size := Nat.le_trans Z0 (Nat.le_of_eq W2.size.symm)
  have K4 : Keep h0 h2 [oa, sh] := K0.wr W2 (Or.inl (List.mem_of_getElem? (i := 0) rfl))
  obtain ⟨lc2, Xh2, N5⟩ := own_hide X2 (Fr.snoc X2 N0 ga)
  clear X2
  have Fw2 := P2.same W2
  show Go p.tables e below P T2 (mkF m 10 #[.val (.ref oa)] [])
  refine Go.via (fun t k => XS.aloadN Xh2.here hx rfl (hb hby d10_10) rfl rfl k) ?_
  show Go p.tables e below P T2 (mkF m 11 #[.val (.ref oa)] [(.ref oa)])
  obtain ⟨T6, X6, e6, st6⟩ := getF Xh2 hx hZ hown (host := "") (Or.inl (hw _ (List.mem_of_getElem? (i := 56) rfl))) Via.refl e2 Fw2 (g := (mkF m 11 #[.val (.ref oa)] [(.ref oa)])) rfl rfl (hb hby d10_11)
  refine Go.via st6 ?_
  show Go p.tables e below P T6 (mkF m 14 #[.val (.ref oa)] [(.int (sz - (1 : Int32)))])
  refine Go.via (fun t k => XS.bipush X6.here hx rfl (hb hby d10_14) k) ?_
  show Go p.tables e below P T6 (mkF m 16 #[.val (.ref oa)] [(.int (64 : Int32)), (.int (sz - (1 : Int32)))])
  refine Go.via (fun t k => XS.icmpNo X6.here hx rfl (hb hby d10_16) rfl (tlt (by rw [hsz]; exact (own_ltN (n := 64) (by omega) (by omega)).mpr hi)).2.1 k) ?_
  show Go p.tables e below P T6 (mkF m 19 #[.val (.ref oa)] [])
  refine Go.via (fun t k => XS.aloadN X6.here hx rfl (hb hby d10_19) rfl rfl k) ?_
  show Go p.tables e below P T6 (mkF m 20 #[.val (.ref oa)] [(.ref oa)])
  have F7 : Fld Z h2 oa "com/example/referee/referee/parse/OpenElements" "shallow" "[Ljava/lang/String;" (.ref sh) := (P1.other W2 (Or.inr (slot_ne (Or.inr (hw _ (List.mem_of_getElem? (i := 45) rfl))) (Or.inl (hw _ (List.mem_of_getElem? (i := 57) rfl))) (by decide) (t := (.array (.object "java/lang/String"))) (t' := .int) (by decide) (by decide))))
  obtain ⟨T8, X8, e8, st8⟩ := getF X6 hx hZ hown (host := "") (Or.inl (hw _ (List.mem_of_getElem? (i := 44) rfl))) Via.refl e6 F7 (g := (mkF m 20 #[.val (.ref oa)] [(.ref oa)])) rfl rfl (hb hby d10_20)
  refine Go.via st8 ?_
  show Go p.tables e below P T8 (mkF m 23 #[.val (.ref oa)] [(.ref sh)])
  refine Go.via (fun t k => XS.aloadN X8.here hx rfl (hb hby d10_23) rfl rfl k) ?_
  show Go p.tables e below P T8 (mkF m 24 #[.val (.ref oa)] [(.ref oa), (.ref sh)])
  obtain ⟨T9, X9, e9, st9⟩ := getF X8 hx hZ hown (host := "") (Or.inl (hw _ (List.mem_of_getElem? (i := 56) rfl))) Via.refl e8 Fw2 (g := (mkF m 24 #[.val (.ref oa)] [(.ref oa), (.ref sh)])) rfl rfl (hb hby d10_24)
  refine Go.via st9 ?_
  show Go p.tables e below P T9 (mkF m 27 #[.val (.ref oa)] [(.int (sz - (1 : Int32))), (.ref sh)])
  refine Go.via (fun t k => XS.aconstNull X9.here hx rfl (hb hby d10_27) k) ?_
  show Go p.tables e below P T9 (mkF m 28 #[.val (.ref oa)] [.null, (.int (sz - (1 : Int32))), (.ref sh)])
  have F10 : Arv Z h2 sh ks (.object "java/lang/String") (64 : Int32) vs .null := (P3.other W2 (Ne.symm hne))
  have F11 : Exa Z h2 oa "com/example/referee/referee/parse/OpenElements" := (P0.wr W2)
  obtain ⟨c12, A12, q12, S12, N12, H12, G12⟩ := id F10
  have hin12 : ¬ ((sz - (1 : Int32)) < 0 ∨ c12.slots.size ≤ ((sz - (1 : Int32))).toNatClampNeg) := inb_of S12 ⟨by rw [hsz]; exact own_nneg (by omega), by rw [hsz]; exact (own_ltN (n := 64) (by omega) (by omega)).mpr hi⟩
  obtain ⟨T12, h12, X12, e12, W12, st12⟩ := stR X9 hx hZ e9 A12 (j := (sz - (1 : Int32))) hin12 rfl (Or.inl rfl) (g := (mkF m 28 #[.val (.ref oa)] [.null, (.int (sz - (1 : Int32))), (.ref sh)])) rfl rfl (hb hby d10_28)
  refine Go.via st12 ?_
  have Z13 : n0 ≤ h12.size := Nat.le_trans Z3 (Nat.le_of_eq W12.size.symm)
  have K14 : Keep h0 h12 [oa, sh] := K4.wr W12 (Or.inl (List.mem_of_getElem? (i := 1) rfl))
  obtain ⟨lc12, Xh12, N15⟩ := own_hide X12 (Fr.snoc X12 N5 gs)
  clear X12
  have V12 : Arv Z h12 sh ks (.object "java/lang/String") (64 : Int32) (vs.set ii .null) .null := Arv.set A12 q12 S12 N12 H12 G12 rfl W12 ii (by rw [hsz, own_clamp (by omega)]) hv
  show Go p.tables e below P T12 (mkF m 29 #[.val (.ref oa)] [])
  obtain ⟨fs, hr, hrun, hended, hW, hsame⟩ := Xh12.leave (v := none) (fun _ => rfl)
  have F17 : Exa Z h12 oa "com/example/referee/referee/parse/OpenElements" := (F11.wr W12)
  have F18 : Fld Z h12 oa "com/example/referee/referee/parse/OpenElements" "shallow" "[Ljava/lang/String;" (.ref sh) := (F7.other W12 (Or.inl hne))
  have F19 : Fld Z h12 oa "com/example/referee/referee/parse/OpenElements" "size" "I" (.int (sz - (1 : Int32))) := (Fw2.other W12 (Or.inl hne))
  refine ⟨_, _, Xh12.returnOut hx Bd.returns (hb hby d10_29) hr, hrun, hended, hP _ _ ⟨_, _, rfl, ?_, ⟨_, rfl⟩, hW, hsame.mono (by decide) (by decide)⟩⟩
  show Q10 Z oa sh ks sz vs ii h0 n0 _ T12.heap _
  rw [e12]
  exact ⟨rfl, N15, K14, F17, F18, F19, V12⟩
theorem d11_0 : decode prog_65_method_2_code 0 = .ok (.aload_n 0, 1) := by decide +kernel
theorem d11_1 : decode prog_65_method_2_code 1 = .ok (.getfield 23, 3) := by decide +kernel
theorem d11_4 : decode prog_65_method_2_code 4 = .ok (.ireturn, 1) := by decide +kernel
theorem ef_11 (m : MethodId) (x0 : Addr) : entryFrame m #[(.ref x0)] 1 = mkF m 0 #[.val (.ref x0)] [] := by first | (simp [entryFrame, mkF, argsToLocals, Value.category]; done) | rfl
def Q11 (Z : State) (oa : Addr) (sz : Int32) (h0 : Heap) (n0 : Nat) (v : Option Value) (h : Heap) (L : List Loc) : Prop := v = some (.int sz) ∧ Fr n0 L ∧ h = h0
set_option maxRecDepth 65536 in
set_option maxHeartbeats 40000000 in
theorem rm11 (l : Launch) (Z : State) (a0 : Array Value) (hw : ∀ d ∈ tables_1, d.before a0 Z = true) (ws : List Jvm.Cond) (oa : Addr) (sz : Int32) (h0 : Heap) (n0 : Nat) (Z0 : n0 ≤ h0.size) (P0 : Fld Z h0 oa "com/example/referee/referee/parse/OpenElements" "size" "I" (.int sz)) :
    MetFree l (⟨"com/example/referee/referee/parse/OpenElements", "size", "()I"⟩ : MethodName) (head1 (Jvm.Cond.code (⟨"com/example/referee/referee/parse/OpenElements", "size", "()I"⟩ : MethodName) prog_65_method_2_code 1 (some .int) :: ws) ({ frames := 0, cells := 0, slots := 0, locals := 0 } : Room)) (fun a U => a = #[(.ref oa)] ∧ Z.Warmed39 U.vm ∧ U.heap = h0) (fun _ _ _ _ _ => True) (fun _ U o U' => ∃ v L, o = .returned v ∧ Q11 Z oa sz h0 n0 v U'.heap L ∧ FrameEnd U o U' L ({ frames := 0, cells := 0, slots := 0, locals := 0 } : Room).cells ({ frames := 0, cells := 0, slots := 0, locals := 0 } : Room).slots) := by
  refine MetFree.of_bodySF (plainFor_of_name own_pn1) hisR ?_
  intro p e s m args below meth c s₁ Bd hml0 hP hK
  obtain ⟨rfl, hZ, hh⟩ := hP
  have hx := Bd.exec
  have hby := Bd.bytes
  have hml : c.maxLocals = 1 := hml0
  have hown : s.vm.findClass "com/example/referee/referee/parse/OpenElements" = some m.cls := findClass_of_methodNamed Bd.named
  have hnm := (name_of_methodNamed Bd.named Bd.method).1
  have X0 : Stand p l e ({ frames := 0, cells := 0, slots := 0, locals := 0 } : Room) s m #[(.ref oa)] below meth c s₁ [] 0 0 := Stand.of_body Bd
  have e0 : s₁.heap = h0 := by rw [← hh, Bd.state]; rfl
  have N0 := Fr.nil n0
  have K0 : Keep h0 h0 [] := Keep.refl _ _
  suffices GO : ∀ P : Outcome → State → Prop, (∀ o U', (∃ v L, o = .returned v ∧ Q11 Z oa sz h0 n0 v U'.heap L ∧ FrameEnd s o U' L ({ frames := 0, cells := 0, slots := 0, locals := 0 } : Room).cells ({ frames := 0, cells := 0, slots := 0, locals := 0 } : Room).slots) → P o U') → Go p.tables e below P s₁ (mkF m 0 #[.val (.ref oa)] []) by
    obtain ⟨s2, o, st, r⟩ := GO _ (fun _ _ q => q)
    exact ⟨s2, o, castTop (ef_11 m oa) st, r⟩
  clear hh
  intro P hP
  show Go p.tables e below P s₁ (mkF m 0 #[.val (.ref oa)] [])
  refine Go.via (fun t k => XS.aloadN X0.here hx rfl (hb hby d11_0) rfl rfl k) ?_
  show Go p.tables e below P s₁ (mkF m 1 #[.val (.ref oa)] [(.ref oa)])
  obtain ⟨T1, X1, e1, st1⟩ := getF X0 hx hZ hown (host := "") (Or.inl (hw _ (List.mem_of_getElem? (i := 56) rfl))) Via.refl e0 P0 (g := (mkF m 1 #[.val (.ref oa)] [(.ref oa)])) rfl rfl (hb hby d11_1)
  refine Go.via st1 ?_
  show Go p.tables e below P T1 (mkF m 4 #[.val (.ref oa)] [(.int sz)])
  obtain ⟨fs, hr, hrun, hended, hW, hsame⟩ := X1.leave (v := some (.int sz)) (fun h => by rw [Bd.returns] at h; cases h)
  refine ⟨_, _, retI X1 hx Bd.returns (hb hby d11_4) hr, hrun, hended, hP _ _ ⟨_, _, rfl, ?_, ⟨_, rfl⟩, hW, hsame.mono (by decide) (by decide)⟩⟩
  show Q11 Z oa sz h0 n0 _ T1.heap _
  rw [e1]
  exact ⟨rfl, N0, rfl⟩
theorem d12_0 : decode prog_65_method_7_code 0 = .ok (.aload_n 0, 1) := by decide +kernel
theorem d12_1 : decode prog_65_method_7_code 1 = .ok (.getfield 23, 3) := by decide +kernel
theorem d12_4 : decode prog_65_method_7_code 4 = .ok (.bipush 64, 2) := by decide +kernel
theorem d12_6 : decode prog_65_method_7_code 6 = .ok (.if_icmp .gt 18, 3) := by decide +kernel
theorem d12_9 : decode prog_65_method_7_code 9 = .ok (.aload_n 0, 1) := by decide +kernel
theorem d12_10 : decode prog_65_method_7_code 10 = .ok (.getfield 11, 3) := by decide +kernel
theorem d12_13 : decode prog_65_method_7_code 13 = .ok (.aload_n 0, 1) := by decide +kernel
theorem d12_14 : decode prog_65_method_7_code 14 = .ok (.getfield 23, 3) := by decide +kernel
theorem d12_17 : decode prog_65_method_7_code 17 = .ok (.iconst 1, 1) := by decide +kernel
theorem d12_18 : decode prog_65_method_7_code 18 = .ok (.isub, 1) := by decide +kernel
theorem d12_19 : decode prog_65_method_7_code 19 = .ok (.aaload, 1) := by decide +kernel
theorem d12_20 : decode prog_65_method_7_code 20 = .ok (.astore_n 1, 1) := by decide +kernel
theorem d12_21 : decode prog_65_method_7_code 21 = .ok (.goto 46, 3) := by decide +kernel
theorem d12_67 : decode prog_65_method_7_code 67 = .ok (.aload_n 1, 1) := by decide +kernel
theorem d12_68 : decode prog_65_method_7_code 68 = .ok (.areturn, 1) := by decide +kernel
theorem ef_12 (m : MethodId) (x0 : Addr) : entryFrame m #[(.ref x0)] 3 = mkF m 0 #[.val (.ref x0), .unset, .unset] [] := by first | (simp [entryFrame, mkF, argsToLocals, Value.category]; done) | rfl
def Q12 (Z : State) (oa : Addr) (sh : Addr) (ks : ClassId) (sz : Int32) (vs : List Value) (ii : Nat) (rr : Addr) (h0 : Heap) (n0 : Nat) (v : Option Value) (h : Heap) (L : List Loc) : Prop := v = some (.ref rr) ∧ Fr n0 L ∧ h = h0
set_option maxRecDepth 65536 in
set_option maxHeartbeats 40000000 in
theorem rm12 (l : Launch) (Z : State) (a0 : Array Value) (hw : ∀ d ∈ tables_1, d.before a0 Z = true) (ws : List Jvm.Cond) (oa : Addr) (sh : Addr) (ks : ClassId) (sz : Int32) (vs : List Value) (ii : Nat) (rr : Addr) (h0 : Heap) (n0 : Nat) (Z0 : n0 ≤ h0.size) (P0 : Exa Z h0 oa "com/example/referee/referee/parse/OpenElements") (P1 : Fld Z h0 oa "com/example/referee/referee/parse/OpenElements" "shallow" "[Ljava/lang/String;" (.ref sh)) (P2 : Fld Z h0 oa "com/example/referee/referee/parse/OpenElements" "size" "I" (.int sz)) (P3 : Arv Z h0 sh ks (.object "java/lang/String") (64 : Int32) vs .null) (hi : ii < 64) (hle : ¬ ((64 : Int32) < sz)) (hsz : (sz - (1 : Int32)) = ii.toInt32) (hget : vs.getD ii .null = .ref rr) :
    MetFree l (⟨"com/example/referee/referee/parse/OpenElements", "innermost", "()Ljava/lang/String;"⟩ : MethodName) (head1 (Jvm.Cond.code (⟨"com/example/referee/referee/parse/OpenElements", "innermost", "()Ljava/lang/String;"⟩ : MethodName) prog_65_method_7_code 3 (some (.object "java/lang/String")) :: ws) ({ frames := 0, cells := 0, slots := 0, locals := 0 } : Room)) (fun a U => a = #[(.ref oa)] ∧ Z.Warmed39 U.vm ∧ U.heap = h0) (fun _ _ _ _ _ => True) (fun _ U o U' => ∃ v L, o = .returned v ∧ Q12 Z oa sh ks sz vs ii rr h0 n0 v U'.heap L ∧ FrameEnd U o U' L ({ frames := 0, cells := 0, slots := 0, locals := 0 } : Room).cells ({ frames := 0, cells := 0, slots := 0, locals := 0 } : Room).slots) := by
  refine MetFree.of_bodySF (plainFor_of_name own_pn1) hisR ?_
  intro p e s m args below meth c s₁ Bd hml0 hP hK
  obtain ⟨rfl, hZ, hh⟩ := hP
  have hx := Bd.exec
  have hby := Bd.bytes
  have hml : c.maxLocals = 3 := hml0
  have hown : s.vm.findClass "com/example/referee/referee/parse/OpenElements" = some m.cls := findClass_of_methodNamed Bd.named
  have hnm := (name_of_methodNamed Bd.named Bd.method).1
  have X0 : Stand p l e ({ frames := 0, cells := 0, slots := 0, locals := 0 } : Room) s m #[(.ref oa)] below meth c s₁ [] 0 0 := Stand.of_body Bd
  have e0 : s₁.heap = h0 := by rw [← hh, Bd.state]; rfl
  have N0 := Fr.nil n0
  have K0 : Keep h0 h0 [] := Keep.refl _ _
  suffices GO : ∀ P : Outcome → State → Prop, (∀ o U', (∃ v L, o = .returned v ∧ Q12 Z oa sh ks sz vs ii rr h0 n0 v U'.heap L ∧ FrameEnd s o U' L ({ frames := 0, cells := 0, slots := 0, locals := 0 } : Room).cells ({ frames := 0, cells := 0, slots := 0, locals := 0 } : Room).slots) → P o U') → Go p.tables e below P s₁ (mkF m 0 #[.val (.ref oa), .unset, .unset] []) by
    obtain ⟨s2, o, st, r⟩ := GO _ (fun _ _ q => q)
    exact ⟨s2, o, castTop (ef_12 m oa) st, r⟩
  clear hh
  intro P hP
  show Go p.tables e below P s₁ (mkF m 0 #[.val (.ref oa), .unset, .unset] [])
  refine Go.via (fun t k => XS.aloadN X0.here hx rfl (hb hby d12_0) rfl rfl k) ?_
  show Go p.tables e below P s₁ (mkF m 1 #[.val (.ref oa), .unset, .unset] [(.ref oa)])
  obtain ⟨T1, X1, e1, st1⟩ := getF X0 hx hZ hown (host := "") (Or.inl (hw _ (List.mem_of_getElem? (i := 56) rfl))) Via.refl e0 P2 (g := (mkF m 1 #[.val (.ref oa), .unset, .unset] [(.ref oa)])) rfl rfl (hb hby d12_1)
  refine Go.via st1 ?_
  show Go p.tables e below P T1 (mkF m 4 #[.val (.ref oa), .unset, .unset] [(.int sz)])
  refine Go.via (fun t k => XS.bipush X1.here hx rfl (hb hby d12_4) k) ?_
  show Go p.tables e below P T1 (mkF m 6 #[.val (.ref oa), .unset, .unset] [(.int (64 : Int32)), (.int sz)])
  refine Go.via (fun t k => XS.icmpNo X1.here hx rfl (hb hby d12_6) rfl (flt hle).2.2.1 k) ?_
  show Go p.tables e below P T1 (mkF m 9 #[.val (.ref oa), .unset, .unset] [])
  refine Go.via (fun t k => XS.aloadN X1.here hx rfl (hb hby d12_9) rfl rfl k) ?_
  show Go p.tables e below P T1 (mkF m 10 #[.val (.ref oa), .unset, .unset] [(.ref oa)])
  obtain ⟨T2, X2, e2, st2⟩ := getF X1 hx hZ hown (host := "") (Or.inl (hw _ (List.mem_of_getElem? (i := 44) rfl))) Via.refl e1 P1 (g := (mkF m 10 #[.val (.ref oa), .unset, .unset] [(.ref oa)])) rfl rfl (hb hby d12_10)
  refine Go.via st2 ?_
  show Go p.tables e below P T2 (mkF m 13 #[.val (.ref oa), .unset, .unset] [(.ref sh)])
  refine Go.via (fun t k => XS.aloadN X2.here hx rfl (hb hby d12_13) rfl rfl k) ?_
  show Go p.tables e below P T2 (mkF m 14 #[.val (.ref oa), .unset, .unset] [(.ref oa), (.ref sh)])
  obtain ⟨T3, X3, e3, st3⟩ := getF X2 hx hZ hown (host := "") (Or.inl (hw _ (List.mem_of_getElem? (i := 56) rfl))) Via.refl e2 P2 (g := (mkF m 14 #[.val (.ref oa), .unset, .unset] [(.ref oa), (.ref sh)])) rfl rfl (hb hby d12_14)
  refine Go.via st3 ?_
  show Go p.tables e below P T3 (mkF m 17 #[.val (.ref oa), .unset, .unset] [(.int sz), (.ref sh)])
  refine Go.via (fun t k => XS.iconst X3.here hx rfl (hb hby d12_17) k) ?_
  show Go p.tables e below P T3 (mkF m 18 #[.val (.ref oa), .unset, .unset] [(.int (1 : Int32)), (.int sz), (.ref sh)])
  refine Go.via (fun t k => XS.isub X3.here hx rfl (hb hby d12_18) rfl k) ?_
  show Go p.tables e below P T3 (mkF m 19 #[.val (.ref oa), .unset, .unset] [(.int (sz - (1 : Int32))), (.ref sh)])
  obtain ⟨c4, A4, q4, S4, N4, H4, G4⟩ := id P3
  have hin4 : ¬ ((sz - (1 : Int32)) < 0 ∨ c4.slots.size ≤ ((sz - (1 : Int32))).toNatClampNeg) := inb_of S4 ⟨by rw [hsz]; exact own_nneg (by omega), by rw [hsz]; exact (own_ltN (n := 64) (by omega) (by omega)).mpr hi⟩
  have hat4 : c4.slots[((sz - (1 : Int32))).toNatClampNeg]? = some (.ref rr) := (H4 _ (Nat.lt_of_not_le fun q => hin4 (Or.inr q))).trans (congrArg some (by rw [hsz, own_clamp (by omega)]; exact hget))
  refine Go.via (fun t k => X3.aaload hx (j := (sz - (1 : Int32))) (v := (.ref rr)) (by rw [e3]; exact A4.1) (State.isArrayOf_alike hZ.alike A4.2.1) rfl A4.2.2 hin4 hat4 (g := (mkF m 19 #[.val (.ref oa), .unset, .unset] [(.int (sz - (1 : Int32))), (.ref sh)])) rfl rfl (hb hby d12_19) t k) ?_
  show Go p.tables e below P T3 (mkF m 20 #[.val (.ref oa), .unset, .unset] [(.ref rr)])
  refine Go.via (fun t k => XS.astoreN X3.here hx rfl (hb hby d12_20) rfl rfl (l' := #[.val (.ref oa), .val (.ref rr), .unset]) rfl k) ?_
  show Go p.tables e below P T3 (mkF m 21 #[.val (.ref oa), .val (.ref rr), .unset] [])
  refine Go.via (fun t k => XS.goto X3.here hx rfl (pc0 := 21) (pc' := 67) rfl (hb hby d12_21) (by decide) (by decide) k) ?_
  show Go p.tables e below P T3 (mkF m 67 #[.val (.ref oa), .val (.ref rr), .unset] [])
  refine Go.via (fun t k => XS.aloadN X3.here hx rfl (hb hby d12_67) rfl rfl k) ?_
  show Go p.tables e below P T3 (mkF m 68 #[.val (.ref oa), .val (.ref rr), .unset] [(.ref rr)])
  obtain ⟨fs, hr, hrun, hended, hW, hsame⟩ := X3.leave (v := some (.ref rr)) (fun h => by rw [Bd.returns] at h; cases h)
  refine ⟨_, _, retA X3 hx Bd.returns rfl rfl rfl (hb hby d12_68) hr, hrun, hended, hP _ _ ⟨_, _, rfl, ?_, ⟨_, rfl⟩, hW, hsame.mono (by decide) (by decide)⟩⟩
  show Q12 Z oa sh ks sz vs ii rr h0 n0 _ T3.heap _
  rw [e3]
  exact ⟨rfl, N0, rfl⟩
theorem own_pn2 : plainName "java/lang/String" = true := by first | (simp [plainName, overriddenIn]; done) | decide +kernel
theorem d13_0 : decode jdk_42_method_66_code 0 = .ok (.aload_n 0, 1) := by decide +kernel
theorem d13_1 : decode jdk_42_method_66_code 1 = .ok (.aload_n 1, 1) := by decide +kernel
theorem d13_2 : decode jdk_42_method_66_code 2 = .ok (.if_acmp .ne 5, 3) := by decide +kernel
theorem d13_5 : decode jdk_42_method_66_code 5 = .ok (.iconst 1, 1) := by decide +kernel
theorem d13_6 : decode jdk_42_method_66_code 6 = .ok (.ireturn, 1) := by decide +kernel
theorem ef_13 (m : MethodId) (x0 : Addr) (x1 : Addr) : entryFrame m #[(.ref x1), (.ref x1)] 3 = mkF m 0 #[.val (.ref x1), .val (.ref x1), .unset] [] := by first | (simp [entryFrame, mkF, argsToLocals, Value.category]; done) | rfl
def Q13 (Z : State) (so : Addr) (h0 : Heap) (n0 : Nat) (v : Option Value) (h : Heap) (L : List Loc) : Prop := v = some (.int (1 : Int32)) ∧ Fr n0 L ∧ h = h0
set_option maxRecDepth 65536 in
set_option maxHeartbeats 40000000 in
theorem rm13 (l : Launch) (Z : State) (a0 : Array Value) (hw : ∀ d ∈ tables_1, d.before a0 Z = true) (ws : List Jvm.Cond) (so : Addr) (h0 : Heap) (n0 : Nat) (Z0 : n0 ≤ h0.size) :
    MetFree l (⟨"java/lang/String", "equals", "(Ljava/lang/Object;)Z"⟩ : MethodName) (head1 (Jvm.Cond.code (⟨"java/lang/String", "equals", "(Ljava/lang/Object;)Z"⟩ : MethodName) jdk_42_method_66_code 3 (some .boolean) :: ws) ({ frames := 0, cells := 0, slots := 0, locals := 0 } : Room)) (fun a U => a = #[(.ref so), (.ref so)] ∧ Z.Warmed39 U.vm ∧ U.heap = h0) (fun _ _ _ _ _ => True) (fun _ U o U' => ∃ v L, o = .returned v ∧ Q13 Z so h0 n0 v U'.heap L ∧ FrameEnd U o U' L ({ frames := 0, cells := 0, slots := 0, locals := 0 } : Room).cells ({ frames := 0, cells := 0, slots := 0, locals := 0 } : Room).slots) := by
  refine MetFree.of_bodySF (plainFor_of_name own_pn2) hisR ?_
  intro p e s m args below meth c s₁ Bd hml0 hP hK
  obtain ⟨rfl, hZ, hh⟩ := hP
  have hx := Bd.exec
  have hby := Bd.bytes
  have hml : c.maxLocals = 3 := hml0
  have hown : s.vm.findClass "java/lang/String" = some m.cls := findClass_of_methodNamed Bd.named
  have hnm := (name_of_methodNamed Bd.named Bd.method).1
  have X0 : Stand p l e ({ frames := 0, cells := 0, slots := 0, locals := 0 } : Room) s m #[(.ref so), (.ref so)] below meth c s₁ [] 0 0 := Stand.of_body Bd
  have e0 : s₁.heap = h0 := by rw [← hh, Bd.state]; rfl
  have N0 := Fr.nil n0
  have K0 : Keep h0 h0 [] := Keep.refl _ _
  suffices GO : ∀ P : Outcome → State → Prop, (∀ o U', (∃ v L, o = .returned v ∧ Q13 Z so h0 n0 v U'.heap L ∧ FrameEnd s o U' L ({ frames := 0, cells := 0, slots := 0, locals := 0 } : Room).cells ({ frames := 0, cells := 0, slots := 0, locals := 0 } : Room).slots) → P o U') → Go p.tables e below P s₁ (mkF m 0 #[.val (.ref so), .val (.ref so), .unset] []) by
    obtain ⟨s2, o, st, r⟩ := GO _ (fun _ _ q => q)
    exact ⟨s2, o, castTop (ef_13 m so so) st, r⟩
  clear hh
  intro P hP
  show Go p.tables e below P s₁ (mkF m 0 #[.val (.ref so), .val (.ref so), .unset] [])
  refine Go.via (fun t k => XS.aloadN X0.here hx rfl (hb hby d13_0) rfl rfl k) ?_
  show Go p.tables e below P s₁ (mkF m 1 #[.val (.ref so), .val (.ref so), .unset] [(.ref so)])
  refine Go.via (fun t k => XS.aloadN X0.here hx rfl (hb hby d13_1) rfl rfl k) ?_
  show Go p.tables e below P s₁ (mkF m 2 #[.val (.ref so), .val (.ref so), .unset] [(.ref so), (.ref so)])
  refine Go.via (fun t k => Jvm.RoadKit.acmp (g := (mkF m 2 #[.val (.ref so), .val (.ref so), .unset] [(.ref so), (.ref so)])) X0 hx rfl rfl rfl (pc0 := 2) (pc' := 5) (same := true) rfl (hb hby d13_2) rfl (decide_eq_true rfl) (by decide) (by decide) k) ?_
  show Go p.tables e below P s₁ (mkF m 5 #[.val (.ref so), .val (.ref so), .unset] [])
  refine Go.via (fun t k => XS.iconst X0.here hx rfl (hb hby d13_5) k) ?_
  show Go p.tables e below P s₁ (mkF m 6 #[.val (.ref so), .val (.ref so), .unset] [(.int (1 : Int32))])
  obtain ⟨fs, hr, hrun, hended, hW, hsame⟩ := X0.leave (v := some (.int (1 : Int32))) (fun h => by rw [Bd.returns] at h; cases h)
  refine ⟨_, _, retZ X0 hx (t := .boolean) Bd.returns (by simp) (hb hby d13_6) rfl hr, hrun, hended, hP _ _ ⟨_, _, rfl, ?_, ⟨_, rfl⟩, hW, hsame.mono (by decide) (by decide)⟩⟩
  show Q13 Z so h0 n0 _ s₁.heap _
  rw [e0]
  exact ⟨rfl, N0, rfl⟩
theorem own_pd1 : parseMethodDescriptor "(I)Ljava/lang/String;" = some ⟨[.int], some (.object "java/lang/String")⟩ := by decide +kernel
theorem own_pd2 : parseMethodDescriptor "()V" = some ⟨[], none⟩ := by decide +kernel
theorem own_pd3 : parseMethodDescriptor "(Ljava/lang/String;)V" = some ⟨[(.object "java/lang/String")], none⟩ := by decide +kernel
theorem own_pd4 : parseMethodDescriptor "()I" = some ⟨[], some .int⟩ := by decide +kernel
theorem own_pd5 : parseMethodDescriptor "()Ljava/lang/String;" = some ⟨[], some (.object "java/lang/String")⟩ := by decide +kernel
theorem own_pd6 : parseMethodDescriptor "(Ljava/lang/Object;)Z" = some ⟨[(.object "java/lang/Object")], some .boolean⟩ := by decide +kernel
theorem ef_0 (m : MethodId) (x0 : Int32) (x1 : Int32) (x2 : Int32) (x3 : Int32) (x4 : Int32) : entryFrame m #[(.int x0), (.int x1), (.int x2), (.int x3), (.int x4)] maxLocals = mkF m 0 #[.val (.int x0), .val (.int x1), .val (.int x2), .val (.int x3), .val (.int x4), .unset, .unset, .unset, .unset, .unset, .unset, .unset, .unset] [] := by first | (simp [entryFrame, mkF, argsToLocals, Value.category, maxLocals]; done) | rfl
def Q0 (Z : State) (pn : Int32) (c1 : Int32) (c2 : Int32) (c3 : Int32) (c4 : Int32) (cs : Int32) (h0 : Heap) (n0 : Nat) (v : Option Value) (h : Heap) (L : List Loc) : Prop := v = some (.int (1 : Int32)) ∧ Fr n0 L
set_option maxRecDepth 65536 in
set_option maxHeartbeats 40000000 in
theorem rm0 (l : Launch) (Z : State) (a0 : Array Value) (hw : ∀ d ∈ tables_1, d.before a0 Z = true) (ws : List Jvm.Cond) (pn : Int32) (c1 : Int32) (c2 : Int32) (c3 : Int32) (c4 : Int32) (cs : Int32) (h0 : Heap) (n0 : Nat) (Z0 : n0 ≤ h0.size) (O0 : Old Z n0 h0) (P1 : Sta Z Z.heap "java/lang/String" "COMPACT_STRINGS" "Z" (.int cs)) (hcs : ¬ cs = (0 : Int32)) :
    MetFree l x (head1 (Jvm.Cond.code x code maxLocals ret :: ws) room_1) (fun a U => a = #[(.int pn), (.int c1), (.int c2), (.int c3), (.int c4)] ∧ Z.Warmed39 U.vm ∧ U.heap = h0) (fun _ _ _ _ _ => True) (fun _ U o U' => ∃ v L, o = .returned v ∧ Q0 Z pn c1 c2 c3 c4 cs h0 n0 v U'.heap L ∧ FrameEnd U o U' L room_1.cells room_1.slots) := by
  refine MetFree.of_bodySF (plainFor_of_name own_pn0) hisR ?_
  intro p e s m args below meth c s₁ Bd hml0 hP hK
  obtain ⟨rfl, hZ, hh⟩ := hP
  have hx := Bd.exec
  have hby := Bd.bytes
  have hml : c.maxLocals = 13 := hml0
  have hown : s.vm.findClass "com/example/referee/referee/parse/OpenElementsPopPinLaw" = some m.cls := findClass_of_methodNamed Bd.named
  have hnm := (name_of_methodNamed Bd.named Bd.method).1
  have X0 : Stand p l e room_1 s m #[(.int pn), (.int c1), (.int c2), (.int c3), (.int c4)] below meth c s₁ [] 0 0 := Stand.of_body Bd
  have e0 : s₁.heap = h0 := by rw [← hh, Bd.state]; rfl
  have N0 := Fr.nil n0
  have K0 : Keep h0 h0 [] := Keep.refl _ _
  suffices GO : ∀ P : Outcome → State → Prop, (∀ o U', (∃ v L, o = .returned v ∧ Q0 Z pn c1 c2 c3 c4 cs h0 n0 v U'.heap L ∧ FrameEnd s o U' L room_1.cells room_1.slots) → P o U') → Go p.tables e below P s₁ (mkF m 0 #[.val (.int pn), .val (.int c1), .val (.int c2), .val (.int c3), .val (.int c4), .unset, .unset, .unset, .unset, .unset, .unset, .unset, .unset] []) by
    obtain ⟨s2, o, st, r⟩ := GO _ (fun _ _ q => q)
    exact ⟨s2, o, castTop (ef_0 m pn c1 c2 c3 c4) st, r⟩
  clear hh
  intro P hP
  show Go p.tables e below P s₁ (mkF m 0 #[.val (.int pn), .val (.int c1), .val (.int c2), .val (.int c3), .val (.int c4), .unset, .unset, .unset, .unset, .unset, .unset, .unset, .unset] [])
  refine Go.via (fun t k => XS.iloadN X0.here hx rfl (hb hby at_0) rfl k) ?_
  show Go p.tables e below P s₁ (mkF m 1 #[.val (.int pn), .val (.int c1), .val (.int c2), .val (.int c3), .val (.int c4), .unset, .unset, .unset, .unset, .unset, .unset, .unset, .unset] [(.int pn)])
  refine Go.via (fun t k => X0.ldcInt hx hown (mvT hZ (hw _ (List.mem_of_getElem? (i := 0) rfl))) (g := (mkF m 1 #[.val (.int pn), .val (.int c1), .val (.int c2), .val (.int c3), .val (.int c4), .unset, .unset, .unset, .unset, .unset, .unset, .unset, .unset] [(.int pn)])) rfl (hb hby at_1) t k) ?_
  show Go p.tables e below P s₁ (mkF m 3 #[.val (.int pn), .val (.int c1), .val (.int c2), .val (.int c3), .val (.int c4), .unset, .unset, .unset, .unset, .unset, .unset, .unset, .unset] [(.int (2147483647 : Int32)), (.int pn)])
  refine Go.via (fun t k => XS.iand X0.here hx rfl (hb hby at_3) rfl k) ?_
  show Go p.tables e below P s₁ (mkF m 4 #[.val (.int pn), .val (.int c1), .val (.int c2), .val (.int c3), .val (.int c4), .unset, .unset, .unset, .unset, .unset, .unset, .unset, .unset] [(.int (pn &&& (2147483647 : Int32)))])
  refine Go.via (fun t k => XS.iconst X0.here hx rfl (hb hby at_4) k) ?_
  show Go p.tables e below P s₁ (mkF m 5 #[.val (.int pn), .val (.int c1), .val (.int c2), .val (.int c3), .val (.int c4), .unset, .unset, .unset, .unset, .unset, .unset, .unset, .unset] [(.int (3 : Int32)), (.int (pn &&& (2147483647 : Int32)))])
  refine Go.via (fun t k => iremM X0 hx rfl (hb hby at_5) rfl (by decide) k) ?_
  show Go p.tables e below P s₁ (mkF m 6 #[.val (.int pn), .val (.int c1), .val (.int c2), .val (.int c3), .val (.int c4), .unset, .unset, .unset, .unset, .unset, .unset, .unset, .unset] [(.int ((pn &&& (2147483647 : Int32)) % (3 : Int32)))])
  obtain ⟨nn, hnn⟩ : ∃ z, z = ((pn &&& (2147483647 : Int32)) % (3 : Int32)) := ⟨_, rfl⟩
  rw [← hnn]
  have hor := own_rem3 pn
  rw [← hnn] at hor
  rcases hor with d0 | d1 | d2
  · rw [d0]
    show Go p.tables e below P s₁ (mkF m 6 #[.val (.int pn), .val (.int c1), .val (.int c2), .val (.int c3), .val (.int c4), .unset, .unset, .unset, .unset, .unset, .unset, .unset, .unset] [(.int (0 : Int32))])
    refine Go.via (fun t k => XS.iconst X0.here hx rfl (hb hby at_6) k) ?_
    show Go p.tables e below P s₁ (mkF m 7 #[.val (.int pn), .val (.int c1), .val (.int c2), .val (.int c3), .val (.int c4), .unset, .unset, .unset, .unset, .unset, .unset, .unset, .unset] [(.int (1 : Int32)), (.int (0 : Int32))])
    refine Go.via (fun t k => XS.iadd X0.here hx rfl (hb hby at_7) rfl k) ?_
    show Go p.tables e below P s₁ (mkF m 8 #[.val (.int pn), .val (.int c1), .val (.int c2), .val (.int c3), .val (.int c4), .unset, .unset, .unset, .unset, .unset, .unset, .unset, .unset] [(.int ((0 : Int32) + (1 : Int32)))])
    refine Go.via (fun t k => XS.istore X0.here hx rfl (hb hby at_8) rfl (l' := #[.val (.int pn), .val (.int c1), .val (.int c2), .val (.int c3), .val (.int c4), .val (.int ((0 : Int32) + (1 : Int32))), .unset, .unset, .unset, .unset, .unset, .unset, .unset]) rfl k) ?_
    show Go p.tables e below P s₁ (mkF m 10 #[.val (.int pn), .val (.int c1), .val (.int c2), .val (.int c3), .val (.int c4), .val (.int ((0 : Int32) + (1 : Int32))), .unset, .unset, .unset, .unset, .unset, .unset, .unset] [])
    refine Go.via (fun t k => XS.iloadN X0.here hx rfl (hb hby at_10) rfl k) ?_
    show Go p.tables e below P s₁ (mkF m 11 #[.val (.int pn), .val (.int c1), .val (.int c2), .val (.int c3), .val (.int c4), .val (.int ((0 : Int32) + (1 : Int32))), .unset, .unset, .unset, .unset, .unset, .unset, .unset] [(.int c1)])
    obtain ⟨_, _, ⟨T1, L1, k1, n1⟩, -, X1, ⟨Lc1, hQ1, l1, y1, z1⟩, st1⟩ := Jvm.LawKit.callS X0 hx (y := (⟨"com/example/referee/referee/parse/OpenElementsPopPinLaw", "str", "(I)Ljava/lang/String;"⟩ : MethodName)) hown (mvT hZ (hw _ (List.mem_of_getElem? (i := 1) rfl))) (mvT hZ (hw _ (List.mem_of_getElem? (i := 2) rfl))) (mvT hZ (hw _ (List.mem_of_getElem? (i := 3) rfl))) (mvT hZ (hw _ (List.mem_of_getElem? (i := 4) rfl))) (by decide) (backOf (W := 0) (rm1 l Z a0 hw [] c1 cs h0 n0 Z0 O0 P1 (by first | assumption | decide | omega : ¬ cs = (0 : Int32))) hZ (hw _ (List.mem_of_getElem? (i := 4) rfl)) (hw _ (List.mem_of_getElem? (i := 3) rfl)) (by decide) (by decide)) (g := (mkF m 11 #[.val (.int pn), .val (.int c1), .val (.int c2), .val (.int c3), .val (.int c4), .val (.int ((0 : Int32) + (1 : Int32))), .unset, .unset, .unset, .unset, .unset, .unset, .unset] [(.int c1)])) rfl (by rw [hml]; rfl) (argsL := [(.int c1)]) (rest := []) (lenOf own_pd1 rfl) rfl (by show 2 * 0 + _ ≤ _; exact Nat.le_of_eq rfl) (hb hby at_11) (fun _ _ => ⟨rfl, e0, (by decide : 0 + 3 ≤ _), (by decide : 0 + 8 ≤ _)⟩)
    dsimp only [Pt.U, Pt.locs, Pt.cells, Pt.slots] at X1 l1 y1 z1 st1 hQ1
    subst l1 y1 z1
    obtain ⟨r_1, rfl, Nq1, K1, fr1_r, u1_0⟩ := hQ1
    obtain ⟨lc1, Xh1, N1⟩ := own_hide X1 (Fr.app N0 Nq1)
    clear X1
    refine Go.via st1 ?_
    have g2 : n0 ≤ r_1 := Nat.le_trans Z0 fr1_r
    have sz3 : h0.size ≤ r_1 := Nat.le_trans K0.1 fr1_r
    have Z4 : n0 ≤ T1.heap.size := Nat.le_trans Z0 K1.1
    have K5 : Keep h0 T1.heap [] := K0.trans K1 own_all0
    have O6 : Old Z n0 T1.heap := O0.keep K1 own_all0
    show Go p.tables e below P T1 (mkF m 14 #[.val (.int pn), .val (.int c1), .val (.int c2), .val (.int c3), .val (.int c4), .val (.int ((0 : Int32) + (1 : Int32))), .unset, .unset, .unset, .unset, .unset, .unset, .unset] [(.ref r_1)])
    refine Go.via (fun t k => XS.astore Xh1.here hx rfl (hb hby at_14) rfl rfl (l' := #[.val (.int pn), .val (.int c1), .val (.int c2), .val (.int c3), .val (.int c4), .val (.int ((0 : Int32) + (1 : Int32))), .val (.ref r_1), .unset, .unset, .unset, .unset, .unset, .unset]) rfl k) ?_
    show Go p.tables e below P T1 (mkF m 16 #[.val (.int pn), .val (.int c1), .val (.int c2), .val (.int c3), .val (.int c4), .val (.int ((0 : Int32) + (1 : Int32))), .val (.ref r_1), .unset, .unset, .unset, .unset, .unset, .unset] [])
    refine Go.via (fun t k => XS.iloadN Xh1.here hx rfl (hb hby at_16) rfl k) ?_
    show Go p.tables e below P T1 (mkF m 17 #[.val (.int pn), .val (.int c1), .val (.int c2), .val (.int c3), .val (.int c4), .val (.int ((0 : Int32) + (1 : Int32))), .val (.ref r_1), .unset, .unset, .unset, .unset, .unset, .unset] [(.int c2)])
    obtain ⟨_, _, ⟨T7, L7, k7, n7⟩, -, X7, ⟨Lc7, hQ7, l7, y7, z7⟩, st7⟩ := Jvm.LawKit.callS Xh1 hx (y := (⟨"com/example/referee/referee/parse/OpenElementsPopPinLaw", "str", "(I)Ljava/lang/String;"⟩ : MethodName)) hown (mvT hZ (hw _ (List.mem_of_getElem? (i := 1) rfl))) (mvT hZ (hw _ (List.mem_of_getElem? (i := 2) rfl))) (mvT hZ (hw _ (List.mem_of_getElem? (i := 3) rfl))) (mvT hZ (hw _ (List.mem_of_getElem? (i := 4) rfl))) (by decide) (backOf (W := 0) (rm1 l Z a0 hw [] c2 cs T1.heap n0 Z4 O6 P1 (by first | assumption | decide | omega : ¬ cs = (0 : Int32))) hZ (hw _ (List.mem_of_getElem? (i := 4) rfl)) (hw _ (List.mem_of_getElem? (i := 3) rfl)) (by decide) (by decide)) (g := (mkF m 17 #[.val (.int pn), .val (.int c1), .val (.int c2), .val (.int c3), .val (.int c4), .val (.int ((0 : Int32) + (1 : Int32))), .val (.ref r_1), .unset, .unset, .unset, .unset, .unset, .unset] [(.int c2)])) rfl (by rw [hml]; rfl) (argsL := [(.int c2)]) (rest := []) (lenOf own_pd1 rfl) rfl (by show 2 * 0 + _ ≤ _; exact Nat.le_of_eq rfl) (hb hby at_17) (fun _ _ => ⟨rfl, rfl, (by decide : 3 + 3 ≤ _), (by decide : 8 + 8 ≤ _)⟩)
    dsimp only [Pt.U, Pt.locs, Pt.cells, Pt.slots] at X7 l7 y7 z7 st7 hQ7
    subst l7 y7 z7
    obtain ⟨r_7, rfl, Nq7, K7, fr7_r, u7_0⟩ := hQ7
    obtain ⟨lc7, Xh7, N7⟩ := own_hide X7 (Fr.app N1 Nq7)
    clear X7
    refine Go.via st7 ?_
    have ne8 : r_1 ≠ r_7 := Nat.ne_of_lt (Nat.lt_of_lt_of_le u1_0.lt fr7_r)
    have g9 : n0 ≤ r_7 := Nat.le_trans Z4 fr7_r
    have sz10 : h0.size ≤ r_7 := Nat.le_trans K5.1 fr7_r
    have Z11 : n0 ≤ T7.heap.size := Nat.le_trans Z4 K7.1
    have K12 : Keep h0 T7.heap [] := K5.trans K7 own_all0
    have O13 : Old Z n0 T7.heap := O6.keep K7 own_all0
    show Go p.tables e below P T7 (mkF m 20 #[.val (.int pn), .val (.int c1), .val (.int c2), .val (.int c3), .val (.int c4), .val (.int ((0 : Int32) + (1 : Int32))), .val (.ref r_1), .unset, .unset, .unset, .unset, .unset, .unset] [(.ref r_7)])
    refine Go.via (fun t k => XS.astore Xh7.here hx rfl (hb hby at_20) rfl rfl (l' := #[.val (.int pn), .val (.int c1), .val (.int c2), .val (.int c3), .val (.int c4), .val (.int ((0 : Int32) + (1 : Int32))), .val (.ref r_1), .val (.ref r_7), .unset, .unset, .unset, .unset, .unset]) rfl k) ?_
    show Go p.tables e below P T7 (mkF m 22 #[.val (.int pn), .val (.int c1), .val (.int c2), .val (.int c3), .val (.int c4), .val (.int ((0 : Int32) + (1 : Int32))), .val (.ref r_1), .val (.ref r_7), .unset, .unset, .unset, .unset, .unset] [])
    refine Go.via (fun t k => XS.iloadN Xh7.here hx rfl (hb hby at_22) rfl k) ?_
    show Go p.tables e below P T7 (mkF m 23 #[.val (.int pn), .val (.int c1), .val (.int c2), .val (.int c3), .val (.int c4), .val (.int ((0 : Int32) + (1 : Int32))), .val (.ref r_1), .val (.ref r_7), .unset, .unset, .unset, .unset, .unset] [(.int c3)])
    have F14 : Exa Z T7.heap r_1 "java/lang/String" := (u1_0.keep K7)
    obtain ⟨_, _, ⟨T15, L15, k15, n15⟩, -, X15, ⟨Lc15, hQ15, l15, y15, z15⟩, st15⟩ := Jvm.LawKit.callS Xh7 hx (y := (⟨"com/example/referee/referee/parse/OpenElementsPopPinLaw", "str", "(I)Ljava/lang/String;"⟩ : MethodName)) hown (mvT hZ (hw _ (List.mem_of_getElem? (i := 1) rfl))) (mvT hZ (hw _ (List.mem_of_getElem? (i := 2) rfl))) (mvT hZ (hw _ (List.mem_of_getElem? (i := 3) rfl))) (mvT hZ (hw _ (List.mem_of_getElem? (i := 4) rfl))) (by decide) (backOf (W := 0) (rm1 l Z a0 hw [] c3 cs T7.heap n0 Z11 O13 P1 (by first | assumption | decide | omega : ¬ cs = (0 : Int32))) hZ (hw _ (List.mem_of_getElem? (i := 4) rfl)) (hw _ (List.mem_of_getElem? (i := 3) rfl)) (by decide) (by decide)) (g := (mkF m 23 #[.val (.int pn), .val (.int c1), .val (.int c2), .val (.int c3), .val (.int c4), .val (.int ((0 : Int32) + (1 : Int32))), .val (.ref r_1), .val (.ref r_7), .unset, .unset, .unset, .unset, .unset] [(.int c3)])) rfl (by rw [hml]; rfl) (argsL := [(.int c3)]) (rest := []) (lenOf own_pd1 rfl) rfl (by show 2 * 0 + _ ≤ _; exact Nat.le_of_eq rfl) (hb hby at_23) (fun _ _ => ⟨rfl, rfl, (by decide : 6 + 3 ≤ _), (by decide : 16 + 8 ≤ _)⟩)
    dsimp only [Pt.U, Pt.locs, Pt.cells, Pt.slots] at X15 l15 y15 z15 st15 hQ15
    subst l15 y15 z15
    obtain ⟨r_15, rfl, Nq15, K15, fr15_r, u15_0⟩ := hQ15
    obtain ⟨lc15, Xh15, N15⟩ := own_hide X15 (Fr.app N7 Nq15)
    clear X15
    refine Go.via st15 ?_
    have ne16 : r_1 ≠ r_15 := Nat.ne_of_lt (Nat.lt_of_lt_of_le F14.lt fr15_r)
    have ne17 : r_7 ≠ r_15 := Nat.ne_of_lt (Nat.lt_of_lt_of_le u7_0.lt fr15_r)
    have g18 : n0 ≤ r_15 := Nat.le_trans Z11 fr15_r
    have sz19 : h0.size ≤ r_15 := Nat.le_trans K12.1 fr15_r
    have Z20 : n0 ≤ T15.heap.size := Nat.le_trans Z11 K15.1
    have K21 : Keep h0 T15.heap [] := K12.trans K15 own_all0
    have O22 : Old Z n0 T15.heap := O13.keep K15 own_all0
    show Go p.tables e below P T15 (mkF m 26 #[.val (.int pn), .val (.int c1), .val (.int c2), .val (.int c3), .val (.int c4), .val (.int ((0 : Int32) + (1 : Int32))), .val (.ref r_1), .val (.ref r_7), .unset, .unset, .unset, .unset, .unset] [(.ref r_15)])
    refine Go.via (fun t k => XS.astore Xh15.here hx rfl (hb hby at_26) rfl rfl (l' := #[.val (.int pn), .val (.int c1), .val (.int c2), .val (.int c3), .val (.int c4), .val (.int ((0 : Int32) + (1 : Int32))), .val (.ref r_1), .val (.ref r_7), .val (.ref r_15), .unset, .unset, .unset, .unset]) rfl k) ?_
    show Go p.tables e below P T15 (mkF m 28 #[.val (.int pn), .val (.int c1), .val (.int c2), .val (.int c3), .val (.int c4), .val (.int ((0 : Int32) + (1 : Int32))), .val (.ref r_1), .val (.ref r_7), .val (.ref r_15), .unset, .unset, .unset, .unset] [])
    refine Go.via (fun t k => XS.iload Xh15.here hx rfl (hb hby at_28) rfl k) ?_
    show Go p.tables e below P T15 (mkF m 30 #[.val (.int pn), .val (.int c1), .val (.int c2), .val (.int c3), .val (.int c4), .val (.int ((0 : Int32) + (1 : Int32))), .val (.ref r_1), .val (.ref r_7), .val (.ref r_15), .unset, .unset, .unset, .unset] [(.int c4)])
    have F23 : Exa Z T15.heap r_1 "java/lang/String" := (F14.keep K15)
    have F24 : Exa Z T15.heap r_7 "java/lang/String" := (u7_0.keep K15)
    obtain ⟨_, _, ⟨T25, L25, k25, n25⟩, -, X25, ⟨Lc25, hQ25, l25, y25, z25⟩, st25⟩ := Jvm.LawKit.callS Xh15 hx (y := (⟨"com/example/referee/referee/parse/OpenElementsPopPinLaw", "str", "(I)Ljava/lang/String;"⟩ : MethodName)) hown (mvT hZ (hw _ (List.mem_of_getElem? (i := 1) rfl))) (mvT hZ (hw _ (List.mem_of_getElem? (i := 2) rfl))) (mvT hZ (hw _ (List.mem_of_getElem? (i := 3) rfl))) (mvT hZ (hw _ (List.mem_of_getElem? (i := 4) rfl))) (by decide) (backOf (W := 0) (rm1 l Z a0 hw [] c4 cs T15.heap n0 Z20 O22 P1 (by first | assumption | decide | omega : ¬ cs = (0 : Int32))) hZ (hw _ (List.mem_of_getElem? (i := 4) rfl)) (hw _ (List.mem_of_getElem? (i := 3) rfl)) (by decide) (by decide)) (g := (mkF m 30 #[.val (.int pn), .val (.int c1), .val (.int c2), .val (.int c3), .val (.int c4), .val (.int ((0 : Int32) + (1 : Int32))), .val (.ref r_1), .val (.ref r_7), .val (.ref r_15), .unset, .unset, .unset, .unset] [(.int c4)])) rfl (by rw [hml]; rfl) (argsL := [(.int c4)]) (rest := []) (lenOf own_pd1 rfl) rfl (by show 2 * 0 + _ ≤ _; exact Nat.le_of_eq rfl) (hb hby at_30) (fun _ _ => ⟨rfl, rfl, (by decide : 9 + 3 ≤ _), (by decide : 24 + 8 ≤ _)⟩)
    dsimp only [Pt.U, Pt.locs, Pt.cells, Pt.slots] at X25 l25 y25 z25 st25 hQ25
    subst l25 y25 z25
    obtain ⟨r_25, rfl, Nq25, K25, fr25_r, u25_0⟩ := hQ25
    obtain ⟨lc25, Xh25, N25⟩ := own_hide X25 (Fr.app N15 Nq25)
    clear X25
    refine Go.via st25 ?_
    have ne26 : r_1 ≠ r_25 := Nat.ne_of_lt (Nat.lt_of_lt_of_le F23.lt fr25_r)
    have ne27 : r_7 ≠ r_25 := Nat.ne_of_lt (Nat.lt_of_lt_of_le F24.lt fr25_r)
    have ne28 : r_15 ≠ r_25 := Nat.ne_of_lt (Nat.lt_of_lt_of_le u15_0.lt fr25_r)
    have g29 : n0 ≤ r_25 := Nat.le_trans Z20 fr25_r
    have sz30 : h0.size ≤ r_25 := Nat.le_trans K21.1 fr25_r
    have Z31 : n0 ≤ T25.heap.size := Nat.le_trans Z20 K25.1
    have K32 : Keep h0 T25.heap [] := K21.trans K25 own_all0
    have O33 : Old Z n0 T25.heap := O22.keep K25 own_all0
    show Go p.tables e below P T25 (mkF m 33 #[.val (.int pn), .val (.int c1), .val (.int c2), .val (.int c3), .val (.int c4), .val (.int ((0 : Int32) + (1 : Int32))), .val (.ref r_1), .val (.ref r_7), .val (.ref r_15), .unset, .unset, .unset, .unset] [(.ref r_25)])
    refine Go.via (fun t k => XS.astore Xh25.here hx rfl (hb hby at_33) rfl rfl (l' := #[.val (.int pn), .val (.int c1), .val (.int c2), .val (.int c3), .val (.int c4), .val (.int ((0 : Int32) + (1 : Int32))), .val (.ref r_1), .val (.ref r_7), .val (.ref r_15), .val (.ref r_25), .unset, .unset, .unset]) rfl k) ?_
    show Go p.tables e below P T25 (mkF m 35 #[.val (.int pn), .val (.int c1), .val (.int c2), .val (.int c3), .val (.int c4), .val (.int ((0 : Int32) + (1 : Int32))), .val (.ref r_1), .val (.ref r_7), .val (.ref r_15), .val (.ref r_25), .unset, .unset, .unset] [])
    have F35 : Exa Z T25.heap r_1 "java/lang/String" := (F23.keep K25)
    have F36 : Exa Z T25.heap r_7 "java/lang/String" := (F24.keep K25)
    have F37 : Exa Z T25.heap r_15 "java/lang/String" := (u15_0.keep K25)
    obtain ⟨T34, h34, X34, e34, E34, A34, D34, -, st34⟩ := newO Xh25 hx hZ hown (hw _ (List.mem_of_getElem? (i := 35) rfl)) (hw _ (List.mem_of_getElem? (i := 36) rfl)) (hw _ (List.mem_of_getElem? (i := 37) rfl)) rfl (g := (mkF m 35 #[.val (.int pn), .val (.int c1), .val (.int c2), .val (.int c3), .val (.int c4), .val (.int ((0 : Int32) + (1 : Int32))), .val (.ref r_1), .val (.ref r_7), .val (.ref r_15), .val (.ref r_25), .unset, .unset, .unset] [])) rfl (hb hby at_35) (by decide) (by decide)
    obtain ⟨b34, g34⟩ : ∃ z, z = T25.heap.size := ⟨_, rfl⟩
    rw [← g34] at A34 D34 st34
    refine Go.via st34 ?_
    have ne38 : r_1 ≠ b34 := Nat.ne_of_lt (Nat.lt_of_lt_of_le F35.lt (Nat.le_of_eq g34.symm))
    have ne39 : r_7 ≠ b34 := Nat.ne_of_lt (Nat.lt_of_lt_of_le F36.lt (Nat.le_of_eq g34.symm))
    have ne40 : r_15 ≠ b34 := Nat.ne_of_lt (Nat.lt_of_lt_of_le F37.lt (Nat.le_of_eq g34.symm))
    have ne41 : r_25 ≠ b34 := Nat.ne_of_lt (Nat.lt_of_lt_of_le u25_0.lt (Nat.le_of_eq g34.symm))
    have g42 : n0 ≤ b34 := Nat.le_trans Z31 (Nat.le_of_eq g34.symm)
    have sz43 : h0.size ≤ b34 := Nat.le_trans K32.1 (Nat.le_of_eq g34.symm)
    have Z44 : n0 ≤ h34.size := Nat.le_trans Z31 E34.1
    have K45 : Keep h0 h34 [] := K32.ext E34
    have O46 : Old Z n0 h34 := O33.ext E34
    show Go p.tables e below P T34 (mkF m 38 #[.val (.int pn), .val (.int c1), .val (.int c2), .val (.int c3), .val (.int c4), .val (.int ((0 : Int32) + (1 : Int32))), .val (.ref r_1), .val (.ref r_7), .val (.ref r_15), .val (.ref r_25), .unset, .unset, .unset] [(.ref b34)])
    refine Go.via (fun t k => XS.dup X34.here hx rfl (hb hby at_38) rfl rfl k) ?_
    show Go p.tables e below P T34 (mkF m 39 #[.val (.int pn), .val (.int c1), .val (.int c2), .val (.int c3), .val (.int c4), .val (.int ((0 : Int32) + (1 : Int32))), .val (.ref r_1), .val (.ref r_7), .val (.ref r_15), .val (.ref r_25), .unset, .unset, .unset] [(.ref b34), (.ref b34)])
    have F47 : Exa Z h34 r_1 "java/lang/String" := (F35.ext E34)
    have F48 : Exa Z h34 r_7 "java/lang/String" := (F36.ext E34)
    have F49 : Exa Z h34 r_15 "java/lang/String" := (F37.ext E34)
    have F50 : Exa Z h34 r_25 "java/lang/String" := (u25_0.ext E34)
    obtain ⟨_, _, ⟨T51, L51, k51, n51⟩, -, X51, ⟨Lc51, hQ51, l51, y51, z51⟩, st51⟩ := X34.specialBack hx (y := (⟨"com/example/referee/referee/parse/OpenElements", "<init>", "()V"⟩ : MethodName)) rfl hown (mvT hZ (hw _ (List.mem_of_getElem? (i := 38) rfl))) (mvT hZ (hw _ (List.mem_of_getElem? (i := 39) rfl))) (mvT hZ (hw _ (List.mem_of_getElem? (i := 40) rfl))) (by decide) (backOf (W := 1) (rm8 l Z a0 hw [] b34 h34 n0 Z44 A34 (D34 (Or.inr (hw _ (List.mem_of_getElem? (i := 45) rfl))) (ty := (.array (.object "java/lang/String"))) (by decide) : Fld Z h34 b34 "com/example/referee/referee/parse/OpenElements" "shallow" "[Ljava/lang/String;" .null) (D34 (Or.inl (hw _ (List.mem_of_getElem? (i := 47) rfl))) (ty := (.array .char)) (by decide) : Fld Z h34 b34 "com/example/referee/referee/parse/OpenElements" "names" "[C" .null) (D34 (Or.inl (hw _ (List.mem_of_getElem? (i := 50) rfl))) (ty := (.array .int)) (by decide) : Fld Z h34 b34 "com/example/referee/referee/parse/OpenElements" "ends" "[I" .null) (D34 (Or.inl (hw _ (List.mem_of_getElem? (i := 57) rfl))) (ty := .int) (by decide) : Fld Z h34 b34 "com/example/referee/referee/parse/OpenElements" "size" "I" (.int (0 : Int32))) g42) hZ (hw _ (List.mem_of_getElem? (i := 40) rfl)) (hw _ (List.mem_of_getElem? (i := 37) rfl)) (by decide) (by decide)) (g := (mkF m 39 #[.val (.int pn), .val (.int c1), .val (.int c2), .val (.int c3), .val (.int c4), .val (.int ((0 : Int32) + (1 : Int32))), .val (.ref r_1), .val (.ref r_7), .val (.ref r_15), .val (.ref r_25), .unset, .unset, .unset] [(.ref b34), (.ref b34)])) rfl (by rw [hml]; rfl) (Steps.refl _) (a := b34) (argsL := []) (rest := [(.ref b34)]) (lenOf own_pd2 rfl) rfl (by show 2 * 0 + _ ≤ _; exact Nat.le_of_eq rfl) (hb hby at_39) (fun _ _ => ⟨rfl, e34, (by decide : 13 + 3 ≤ _), (by decide : 36 + 336 ≤ _)⟩)
    dsimp only [Pt.U, Pt.locs, Pt.cells, Pt.slots] at X51 l51 y51 z51 st51 hQ51
    subst l51 y51 z51
    obtain ⟨sh_51, ks_51, rfl, Nq51, K51, fr51_sh, u51_0, u51_1, u51_2, u51_3, u51_4, u51_5⟩ := hQ51
    obtain ⟨lc51, Xh51, N51⟩ := own_hide X51 (Fr.app N25 Nq51)
    clear X51
    refine Go.hop st51 ?_
    have ne52 : r_1 ≠ sh_51 := Nat.ne_of_lt (Nat.lt_of_lt_of_le F47.lt fr51_sh)
    have ne53 : r_7 ≠ sh_51 := Nat.ne_of_lt (Nat.lt_of_lt_of_le F48.lt fr51_sh)
    have ne54 : r_15 ≠ sh_51 := Nat.ne_of_lt (Nat.lt_of_lt_of_le F49.lt fr51_sh)
    have ne55 : r_25 ≠ sh_51 := Nat.ne_of_lt (Nat.lt_of_lt_of_le F50.lt fr51_sh)
    have ne56 : b34 ≠ sh_51 := Nat.ne_of_lt (Nat.lt_of_lt_of_le A34.lt fr51_sh)
    have g57 : n0 ≤ sh_51 := Nat.le_trans Z44 fr51_sh
    have sz58 : h0.size ≤ sh_51 := Nat.le_trans K45.1 fr51_sh
    have Z59 : n0 ≤ T51.heap.size := Nat.le_trans Z44 K51.1
    have K60 : Keep h0 T51.heap [] := K45.trans K51 (own_allC (Or.inr sz43) own_all0)
    have O61 : Old Z n0 T51.heap := O46.keep K51 (own_allC g42 own_all0)
    show Go p.tables e below P T51 (mkF m 42 #[.val (.int pn), .val (.int c1), .val (.int c2), .val (.int c3), .val (.int c4), .val (.int ((0 : Int32) + (1 : Int32))), .val (.ref r_1), .val (.ref r_7), .val (.ref r_15), .val (.ref r_25), .unset, .unset, .unset] [(.ref b34)])
    refine Go.via (fun t k => XS.astore Xh51.here hx rfl (hb hby at_42) rfl rfl (l' := #[.val (.int pn), .val (.int c1), .val (.int c2), .val (.int c3), .val (.int c4), .val (.int ((0 : Int32) + (1 : Int32))), .val (.ref r_1), .val (.ref r_7), .val (.ref r_15), .val (.ref r_25), .val (.ref b34), .unset, .unset]) rfl k) ?_
    show Go p.tables e below P T51 (mkF m 44 #[.val (.int pn), .val (.int c1), .val (.int c2), .val (.int c3), .val (.int c4), .val (.int ((0 : Int32) + (1 : Int32))), .val (.ref r_1), .val (.ref r_7), .val (.ref r_15), .val (.ref r_25), .val (.ref b34), .unset, .unset] [])
    refine Go.via (fun t k => XS.aload Xh51.here hx rfl (hb hby at_44) rfl rfl k) ?_
    show Go p.tables e below P T51 (mkF m 46 #[.val (.int pn), .val (.int c1), .val (.int c2), .val (.int c3), .val (.int c4), .val (.int ((0 : Int32) + (1 : Int32))), .val (.ref r_1), .val (.ref r_7), .val (.ref r_15), .val (.ref r_25), .val (.ref b34), .unset, .unset] [(.ref b34)])
    refine Go.via (fun t k => XS.aload Xh51.here hx rfl (hb hby at_46) rfl rfl k) ?_
    show Go p.tables e below P T51 (mkF m 48 #[.val (.int pn), .val (.int c1), .val (.int c2), .val (.int c3), .val (.int c4), .val (.int ((0 : Int32) + (1 : Int32))), .val (.ref r_1), .val (.ref r_7), .val (.ref r_15), .val (.ref r_25), .val (.ref b34), .unset, .unset] [(.ref r_1), (.ref b34)])
    have F62 : Exa Z T51.heap r_1 "java/lang/String" := (F47.keep K51)
    have F63 : Exa Z T51.heap r_7 "java/lang/String" := (F48.keep K51)
    have F64 : Exa Z T51.heap r_15 "java/lang/String" := (F49.keep K51)
    have F65 : Exa Z T51.heap r_25 "java/lang/String" := (F50.keep K51)
    obtain ⟨cq66, kq66, q66a, q66b, q66c⟩ := isOf hZ rfl u51_0
    obtain ⟨_, _, ⟨T66, L66, k66, n66⟩, -, X66, ⟨Lc66, hQ66, l66, y66, z66⟩, st66⟩ := Xh51.virtualBack hx (y := (⟨"com/example/referee/referee/parse/OpenElements", "push", "(Ljava/lang/String;)V"⟩ : MethodName)) (z := (⟨"com/example/referee/referee/parse/OpenElements", "push", "(Ljava/lang/String;)V"⟩ : MethodName)) hown (mvT hZ (hw _ (List.mem_of_getElem? (i := 51) rfl))) (mvT hZ (hw _ (List.mem_of_getElem? (i := 52) rfl))) (notFace_of_selects (args := #[]) (mvT hZ (hw _ (List.mem_of_getElem? (i := 54) rfl)))) (mvT hZ (hw _ (List.mem_of_getElem? (i := 54) rfl))) (mvT hZ (hw _ (List.mem_of_getElem? (i := 53) rfl))) (by decide) (backOf (W := 0) (rm9 l Z a0 hw [] b34 r_1 sh_51 ks_51 (0 : Int32) (List.replicate 64 .null) 0 T51.heap n0 Z59 u51_0 u51_1 u51_2 u51_3 F62 u51_4 g42 g57 ne56 (by decide) (by simp) (by decide)) hZ (hw _ (List.mem_of_getElem? (i := 55) rfl)) (hw _ (List.mem_of_getElem? (i := 37) rfl)) (by decide) (by decide)) q66a q66c (g := (mkF m 48 #[.val (.int pn), .val (.int c1), .val (.int c2), .val (.int c3), .val (.int c4), .val (.int ((0 : Int32) + (1 : Int32))), .val (.ref r_1), .val (.ref r_7), .val (.ref r_15), .val (.ref r_25), .val (.ref b34), .unset, .unset] [(.ref r_1), (.ref b34)])) rfl (by rw [hml]; rfl) (Steps.refl _) (argsL := [(.ref r_1)]) (rest := []) (lenOf own_pd3 rfl) rfl (by show 2 * 0 + _ ≤ _; exact Nat.le_of_eq rfl) (hb hby at_48) (fun _ _ => ⟨rfl, rfl, (by decide : 16 + 0 ≤ _), (by decide : 372 + 0 ≤ _)⟩)
    dsimp only [Pt.U, Pt.locs, Pt.cells, Pt.slots] at X66 l66 y66 z66 st66 hQ66
    subst l66 y66 z66
    obtain ⟨rfl, Nq66, K66, u66_0, u66_1, u66_2, u66_3⟩ := hQ66
    obtain ⟨lc66, Xh66, N66⟩ := own_hide X66 (Fr.app N51 Nq66)
    clear X66
    refine Go.hop st66 ?_
    have Z67 : n0 ≤ T66.heap.size := Nat.le_trans Z59 K66.1
    have K68 : Keep h0 T66.heap [] := K60.trans K66 (own_allC (Or.inr sz43) (own_allC (Or.inr sz58) own_all0))
    have O69 : Old Z n0 T66.heap := O61.keep K66 (own_allC g42 (own_allC g57 own_all0))
    show Go p.tables e below P T66 (mkF m 51 #[.val (.int pn), .val (.int c1), .val (.int c2), .val (.int c3), .val (.int c4), .val (.int ((0 : Int32) + (1 : Int32))), .val (.ref r_1), .val (.ref r_7), .val (.ref r_15), .val (.ref r_25), .val (.ref b34), .unset, .unset] [])
    refine Go.via (fun t k => XS.iload Xh66.here hx rfl (hb hby at_51) rfl k) ?_
    show Go p.tables e below P T66 (mkF m 53 #[.val (.int pn), .val (.int c1), .val (.int c2), .val (.int c3), .val (.int c4), .val (.int ((0 : Int32) + (1 : Int32))), .val (.ref r_1), .val (.ref r_7), .val (.ref r_15), .val (.ref r_25), .val (.ref b34), .unset, .unset] [(.int ((0 : Int32) + (1 : Int32)))])
    refine Go.via (fun t k => XS.iconst Xh66.here hx rfl (hb hby at_53) k) ?_
    show Go p.tables e below P T66 (mkF m 54 #[.val (.int pn), .val (.int c1), .val (.int c2), .val (.int c3), .val (.int c4), .val (.int ((0 : Int32) + (1 : Int32))), .val (.ref r_1), .val (.ref r_7), .val (.ref r_15), .val (.ref r_25), .val (.ref b34), .unset, .unset] [(.int (2 : Int32)), (.int ((0 : Int32) + (1 : Int32)))])
    refine Go.via (fun t k => XS.icmpYes Xh66.here hx rfl (pc0 := 54) (pc' := 64) rfl (hb hby at_54) rfl (tlt (by decide : ((0 : Int32) + (1 : Int32)) < (2 : Int32))).1 (by decide) (by decide) k) ?_
    show Go p.tables e below P T66 (mkF m 64 #[.val (.int pn), .val (.int c1), .val (.int c2), .val (.int c3), .val (.int c4), .val (.int ((0 : Int32) + (1 : Int32))), .val (.ref r_1), .val (.ref r_7), .val (.ref r_15), .val (.ref r_25), .val (.ref b34), .unset, .unset] [])
    refine Go.via (fun t k => XS.iload Xh66.here hx rfl (hb hby at_64) rfl k) ?_
    show Go p.tables e below P T66 (mkF m 66 #[.val (.int pn), .val (.int c1), .val (.int c2), .val (.int c3), .val (.int c4), .val (.int ((0 : Int32) + (1 : Int32))), .val (.ref r_1), .val (.ref r_7), .val (.ref r_15), .val (.ref r_25), .val (.ref b34), .unset, .unset] [(.int ((0 : Int32) + (1 : Int32)))])
    refine Go.via (fun t k => XS.iconst Xh66.here hx rfl (hb hby at_66) k) ?_
    show Go p.tables e below P T66 (mkF m 67 #[.val (.int pn), .val (.int c1), .val (.int c2), .val (.int c3), .val (.int c4), .val (.int ((0 : Int32) + (1 : Int32))), .val (.ref r_1), .val (.ref r_7), .val (.ref r_15), .val (.ref r_25), .val (.ref b34), .unset, .unset] [(.int (3 : Int32)), (.int ((0 : Int32) + (1 : Int32)))])
    refine Go.via (fun t k => XS.icmpYes Xh66.here hx rfl (pc0 := 67) (pc' := 77) rfl (hb hby at_67) rfl (tlt (by decide : ((0 : Int32) + (1 : Int32)) < (3 : Int32))).1 (by decide) (by decide) k) ?_
    show Go p.tables e below P T66 (mkF m 77 #[.val (.int pn), .val (.int c1), .val (.int c2), .val (.int c3), .val (.int c4), .val (.int ((0 : Int32) + (1 : Int32))), .val (.ref r_1), .val (.ref r_7), .val (.ref r_15), .val (.ref r_25), .val (.ref b34), .unset, .unset] [])
    refine Go.via (fun t k => XS.aload Xh66.here hx rfl (hb hby at_77) rfl rfl k) ?_
    show Go p.tables e below P T66 (mkF m 79 #[.val (.int pn), .val (.int c1), .val (.int c2), .val (.int c3), .val (.int c4), .val (.int ((0 : Int32) + (1 : Int32))), .val (.ref r_1), .val (.ref r_7), .val (.ref r_15), .val (.ref r_25), .val (.ref b34), .unset, .unset] [(.ref b34)])
    have F70 : Exa Z T66.heap r_1 "java/lang/String" := (F62.keep K66)
    have F71 : Exa Z T66.heap r_7 "java/lang/String" := (F63.keep K66)
    have F72 : Exa Z T66.heap r_15 "java/lang/String" := (F64.keep K66)
    have F73 : Exa Z T66.heap r_25 "java/lang/String" := (F65.keep K66)
    obtain ⟨cq74, kq74, q74a, q74b, q74c⟩ := isOf hZ rfl u66_0
    obtain ⟨_, _, ⟨T74, L74, k74, n74⟩, -, X74, ⟨Lc74, hQ74, l74, y74, z74⟩, st74⟩ := Xh66.virtualBack hx (y := (⟨"com/example/referee/referee/parse/OpenElements", "pop", "()V"⟩ : MethodName)) (z := (⟨"com/example/referee/referee/parse/OpenElements", "pop", "()V"⟩ : MethodName)) hown (mvT hZ (hw _ (List.mem_of_getElem? (i := 58) rfl))) (mvT hZ (hw _ (List.mem_of_getElem? (i := 59) rfl))) (notFace_of_selects (args := #[]) (mvT hZ (hw _ (List.mem_of_getElem? (i := 61) rfl)))) (mvT hZ (hw _ (List.mem_of_getElem? (i := 61) rfl))) (mvT hZ (hw _ (List.mem_of_getElem? (i := 60) rfl))) (by decide) (backOf (W := 0) (rm10 l Z a0 hw [] b34 sh_51 ks_51 ((0 : Int32) + (1 : Int32)) ((List.replicate 64 .null).set 0 (.ref r_1)) 0 T66.heap n0 Z67 u66_0 u66_1 u66_2 u66_3 g42 g57 ne56 (by decide) (by simp) (by decide)) hZ (hw _ (List.mem_of_getElem? (i := 62) rfl)) (hw _ (List.mem_of_getElem? (i := 37) rfl)) (by decide) (by decide)) q74a q74c (g := (mkF m 79 #[.val (.int pn), .val (.int c1), .val (.int c2), .val (.int c3), .val (.int c4), .val (.int ((0 : Int32) + (1 : Int32))), .val (.ref r_1), .val (.ref r_7), .val (.ref r_15), .val (.ref r_25), .val (.ref b34), .unset, .unset] [(.ref b34)])) rfl (by rw [hml]; rfl) (Steps.refl _) (argsL := []) (rest := []) (lenOf own_pd2 rfl) rfl (by show 2 * 0 + _ ≤ _; exact Nat.le_of_eq rfl) (hb hby at_79) (fun _ _ => ⟨rfl, rfl, (by decide : 16 + 0 ≤ _), (by decide : 372 + 0 ≤ _)⟩)
    dsimp only [Pt.U, Pt.locs, Pt.cells, Pt.slots] at X74 l74 y74 z74 st74 hQ74
    subst l74 y74 z74
    obtain ⟨rfl, Nq74, K74, u74_0, u74_1, u74_2, u74_3⟩ := hQ74
    obtain ⟨lc74, Xh74, N74⟩ := own_hide X74 (Fr.app N66 Nq74)
    clear X74
    refine Go.hop st74 ?_
    have Z75 : n0 ≤ T74.heap.size := Nat.le_trans Z67 K74.1
    have K76 : Keep h0 T74.heap [] := K68.trans K74 (own_allC (Or.inr sz43) (own_allC (Or.inr sz58) own_all0))
    have O77 : Old Z n0 T74.heap := O69.keep K74 (own_allC g42 (own_allC g57 own_all0))
    show Go p.tables e below P T74 (mkF m 82 #[.val (.int pn), .val (.int c1), .val (.int c2), .val (.int c3), .val (.int c4), .val (.int ((0 : Int32) + (1 : Int32))), .val (.ref r_1), .val (.ref r_7), .val (.ref r_15), .val (.ref r_25), .val (.ref b34), .unset, .unset] [])
    refine Go.via (fun t k => XS.aload Xh74.here hx rfl (hb hby at_82) rfl rfl k) ?_
    show Go p.tables e below P T74 (mkF m 84 #[.val (.int pn), .val (.int c1), .val (.int c2), .val (.int c3), .val (.int c4), .val (.int ((0 : Int32) + (1 : Int32))), .val (.ref r_1), .val (.ref r_7), .val (.ref r_15), .val (.ref r_25), .val (.ref b34), .unset, .unset] [(.ref b34)])
    have F78 : Exa Z T74.heap r_1 "java/lang/String" := (F70.keep K74)
    have F79 : Exa Z T74.heap r_7 "java/lang/String" := (F71.keep K74)
    have F80 : Exa Z T74.heap r_15 "java/lang/String" := (F72.keep K74)
    have F81 : Exa Z T74.heap r_25 "java/lang/String" := (F73.keep K74)
    obtain ⟨cq82, kq82, q82a, q82b, q82c⟩ := isOf hZ rfl u74_0
    obtain ⟨_, _, ⟨T82, L82, k82, n82⟩, -, X82, ⟨Lc82, hQ82, l82, y82, z82⟩, st82⟩ := Xh74.virtualBack hx (y := (⟨"com/example/referee/referee/parse/OpenElements", "size", "()I"⟩ : MethodName)) (z := (⟨"com/example/referee/referee/parse/OpenElements", "size", "()I"⟩ : MethodName)) hown (mvT hZ (hw _ (List.mem_of_getElem? (i := 63) rfl))) (mvT hZ (hw _ (List.mem_of_getElem? (i := 64) rfl))) (notFace_of_selects (args := #[]) (mvT hZ (hw _ (List.mem_of_getElem? (i := 66) rfl)))) (mvT hZ (hw _ (List.mem_of_getElem? (i := 66) rfl))) (mvT hZ (hw _ (List.mem_of_getElem? (i := 65) rfl))) (by decide) (backOf (W := 0) (rm11 l Z a0 hw [] b34 (((0 : Int32) + (1 : Int32)) - (1 : Int32)) T74.heap n0 Z75 u74_2) hZ (hw _ (List.mem_of_getElem? (i := 67) rfl)) (hw _ (List.mem_of_getElem? (i := 37) rfl)) (by decide) (by decide)) q82a q82c (g := (mkF m 84 #[.val (.int pn), .val (.int c1), .val (.int c2), .val (.int c3), .val (.int c4), .val (.int ((0 : Int32) + (1 : Int32))), .val (.ref r_1), .val (.ref r_7), .val (.ref r_15), .val (.ref r_25), .val (.ref b34), .unset, .unset] [(.ref b34)])) rfl (by rw [hml]; rfl) (Steps.refl _) (argsL := []) (rest := []) (lenOf own_pd4 rfl) rfl (by show 2 * 0 + _ ≤ _; exact Nat.le_of_eq rfl) (hb hby at_84) (fun _ _ => ⟨rfl, rfl, (by decide : 16 + 0 ≤ _), (by decide : 372 + 0 ≤ _)⟩)
    dsimp only [Pt.U, Pt.locs, Pt.cells, Pt.slots] at X82 l82 y82 z82 st82 hQ82
    subst l82 y82 z82
    obtain ⟨rfl, Nq82, hh82⟩ := hQ82
    obtain ⟨lc82, Xh82, N82⟩ := own_hide X82 (Fr.app N74 Nq82)
    clear X82
    refine Go.hop st82 ?_
    show Go p.tables e below P T82 (mkF m 87 #[.val (.int pn), .val (.int c1), .val (.int c2), .val (.int c3), .val (.int c4), .val (.int ((0 : Int32) + (1 : Int32))), .val (.ref r_1), .val (.ref r_7), .val (.ref r_15), .val (.ref r_25), .val (.ref b34), .unset, .unset] [(.int (((0 : Int32) + (1 : Int32)) - (1 : Int32)))])
    refine Go.via (fun t k => XS.iload Xh82.here hx rfl (hb hby at_87) rfl k) ?_
    show Go p.tables e below P T82 (mkF m 89 #[.val (.int pn), .val (.int c1), .val (.int c2), .val (.int c3), .val (.int c4), .val (.int ((0 : Int32) + (1 : Int32))), .val (.ref r_1), .val (.ref r_7), .val (.ref r_15), .val (.ref r_25), .val (.ref b34), .unset, .unset] [(.int ((0 : Int32) + (1 : Int32))), (.int (((0 : Int32) + (1 : Int32)) - (1 : Int32)))])
    refine Go.via (fun t k => XS.iconst Xh82.here hx rfl (hb hby at_89) k) ?_
    show Go p.tables e below P T82 (mkF m 90 #[.val (.int pn), .val (.int c1), .val (.int c2), .val (.int c3), .val (.int c4), .val (.int ((0 : Int32) + (1 : Int32))), .val (.ref r_1), .val (.ref r_7), .val (.ref r_15), .val (.ref r_25), .val (.ref b34), .unset, .unset] [(.int (1 : Int32)), (.int ((0 : Int32) + (1 : Int32))), (.int (((0 : Int32) + (1 : Int32)) - (1 : Int32)))])
    refine Go.via (fun t k => XS.isub Xh82.here hx rfl (hb hby at_90) rfl k) ?_
    show Go p.tables e below P T82 (mkF m 91 #[.val (.int pn), .val (.int c1), .val (.int c2), .val (.int c3), .val (.int c4), .val (.int ((0 : Int32) + (1 : Int32))), .val (.ref r_1), .val (.ref r_7), .val (.ref r_15), .val (.ref r_25), .val (.ref b34), .unset, .unset] [(.int (((0 : Int32) + (1 : Int32)) - (1 : Int32))), (.int (((0 : Int32) + (1 : Int32)) - (1 : Int32)))])
    refine Go.via (fun t k => XS.icmpNo Xh82.here hx rfl (hb hby at_91) rfl (teq (rfl : (((0 : Int32) + (1 : Int32)) - (1 : Int32)) = (((0 : Int32) + (1 : Int32)) - (1 : Int32)))).2 k) ?_
    show Go p.tables e below P T82 (mkF m 94 #[.val (.int pn), .val (.int c1), .val (.int c2), .val (.int c3), .val (.int c4), .val (.int ((0 : Int32) + (1 : Int32))), .val (.ref r_1), .val (.ref r_7), .val (.ref r_15), .val (.ref r_25), .val (.ref b34), .unset, .unset] [])
    refine Go.via (fun t k => XS.iconst Xh82.here hx rfl (hb hby at_94) k) ?_
    show Go p.tables e below P T82 (mkF m 95 #[.val (.int pn), .val (.int c1), .val (.int c2), .val (.int c3), .val (.int c4), .val (.int ((0 : Int32) + (1 : Int32))), .val (.ref r_1), .val (.ref r_7), .val (.ref r_15), .val (.ref r_25), .val (.ref b34), .unset, .unset] [(.int (1 : Int32))])
    refine Go.via (fun t k => XS.goto Xh82.here hx rfl (pc0 := 95) (pc' := 99) rfl (hb hby at_95) (by decide) (by decide) k) ?_
    show Go p.tables e below P T82 (mkF m 99 #[.val (.int pn), .val (.int c1), .val (.int c2), .val (.int c3), .val (.int c4), .val (.int ((0 : Int32) + (1 : Int32))), .val (.ref r_1), .val (.ref r_7), .val (.ref r_15), .val (.ref r_25), .val (.ref b34), .unset, .unset] [(.int (1 : Int32))])
    refine Go.via (fun t k => XS.istore Xh82.here hx rfl (hb hby at_99) rfl (l' := #[.val (.int pn), .val (.int c1), .val (.int c2), .val (.int c3), .val (.int c4), .val (.int ((0 : Int32) + (1 : Int32))), .val (.ref r_1), .val (.ref r_7), .val (.ref r_15), .val (.ref r_25), .val (.ref b34), .val (.int (1 : Int32)), .unset]) rfl k) ?_
    show Go p.tables e below P T82 (mkF m 101 #[.val (.int pn), .val (.int c1), .val (.int c2), .val (.int c3), .val (.int c4), .val (.int ((0 : Int32) + (1 : Int32))), .val (.ref r_1), .val (.ref r_7), .val (.ref r_15), .val (.ref r_25), .val (.ref b34), .val (.int (1 : Int32)), .unset] [])
    refine Go.via (fun t k => XS.iload Xh82.here hx rfl (hb hby at_101) rfl k) ?_
    show Go p.tables e below P T82 (mkF m 103 #[.val (.int pn), .val (.int c1), .val (.int c2), .val (.int c3), .val (.int c4), .val (.int ((0 : Int32) + (1 : Int32))), .val (.ref r_1), .val (.ref r_7), .val (.ref r_15), .val (.ref r_25), .val (.ref b34), .val (.int (1 : Int32)), .unset] [(.int ((0 : Int32) + (1 : Int32)))])
    refine Go.via (fun t k => XS.iconst Xh82.here hx rfl (hb hby at_103) k) ?_
    show Go p.tables e below P T82 (mkF m 104 #[.val (.int pn), .val (.int c1), .val (.int c2), .val (.int c3), .val (.int c4), .val (.int ((0 : Int32) + (1 : Int32))), .val (.ref r_1), .val (.ref r_7), .val (.ref r_15), .val (.ref r_25), .val (.ref b34), .val (.int (1 : Int32)), .unset] [(.int (3 : Int32)), (.int ((0 : Int32) + (1 : Int32)))])
    refine Go.via (fun t k => XS.icmpYes Xh82.here hx rfl (pc0 := 104) (pc' := 112) rfl (hb hby at_104) rfl (feq (by decide : ¬ (((0 : Int32) + (1 : Int32)) = (3 : Int32)))).2 (by decide) (by decide) k) ?_
    show Go p.tables e below P T82 (mkF m 112 #[.val (.int pn), .val (.int c1), .val (.int c2), .val (.int c3), .val (.int c4), .val (.int ((0 : Int32) + (1 : Int32))), .val (.ref r_1), .val (.ref r_7), .val (.ref r_15), .val (.ref r_25), .val (.ref b34), .val (.int (1 : Int32)), .unset] [])
    refine Go.via (fun t k => XS.aload Xh82.here hx rfl (hb hby at_112) rfl rfl k) ?_
    show Go p.tables e below P T82 (mkF m 114 #[.val (.int pn), .val (.int c1), .val (.int c2), .val (.int c3), .val (.int c4), .val (.int ((0 : Int32) + (1 : Int32))), .val (.ref r_1), .val (.ref r_7), .val (.ref r_15), .val (.ref r_25), .val (.ref b34), .val (.int (1 : Int32)), .unset] [(.ref r_1)])
    refine Go.via (fun t k => XS.astore Xh82.here hx rfl (hb hby at_114) rfl rfl (l' := #[.val (.int pn), .val (.int c1), .val (.int c2), .val (.int c3), .val (.int c4), .val (.int ((0 : Int32) + (1 : Int32))), .val (.ref r_1), .val (.ref r_7), .val (.ref r_15), .val (.ref r_25), .val (.ref b34), .val (.int (1 : Int32)), .val (.ref r_1)]) rfl k) ?_
    show Go p.tables e below P T82 (mkF m 116 #[.val (.int pn), .val (.int c1), .val (.int c2), .val (.int c3), .val (.int c4), .val (.int ((0 : Int32) + (1 : Int32))), .val (.ref r_1), .val (.ref r_7), .val (.ref r_15), .val (.ref r_25), .val (.ref b34), .val (.int (1 : Int32)), .val (.ref r_1)] [])
    refine Go.via (fun t k => XS.iload Xh82.here hx rfl (hb hby at_116) rfl k) ?_
    show Go p.tables e below P T82 (mkF m 118 #[.val (.int pn), .val (.int c1), .val (.int c2), .val (.int c3), .val (.int c4), .val (.int ((0 : Int32) + (1 : Int32))), .val (.ref r_1), .val (.ref r_7), .val (.ref r_15), .val (.ref r_25), .val (.ref b34), .val (.int (1 : Int32)), .val (.ref r_1)] [(.int ((0 : Int32) + (1 : Int32)))])
    refine Go.via (fun t k => XS.iconst Xh82.here hx rfl (hb hby at_118) k) ?_
    show Go p.tables e below P T82 (mkF m 119 #[.val (.int pn), .val (.int c1), .val (.int c2), .val (.int c3), .val (.int c4), .val (.int ((0 : Int32) + (1 : Int32))), .val (.ref r_1), .val (.ref r_7), .val (.ref r_15), .val (.ref r_25), .val (.ref b34), .val (.int (1 : Int32)), .val (.ref r_1)] [(.int (2 : Int32)), (.int ((0 : Int32) + (1 : Int32)))])
    refine Go.via (fun t k => XS.icmpYes Xh82.here hx rfl (pc0 := 119) (pc' := 147) rfl (hb hby at_119) rfl (tlt (by decide : ((0 : Int32) + (1 : Int32)) < (2 : Int32))).1 (by decide) (by decide) k) ?_
    show Go p.tables e below P T82 (mkF m 147 #[.val (.int pn), .val (.int c1), .val (.int c2), .val (.int c3), .val (.int c4), .val (.int ((0 : Int32) + (1 : Int32))), .val (.ref r_1), .val (.ref r_7), .val (.ref r_15), .val (.ref r_25), .val (.ref b34), .val (.int (1 : Int32)), .val (.ref r_1)] [])
    refine Go.via (fun t k => XS.aload Xh82.here hx rfl (hb hby at_147) rfl rfl k) ?_
    show Go p.tables e below P T82 (mkF m 149 #[.val (.int pn), .val (.int c1), .val (.int c2), .val (.int c3), .val (.int c4), .val (.int ((0 : Int32) + (1 : Int32))), .val (.ref r_1), .val (.ref r_7), .val (.ref r_15), .val (.ref r_25), .val (.ref b34), .val (.int (1 : Int32)), .val (.ref r_1)] [(.ref b34)])
    refine Go.via (fun t k => XS.aload Xh82.here hx rfl (hb hby at_149) rfl rfl k) ?_
    show Go p.tables e below P T82 (mkF m 151 #[.val (.int pn), .val (.int c1), .val (.int c2), .val (.int c3), .val (.int c4), .val (.int ((0 : Int32) + (1 : Int32))), .val (.ref r_1), .val (.ref r_7), .val (.ref r_15), .val (.ref r_25), .val (.ref b34), .val (.int (1 : Int32)), .val (.ref r_1)] [(.ref r_25), (.ref b34)])
    obtain ⟨cq83, kq83, q83a, q83b, q83c⟩ := isOf hZ hh82 u74_0
    obtain ⟨_, _, ⟨T83, L83, k83, n83⟩, -, X83, ⟨Lc83, hQ83, l83, y83, z83⟩, st83⟩ := Xh82.virtualBack hx (y := (⟨"com/example/referee/referee/parse/OpenElements", "push", "(Ljava/lang/String;)V"⟩ : MethodName)) (z := (⟨"com/example/referee/referee/parse/OpenElements", "push", "(Ljava/lang/String;)V"⟩ : MethodName)) hown (mvT hZ (hw _ (List.mem_of_getElem? (i := 51) rfl))) (mvT hZ (hw _ (List.mem_of_getElem? (i := 52) rfl))) (notFace_of_selects (args := #[]) (mvT hZ (hw _ (List.mem_of_getElem? (i := 54) rfl)))) (mvT hZ (hw _ (List.mem_of_getElem? (i := 54) rfl))) (mvT hZ (hw _ (List.mem_of_getElem? (i := 53) rfl))) (by decide) (backOf (W := 0) (rm9 l Z a0 hw [] b34 r_25 sh_51 ks_51 (((0 : Int32) + (1 : Int32)) - (1 : Int32)) (((List.replicate 64 .null).set 0 (.ref r_1)).set 0 .null) 0 T74.heap n0 Z75 u74_0 u74_1 u74_2 u74_3 F81 u51_4 g42 g57 ne56 (by decide) (by simp) (by decide)) hZ (hw _ (List.mem_of_getElem? (i := 55) rfl)) (hw _ (List.mem_of_getElem? (i := 37) rfl)) (by decide) (by decide)) q83a q83c (g := (mkF m 151 #[.val (.int pn), .val (.int c1), .val (.int c2), .val (.int c3), .val (.int c4), .val (.int ((0 : Int32) + (1 : Int32))), .val (.ref r_1), .val (.ref r_7), .val (.ref r_15), .val (.ref r_25), .val (.ref b34), .val (.int (1 : Int32)), .val (.ref r_1)] [(.ref r_25), (.ref b34)])) rfl (by rw [hml]; rfl) (Steps.refl _) (argsL := [(.ref r_25)]) (rest := []) (lenOf own_pd3 rfl) rfl (by show 2 * 0 + _ ≤ _; exact Nat.le_of_eq rfl) (hb hby at_151) (fun _ _ => ⟨rfl, hh82, (by decide : 16 + 0 ≤ _), (by decide : 372 + 0 ≤ _)⟩)
    dsimp only [Pt.U, Pt.locs, Pt.cells, Pt.slots] at X83 l83 y83 z83 st83 hQ83
    subst l83 y83 z83
    obtain ⟨rfl, Nq83, K83, u83_0, u83_1, u83_2, u83_3⟩ := hQ83
    obtain ⟨lc83, Xh83, N83⟩ := own_hide X83 (Fr.app N82 Nq83)
    clear X83
    refine Go.hop st83 ?_
    have Z84 : n0 ≤ T83.heap.size := Nat.le_trans Z75 K83.1
    have K85 : Keep h0 T83.heap [] := K76.trans K83 (own_allC (Or.inr sz43) (own_allC (Or.inr sz58) own_all0))
    have O86 : Old Z n0 T83.heap := O77.keep K83 (own_allC g42 (own_allC g57 own_all0))
    show Go p.tables e below P T83 (mkF m 154 #[.val (.int pn), .val (.int c1), .val (.int c2), .val (.int c3), .val (.int c4), .val (.int ((0 : Int32) + (1 : Int32))), .val (.ref r_1), .val (.ref r_7), .val (.ref r_15), .val (.ref r_25), .val (.ref b34), .val (.int (1 : Int32)), .val (.ref r_1)] [])
    refine Go.via (fun t k => XS.aload Xh83.here hx rfl (hb hby at_154) rfl rfl k) ?_
    show Go p.tables e below P T83 (mkF m 156 #[.val (.int pn), .val (.int c1), .val (.int c2), .val (.int c3), .val (.int c4), .val (.int ((0 : Int32) + (1 : Int32))), .val (.ref r_1), .val (.ref r_7), .val (.ref r_15), .val (.ref r_25), .val (.ref b34), .val (.int (1 : Int32)), .val (.ref r_1)] [(.ref b34)])
    have F87 : Exa Z T83.heap r_1 "java/lang/String" := (F78.keep K83)
    have F88 : Exa Z T83.heap r_7 "java/lang/String" := (F79.keep K83)
    have F89 : Exa Z T83.heap r_15 "java/lang/String" := (F80.keep K83)
    have F90 : Exa Z T83.heap r_25 "java/lang/String" := (F81.keep K83)
    obtain ⟨cq91, kq91, q91a, q91b, q91c⟩ := isOf hZ rfl u83_0
    obtain ⟨_, _, ⟨T91, L91, k91, n91⟩, -, X91, ⟨Lc91, hQ91, l91, y91, z91⟩, st91⟩ := Xh83.virtualBack hx (y := (⟨"com/example/referee/referee/parse/OpenElements", "pop", "()V"⟩ : MethodName)) (z := (⟨"com/example/referee/referee/parse/OpenElements", "pop", "()V"⟩ : MethodName)) hown (mvT hZ (hw _ (List.mem_of_getElem? (i := 58) rfl))) (mvT hZ (hw _ (List.mem_of_getElem? (i := 59) rfl))) (notFace_of_selects (args := #[]) (mvT hZ (hw _ (List.mem_of_getElem? (i := 61) rfl)))) (mvT hZ (hw _ (List.mem_of_getElem? (i := 61) rfl))) (mvT hZ (hw _ (List.mem_of_getElem? (i := 60) rfl))) (by decide) (backOf (W := 0) (rm10 l Z a0 hw [] b34 sh_51 ks_51 ((((0 : Int32) + (1 : Int32)) - (1 : Int32)) + (1 : Int32)) ((((List.replicate 64 .null).set 0 (.ref r_1)).set 0 .null).set 0 (.ref r_25)) 0 T83.heap n0 Z84 u83_0 u83_1 u83_2 u83_3 g42 g57 ne56 (by decide) (by simp) (by decide)) hZ (hw _ (List.mem_of_getElem? (i := 62) rfl)) (hw _ (List.mem_of_getElem? (i := 37) rfl)) (by decide) (by decide)) q91a q91c (g := (mkF m 156 #[.val (.int pn), .val (.int c1), .val (.int c2), .val (.int c3), .val (.int c4), .val (.int ((0 : Int32) + (1 : Int32))), .val (.ref r_1), .val (.ref r_7), .val (.ref r_15), .val (.ref r_25), .val (.ref b34), .val (.int (1 : Int32)), .val (.ref r_1)] [(.ref b34)])) rfl (by rw [hml]; rfl) (Steps.refl _) (argsL := []) (rest := []) (lenOf own_pd2 rfl) rfl (by show 2 * 0 + _ ≤ _; exact Nat.le_of_eq rfl) (hb hby at_156) (fun _ _ => ⟨rfl, rfl, (by decide : 16 + 0 ≤ _), (by decide : 372 + 0 ≤ _)⟩)
    dsimp only [Pt.U, Pt.locs, Pt.cells, Pt.slots] at X91 l91 y91 z91 st91 hQ91
    subst l91 y91 z91
    obtain ⟨rfl, Nq91, K91, u91_0, u91_1, u91_2, u91_3⟩ := hQ91
    obtain ⟨lc91, Xh91, N91⟩ := own_hide X91 (Fr.app N83 Nq91)
    clear X91
    refine Go.hop st91 ?_
    have Z92 : n0 ≤ T91.heap.size := Nat.le_trans Z84 K91.1
    have K93 : Keep h0 T91.heap [] := K85.trans K91 (own_allC (Or.inr sz43) (own_allC (Or.inr sz58) own_all0))
    have O94 : Old Z n0 T91.heap := O86.keep K91 (own_allC g42 (own_allC g57 own_all0))
    show Go p.tables e below P T91 (mkF m 159 #[.val (.int pn), .val (.int c1), .val (.int c2), .val (.int c3), .val (.int c4), .val (.int ((0 : Int32) + (1 : Int32))), .val (.ref r_1), .val (.ref r_7), .val (.ref r_15), .val (.ref r_25), .val (.ref b34), .val (.int (1 : Int32)), .val (.ref r_1)] [])
    refine Go.via (fun t k => XS.iload Xh91.here hx rfl (hb hby at_159) rfl k) ?_
    show Go p.tables e below P T91 (mkF m 161 #[.val (.int pn), .val (.int c1), .val (.int c2), .val (.int c3), .val (.int c4), .val (.int ((0 : Int32) + (1 : Int32))), .val (.ref r_1), .val (.ref r_7), .val (.ref r_15), .val (.ref r_25), .val (.ref b34), .val (.int (1 : Int32)), .val (.ref r_1)] [(.int (1 : Int32))])
    refine Go.via (fun t k => XS.ifNo Xh91.here hx rfl (hb hby at_161) rfl ((if0 _ _).trans (feq (by decide : ¬ ((1 : Int32) = (0 : Int32)))).1) k) ?_
    show Go p.tables e below P T91 (mkF m 164 #[.val (.int pn), .val (.int c1), .val (.int c2), .val (.int c3), .val (.int c4), .val (.int ((0 : Int32) + (1 : Int32))), .val (.ref r_1), .val (.ref r_7), .val (.ref r_15), .val (.ref r_25), .val (.ref b34), .val (.int (1 : Int32)), .val (.ref r_1)] [])
    refine Go.via (fun t k => XS.aload Xh91.here hx rfl (hb hby at_164) rfl rfl k) ?_
    show Go p.tables e below P T91 (mkF m 166 #[.val (.int pn), .val (.int c1), .val (.int c2), .val (.int c3), .val (.int c4), .val (.int ((0 : Int32) + (1 : Int32))), .val (.ref r_1), .val (.ref r_7), .val (.ref r_15), .val (.ref r_25), .val (.ref b34), .val (.int (1 : Int32)), .val (.ref r_1)] [(.ref b34)])
    have F95 : Exa Z T91.heap r_1 "java/lang/String" := (F87.keep K91)
    have F96 : Exa Z T91.heap r_7 "java/lang/String" := (F88.keep K91)
    have F97 : Exa Z T91.heap r_15 "java/lang/String" := (F89.keep K91)
    have F98 : Exa Z T91.heap r_25 "java/lang/String" := (F90.keep K91)
    obtain ⟨cq99, kq99, q99a, q99b, q99c⟩ := isOf hZ rfl u91_0
    obtain ⟨_, _, ⟨T99, L99, k99, n99⟩, -, X99, ⟨Lc99, hQ99, l99, y99, z99⟩, st99⟩ := Xh91.virtualBack hx (y := (⟨"com/example/referee/referee/parse/OpenElements", "size", "()I"⟩ : MethodName)) (z := (⟨"com/example/referee/referee/parse/OpenElements", "size", "()I"⟩ : MethodName)) hown (mvT hZ (hw _ (List.mem_of_getElem? (i := 63) rfl))) (mvT hZ (hw _ (List.mem_of_getElem? (i := 64) rfl))) (notFace_of_selects (args := #[]) (mvT hZ (hw _ (List.mem_of_getElem? (i := 66) rfl)))) (mvT hZ (hw _ (List.mem_of_getElem? (i := 66) rfl))) (mvT hZ (hw _ (List.mem_of_getElem? (i := 65) rfl))) (by decide) (backOf (W := 0) (rm11 l Z a0 hw [] b34 (((((0 : Int32) + (1 : Int32)) - (1 : Int32)) + (1 : Int32)) - (1 : Int32)) T91.heap n0 Z92 u91_2) hZ (hw _ (List.mem_of_getElem? (i := 67) rfl)) (hw _ (List.mem_of_getElem? (i := 37) rfl)) (by decide) (by decide)) q99a q99c (g := (mkF m 166 #[.val (.int pn), .val (.int c1), .val (.int c2), .val (.int c3), .val (.int c4), .val (.int ((0 : Int32) + (1 : Int32))), .val (.ref r_1), .val (.ref r_7), .val (.ref r_15), .val (.ref r_25), .val (.ref b34), .val (.int (1 : Int32)), .val (.ref r_1)] [(.ref b34)])) rfl (by rw [hml]; rfl) (Steps.refl _) (argsL := []) (rest := []) (lenOf own_pd4 rfl) rfl (by show 2 * 0 + _ ≤ _; exact Nat.le_of_eq rfl) (hb hby at_166) (fun _ _ => ⟨rfl, rfl, (by decide : 16 + 0 ≤ _), (by decide : 372 + 0 ≤ _)⟩)
    dsimp only [Pt.U, Pt.locs, Pt.cells, Pt.slots] at X99 l99 y99 z99 st99 hQ99
    subst l99 y99 z99
    obtain ⟨rfl, Nq99, hh99⟩ := hQ99
    obtain ⟨lc99, Xh99, N99⟩ := own_hide X99 (Fr.app N91 Nq99)
    clear X99
    refine Go.hop st99 ?_
    show Go p.tables e below P T99 (mkF m 169 #[.val (.int pn), .val (.int c1), .val (.int c2), .val (.int c3), .val (.int c4), .val (.int ((0 : Int32) + (1 : Int32))), .val (.ref r_1), .val (.ref r_7), .val (.ref r_15), .val (.ref r_25), .val (.ref b34), .val (.int (1 : Int32)), .val (.ref r_1)] [(.int (((((0 : Int32) + (1 : Int32)) - (1 : Int32)) + (1 : Int32)) - (1 : Int32)))])
    refine Go.via (fun t k => XS.iload Xh99.here hx rfl (hb hby at_169) rfl k) ?_
    show Go p.tables e below P T99 (mkF m 171 #[.val (.int pn), .val (.int c1), .val (.int c2), .val (.int c3), .val (.int c4), .val (.int ((0 : Int32) + (1 : Int32))), .val (.ref r_1), .val (.ref r_7), .val (.ref r_15), .val (.ref r_25), .val (.ref b34), .val (.int (1 : Int32)), .val (.ref r_1)] [(.int ((0 : Int32) + (1 : Int32))), (.int (((((0 : Int32) + (1 : Int32)) - (1 : Int32)) + (1 : Int32)) - (1 : Int32)))])
    refine Go.via (fun t k => XS.iconst Xh99.here hx rfl (hb hby at_171) k) ?_
    show Go p.tables e below P T99 (mkF m 172 #[.val (.int pn), .val (.int c1), .val (.int c2), .val (.int c3), .val (.int c4), .val (.int ((0 : Int32) + (1 : Int32))), .val (.ref r_1), .val (.ref r_7), .val (.ref r_15), .val (.ref r_25), .val (.ref b34), .val (.int (1 : Int32)), .val (.ref r_1)] [(.int (1 : Int32)), (.int ((0 : Int32) + (1 : Int32))), (.int (((((0 : Int32) + (1 : Int32)) - (1 : Int32)) + (1 : Int32)) - (1 : Int32)))])
    refine Go.via (fun t k => XS.isub Xh99.here hx rfl (hb hby at_172) rfl k) ?_
    show Go p.tables e below P T99 (mkF m 173 #[.val (.int pn), .val (.int c1), .val (.int c2), .val (.int c3), .val (.int c4), .val (.int ((0 : Int32) + (1 : Int32))), .val (.ref r_1), .val (.ref r_7), .val (.ref r_15), .val (.ref r_25), .val (.ref b34), .val (.int (1 : Int32)), .val (.ref r_1)] [(.int (((0 : Int32) + (1 : Int32)) - (1 : Int32))), (.int (((((0 : Int32) + (1 : Int32)) - (1 : Int32)) + (1 : Int32)) - (1 : Int32)))])
    refine Go.via (fun t k => XS.icmpNo Xh99.here hx rfl (hb hby at_173) rfl (teq (by decide : (((((0 : Int32) + (1 : Int32)) - (1 : Int32)) + (1 : Int32)) - (1 : Int32)) = (((0 : Int32) + (1 : Int32)) - (1 : Int32)))).2 k) ?_
    show Go p.tables e below P T99 (mkF m 176 #[.val (.int pn), .val (.int c1), .val (.int c2), .val (.int c3), .val (.int c4), .val (.int ((0 : Int32) + (1 : Int32))), .val (.ref r_1), .val (.ref r_7), .val (.ref r_15), .val (.ref r_25), .val (.ref b34), .val (.int (1 : Int32)), .val (.ref r_1)] [])
    refine Go.via (fun t k => XS.iconst Xh99.here hx rfl (hb hby at_176) k) ?_
    show Go p.tables e below P T99 (mkF m 177 #[.val (.int pn), .val (.int c1), .val (.int c2), .val (.int c3), .val (.int c4), .val (.int ((0 : Int32) + (1 : Int32))), .val (.ref r_1), .val (.ref r_7), .val (.ref r_15), .val (.ref r_25), .val (.ref b34), .val (.int (1 : Int32)), .val (.ref r_1)] [(.int (1 : Int32))])
    refine Go.via (fun t k => XS.goto Xh99.here hx rfl (pc0 := 177) (pc' := 181) rfl (hb hby at_177) (by decide) (by decide) k) ?_
    show Go p.tables e below P T99 (mkF m 181 #[.val (.int pn), .val (.int c1), .val (.int c2), .val (.int c3), .val (.int c4), .val (.int ((0 : Int32) + (1 : Int32))), .val (.ref r_1), .val (.ref r_7), .val (.ref r_15), .val (.ref r_25), .val (.ref b34), .val (.int (1 : Int32)), .val (.ref r_1)] [(.int (1 : Int32))])
    refine Go.via (fun t k => XS.istore Xh99.here hx rfl (hb hby at_181) rfl (l' := #[.val (.int pn), .val (.int c1), .val (.int c2), .val (.int c3), .val (.int c4), .val (.int ((0 : Int32) + (1 : Int32))), .val (.ref r_1), .val (.ref r_7), .val (.ref r_15), .val (.ref r_25), .val (.ref b34), .val (.int (1 : Int32)), .val (.ref r_1)]) rfl k) ?_
    show Go p.tables e below P T99 (mkF m 183 #[.val (.int pn), .val (.int c1), .val (.int c2), .val (.int c3), .val (.int c4), .val (.int ((0 : Int32) + (1 : Int32))), .val (.ref r_1), .val (.ref r_7), .val (.ref r_15), .val (.ref r_25), .val (.ref b34), .val (.int (1 : Int32)), .val (.ref r_1)] [])
    refine Go.via (fun t k => XS.iload Xh99.here hx rfl (hb hby at_183) rfl k) ?_
    show Go p.tables e below P T99 (mkF m 185 #[.val (.int pn), .val (.int c1), .val (.int c2), .val (.int c3), .val (.int c4), .val (.int ((0 : Int32) + (1 : Int32))), .val (.ref r_1), .val (.ref r_7), .val (.ref r_15), .val (.ref r_25), .val (.ref b34), .val (.int (1 : Int32)), .val (.ref r_1)] [(.int ((0 : Int32) + (1 : Int32)))])
    refine Go.via (fun t k => XS.iconst Xh99.here hx rfl (hb hby at_185) k) ?_
    show Go p.tables e below P T99 (mkF m 186 #[.val (.int pn), .val (.int c1), .val (.int c2), .val (.int c3), .val (.int c4), .val (.int ((0 : Int32) + (1 : Int32))), .val (.ref r_1), .val (.ref r_7), .val (.ref r_15), .val (.ref r_25), .val (.ref b34), .val (.int (1 : Int32)), .val (.ref r_1)] [(.int (2 : Int32)), (.int ((0 : Int32) + (1 : Int32)))])
    refine Go.via (fun t k => XS.icmpYes Xh99.here hx rfl (pc0 := 186) (pc' := 214) rfl (hb hby at_186) rfl (tlt (by decide : ((0 : Int32) + (1 : Int32)) < (2 : Int32))).1 (by decide) (by decide) k) ?_
    show Go p.tables e below P T99 (mkF m 214 #[.val (.int pn), .val (.int c1), .val (.int c2), .val (.int c3), .val (.int c4), .val (.int ((0 : Int32) + (1 : Int32))), .val (.ref r_1), .val (.ref r_7), .val (.ref r_15), .val (.ref r_25), .val (.ref b34), .val (.int (1 : Int32)), .val (.ref r_1)] [])
    refine Go.via (fun t k => XS.iload Xh99.here hx rfl (hb hby at_214) rfl k) ?_
    show Go p.tables e below P T99 (mkF m 216 #[.val (.int pn), .val (.int c1), .val (.int c2), .val (.int c3), .val (.int c4), .val (.int ((0 : Int32) + (1 : Int32))), .val (.ref r_1), .val (.ref r_7), .val (.ref r_15), .val (.ref r_25), .val (.ref b34), .val (.int (1 : Int32)), .val (.ref r_1)] [(.int (1 : Int32))])
    obtain ⟨fs, hr, hrun, hended, hW, hsame⟩ := Xh99.leave (v := some (.int (1 : Int32))) (fun h => by rw [Bd.returns] at h; cases h)
    refine ⟨_, _, retZ Xh99 hx (t := .boolean) Bd.returns (by simp) (hb hby at_216) rfl hr, hrun, hended, hP _ _ ⟨_, _, rfl, ?_, ⟨_, rfl⟩, hW, hsame.mono (by decide) (by decide)⟩⟩
    show Q0 Z pn c1 c2 c3 c4 cs h0 n0 _ T99.heap _
    rw [hh99]
    exact ⟨rfl, N99⟩
  · rw [d1]
    show Go p.tables e below P s₁ (mkF m 6 #[.val (.int pn), .val (.int c1), .val (.int c2), .val (.int c3), .val (.int c4), .unset, .unset, .unset, .unset, .unset, .unset, .unset, .unset] [(.int (1 : Int32))])
    refine Go.via (fun t k => XS.iconst X0.here hx rfl (hb hby at_6) k) ?_
    show Go p.tables e below P s₁ (mkF m 7 #[.val (.int pn), .val (.int c1), .val (.int c2), .val (.int c3), .val (.int c4), .unset, .unset, .unset, .unset, .unset, .unset, .unset, .unset] [(.int (1 : Int32)), (.int (1 : Int32))])
    refine Go.via (fun t k => XS.iadd X0.here hx rfl (hb hby at_7) rfl k) ?_
    show Go p.tables e below P s₁ (mkF m 8 #[.val (.int pn), .val (.int c1), .val (.int c2), .val (.int c3), .val (.int c4), .unset, .unset, .unset, .unset, .unset, .unset, .unset, .unset] [(.int ((1 : Int32) + (1 : Int32)))])
    refine Go.via (fun t k => XS.istore X0.here hx rfl (hb hby at_8) rfl (l' := #[.val (.int pn), .val (.int c1), .val (.int c2), .val (.int c3), .val (.int c4), .val (.int ((1 : Int32) + (1 : Int32))), .unset, .unset, .unset, .unset, .unset, .unset, .unset]) rfl k) ?_
    show Go p.tables e below P s₁ (mkF m 10 #[.val (.int pn), .val (.int c1), .val (.int c2), .val (.int c3), .val (.int c4), .val (.int ((1 : Int32) + (1 : Int32))), .unset, .unset, .unset, .unset, .unset, .unset, .unset] [])
    refine Go.via (fun t k => XS.iloadN X0.here hx rfl (hb hby at_10) rfl k) ?_
    show Go p.tables e below P s₁ (mkF m 11 #[.val (.int pn), .val (.int c1), .val (.int c2), .val (.int c3), .val (.int c4), .val (.int ((1 : Int32) + (1 : Int32))), .unset, .unset, .unset, .unset, .unset, .unset, .unset] [(.int c1)])
    obtain ⟨_, _, ⟨T101, L101, k101, n101⟩, -, X101, ⟨Lc101, hQ101, l101, y101, z101⟩, st101⟩ := Jvm.LawKit.callS X0 hx (y := (⟨"com/example/referee/referee/parse/OpenElementsPopPinLaw", "str", "(I)Ljava/lang/String;"⟩ : MethodName)) hown (mvT hZ (hw _ (List.mem_of_getElem? (i := 1) rfl))) (mvT hZ (hw _ (List.mem_of_getElem? (i := 2) rfl))) (mvT hZ (hw _ (List.mem_of_getElem? (i := 3) rfl))) (mvT hZ (hw _ (List.mem_of_getElem? (i := 4) rfl))) (by decide) (backOf (W := 0) (rm1 l Z a0 hw [] c1 cs h0 n0 Z0 O0 P1 (by first | assumption | decide | omega : ¬ cs = (0 : Int32))) hZ (hw _ (List.mem_of_getElem? (i := 4) rfl)) (hw _ (List.mem_of_getElem? (i := 3) rfl)) (by decide) (by decide)) (g := (mkF m 11 #[.val (.int pn), .val (.int c1), .val (.int c2), .val (.int c3), .val (.int c4), .val (.int ((1 : Int32) + (1 : Int32))), .unset, .unset, .unset, .unset, .unset, .unset, .unset] [(.int c1)])) rfl (by rw [hml]; rfl) (argsL := [(.int c1)]) (rest := []) (lenOf own_pd1 rfl) rfl (by show 2 * 0 + _ ≤ _; exact Nat.le_of_eq rfl) (hb hby at_11) (fun _ _ => ⟨rfl, e0, (by decide : 0 + 3 ≤ _), (by decide : 0 + 8 ≤ _)⟩)
    dsimp only [Pt.U, Pt.locs, Pt.cells, Pt.slots] at X101 l101 y101 z101 st101 hQ101
    subst l101 y101 z101
    obtain ⟨r_101, rfl, Nq101, K101, fr101_r, u101_0⟩ := hQ101
    obtain ⟨lc101, Xh101, N101⟩ := own_hide X101 (Fr.app N0 Nq101)
    clear X101
    refine Go.via st101 ?_
    have g102 : n0 ≤ r_101 := Nat.le_trans Z0 fr101_r
    have sz103 : h0.size ≤ r_101 := Nat.le_trans K0.1 fr101_r
    have Z104 : n0 ≤ T101.heap.size := Nat.le_trans Z0 K101.1
    have K105 : Keep h0 T101.heap [] := K0.trans K101 own_all0
    have O106 : Old Z n0 T101.heap := O0.keep K101 own_all0
    show Go p.tables e below P T101 (mkF m 14 #[.val (.int pn), .val (.int c1), .val (.int c2), .val (.int c3), .val (.int c4), .val (.int ((1 : Int32) + (1 : Int32))), .unset, .unset, .unset, .unset, .unset, .unset, .unset] [(.ref r_101)])
    refine Go.via (fun t k => XS.astore Xh101.here hx rfl (hb hby at_14) rfl rfl (l' := #[.val (.int pn), .val (.int c1), .val (.int c2), .val (.int c3), .val (.int c4), .val (.int ((1 : Int32) + (1 : Int32))), .val (.ref r_101), .unset, .unset, .unset, .unset, .unset, .unset]) rfl k) ?_
    show Go p.tables e below P T101 (mkF m 16 #[.val (.int pn), .val (.int c1), .val (.int c2), .val (.int c3), .val (.int c4), .val (.int ((1 : Int32) + (1 : Int32))), .val (.ref r_101), .unset, .unset, .unset, .unset, .unset, .unset] [])
    refine Go.via (fun t k => XS.iloadN Xh101.here hx rfl (hb hby at_16) rfl k) ?_
    show Go p.tables e below P T101 (mkF m 17 #[.val (.int pn), .val (.int c1), .val (.int c2), .val (.int c3), .val (.int c4), .val (.int ((1 : Int32) + (1 : Int32))), .val (.ref r_101), .unset, .unset, .unset, .unset, .unset, .unset] [(.int c2)])
    obtain ⟨_, _, ⟨T107, L107, k107, n107⟩, -, X107, ⟨Lc107, hQ107, l107, y107, z107⟩, st107⟩ := Jvm.LawKit.callS Xh101 hx (y := (⟨"com/example/referee/referee/parse/OpenElementsPopPinLaw", "str", "(I)Ljava/lang/String;"⟩ : MethodName)) hown (mvT hZ (hw _ (List.mem_of_getElem? (i := 1) rfl))) (mvT hZ (hw _ (List.mem_of_getElem? (i := 2) rfl))) (mvT hZ (hw _ (List.mem_of_getElem? (i := 3) rfl))) (mvT hZ (hw _ (List.mem_of_getElem? (i := 4) rfl))) (by decide) (backOf (W := 0) (rm1 l Z a0 hw [] c2 cs T101.heap n0 Z104 O106 P1 (by first | assumption | decide | omega : ¬ cs = (0 : Int32))) hZ (hw _ (List.mem_of_getElem? (i := 4) rfl)) (hw _ (List.mem_of_getElem? (i := 3) rfl)) (by decide) (by decide)) (g := (mkF m 17 #[.val (.int pn), .val (.int c1), .val (.int c2), .val (.int c3), .val (.int c4), .val (.int ((1 : Int32) + (1 : Int32))), .val (.ref r_101), .unset, .unset, .unset, .unset, .unset, .unset] [(.int c2)])) rfl (by rw [hml]; rfl) (argsL := [(.int c2)]) (rest := []) (lenOf own_pd1 rfl) rfl (by show 2 * 0 + _ ≤ _; exact Nat.le_of_eq rfl) (hb hby at_17) (fun _ _ => ⟨rfl, rfl, (by decide : 3 + 3 ≤ _), (by decide : 8 + 8 ≤ _)⟩)
    dsimp only [Pt.U, Pt.locs, Pt.cells, Pt.slots] at X107 l107 y107 z107 st107 hQ107
    subst l107 y107 z107
    obtain ⟨r_107, rfl, Nq107, K107, fr107_r, u107_0⟩ := hQ107
    obtain ⟨lc107, Xh107, N107⟩ := own_hide X107 (Fr.app N101 Nq107)
    clear X107
    refine Go.via st107 ?_
    have ne108 : r_101 ≠ r_107 := Nat.ne_of_lt (Nat.lt_of_lt_of_le u101_0.lt fr107_r)
    have g109 : n0 ≤ r_107 := Nat.le_trans Z104 fr107_r
    have sz110 : h0.size ≤ r_107 := Nat.le_trans K105.1 fr107_r
    have Z111 : n0 ≤ T107.heap.size := Nat.le_trans Z104 K107.1
    have K112 : Keep h0 T107.heap [] := K105.trans K107 own_all0
    have O113 : Old Z n0 T107.heap := O106.keep K107 own_all0
    show Go p.tables e below P T107 (mkF m 20 #[.val (.int pn), .val (.int c1), .val (.int c2), .val (.int c3), .val (.int c4), .val (.int ((1 : Int32) + (1 : Int32))), .val (.ref r_101), .unset, .unset, .unset, .unset, .unset, .unset] [(.ref r_107)])
    refine Go.via (fun t k => XS.astore Xh107.here hx rfl (hb hby at_20) rfl rfl (l' := #[.val (.int pn), .val (.int c1), .val (.int c2), .val (.int c3), .val (.int c4), .val (.int ((1 : Int32) + (1 : Int32))), .val (.ref r_101), .val (.ref r_107), .unset, .unset, .unset, .unset, .unset]) rfl k) ?_
    show Go p.tables e below P T107 (mkF m 22 #[.val (.int pn), .val (.int c1), .val (.int c2), .val (.int c3), .val (.int c4), .val (.int ((1 : Int32) + (1 : Int32))), .val (.ref r_101), .val (.ref r_107), .unset, .unset, .unset, .unset, .unset] [])
    refine Go.via (fun t k => XS.iloadN Xh107.here hx rfl (hb hby at_22) rfl k) ?_
    show Go p.tables e below P T107 (mkF m 23 #[.val (.int pn), .val (.int c1), .val (.int c2), .val (.int c3), .val (.int c4), .val (.int ((1 : Int32) + (1 : Int32))), .val (.ref r_101), .val (.ref r_107), .unset, .unset, .unset, .unset, .unset] [(.int c3)])
    have F114 : Exa Z T107.heap r_101 "java/lang/String" := (u101_0.keep K107)
    obtain ⟨_, _, ⟨T115, L115, k115, n115⟩, -, X115, ⟨Lc115, hQ115, l115, y115, z115⟩, st115⟩ := Jvm.LawKit.callS Xh107 hx (y := (⟨"com/example/referee/referee/parse/OpenElementsPopPinLaw", "str", "(I)Ljava/lang/String;"⟩ : MethodName)) hown (mvT hZ (hw _ (List.mem_of_getElem? (i := 1) rfl))) (mvT hZ (hw _ (List.mem_of_getElem? (i := 2) rfl))) (mvT hZ (hw _ (List.mem_of_getElem? (i := 3) rfl))) (mvT hZ (hw _ (List.mem_of_getElem? (i := 4) rfl))) (by decide) (backOf (W := 0) (rm1 l Z a0 hw [] c3 cs T107.heap n0 Z111 O113 P1 (by first | assumption | decide | omega : ¬ cs = (0 : Int32))) hZ (hw _ (List.mem_of_getElem? (i := 4) rfl)) (hw _ (List.mem_of_getElem? (i := 3) rfl)) (by decide) (by decide)) (g := (mkF m 23 #[.val (.int pn), .val (.int c1), .val (.int c2), .val (.int c3), .val (.int c4), .val (.int ((1 : Int32) + (1 : Int32))), .val (.ref r_101), .val (.ref r_107), .unset, .unset, .unset, .unset, .unset] [(.int c3)])) rfl (by rw [hml]; rfl) (argsL := [(.int c3)]) (rest := []) (lenOf own_pd1 rfl) rfl (by show 2 * 0 + _ ≤ _; exact Nat.le_of_eq rfl) (hb hby at_23) (fun _ _ => ⟨rfl, rfl, (by decide : 6 + 3 ≤ _), (by decide : 16 + 8 ≤ _)⟩)
    dsimp only [Pt.U, Pt.locs, Pt.cells, Pt.slots] at X115 l115 y115 z115 st115 hQ115
    subst l115 y115 z115
    obtain ⟨r_115, rfl, Nq115, K115, fr115_r, u115_0⟩ := hQ115
    obtain ⟨lc115, Xh115, N115⟩ := own_hide X115 (Fr.app N107 Nq115)
    clear X115
    refine Go.via st115 ?_
    have ne116 : r_101 ≠ r_115 := Nat.ne_of_lt (Nat.lt_of_lt_of_le F114.lt fr115_r)
    have ne117 : r_107 ≠ r_115 := Nat.ne_of_lt (Nat.lt_of_lt_of_le u107_0.lt fr115_r)
    have g118 : n0 ≤ r_115 := Nat.le_trans Z111 fr115_r
    have sz119 : h0.size ≤ r_115 := Nat.le_trans K112.1 fr115_r
    have Z120 : n0 ≤ T115.heap.size := Nat.le_trans Z111 K115.1
    have K121 : Keep h0 T115.heap [] := K112.trans K115 own_all0
    have O122 : Old Z n0 T115.heap := O113.keep K115 own_all0
    show Go p.tables e below P T115 (mkF m 26 #[.val (.int pn), .val (.int c1), .val (.int c2), .val (.int c3), .val (.int c4), .val (.int ((1 : Int32) + (1 : Int32))), .val (.ref r_101), .val (.ref r_107), .unset, .unset, .unset, .unset, .unset] [(.ref r_115)])
    refine Go.via (fun t k => XS.astore Xh115.here hx rfl (hb hby at_26) rfl rfl (l' := #[.val (.int pn), .val (.int c1), .val (.int c2), .val (.int c3), .val (.int c4), .val (.int ((1 : Int32) + (1 : Int32))), .val (.ref r_101), .val (.ref r_107), .val (.ref r_115), .unset, .unset, .unset, .unset]) rfl k) ?_
    show Go p.tables e below P T115 (mkF m 28 #[.val (.int pn), .val (.int c1), .val (.int c2), .val (.int c3), .val (.int c4), .val (.int ((1 : Int32) + (1 : Int32))), .val (.ref r_101), .val (.ref r_107), .val (.ref r_115), .unset, .unset, .unset, .unset] [])
    refine Go.via (fun t k => XS.iload Xh115.here hx rfl (hb hby at_28) rfl k) ?_
    show Go p.tables e below P T115 (mkF m 30 #[.val (.int pn), .val (.int c1), .val (.int c2), .val (.int c3), .val (.int c4), .val (.int ((1 : Int32) + (1 : Int32))), .val (.ref r_101), .val (.ref r_107), .val (.ref r_115), .unset, .unset, .unset, .unset] [(.int c4)])
    have F123 : Exa Z T115.heap r_101 "java/lang/String" := (F114.keep K115)
    have F124 : Exa Z T115.heap r_107 "java/lang/String" := (u107_0.keep K115)
    obtain ⟨_, _, ⟨T125, L125, k125, n125⟩, -, X125, ⟨Lc125, hQ125, l125, y125, z125⟩, st125⟩ := Jvm.LawKit.callS Xh115 hx (y := (⟨"com/example/referee/referee/parse/OpenElementsPopPinLaw", "str", "(I)Ljava/lang/String;"⟩ : MethodName)) hown (mvT hZ (hw _ (List.mem_of_getElem? (i := 1) rfl))) (mvT hZ (hw _ (List.mem_of_getElem? (i := 2) rfl))) (mvT hZ (hw _ (List.mem_of_getElem? (i := 3) rfl))) (mvT hZ (hw _ (List.mem_of_getElem? (i := 4) rfl))) (by decide) (backOf (W := 0) (rm1 l Z a0 hw [] c4 cs T115.heap n0 Z120 O122 P1 (by first | assumption | decide | omega : ¬ cs = (0 : Int32))) hZ (hw _ (List.mem_of_getElem? (i := 4) rfl)) (hw _ (List.mem_of_getElem? (i := 3) rfl)) (by decide) (by decide)) (g := (mkF m 30 #[.val (.int pn), .val (.int c1), .val (.int c2), .val (.int c3), .val (.int c4), .val (.int ((1 : Int32) + (1 : Int32))), .val (.ref r_101), .val (.ref r_107), .val (.ref r_115), .unset, .unset, .unset, .unset] [(.int c4)])) rfl (by rw [hml]; rfl) (argsL := [(.int c4)]) (rest := []) (lenOf own_pd1 rfl) rfl (by show 2 * 0 + _ ≤ _; exact Nat.le_of_eq rfl) (hb hby at_30) (fun _ _ => ⟨rfl, rfl, (by decide : 9 + 3 ≤ _), (by decide : 24 + 8 ≤ _)⟩)
    dsimp only [Pt.U, Pt.locs, Pt.cells, Pt.slots] at X125 l125 y125 z125 st125 hQ125
    subst l125 y125 z125
    obtain ⟨r_125, rfl, Nq125, K125, fr125_r, u125_0⟩ := hQ125
    obtain ⟨lc125, Xh125, N125⟩ := own_hide X125 (Fr.app N115 Nq125)
    clear X125
    refine Go.via st125 ?_
    have ne126 : r_101 ≠ r_125 := Nat.ne_of_lt (Nat.lt_of_lt_of_le F123.lt fr125_r)
    have ne127 : r_107 ≠ r_125 := Nat.ne_of_lt (Nat.lt_of_lt_of_le F124.lt fr125_r)
    have ne128 : r_115 ≠ r_125 := Nat.ne_of_lt (Nat.lt_of_lt_of_le u115_0.lt fr125_r)
    have g129 : n0 ≤ r_125 := Nat.le_trans Z120 fr125_r
    have sz130 : h0.size ≤ r_125 := Nat.le_trans K121.1 fr125_r
    have Z131 : n0 ≤ T125.heap.size := Nat.le_trans Z120 K125.1
    have K132 : Keep h0 T125.heap [] := K121.trans K125 own_all0
    have O133 : Old Z n0 T125.heap := O122.keep K125 own_all0
    show Go p.tables e below P T125 (mkF m 33 #[.val (.int pn), .val (.int c1), .val (.int c2), .val (.int c3), .val (.int c4), .val (.int ((1 : Int32) + (1 : Int32))), .val (.ref r_101), .val (.ref r_107), .val (.ref r_115), .unset, .unset, .unset, .unset] [(.ref r_125)])
    refine Go.via (fun t k => XS.astore Xh125.here hx rfl (hb hby at_33) rfl rfl (l' := #[.val (.int pn), .val (.int c1), .val (.int c2), .val (.int c3), .val (.int c4), .val (.int ((1 : Int32) + (1 : Int32))), .val (.ref r_101), .val (.ref r_107), .val (.ref r_115), .val (.ref r_125), .unset, .unset, .unset]) rfl k) ?_
    show Go p.tables e below P T125 (mkF m 35 #[.val (.int pn), .val (.int c1), .val (.int c2), .val (.int c3), .val (.int c4), .val (.int ((1 : Int32) + (1 : Int32))), .val (.ref r_101), .val (.ref r_107), .val (.ref r_115), .val (.ref r_125), .unset, .unset, .unset] [])
    have F135 : Exa Z T125.heap r_101 "java/lang/String" := (F123.keep K125)
    have F136 : Exa Z T125.heap r_107 "java/lang/String" := (F124.keep K125)
    have F137 : Exa Z T125.heap r_115 "java/lang/String" := (u115_0.keep K125)
    obtain ⟨T134, h134, X134, e134, E134, A134, D134, -, st134⟩ := newO Xh125 hx hZ hown (hw _ (List.mem_of_getElem? (i := 35) rfl)) (hw _ (List.mem_of_getElem? (i := 36) rfl)) (hw _ (List.mem_of_getElem? (i := 37) rfl)) rfl (g := (mkF m 35 #[.val (.int pn), .val (.int c1), .val (.int c2), .val (.int c3), .val (.int c4), .val (.int ((1 : Int32) + (1 : Int32))), .val (.ref r_101), .val (.ref r_107), .val (.ref r_115), .val (.ref r_125), .unset, .unset, .unset] [])) rfl (hb hby at_35) (by decide) (by decide)
    obtain ⟨b134, g134⟩ : ∃ z, z = T125.heap.size := ⟨_, rfl⟩
    rw [← g134] at A134 D134 st134
    refine Go.via st134 ?_
    have ne138 : r_101 ≠ b134 := Nat.ne_of_lt (Nat.lt_of_lt_of_le F135.lt (Nat.le_of_eq g134.symm))
    have ne139 : r_107 ≠ b134 := Nat.ne_of_lt (Nat.lt_of_lt_of_le F136.lt (Nat.le_of_eq g134.symm))
    have ne140 : r_115 ≠ b134 := Nat.ne_of_lt (Nat.lt_of_lt_of_le F137.lt (Nat.le_of_eq g134.symm))
    have ne141 : r_125 ≠ b134 := Nat.ne_of_lt (Nat.lt_of_lt_of_le u125_0.lt (Nat.le_of_eq g134.symm))
    have g142 : n0 ≤ b134 := Nat.le_trans Z131 (Nat.le_of_eq g134.symm)
    have sz143 : h0.size ≤ b134 := Nat.le_trans K132.1 (Nat.le_of_eq g134.symm)
    have Z144 : n0 ≤ h134.size := Nat.le_trans Z131 E134.1
    have K145 : Keep h0 h134 [] := K132.ext E134
    have O146 : Old Z n0 h134 := O133.ext E134
    show Go p.tables e below P T134 (mkF m 38 #[.val (.int pn), .val (.int c1), .val (.int c2), .val (.int c3), .val (.int c4), .val (.int ((1 : Int32) + (1 : Int32))), .val (.ref r_101), .val (.ref r_107), .val (.ref r_115), .val (.ref r_125), .unset, .unset, .unset] [(.ref b134)])
    refine Go.via (fun t k => XS.dup X134.here hx rfl (hb hby at_38) rfl rfl k) ?_
    show Go p.tables e below P T134 (mkF m 39 #[.val (.int pn), .val (.int c1), .val (.int c2), .val (.int c3), .val (.int c4), .val (.int ((1 : Int32) + (1 : Int32))), .val (.ref r_101), .val (.ref r_107), .val (.ref r_115), .val (.ref r_125), .unset, .unset, .unset] [(.ref b134), (.ref b134)])
    have F147 : Exa Z h134 r_101 "java/lang/String" := (F135.ext E134)
    have F148 : Exa Z h134 r_107 "java/lang/String" := (F136.ext E134)
    have F149 : Exa Z h134 r_115 "java/lang/String" := (F137.ext E134)
    have F150 : Exa Z h134 r_125 "java/lang/String" := (u125_0.ext E134)
    obtain ⟨_, _, ⟨T151, L151, k151, n151⟩, -, X151, ⟨Lc151, hQ151, l151, y151, z151⟩, st151⟩ := X134.specialBack hx (y := (⟨"com/example/referee/referee/parse/OpenElements", "<init>", "()V"⟩ : MethodName)) rfl hown (mvT hZ (hw _ (List.mem_of_getElem? (i := 38) rfl))) (mvT hZ (hw _ (List.mem_of_getElem? (i := 39) rfl))) (mvT hZ (hw _ (List.mem_of_getElem? (i := 40) rfl))) (by decide) (backOf (W := 1) (rm8 l Z a0 hw [] b134 h134 n0 Z144 A134 (D134 (Or.inr (hw _ (List.mem_of_getElem? (i := 45) rfl))) (ty := (.array (.object "java/lang/String"))) (by decide) : Fld Z h134 b134 "com/example/referee/referee/parse/OpenElements" "shallow" "[Ljava/lang/String;" .null) (D134 (Or.inl (hw _ (List.mem_of_getElem? (i := 47) rfl))) (ty := (.array .char)) (by decide) : Fld Z h134 b134 "com/example/referee/referee/parse/OpenElements" "names" "[C" .null) (D134 (Or.inl (hw _ (List.mem_of_getElem? (i := 50) rfl))) (ty := (.array .int)) (by decide) : Fld Z h134 b134 "com/example/referee/referee/parse/OpenElements" "ends" "[I" .null) (D134 (Or.inl (hw _ (List.mem_of_getElem? (i := 57) rfl))) (ty := .int) (by decide) : Fld Z h134 b134 "com/example/referee/referee/parse/OpenElements" "size" "I" (.int (0 : Int32))) g142) hZ (hw _ (List.mem_of_getElem? (i := 40) rfl)) (hw _ (List.mem_of_getElem? (i := 37) rfl)) (by decide) (by decide)) (g := (mkF m 39 #[.val (.int pn), .val (.int c1), .val (.int c2), .val (.int c3), .val (.int c4), .val (.int ((1 : Int32) + (1 : Int32))), .val (.ref r_101), .val (.ref r_107), .val (.ref r_115), .val (.ref r_125), .unset, .unset, .unset] [(.ref b134), (.ref b134)])) rfl (by rw [hml]; rfl) (Steps.refl _) (a := b134) (argsL := []) (rest := [(.ref b134)]) (lenOf own_pd2 rfl) rfl (by show 2 * 0 + _ ≤ _; exact Nat.le_of_eq rfl) (hb hby at_39) (fun _ _ => ⟨rfl, e134, (by decide : 13 + 3 ≤ _), (by decide : 36 + 336 ≤ _)⟩)
    dsimp only [Pt.U, Pt.locs, Pt.cells, Pt.slots] at X151 l151 y151 z151 st151 hQ151
    subst l151 y151 z151
    obtain ⟨sh_151, ks_151, rfl, Nq151, K151, fr151_sh, u151_0, u151_1, u151_2, u151_3, u151_4, u151_5⟩ := hQ151
    obtain ⟨lc151, Xh151, N151⟩ := own_hide X151 (Fr.app N125 Nq151)
    clear X151
    refine Go.hop st151 ?_
    have ne152 : r_101 ≠ sh_151 := Nat.ne_of_lt (Nat.lt_of_lt_of_le F147.lt fr151_sh)
    have ne153 : r_107 ≠ sh_151 := Nat.ne_of_lt (Nat.lt_of_lt_of_le F148.lt fr151_sh)
    have ne154 : r_115 ≠ sh_151 := Nat.ne_of_lt (Nat.lt_of_lt_of_le F149.lt fr151_sh)
    have ne155 : r_125 ≠ sh_151 := Nat.ne_of_lt (Nat.lt_of_lt_of_le F150.lt fr151_sh)
    have ne156 : b134 ≠ sh_151 := Nat.ne_of_lt (Nat.lt_of_lt_of_le A134.lt fr151_sh)
    have g157 : n0 ≤ sh_151 := Nat.le_trans Z144 fr151_sh
    have sz158 : h0.size ≤ sh_151 := Nat.le_trans K145.1 fr151_sh
    have Z159 : n0 ≤ T151.heap.size := Nat.le_trans Z144 K151.1
    have K160 : Keep h0 T151.heap [] := K145.trans K151 (own_allC (Or.inr sz143) own_all0)
    have O161 : Old Z n0 T151.heap := O146.keep K151 (own_allC g142 own_all0)
    show Go p.tables e below P T151 (mkF m 42 #[.val (.int pn), .val (.int c1), .val (.int c2), .val (.int c3), .val (.int c4), .val (.int ((1 : Int32) + (1 : Int32))), .val (.ref r_101), .val (.ref r_107), .val (.ref r_115), .val (.ref r_125), .unset, .unset, .unset] [(.ref b134)])
    refine Go.via (fun t k => XS.astore Xh151.here hx rfl (hb hby at_42) rfl rfl (l' := #[.val (.int pn), .val (.int c1), .val (.int c2), .val (.int c3), .val (.int c4), .val (.int ((1 : Int32) + (1 : Int32))), .val (.ref r_101), .val (.ref r_107), .val (.ref r_115), .val (.ref r_125), .val (.ref b134), .unset, .unset]) rfl k) ?_
    show Go p.tables e below P T151 (mkF m 44 #[.val (.int pn), .val (.int c1), .val (.int c2), .val (.int c3), .val (.int c4), .val (.int ((1 : Int32) + (1 : Int32))), .val (.ref r_101), .val (.ref r_107), .val (.ref r_115), .val (.ref r_125), .val (.ref b134), .unset, .unset] [])
    refine Go.via (fun t k => XS.aload Xh151.here hx rfl (hb hby at_44) rfl rfl k) ?_
    show Go p.tables e below P T151 (mkF m 46 #[.val (.int pn), .val (.int c1), .val (.int c2), .val (.int c3), .val (.int c4), .val (.int ((1 : Int32) + (1 : Int32))), .val (.ref r_101), .val (.ref r_107), .val (.ref r_115), .val (.ref r_125), .val (.ref b134), .unset, .unset] [(.ref b134)])
    refine Go.via (fun t k => XS.aload Xh151.here hx rfl (hb hby at_46) rfl rfl k) ?_
    show Go p.tables e below P T151 (mkF m 48 #[.val (.int pn), .val (.int c1), .val (.int c2), .val (.int c3), .val (.int c4), .val (.int ((1 : Int32) + (1 : Int32))), .val (.ref r_101), .val (.ref r_107), .val (.ref r_115), .val (.ref r_125), .val (.ref b134), .unset, .unset] [(.ref r_101), (.ref b134)])
    have F162 : Exa Z T151.heap r_101 "java/lang/String" := (F147.keep K151)
    have F163 : Exa Z T151.heap r_107 "java/lang/String" := (F148.keep K151)
    have F164 : Exa Z T151.heap r_115 "java/lang/String" := (F149.keep K151)
    have F165 : Exa Z T151.heap r_125 "java/lang/String" := (F150.keep K151)
    obtain ⟨cq166, kq166, q166a, q166b, q166c⟩ := isOf hZ rfl u151_0
    obtain ⟨_, _, ⟨T166, L166, k166, n166⟩, -, X166, ⟨Lc166, hQ166, l166, y166, z166⟩, st166⟩ := Xh151.virtualBack hx (y := (⟨"com/example/referee/referee/parse/OpenElements", "push", "(Ljava/lang/String;)V"⟩ : MethodName)) (z := (⟨"com/example/referee/referee/parse/OpenElements", "push", "(Ljava/lang/String;)V"⟩ : MethodName)) hown (mvT hZ (hw _ (List.mem_of_getElem? (i := 51) rfl))) (mvT hZ (hw _ (List.mem_of_getElem? (i := 52) rfl))) (notFace_of_selects (args := #[]) (mvT hZ (hw _ (List.mem_of_getElem? (i := 54) rfl)))) (mvT hZ (hw _ (List.mem_of_getElem? (i := 54) rfl))) (mvT hZ (hw _ (List.mem_of_getElem? (i := 53) rfl))) (by decide) (backOf (W := 0) (rm9 l Z a0 hw [] b134 r_101 sh_151 ks_151 (0 : Int32) (List.replicate 64 .null) 0 T151.heap n0 Z159 u151_0 u151_1 u151_2 u151_3 F162 u151_4 g142 g157 ne156 (by decide) (by simp) (by decide)) hZ (hw _ (List.mem_of_getElem? (i := 55) rfl)) (hw _ (List.mem_of_getElem? (i := 37) rfl)) (by decide) (by decide)) q166a q166c (g := (mkF m 48 #[.val (.int pn), .val (.int c1), .val (.int c2), .val (.int c3), .val (.int c4), .val (.int ((1 : Int32) + (1 : Int32))), .val (.ref r_101), .val (.ref r_107), .val (.ref r_115), .val (.ref r_125), .val (.ref b134), .unset, .unset] [(.ref r_101), (.ref b134)])) rfl (by rw [hml]; rfl) (Steps.refl _) (argsL := [(.ref r_101)]) (rest := []) (lenOf own_pd3 rfl) rfl (by show 2 * 0 + _ ≤ _; exact Nat.le_of_eq rfl) (hb hby at_48) (fun _ _ => ⟨rfl, rfl, (by decide : 16 + 0 ≤ _), (by decide : 372 + 0 ≤ _)⟩)
    dsimp only [Pt.U, Pt.locs, Pt.cells, Pt.slots] at X166 l166 y166 z166 st166 hQ166
    subst l166 y166 z166
    obtain ⟨rfl, Nq166, K166, u166_0, u166_1, u166_2, u166_3⟩ := hQ166
    obtain ⟨lc166, Xh166, N166⟩ := own_hide X166 (Fr.app N151 Nq166)
    clear X166
    refine Go.hop st166 ?_
    have Z167 : n0 ≤ T166.heap.size := Nat.le_trans Z159 K166.1
    have K168 : Keep h0 T166.heap [] := K160.trans K166 (own_allC (Or.inr sz143) (own_allC (Or.inr sz158) own_all0))
    have O169 : Old Z n0 T166.heap := O161.keep K166 (own_allC g142 (own_allC g157 own_all0))
    show Go p.tables e below P T166 (mkF m 51 #[.val (.int pn), .val (.int c1), .val (.int c2), .val (.int c3), .val (.int c4), .val (.int ((1 : Int32) + (1 : Int32))), .val (.ref r_101), .val (.ref r_107), .val (.ref r_115), .val (.ref r_125), .val (.ref b134), .unset, .unset] [])
    refine Go.via (fun t k => XS.iload Xh166.here hx rfl (hb hby at_51) rfl k) ?_
    show Go p.tables e below P T166 (mkF m 53 #[.val (.int pn), .val (.int c1), .val (.int c2), .val (.int c3), .val (.int c4), .val (.int ((1 : Int32) + (1 : Int32))), .val (.ref r_101), .val (.ref r_107), .val (.ref r_115), .val (.ref r_125), .val (.ref b134), .unset, .unset] [(.int ((1 : Int32) + (1 : Int32)))])
    refine Go.via (fun t k => XS.iconst Xh166.here hx rfl (hb hby at_53) k) ?_
    show Go p.tables e below P T166 (mkF m 54 #[.val (.int pn), .val (.int c1), .val (.int c2), .val (.int c3), .val (.int c4), .val (.int ((1 : Int32) + (1 : Int32))), .val (.ref r_101), .val (.ref r_107), .val (.ref r_115), .val (.ref r_125), .val (.ref b134), .unset, .unset] [(.int (2 : Int32)), (.int ((1 : Int32) + (1 : Int32)))])
    refine Go.via (fun t k => XS.icmpNo Xh166.here hx rfl (hb hby at_54) rfl (flt (by decide : ¬ (((1 : Int32) + (1 : Int32)) < (2 : Int32)))).1 k) ?_
    show Go p.tables e below P T166 (mkF m 57 #[.val (.int pn), .val (.int c1), .val (.int c2), .val (.int c3), .val (.int c4), .val (.int ((1 : Int32) + (1 : Int32))), .val (.ref r_101), .val (.ref r_107), .val (.ref r_115), .val (.ref r_125), .val (.ref b134), .unset, .unset] [])
    refine Go.via (fun t k => XS.aload Xh166.here hx rfl (hb hby at_57) rfl rfl k) ?_
    show Go p.tables e below P T166 (mkF m 59 #[.val (.int pn), .val (.int c1), .val (.int c2), .val (.int c3), .val (.int c4), .val (.int ((1 : Int32) + (1 : Int32))), .val (.ref r_101), .val (.ref r_107), .val (.ref r_115), .val (.ref r_125), .val (.ref b134), .unset, .unset] [(.ref b134)])
    refine Go.via (fun t k => XS.aload Xh166.here hx rfl (hb hby at_59) rfl rfl k) ?_
    show Go p.tables e below P T166 (mkF m 61 #[.val (.int pn), .val (.int c1), .val (.int c2), .val (.int c3), .val (.int c4), .val (.int ((1 : Int32) + (1 : Int32))), .val (.ref r_101), .val (.ref r_107), .val (.ref r_115), .val (.ref r_125), .val (.ref b134), .unset, .unset] [(.ref r_107), (.ref b134)])
    have F170 : Exa Z T166.heap r_107 "java/lang/String" := (F163.keep K166)
    have F171 : Exa Z T166.heap r_101 "java/lang/String" := (F162.keep K166)
    have F172 : Exa Z T166.heap r_115 "java/lang/String" := (F164.keep K166)
    have F173 : Exa Z T166.heap r_125 "java/lang/String" := (F165.keep K166)
    obtain ⟨cq174, kq174, q174a, q174b, q174c⟩ := isOf hZ rfl u166_0
    obtain ⟨_, _, ⟨T174, L174, k174, n174⟩, -, X174, ⟨Lc174, hQ174, l174, y174, z174⟩, st174⟩ := Xh166.virtualBack hx (y := (⟨"com/example/referee/referee/parse/OpenElements", "push", "(Ljava/lang/String;)V"⟩ : MethodName)) (z := (⟨"com/example/referee/referee/parse/OpenElements", "push", "(Ljava/lang/String;)V"⟩ : MethodName)) hown (mvT hZ (hw _ (List.mem_of_getElem? (i := 51) rfl))) (mvT hZ (hw _ (List.mem_of_getElem? (i := 52) rfl))) (notFace_of_selects (args := #[]) (mvT hZ (hw _ (List.mem_of_getElem? (i := 54) rfl)))) (mvT hZ (hw _ (List.mem_of_getElem? (i := 54) rfl))) (mvT hZ (hw _ (List.mem_of_getElem? (i := 53) rfl))) (by decide) (backOf (W := 0) (rm9 l Z a0 hw [] b134 r_107 sh_151 ks_151 ((0 : Int32) + (1 : Int32)) ((List.replicate 64 .null).set 0 (.ref r_101)) 1 T166.heap n0 Z167 u166_0 u166_1 u166_2 u166_3 F170 u151_4 g142 g157 ne156 (by decide) (by simp) (by decide)) hZ (hw _ (List.mem_of_getElem? (i := 55) rfl)) (hw _ (List.mem_of_getElem? (i := 37) rfl)) (by decide) (by decide)) q174a q174c (g := (mkF m 61 #[.val (.int pn), .val (.int c1), .val (.int c2), .val (.int c3), .val (.int c4), .val (.int ((1 : Int32) + (1 : Int32))), .val (.ref r_101), .val (.ref r_107), .val (.ref r_115), .val (.ref r_125), .val (.ref b134), .unset, .unset] [(.ref r_107), (.ref b134)])) rfl (by rw [hml]; rfl) (Steps.refl _) (argsL := [(.ref r_107)]) (rest := []) (lenOf own_pd3 rfl) rfl (by show 2 * 0 + _ ≤ _; exact Nat.le_of_eq rfl) (hb hby at_61) (fun _ _ => ⟨rfl, rfl, (by decide : 16 + 0 ≤ _), (by decide : 372 + 0 ≤ _)⟩)
    dsimp only [Pt.U, Pt.locs, Pt.cells, Pt.slots] at X174 l174 y174 z174 st174 hQ174
    subst l174 y174 z174
    obtain ⟨rfl, Nq174, K174, u174_0, u174_1, u174_2, u174_3⟩ := hQ174
    obtain ⟨lc174, Xh174, N174⟩ := own_hide X174 (Fr.app N166 Nq174)
    clear X174
    refine Go.hop st174 ?_
    have Z175 : n0 ≤ T174.heap.size := Nat.le_trans Z167 K174.1
    have K176 : Keep h0 T174.heap [] := K168.trans K174 (own_allC (Or.inr sz143) (own_allC (Or.inr sz158) own_all0))
    have O177 : Old Z n0 T174.heap := O169.keep K174 (own_allC g142 (own_allC g157 own_all0))
    show Go p.tables e below P T174 (mkF m 64 #[.val (.int pn), .val (.int c1), .val (.int c2), .val (.int c3), .val (.int c4), .val (.int ((1 : Int32) + (1 : Int32))), .val (.ref r_101), .val (.ref r_107), .val (.ref r_115), .val (.ref r_125), .val (.ref b134), .unset, .unset] [])
    refine Go.via (fun t k => XS.iload Xh174.here hx rfl (hb hby at_64) rfl k) ?_
    show Go p.tables e below P T174 (mkF m 66 #[.val (.int pn), .val (.int c1), .val (.int c2), .val (.int c3), .val (.int c4), .val (.int ((1 : Int32) + (1 : Int32))), .val (.ref r_101), .val (.ref r_107), .val (.ref r_115), .val (.ref r_125), .val (.ref b134), .unset, .unset] [(.int ((1 : Int32) + (1 : Int32)))])
    refine Go.via (fun t k => XS.iconst Xh174.here hx rfl (hb hby at_66) k) ?_
    show Go p.tables e below P T174 (mkF m 67 #[.val (.int pn), .val (.int c1), .val (.int c2), .val (.int c3), .val (.int c4), .val (.int ((1 : Int32) + (1 : Int32))), .val (.ref r_101), .val (.ref r_107), .val (.ref r_115), .val (.ref r_125), .val (.ref b134), .unset, .unset] [(.int (3 : Int32)), (.int ((1 : Int32) + (1 : Int32)))])
    refine Go.via (fun t k => XS.icmpYes Xh174.here hx rfl (pc0 := 67) (pc' := 77) rfl (hb hby at_67) rfl (tlt (by decide : ((1 : Int32) + (1 : Int32)) < (3 : Int32))).1 (by decide) (by decide) k) ?_
    show Go p.tables e below P T174 (mkF m 77 #[.val (.int pn), .val (.int c1), .val (.int c2), .val (.int c3), .val (.int c4), .val (.int ((1 : Int32) + (1 : Int32))), .val (.ref r_101), .val (.ref r_107), .val (.ref r_115), .val (.ref r_125), .val (.ref b134), .unset, .unset] [])
    refine Go.via (fun t k => XS.aload Xh174.here hx rfl (hb hby at_77) rfl rfl k) ?_
    show Go p.tables e below P T174 (mkF m 79 #[.val (.int pn), .val (.int c1), .val (.int c2), .val (.int c3), .val (.int c4), .val (.int ((1 : Int32) + (1 : Int32))), .val (.ref r_101), .val (.ref r_107), .val (.ref r_115), .val (.ref r_125), .val (.ref b134), .unset, .unset] [(.ref b134)])
    have F178 : Exa Z T174.heap r_101 "java/lang/String" := (F171.keep K174)
    have F179 : Exa Z T174.heap r_107 "java/lang/String" := (F170.keep K174)
    have F180 : Exa Z T174.heap r_115 "java/lang/String" := (F172.keep K174)
    have F181 : Exa Z T174.heap r_125 "java/lang/String" := (F173.keep K174)
    obtain ⟨cq182, kq182, q182a, q182b, q182c⟩ := isOf hZ rfl u174_0
    obtain ⟨_, _, ⟨T182, L182, k182, n182⟩, -, X182, ⟨Lc182, hQ182, l182, y182, z182⟩, st182⟩ := Xh174.virtualBack hx (y := (⟨"com/example/referee/referee/parse/OpenElements", "pop", "()V"⟩ : MethodName)) (z := (⟨"com/example/referee/referee/parse/OpenElements", "pop", "()V"⟩ : MethodName)) hown (mvT hZ (hw _ (List.mem_of_getElem? (i := 58) rfl))) (mvT hZ (hw _ (List.mem_of_getElem? (i := 59) rfl))) (notFace_of_selects (args := #[]) (mvT hZ (hw _ (List.mem_of_getElem? (i := 61) rfl)))) (mvT hZ (hw _ (List.mem_of_getElem? (i := 61) rfl))) (mvT hZ (hw _ (List.mem_of_getElem? (i := 60) rfl))) (by decide) (backOf (W := 0) (rm10 l Z a0 hw [] b134 sh_151 ks_151 (((0 : Int32) + (1 : Int32)) + (1 : Int32)) (((List.replicate 64 .null).set 0 (.ref r_101)).set 1 (.ref r_107)) 1 T174.heap n0 Z175 u174_0 u174_1 u174_2 u174_3 g142 g157 ne156 (by decide) (by simp) (by decide)) hZ (hw _ (List.mem_of_getElem? (i := 62) rfl)) (hw _ (List.mem_of_getElem? (i := 37) rfl)) (by decide) (by decide)) q182a q182c (g := (mkF m 79 #[.val (.int pn), .val (.int c1), .val (.int c2), .val (.int c3), .val (.int c4), .val (.int ((1 : Int32) + (1 : Int32))), .val (.ref r_101), .val (.ref r_107), .val (.ref r_115), .val (.ref r_125), .val (.ref b134), .unset, .unset] [(.ref b134)])) rfl (by rw [hml]; rfl) (Steps.refl _) (argsL := []) (rest := []) (lenOf own_pd2 rfl) rfl (by show 2 * 0 + _ ≤ _; exact Nat.le_of_eq rfl) (hb hby at_79) (fun _ _ => ⟨rfl, rfl, (by decide : 16 + 0 ≤ _), (by decide : 372 + 0 ≤ _)⟩)
    dsimp only [Pt.U, Pt.locs, Pt.cells, Pt.slots] at X182 l182 y182 z182 st182 hQ182
    subst l182 y182 z182
    obtain ⟨rfl, Nq182, K182, u182_0, u182_1, u182_2, u182_3⟩ := hQ182
    obtain ⟨lc182, Xh182, N182⟩ := own_hide X182 (Fr.app N174 Nq182)
    clear X182
    refine Go.hop st182 ?_
    have Z183 : n0 ≤ T182.heap.size := Nat.le_trans Z175 K182.1
    have K184 : Keep h0 T182.heap [] := K176.trans K182 (own_allC (Or.inr sz143) (own_allC (Or.inr sz158) own_all0))
    have O185 : Old Z n0 T182.heap := O177.keep K182 (own_allC g142 (own_allC g157 own_all0))
    show Go p.tables e below P T182 (mkF m 82 #[.val (.int pn), .val (.int c1), .val (.int c2), .val (.int c3), .val (.int c4), .val (.int ((1 : Int32) + (1 : Int32))), .val (.ref r_101), .val (.ref r_107), .val (.ref r_115), .val (.ref r_125), .val (.ref b134), .unset, .unset] [])
    refine Go.via (fun t k => XS.aload Xh182.here hx rfl (hb hby at_82) rfl rfl k) ?_
    show Go p.tables e below P T182 (mkF m 84 #[.val (.int pn), .val (.int c1), .val (.int c2), .val (.int c3), .val (.int c4), .val (.int ((1 : Int32) + (1 : Int32))), .val (.ref r_101), .val (.ref r_107), .val (.ref r_115), .val (.ref r_125), .val (.ref b134), .unset, .unset] [(.ref b134)])
    have F186 : Exa Z T182.heap r_101 "java/lang/String" := (F178.keep K182)
    have F187 : Exa Z T182.heap r_107 "java/lang/String" := (F179.keep K182)
    have F188 : Exa Z T182.heap r_115 "java/lang/String" := (F180.keep K182)
    have F189 : Exa Z T182.heap r_125 "java/lang/String" := (F181.keep K182)
    obtain ⟨cq190, kq190, q190a, q190b, q190c⟩ := isOf hZ rfl u182_0
    obtain ⟨_, _, ⟨T190, L190, k190, n190⟩, -, X190, ⟨Lc190, hQ190, l190, y190, z190⟩, st190⟩ := Xh182.virtualBack hx (y := (⟨"com/example/referee/referee/parse/OpenElements", "size", "()I"⟩ : MethodName)) (z := (⟨"com/example/referee/referee/parse/OpenElements", "size", "()I"⟩ : MethodName)) hown (mvT hZ (hw _ (List.mem_of_getElem? (i := 63) rfl))) (mvT hZ (hw _ (List.mem_of_getElem? (i := 64) rfl))) (notFace_of_selects (args := #[]) (mvT hZ (hw _ (List.mem_of_getElem? (i := 66) rfl)))) (mvT hZ (hw _ (List.mem_of_getElem? (i := 66) rfl))) (mvT hZ (hw _ (List.mem_of_getElem? (i := 65) rfl))) (by decide) (backOf (W := 0) (rm11 l Z a0 hw [] b134 ((((0 : Int32) + (1 : Int32)) + (1 : Int32)) - (1 : Int32)) T182.heap n0 Z183 u182_2) hZ (hw _ (List.mem_of_getElem? (i := 67) rfl)) (hw _ (List.mem_of_getElem? (i := 37) rfl)) (by decide) (by decide)) q190a q190c (g := (mkF m 84 #[.val (.int pn), .val (.int c1), .val (.int c2), .val (.int c3), .val (.int c4), .val (.int ((1 : Int32) + (1 : Int32))), .val (.ref r_101), .val (.ref r_107), .val (.ref r_115), .val (.ref r_125), .val (.ref b134), .unset, .unset] [(.ref b134)])) rfl (by rw [hml]; rfl) (Steps.refl _) (argsL := []) (rest := []) (lenOf own_pd4 rfl) rfl (by show 2 * 0 + _ ≤ _; exact Nat.le_of_eq rfl) (hb hby at_84) (fun _ _ => ⟨rfl, rfl, (by decide : 16 + 0 ≤ _), (by decide : 372 + 0 ≤ _)⟩)
    dsimp only [Pt.U, Pt.locs, Pt.cells, Pt.slots] at X190 l190 y190 z190 st190 hQ190
    subst l190 y190 z190
    obtain ⟨rfl, Nq190, hh190⟩ := hQ190
    obtain ⟨lc190, Xh190, N190⟩ := own_hide X190 (Fr.app N182 Nq190)
    clear X190
    refine Go.hop st190 ?_
    show Go p.tables e below P T190 (mkF m 87 #[.val (.int pn), .val (.int c1), .val (.int c2), .val (.int c3), .val (.int c4), .val (.int ((1 : Int32) + (1 : Int32))), .val (.ref r_101), .val (.ref r_107), .val (.ref r_115), .val (.ref r_125), .val (.ref b134), .unset, .unset] [(.int ((((0 : Int32) + (1 : Int32)) + (1 : Int32)) - (1 : Int32)))])
    refine Go.via (fun t k => XS.iload Xh190.here hx rfl (hb hby at_87) rfl k) ?_
    show Go p.tables e below P T190 (mkF m 89 #[.val (.int pn), .val (.int c1), .val (.int c2), .val (.int c3), .val (.int c4), .val (.int ((1 : Int32) + (1 : Int32))), .val (.ref r_101), .val (.ref r_107), .val (.ref r_115), .val (.ref r_125), .val (.ref b134), .unset, .unset] [(.int ((1 : Int32) + (1 : Int32))), (.int ((((0 : Int32) + (1 : Int32)) + (1 : Int32)) - (1 : Int32)))])
    refine Go.via (fun t k => XS.iconst Xh190.here hx rfl (hb hby at_89) k) ?_
    show Go p.tables e below P T190 (mkF m 90 #[.val (.int pn), .val (.int c1), .val (.int c2), .val (.int c3), .val (.int c4), .val (.int ((1 : Int32) + (1 : Int32))), .val (.ref r_101), .val (.ref r_107), .val (.ref r_115), .val (.ref r_125), .val (.ref b134), .unset, .unset] [(.int (1 : Int32)), (.int ((1 : Int32) + (1 : Int32))), (.int ((((0 : Int32) + (1 : Int32)) + (1 : Int32)) - (1 : Int32)))])
    refine Go.via (fun t k => XS.isub Xh190.here hx rfl (hb hby at_90) rfl k) ?_
    show Go p.tables e below P T190 (mkF m 91 #[.val (.int pn), .val (.int c1), .val (.int c2), .val (.int c3), .val (.int c4), .val (.int ((1 : Int32) + (1 : Int32))), .val (.ref r_101), .val (.ref r_107), .val (.ref r_115), .val (.ref r_125), .val (.ref b134), .unset, .unset] [(.int (((1 : Int32) + (1 : Int32)) - (1 : Int32))), (.int ((((0 : Int32) + (1 : Int32)) + (1 : Int32)) - (1 : Int32)))])
    refine Go.via (fun t k => XS.icmpNo Xh190.here hx rfl (hb hby at_91) rfl (teq (by decide : ((((0 : Int32) + (1 : Int32)) + (1 : Int32)) - (1 : Int32)) = (((1 : Int32) + (1 : Int32)) - (1 : Int32)))).2 k) ?_
    show Go p.tables e below P T190 (mkF m 94 #[.val (.int pn), .val (.int c1), .val (.int c2), .val (.int c3), .val (.int c4), .val (.int ((1 : Int32) + (1 : Int32))), .val (.ref r_101), .val (.ref r_107), .val (.ref r_115), .val (.ref r_125), .val (.ref b134), .unset, .unset] [])
    refine Go.via (fun t k => XS.iconst Xh190.here hx rfl (hb hby at_94) k) ?_
    show Go p.tables e below P T190 (mkF m 95 #[.val (.int pn), .val (.int c1), .val (.int c2), .val (.int c3), .val (.int c4), .val (.int ((1 : Int32) + (1 : Int32))), .val (.ref r_101), .val (.ref r_107), .val (.ref r_115), .val (.ref r_125), .val (.ref b134), .unset, .unset] [(.int (1 : Int32))])
    refine Go.via (fun t k => XS.goto Xh190.here hx rfl (pc0 := 95) (pc' := 99) rfl (hb hby at_95) (by decide) (by decide) k) ?_
    show Go p.tables e below P T190 (mkF m 99 #[.val (.int pn), .val (.int c1), .val (.int c2), .val (.int c3), .val (.int c4), .val (.int ((1 : Int32) + (1 : Int32))), .val (.ref r_101), .val (.ref r_107), .val (.ref r_115), .val (.ref r_125), .val (.ref b134), .unset, .unset] [(.int (1 : Int32))])
    refine Go.via (fun t k => XS.istore Xh190.here hx rfl (hb hby at_99) rfl (l' := #[.val (.int pn), .val (.int c1), .val (.int c2), .val (.int c3), .val (.int c4), .val (.int ((1 : Int32) + (1 : Int32))), .val (.ref r_101), .val (.ref r_107), .val (.ref r_115), .val (.ref r_125), .val (.ref b134), .val (.int (1 : Int32)), .unset]) rfl k) ?_
    show Go p.tables e below P T190 (mkF m 101 #[.val (.int pn), .val (.int c1), .val (.int c2), .val (.int c3), .val (.int c4), .val (.int ((1 : Int32) + (1 : Int32))), .val (.ref r_101), .val (.ref r_107), .val (.ref r_115), .val (.ref r_125), .val (.ref b134), .val (.int (1 : Int32)), .unset] [])
    refine Go.via (fun t k => XS.iload Xh190.here hx rfl (hb hby at_101) rfl k) ?_
    show Go p.tables e below P T190 (mkF m 103 #[.val (.int pn), .val (.int c1), .val (.int c2), .val (.int c3), .val (.int c4), .val (.int ((1 : Int32) + (1 : Int32))), .val (.ref r_101), .val (.ref r_107), .val (.ref r_115), .val (.ref r_125), .val (.ref b134), .val (.int (1 : Int32)), .unset] [(.int ((1 : Int32) + (1 : Int32)))])
    refine Go.via (fun t k => XS.iconst Xh190.here hx rfl (hb hby at_103) k) ?_
    show Go p.tables e below P T190 (mkF m 104 #[.val (.int pn), .val (.int c1), .val (.int c2), .val (.int c3), .val (.int c4), .val (.int ((1 : Int32) + (1 : Int32))), .val (.ref r_101), .val (.ref r_107), .val (.ref r_115), .val (.ref r_125), .val (.ref b134), .val (.int (1 : Int32)), .unset] [(.int (3 : Int32)), (.int ((1 : Int32) + (1 : Int32)))])
    refine Go.via (fun t k => XS.icmpYes Xh190.here hx rfl (pc0 := 104) (pc' := 112) rfl (hb hby at_104) rfl (feq (by decide : ¬ (((1 : Int32) + (1 : Int32)) = (3 : Int32)))).2 (by decide) (by decide) k) ?_
    show Go p.tables e below P T190 (mkF m 112 #[.val (.int pn), .val (.int c1), .val (.int c2), .val (.int c3), .val (.int c4), .val (.int ((1 : Int32) + (1 : Int32))), .val (.ref r_101), .val (.ref r_107), .val (.ref r_115), .val (.ref r_125), .val (.ref b134), .val (.int (1 : Int32)), .unset] [])
    refine Go.via (fun t k => XS.aload Xh190.here hx rfl (hb hby at_112) rfl rfl k) ?_
    show Go p.tables e below P T190 (mkF m 114 #[.val (.int pn), .val (.int c1), .val (.int c2), .val (.int c3), .val (.int c4), .val (.int ((1 : Int32) + (1 : Int32))), .val (.ref r_101), .val (.ref r_107), .val (.ref r_115), .val (.ref r_125), .val (.ref b134), .val (.int (1 : Int32)), .unset] [(.ref r_101)])
    refine Go.via (fun t k => XS.astore Xh190.here hx rfl (hb hby at_114) rfl rfl (l' := #[.val (.int pn), .val (.int c1), .val (.int c2), .val (.int c3), .val (.int c4), .val (.int ((1 : Int32) + (1 : Int32))), .val (.ref r_101), .val (.ref r_107), .val (.ref r_115), .val (.ref r_125), .val (.ref b134), .val (.int (1 : Int32)), .val (.ref r_101)]) rfl k) ?_
    show Go p.tables e below P T190 (mkF m 116 #[.val (.int pn), .val (.int c1), .val (.int c2), .val (.int c3), .val (.int c4), .val (.int ((1 : Int32) + (1 : Int32))), .val (.ref r_101), .val (.ref r_107), .val (.ref r_115), .val (.ref r_125), .val (.ref b134), .val (.int (1 : Int32)), .val (.ref r_101)] [])
    refine Go.via (fun t k => XS.iload Xh190.here hx rfl (hb hby at_116) rfl k) ?_
    show Go p.tables e below P T190 (mkF m 118 #[.val (.int pn), .val (.int c1), .val (.int c2), .val (.int c3), .val (.int c4), .val (.int ((1 : Int32) + (1 : Int32))), .val (.ref r_101), .val (.ref r_107), .val (.ref r_115), .val (.ref r_125), .val (.ref b134), .val (.int (1 : Int32)), .val (.ref r_101)] [(.int ((1 : Int32) + (1 : Int32)))])
    refine Go.via (fun t k => XS.iconst Xh190.here hx rfl (hb hby at_118) k) ?_
    show Go p.tables e below P T190 (mkF m 119 #[.val (.int pn), .val (.int c1), .val (.int c2), .val (.int c3), .val (.int c4), .val (.int ((1 : Int32) + (1 : Int32))), .val (.ref r_101), .val (.ref r_107), .val (.ref r_115), .val (.ref r_125), .val (.ref b134), .val (.int (1 : Int32)), .val (.ref r_101)] [(.int (2 : Int32)), (.int ((1 : Int32) + (1 : Int32)))])
    refine Go.via (fun t k => XS.icmpNo Xh190.here hx rfl (hb hby at_119) rfl (flt (by decide : ¬ (((1 : Int32) + (1 : Int32)) < (2 : Int32)))).1 k) ?_
    show Go p.tables e below P T190 (mkF m 122 #[.val (.int pn), .val (.int c1), .val (.int c2), .val (.int c3), .val (.int c4), .val (.int ((1 : Int32) + (1 : Int32))), .val (.ref r_101), .val (.ref r_107), .val (.ref r_115), .val (.ref r_125), .val (.ref b134), .val (.int (1 : Int32)), .val (.ref r_101)] [])
    refine Go.via (fun t k => XS.iload Xh190.here hx rfl (hb hby at_122) rfl k) ?_
    show Go p.tables e below P T190 (mkF m 124 #[.val (.int pn), .val (.int c1), .val (.int c2), .val (.int c3), .val (.int c4), .val (.int ((1 : Int32) + (1 : Int32))), .val (.ref r_101), .val (.ref r_107), .val (.ref r_115), .val (.ref r_125), .val (.ref b134), .val (.int (1 : Int32)), .val (.ref r_101)] [(.int (1 : Int32))])
    refine Go.via (fun t k => XS.ifNo Xh190.here hx rfl (hb hby at_124) rfl ((if0 _ _).trans (feq (by decide : ¬ ((1 : Int32) = (0 : Int32)))).1) k) ?_
    show Go p.tables e below P T190 (mkF m 127 #[.val (.int pn), .val (.int c1), .val (.int c2), .val (.int c3), .val (.int c4), .val (.int ((1 : Int32) + (1 : Int32))), .val (.ref r_101), .val (.ref r_107), .val (.ref r_115), .val (.ref r_125), .val (.ref b134), .val (.int (1 : Int32)), .val (.ref r_101)] [])
    refine Go.via (fun t k => XS.aload Xh190.here hx rfl (hb hby at_127) rfl rfl k) ?_
    show Go p.tables e below P T190 (mkF m 129 #[.val (.int pn), .val (.int c1), .val (.int c2), .val (.int c3), .val (.int c4), .val (.int ((1 : Int32) + (1 : Int32))), .val (.ref r_101), .val (.ref r_107), .val (.ref r_115), .val (.ref r_125), .val (.ref b134), .val (.int (1 : Int32)), .val (.ref r_101)] [(.ref r_101)])
    refine Go.via (fun t k => XS.aload Xh190.here hx rfl (hb hby at_129) rfl rfl k) ?_
    show Go p.tables e below P T190 (mkF m 131 #[.val (.int pn), .val (.int c1), .val (.int c2), .val (.int c3), .val (.int c4), .val (.int ((1 : Int32) + (1 : Int32))), .val (.ref r_101), .val (.ref r_107), .val (.ref r_115), .val (.ref r_125), .val (.ref b134), .val (.int (1 : Int32)), .val (.ref r_101)] [(.ref b134), (.ref r_101)])
    obtain ⟨cq191, kq191, q191a, q191b, q191c⟩ := isOf hZ hh190 u182_0
    obtain ⟨_, _, ⟨T191, L191, k191, n191⟩, -, X191, ⟨Lc191, hQ191, l191, y191, z191⟩, st191⟩ := Xh190.virtualBack hx (y := (⟨"com/example/referee/referee/parse/OpenElements", "innermost", "()Ljava/lang/String;"⟩ : MethodName)) (z := (⟨"com/example/referee/referee/parse/OpenElements", "innermost", "()Ljava/lang/String;"⟩ : MethodName)) hown (mvT hZ (hw _ (List.mem_of_getElem? (i := 68) rfl))) (mvT hZ (hw _ (List.mem_of_getElem? (i := 69) rfl))) (notFace_of_selects (args := #[]) (mvT hZ (hw _ (List.mem_of_getElem? (i := 71) rfl)))) (mvT hZ (hw _ (List.mem_of_getElem? (i := 71) rfl))) (mvT hZ (hw _ (List.mem_of_getElem? (i := 70) rfl))) (by decide) (backOf (W := 1) (rm12 l Z a0 hw [] b134 sh_151 ks_151 ((((0 : Int32) + (1 : Int32)) + (1 : Int32)) - (1 : Int32)) ((((List.replicate 64 .null).set 0 (.ref r_101)).set 1 (.ref r_107)).set 1 .null) 0 r_101 T182.heap n0 Z183 u182_0 u182_1 u182_2 u182_3 (by decide) (by decide) (by decide) rfl) hZ (hw _ (List.mem_of_getElem? (i := 72) rfl)) (hw _ (List.mem_of_getElem? (i := 37) rfl)) (by decide) (by decide)) q191a q191c (g := (mkF m 131 #[.val (.int pn), .val (.int c1), .val (.int c2), .val (.int c3), .val (.int c4), .val (.int ((1 : Int32) + (1 : Int32))), .val (.ref r_101), .val (.ref r_107), .val (.ref r_115), .val (.ref r_125), .val (.ref b134), .val (.int (1 : Int32)), .val (.ref r_101)] [(.ref b134), (.ref r_101)])) rfl (by rw [hml]; rfl) (Steps.refl _) (argsL := []) (rest := [(.ref r_101)]) (lenOf own_pd5 rfl) rfl (by show 2 * 0 + _ ≤ _; exact Nat.le_of_eq rfl) (hb hby at_131) (fun _ _ => ⟨rfl, hh190, (by decide : 16 + 0 ≤ _), (by decide : 372 + 0 ≤ _)⟩)
    dsimp only [Pt.U, Pt.locs, Pt.cells, Pt.slots] at X191 l191 y191 z191 st191 hQ191
    subst l191 y191 z191
    obtain ⟨rfl, Nq191, hh191⟩ := hQ191
    obtain ⟨lc191, Xh191, N191⟩ := own_hide X191 (Fr.app N190 Nq191)
    clear X191
    refine Go.hop st191 ?_
    show Go p.tables e below P T191 (mkF m 134 #[.val (.int pn), .val (.int c1), .val (.int c2), .val (.int c3), .val (.int c4), .val (.int ((1 : Int32) + (1 : Int32))), .val (.ref r_101), .val (.ref r_107), .val (.ref r_115), .val (.ref r_125), .val (.ref b134), .val (.int (1 : Int32)), .val (.ref r_101)] [(.ref r_101), (.ref r_101)])
    obtain ⟨cq192, kq192, q192a, q192b, q192c⟩ := isOf hZ hh191 F186
    obtain ⟨_, _, ⟨T192, L192, k192, n192⟩, -, X192, ⟨Lc192, hQ192, l192, y192, z192⟩, st192⟩ := Xh191.virtualBack hx (y := (⟨"java/lang/String", "equals", "(Ljava/lang/Object;)Z"⟩ : MethodName)) (z := (⟨"java/lang/String", "equals", "(Ljava/lang/Object;)Z"⟩ : MethodName)) hown (mvT hZ (hw _ (List.mem_of_getElem? (i := 73) rfl))) (mvT hZ (hw _ (List.mem_of_getElem? (i := 74) rfl))) (notFace_of_selects (args := #[]) (mvT hZ (hw _ (List.mem_of_getElem? (i := 76) rfl)))) (mvT hZ (hw _ (List.mem_of_getElem? (i := 76) rfl))) (mvT hZ (hw _ (List.mem_of_getElem? (i := 75) rfl))) (by decide) (backOf (W := 0) (rm13 l Z a0 hw [] r_101 T182.heap n0 Z183 ) hZ (hw _ (List.mem_of_getElem? (i := 77) rfl)) (hw _ (List.mem_of_getElem? (i := 8) rfl)) (by decide) (by decide)) q192a q192c (g := (mkF m 134 #[.val (.int pn), .val (.int c1), .val (.int c2), .val (.int c3), .val (.int c4), .val (.int ((1 : Int32) + (1 : Int32))), .val (.ref r_101), .val (.ref r_107), .val (.ref r_115), .val (.ref r_125), .val (.ref b134), .val (.int (1 : Int32)), .val (.ref r_101)] [(.ref r_101), (.ref r_101)])) rfl (by rw [hml]; rfl) (Steps.refl _) (argsL := [(.ref r_101)]) (rest := []) (lenOf own_pd6 rfl) rfl (by show 2 * 0 + _ ≤ _; exact Nat.le_of_eq rfl) (hb hby at_134) (fun _ _ => ⟨rfl, hh191, (by decide : 16 + 0 ≤ _), (by decide : 372 + 0 ≤ _)⟩)
    dsimp only [Pt.U, Pt.locs, Pt.cells, Pt.slots] at X192 l192 y192 z192 st192 hQ192
    subst l192 y192 z192
    obtain ⟨rfl, Nq192, hh192⟩ := hQ192
    obtain ⟨lc192, Xh192, N192⟩ := own_hide X192 (Fr.app N191 Nq192)
    clear X192
    refine Go.hop st192 ?_
    show Go p.tables e below P T192 (mkF m 137 #[.val (.int pn), .val (.int c1), .val (.int c2), .val (.int c3), .val (.int c4), .val (.int ((1 : Int32) + (1 : Int32))), .val (.ref r_101), .val (.ref r_107), .val (.ref r_115), .val (.ref r_125), .val (.ref b134), .val (.int (1 : Int32)), .val (.ref r_101)] [(.int (1 : Int32))])
    refine Go.via (fun t k => XS.ifNo Xh192.here hx rfl (hb hby at_137) rfl ((if0 _ _).trans (feq (by decide : ¬ ((1 : Int32) = (0 : Int32)))).1) k) ?_
    show Go p.tables e below P T192 (mkF m 140 #[.val (.int pn), .val (.int c1), .val (.int c2), .val (.int c3), .val (.int c4), .val (.int ((1 : Int32) + (1 : Int32))), .val (.ref r_101), .val (.ref r_107), .val (.ref r_115), .val (.ref r_125), .val (.ref b134), .val (.int (1 : Int32)), .val (.ref r_101)] [])
    refine Go.via (fun t k => XS.iconst Xh192.here hx rfl (hb hby at_140) k) ?_
    show Go p.tables e below P T192 (mkF m 141 #[.val (.int pn), .val (.int c1), .val (.int c2), .val (.int c3), .val (.int c4), .val (.int ((1 : Int32) + (1 : Int32))), .val (.ref r_101), .val (.ref r_107), .val (.ref r_115), .val (.ref r_125), .val (.ref b134), .val (.int (1 : Int32)), .val (.ref r_101)] [(.int (1 : Int32))])
    refine Go.via (fun t k => XS.goto Xh192.here hx rfl (pc0 := 141) (pc' := 145) rfl (hb hby at_141) (by decide) (by decide) k) ?_
    show Go p.tables e below P T192 (mkF m 145 #[.val (.int pn), .val (.int c1), .val (.int c2), .val (.int c3), .val (.int c4), .val (.int ((1 : Int32) + (1 : Int32))), .val (.ref r_101), .val (.ref r_107), .val (.ref r_115), .val (.ref r_125), .val (.ref b134), .val (.int (1 : Int32)), .val (.ref r_101)] [(.int (1 : Int32))])
    refine Go.via (fun t k => XS.istore Xh192.here hx rfl (hb hby at_145) rfl (l' := #[.val (.int pn), .val (.int c1), .val (.int c2), .val (.int c3), .val (.int c4), .val (.int ((1 : Int32) + (1 : Int32))), .val (.ref r_101), .val (.ref r_107), .val (.ref r_115), .val (.ref r_125), .val (.ref b134), .val (.int (1 : Int32)), .val (.ref r_101)]) rfl k) ?_
    show Go p.tables e below P T192 (mkF m 147 #[.val (.int pn), .val (.int c1), .val (.int c2), .val (.int c3), .val (.int c4), .val (.int ((1 : Int32) + (1 : Int32))), .val (.ref r_101), .val (.ref r_107), .val (.ref r_115), .val (.ref r_125), .val (.ref b134), .val (.int (1 : Int32)), .val (.ref r_101)] [])
    refine Go.via (fun t k => XS.aload Xh192.here hx rfl (hb hby at_147) rfl rfl k) ?_
    show Go p.tables e below P T192 (mkF m 149 #[.val (.int pn), .val (.int c1), .val (.int c2), .val (.int c3), .val (.int c4), .val (.int ((1 : Int32) + (1 : Int32))), .val (.ref r_101), .val (.ref r_107), .val (.ref r_115), .val (.ref r_125), .val (.ref b134), .val (.int (1 : Int32)), .val (.ref r_101)] [(.ref b134)])
    refine Go.via (fun t k => XS.aload Xh192.here hx rfl (hb hby at_149) rfl rfl k) ?_
    show Go p.tables e below P T192 (mkF m 151 #[.val (.int pn), .val (.int c1), .val (.int c2), .val (.int c3), .val (.int c4), .val (.int ((1 : Int32) + (1 : Int32))), .val (.ref r_101), .val (.ref r_107), .val (.ref r_115), .val (.ref r_125), .val (.ref b134), .val (.int (1 : Int32)), .val (.ref r_101)] [(.ref r_125), (.ref b134)])
    obtain ⟨cq193, kq193, q193a, q193b, q193c⟩ := isOf hZ hh192 u182_0
    obtain ⟨_, _, ⟨T193, L193, k193, n193⟩, -, X193, ⟨Lc193, hQ193, l193, y193, z193⟩, st193⟩ := Xh192.virtualBack hx (y := (⟨"com/example/referee/referee/parse/OpenElements", "push", "(Ljava/lang/String;)V"⟩ : MethodName)) (z := (⟨"com/example/referee/referee/parse/OpenElements", "push", "(Ljava/lang/String;)V"⟩ : MethodName)) hown (mvT hZ (hw _ (List.mem_of_getElem? (i := 51) rfl))) (mvT hZ (hw _ (List.mem_of_getElem? (i := 52) rfl))) (notFace_of_selects (args := #[]) (mvT hZ (hw _ (List.mem_of_getElem? (i := 54) rfl)))) (mvT hZ (hw _ (List.mem_of_getElem? (i := 54) rfl))) (mvT hZ (hw _ (List.mem_of_getElem? (i := 53) rfl))) (by decide) (backOf (W := 0) (rm9 l Z a0 hw [] b134 r_125 sh_151 ks_151 ((((0 : Int32) + (1 : Int32)) + (1 : Int32)) - (1 : Int32)) ((((List.replicate 64 .null).set 0 (.ref r_101)).set 1 (.ref r_107)).set 1 .null) 1 T182.heap n0 Z183 u182_0 u182_1 u182_2 u182_3 F189 u151_4 g142 g157 ne156 (by decide) (by simp) (by decide)) hZ (hw _ (List.mem_of_getElem? (i := 55) rfl)) (hw _ (List.mem_of_getElem? (i := 37) rfl)) (by decide) (by decide)) q193a q193c (g := (mkF m 151 #[.val (.int pn), .val (.int c1), .val (.int c2), .val (.int c3), .val (.int c4), .val (.int ((1 : Int32) + (1 : Int32))), .val (.ref r_101), .val (.ref r_107), .val (.ref r_115), .val (.ref r_125), .val (.ref b134), .val (.int (1 : Int32)), .val (.ref r_101)] [(.ref r_125), (.ref b134)])) rfl (by rw [hml]; rfl) (Steps.refl _) (argsL := [(.ref r_125)]) (rest := []) (lenOf own_pd3 rfl) rfl (by show 2 * 0 + _ ≤ _; exact Nat.le_of_eq rfl) (hb hby at_151) (fun _ _ => ⟨rfl, hh192, (by decide : 16 + 0 ≤ _), (by decide : 372 + 0 ≤ _)⟩)
    dsimp only [Pt.U, Pt.locs, Pt.cells, Pt.slots] at X193 l193 y193 z193 st193 hQ193
    subst l193 y193 z193
    obtain ⟨rfl, Nq193, K193, u193_0, u193_1, u193_2, u193_3⟩ := hQ193
    obtain ⟨lc193, Xh193, N193⟩ := own_hide X193 (Fr.app N192 Nq193)
    clear X193
    refine Go.hop st193 ?_
    have Z194 : n0 ≤ T193.heap.size := Nat.le_trans Z183 K193.1
    have K195 : Keep h0 T193.heap [] := K184.trans K193 (own_allC (Or.inr sz143) (own_allC (Or.inr sz158) own_all0))
    have O196 : Old Z n0 T193.heap := O185.keep K193 (own_allC g142 (own_allC g157 own_all0))
    show Go p.tables e below P T193 (mkF m 154 #[.val (.int pn), .val (.int c1), .val (.int c2), .val (.int c3), .val (.int c4), .val (.int ((1 : Int32) + (1 : Int32))), .val (.ref r_101), .val (.ref r_107), .val (.ref r_115), .val (.ref r_125), .val (.ref b134), .val (.int (1 : Int32)), .val (.ref r_101)] [])
    refine Go.via (fun t k => XS.aload Xh193.here hx rfl (hb hby at_154) rfl rfl k) ?_
    show Go p.tables e below P T193 (mkF m 156 #[.val (.int pn), .val (.int c1), .val (.int c2), .val (.int c3), .val (.int c4), .val (.int ((1 : Int32) + (1 : Int32))), .val (.ref r_101), .val (.ref r_107), .val (.ref r_115), .val (.ref r_125), .val (.ref b134), .val (.int (1 : Int32)), .val (.ref r_101)] [(.ref b134)])
    have F197 : Exa Z T193.heap r_101 "java/lang/String" := (F186.keep K193)
    have F198 : Exa Z T193.heap r_107 "java/lang/String" := (F187.keep K193)
    have F199 : Exa Z T193.heap r_115 "java/lang/String" := (F188.keep K193)
    have F200 : Exa Z T193.heap r_125 "java/lang/String" := (F189.keep K193)
    obtain ⟨cq201, kq201, q201a, q201b, q201c⟩ := isOf hZ rfl u193_0
    obtain ⟨_, _, ⟨T201, L201, k201, n201⟩, -, X201, ⟨Lc201, hQ201, l201, y201, z201⟩, st201⟩ := Xh193.virtualBack hx (y := (⟨"com/example/referee/referee/parse/OpenElements", "pop", "()V"⟩ : MethodName)) (z := (⟨"com/example/referee/referee/parse/OpenElements", "pop", "()V"⟩ : MethodName)) hown (mvT hZ (hw _ (List.mem_of_getElem? (i := 58) rfl))) (mvT hZ (hw _ (List.mem_of_getElem? (i := 59) rfl))) (notFace_of_selects (args := #[]) (mvT hZ (hw _ (List.mem_of_getElem? (i := 61) rfl)))) (mvT hZ (hw _ (List.mem_of_getElem? (i := 61) rfl))) (mvT hZ (hw _ (List.mem_of_getElem? (i := 60) rfl))) (by decide) (backOf (W := 0) (rm10 l Z a0 hw [] b134 sh_151 ks_151 (((((0 : Int32) + (1 : Int32)) + (1 : Int32)) - (1 : Int32)) + (1 : Int32)) (((((List.replicate 64 .null).set 0 (.ref r_101)).set 1 (.ref r_107)).set 1 .null).set 1 (.ref r_125)) 1 T193.heap n0 Z194 u193_0 u193_1 u193_2 u193_3 g142 g157 ne156 (by decide) (by simp) (by decide)) hZ (hw _ (List.mem_of_getElem? (i := 62) rfl)) (hw _ (List.mem_of_getElem? (i := 37) rfl)) (by decide) (by decide)) q201a q201c (g := (mkF m 156 #[.val (.int pn), .val (.int c1), .val (.int c2), .val (.int c3), .val (.int c4), .val (.int ((1 : Int32) + (1 : Int32))), .val (.ref r_101), .val (.ref r_107), .val (.ref r_115), .val (.ref r_125), .val (.ref b134), .val (.int (1 : Int32)), .val (.ref r_101)] [(.ref b134)])) rfl (by rw [hml]; rfl) (Steps.refl _) (argsL := []) (rest := []) (lenOf own_pd2 rfl) rfl (by show 2 * 0 + _ ≤ _; exact Nat.le_of_eq rfl) (hb hby at_156) (fun _ _ => ⟨rfl, rfl, (by decide : 16 + 0 ≤ _), (by decide : 372 + 0 ≤ _)⟩)
    dsimp only [Pt.U, Pt.locs, Pt.cells, Pt.slots] at X201 l201 y201 z201 st201 hQ201
    subst l201 y201 z201
    obtain ⟨rfl, Nq201, K201, u201_0, u201_1, u201_2, u201_3⟩ := hQ201
    obtain ⟨lc201, Xh201, N201⟩ := own_hide X201 (Fr.app N193 Nq201)
    clear X201
    refine Go.hop st201 ?_
    have Z202 : n0 ≤ T201.heap.size := Nat.le_trans Z194 K201.1
    have K203 : Keep h0 T201.heap [] := K195.trans K201 (own_allC (Or.inr sz143) (own_allC (Or.inr sz158) own_all0))
    have O204 : Old Z n0 T201.heap := O196.keep K201 (own_allC g142 (own_allC g157 own_all0))
    show Go p.tables e below P T201 (mkF m 159 #[.val (.int pn), .val (.int c1), .val (.int c2), .val (.int c3), .val (.int c4), .val (.int ((1 : Int32) + (1 : Int32))), .val (.ref r_101), .val (.ref r_107), .val (.ref r_115), .val (.ref r_125), .val (.ref b134), .val (.int (1 : Int32)), .val (.ref r_101)] [])
    refine Go.via (fun t k => XS.iload Xh201.here hx rfl (hb hby at_159) rfl k) ?_
    show Go p.tables e below P T201 (mkF m 161 #[.val (.int pn), .val (.int c1), .val (.int c2), .val (.int c3), .val (.int c4), .val (.int ((1 : Int32) + (1 : Int32))), .val (.ref r_101), .val (.ref r_107), .val (.ref r_115), .val (.ref r_125), .val (.ref b134), .val (.int (1 : Int32)), .val (.ref r_101)] [(.int (1 : Int32))])
    refine Go.via (fun t k => XS.ifNo Xh201.here hx rfl (hb hby at_161) rfl ((if0 _ _).trans (feq (by decide : ¬ ((1 : Int32) = (0 : Int32)))).1) k) ?_
    show Go p.tables e below P T201 (mkF m 164 #[.val (.int pn), .val (.int c1), .val (.int c2), .val (.int c3), .val (.int c4), .val (.int ((1 : Int32) + (1 : Int32))), .val (.ref r_101), .val (.ref r_107), .val (.ref r_115), .val (.ref r_125), .val (.ref b134), .val (.int (1 : Int32)), .val (.ref r_101)] [])
    refine Go.via (fun t k => XS.aload Xh201.here hx rfl (hb hby at_164) rfl rfl k) ?_
    show Go p.tables e below P T201 (mkF m 166 #[.val (.int pn), .val (.int c1), .val (.int c2), .val (.int c3), .val (.int c4), .val (.int ((1 : Int32) + (1 : Int32))), .val (.ref r_101), .val (.ref r_107), .val (.ref r_115), .val (.ref r_125), .val (.ref b134), .val (.int (1 : Int32)), .val (.ref r_101)] [(.ref b134)])
    have F205 : Exa Z T201.heap r_101 "java/lang/String" := (F197.keep K201)
    have F206 : Exa Z T201.heap r_107 "java/lang/String" := (F198.keep K201)
    have F207 : Exa Z T201.heap r_115 "java/lang/String" := (F199.keep K201)
    have F208 : Exa Z T201.heap r_125 "java/lang/String" := (F200.keep K201)
    obtain ⟨cq209, kq209, q209a, q209b, q209c⟩ := isOf hZ rfl u201_0
    obtain ⟨_, _, ⟨T209, L209, k209, n209⟩, -, X209, ⟨Lc209, hQ209, l209, y209, z209⟩, st209⟩ := Xh201.virtualBack hx (y := (⟨"com/example/referee/referee/parse/OpenElements", "size", "()I"⟩ : MethodName)) (z := (⟨"com/example/referee/referee/parse/OpenElements", "size", "()I"⟩ : MethodName)) hown (mvT hZ (hw _ (List.mem_of_getElem? (i := 63) rfl))) (mvT hZ (hw _ (List.mem_of_getElem? (i := 64) rfl))) (notFace_of_selects (args := #[]) (mvT hZ (hw _ (List.mem_of_getElem? (i := 66) rfl)))) (mvT hZ (hw _ (List.mem_of_getElem? (i := 66) rfl))) (mvT hZ (hw _ (List.mem_of_getElem? (i := 65) rfl))) (by decide) (backOf (W := 0) (rm11 l Z a0 hw [] b134 ((((((0 : Int32) + (1 : Int32)) + (1 : Int32)) - (1 : Int32)) + (1 : Int32)) - (1 : Int32)) T201.heap n0 Z202 u201_2) hZ (hw _ (List.mem_of_getElem? (i := 67) rfl)) (hw _ (List.mem_of_getElem? (i := 37) rfl)) (by decide) (by decide)) q209a q209c (g := (mkF m 166 #[.val (.int pn), .val (.int c1), .val (.int c2), .val (.int c3), .val (.int c4), .val (.int ((1 : Int32) + (1 : Int32))), .val (.ref r_101), .val (.ref r_107), .val (.ref r_115), .val (.ref r_125), .val (.ref b134), .val (.int (1 : Int32)), .val (.ref r_101)] [(.ref b134)])) rfl (by rw [hml]; rfl) (Steps.refl _) (argsL := []) (rest := []) (lenOf own_pd4 rfl) rfl (by show 2 * 0 + _ ≤ _; exact Nat.le_of_eq rfl) (hb hby at_166) (fun _ _ => ⟨rfl, rfl, (by decide : 16 + 0 ≤ _), (by decide : 372 + 0 ≤ _)⟩)
    dsimp only [Pt.U, Pt.locs, Pt.cells, Pt.slots] at X209 l209 y209 z209 st209 hQ209
    subst l209 y209 z209
    obtain ⟨rfl, Nq209, hh209⟩ := hQ209
    obtain ⟨lc209, Xh209, N209⟩ := own_hide X209 (Fr.app N201 Nq209)
    clear X209
    refine Go.hop st209 ?_
    show Go p.tables e below P T209 (mkF m 169 #[.val (.int pn), .val (.int c1), .val (.int c2), .val (.int c3), .val (.int c4), .val (.int ((1 : Int32) + (1 : Int32))), .val (.ref r_101), .val (.ref r_107), .val (.ref r_115), .val (.ref r_125), .val (.ref b134), .val (.int (1 : Int32)), .val (.ref r_101)] [(.int ((((((0 : Int32) + (1 : Int32)) + (1 : Int32)) - (1 : Int32)) + (1 : Int32)) - (1 : Int32)))])
    refine Go.via (fun t k => XS.iload Xh209.here hx rfl (hb hby at_169) rfl k) ?_
    show Go p.tables e below P T209 (mkF m 171 #[.val (.int pn), .val (.int c1), .val (.int c2), .val (.int c3), .val (.int c4), .val (.int ((1 : Int32) + (1 : Int32))), .val (.ref r_101), .val (.ref r_107), .val (.ref r_115), .val (.ref r_125), .val (.ref b134), .val (.int (1 : Int32)), .val (.ref r_101)] [(.int ((1 : Int32) + (1 : Int32))), (.int ((((((0 : Int32) + (1 : Int32)) + (1 : Int32)) - (1 : Int32)) + (1 : Int32)) - (1 : Int32)))])
    refine Go.via (fun t k => XS.iconst Xh209.here hx rfl (hb hby at_171) k) ?_
    show Go p.tables e below P T209 (mkF m 172 #[.val (.int pn), .val (.int c1), .val (.int c2), .val (.int c3), .val (.int c4), .val (.int ((1 : Int32) + (1 : Int32))), .val (.ref r_101), .val (.ref r_107), .val (.ref r_115), .val (.ref r_125), .val (.ref b134), .val (.int (1 : Int32)), .val (.ref r_101)] [(.int (1 : Int32)), (.int ((1 : Int32) + (1 : Int32))), (.int ((((((0 : Int32) + (1 : Int32)) + (1 : Int32)) - (1 : Int32)) + (1 : Int32)) - (1 : Int32)))])
    refine Go.via (fun t k => XS.isub Xh209.here hx rfl (hb hby at_172) rfl k) ?_
    show Go p.tables e below P T209 (mkF m 173 #[.val (.int pn), .val (.int c1), .val (.int c2), .val (.int c3), .val (.int c4), .val (.int ((1 : Int32) + (1 : Int32))), .val (.ref r_101), .val (.ref r_107), .val (.ref r_115), .val (.ref r_125), .val (.ref b134), .val (.int (1 : Int32)), .val (.ref r_101)] [(.int (((1 : Int32) + (1 : Int32)) - (1 : Int32))), (.int ((((((0 : Int32) + (1 : Int32)) + (1 : Int32)) - (1 : Int32)) + (1 : Int32)) - (1 : Int32)))])
    refine Go.via (fun t k => XS.icmpNo Xh209.here hx rfl (hb hby at_173) rfl (teq (by decide : ((((((0 : Int32) + (1 : Int32)) + (1 : Int32)) - (1 : Int32)) + (1 : Int32)) - (1 : Int32)) = (((1 : Int32) + (1 : Int32)) - (1 : Int32)))).2 k) ?_
    show Go p.tables e below P T209 (mkF m 176 #[.val (.int pn), .val (.int c1), .val (.int c2), .val (.int c3), .val (.int c4), .val (.int ((1 : Int32) + (1 : Int32))), .val (.ref r_101), .val (.ref r_107), .val (.ref r_115), .val (.ref r_125), .val (.ref b134), .val (.int (1 : Int32)), .val (.ref r_101)] [])
    refine Go.via (fun t k => XS.iconst Xh209.here hx rfl (hb hby at_176) k) ?_
    show Go p.tables e below P T209 (mkF m 177 #[.val (.int pn), .val (.int c1), .val (.int c2), .val (.int c3), .val (.int c4), .val (.int ((1 : Int32) + (1 : Int32))), .val (.ref r_101), .val (.ref r_107), .val (.ref r_115), .val (.ref r_125), .val (.ref b134), .val (.int (1 : Int32)), .val (.ref r_101)] [(.int (1 : Int32))])
    refine Go.via (fun t k => XS.goto Xh209.here hx rfl (pc0 := 177) (pc' := 181) rfl (hb hby at_177) (by decide) (by decide) k) ?_
    show Go p.tables e below P T209 (mkF m 181 #[.val (.int pn), .val (.int c1), .val (.int c2), .val (.int c3), .val (.int c4), .val (.int ((1 : Int32) + (1 : Int32))), .val (.ref r_101), .val (.ref r_107), .val (.ref r_115), .val (.ref r_125), .val (.ref b134), .val (.int (1 : Int32)), .val (.ref r_101)] [(.int (1 : Int32))])
    refine Go.via (fun t k => XS.istore Xh209.here hx rfl (hb hby at_181) rfl (l' := #[.val (.int pn), .val (.int c1), .val (.int c2), .val (.int c3), .val (.int c4), .val (.int ((1 : Int32) + (1 : Int32))), .val (.ref r_101), .val (.ref r_107), .val (.ref r_115), .val (.ref r_125), .val (.ref b134), .val (.int (1 : Int32)), .val (.ref r_101)]) rfl k) ?_
    show Go p.tables e below P T209 (mkF m 183 #[.val (.int pn), .val (.int c1), .val (.int c2), .val (.int c3), .val (.int c4), .val (.int ((1 : Int32) + (1 : Int32))), .val (.ref r_101), .val (.ref r_107), .val (.ref r_115), .val (.ref r_125), .val (.ref b134), .val (.int (1 : Int32)), .val (.ref r_101)] [])
    refine Go.via (fun t k => XS.iload Xh209.here hx rfl (hb hby at_183) rfl k) ?_
    show Go p.tables e below P T209 (mkF m 185 #[.val (.int pn), .val (.int c1), .val (.int c2), .val (.int c3), .val (.int c4), .val (.int ((1 : Int32) + (1 : Int32))), .val (.ref r_101), .val (.ref r_107), .val (.ref r_115), .val (.ref r_125), .val (.ref b134), .val (.int (1 : Int32)), .val (.ref r_101)] [(.int ((1 : Int32) + (1 : Int32)))])
    refine Go.via (fun t k => XS.iconst Xh209.here hx rfl (hb hby at_185) k) ?_
    show Go p.tables e below P T209 (mkF m 186 #[.val (.int pn), .val (.int c1), .val (.int c2), .val (.int c3), .val (.int c4), .val (.int ((1 : Int32) + (1 : Int32))), .val (.ref r_101), .val (.ref r_107), .val (.ref r_115), .val (.ref r_125), .val (.ref b134), .val (.int (1 : Int32)), .val (.ref r_101)] [(.int (2 : Int32)), (.int ((1 : Int32) + (1 : Int32)))])
    refine Go.via (fun t k => XS.icmpNo Xh209.here hx rfl (hb hby at_186) rfl (flt (by decide : ¬ (((1 : Int32) + (1 : Int32)) < (2 : Int32)))).1 k) ?_
    show Go p.tables e below P T209 (mkF m 189 #[.val (.int pn), .val (.int c1), .val (.int c2), .val (.int c3), .val (.int c4), .val (.int ((1 : Int32) + (1 : Int32))), .val (.ref r_101), .val (.ref r_107), .val (.ref r_115), .val (.ref r_125), .val (.ref b134), .val (.int (1 : Int32)), .val (.ref r_101)] [])
    refine Go.via (fun t k => XS.iload Xh209.here hx rfl (hb hby at_189) rfl k) ?_
    show Go p.tables e below P T209 (mkF m 191 #[.val (.int pn), .val (.int c1), .val (.int c2), .val (.int c3), .val (.int c4), .val (.int ((1 : Int32) + (1 : Int32))), .val (.ref r_101), .val (.ref r_107), .val (.ref r_115), .val (.ref r_125), .val (.ref b134), .val (.int (1 : Int32)), .val (.ref r_101)] [(.int (1 : Int32))])
    refine Go.via (fun t k => XS.ifNo Xh209.here hx rfl (hb hby at_191) rfl ((if0 _ _).trans (feq (by decide : ¬ ((1 : Int32) = (0 : Int32)))).1) k) ?_
    show Go p.tables e below P T209 (mkF m 194 #[.val (.int pn), .val (.int c1), .val (.int c2), .val (.int c3), .val (.int c4), .val (.int ((1 : Int32) + (1 : Int32))), .val (.ref r_101), .val (.ref r_107), .val (.ref r_115), .val (.ref r_125), .val (.ref b134), .val (.int (1 : Int32)), .val (.ref r_101)] [])
    refine Go.via (fun t k => XS.aload Xh209.here hx rfl (hb hby at_194) rfl rfl k) ?_
    show Go p.tables e below P T209 (mkF m 196 #[.val (.int pn), .val (.int c1), .val (.int c2), .val (.int c3), .val (.int c4), .val (.int ((1 : Int32) + (1 : Int32))), .val (.ref r_101), .val (.ref r_107), .val (.ref r_115), .val (.ref r_125), .val (.ref b134), .val (.int (1 : Int32)), .val (.ref r_101)] [(.ref r_101)])
    refine Go.via (fun t k => XS.aload Xh209.here hx rfl (hb hby at_196) rfl rfl k) ?_
    show Go p.tables e below P T209 (mkF m 198 #[.val (.int pn), .val (.int c1), .val (.int c2), .val (.int c3), .val (.int c4), .val (.int ((1 : Int32) + (1 : Int32))), .val (.ref r_101), .val (.ref r_107), .val (.ref r_115), .val (.ref r_125), .val (.ref b134), .val (.int (1 : Int32)), .val (.ref r_101)] [(.ref b134), (.ref r_101)])
    obtain ⟨cq210, kq210, q210a, q210b, q210c⟩ := isOf hZ hh209 u201_0
    obtain ⟨_, _, ⟨T210, L210, k210, n210⟩, -, X210, ⟨Lc210, hQ210, l210, y210, z210⟩, st210⟩ := Xh209.virtualBack hx (y := (⟨"com/example/referee/referee/parse/OpenElements", "innermost", "()Ljava/lang/String;"⟩ : MethodName)) (z := (⟨"com/example/referee/referee/parse/OpenElements", "innermost", "()Ljava/lang/String;"⟩ : MethodName)) hown (mvT hZ (hw _ (List.mem_of_getElem? (i := 68) rfl))) (mvT hZ (hw _ (List.mem_of_getElem? (i := 69) rfl))) (notFace_of_selects (args := #[]) (mvT hZ (hw _ (List.mem_of_getElem? (i := 71) rfl)))) (mvT hZ (hw _ (List.mem_of_getElem? (i := 71) rfl))) (mvT hZ (hw _ (List.mem_of_getElem? (i := 70) rfl))) (by decide) (backOf (W := 1) (rm12 l Z a0 hw [] b134 sh_151 ks_151 ((((((0 : Int32) + (1 : Int32)) + (1 : Int32)) - (1 : Int32)) + (1 : Int32)) - (1 : Int32)) ((((((List.replicate 64 .null).set 0 (.ref r_101)).set 1 (.ref r_107)).set 1 .null).set 1 (.ref r_125)).set 1 .null) 0 r_101 T201.heap n0 Z202 u201_0 u201_1 u201_2 u201_3 (by decide) (by decide) (by decide) rfl) hZ (hw _ (List.mem_of_getElem? (i := 72) rfl)) (hw _ (List.mem_of_getElem? (i := 37) rfl)) (by decide) (by decide)) q210a q210c (g := (mkF m 198 #[.val (.int pn), .val (.int c1), .val (.int c2), .val (.int c3), .val (.int c4), .val (.int ((1 : Int32) + (1 : Int32))), .val (.ref r_101), .val (.ref r_107), .val (.ref r_115), .val (.ref r_125), .val (.ref b134), .val (.int (1 : Int32)), .val (.ref r_101)] [(.ref b134), (.ref r_101)])) rfl (by rw [hml]; rfl) (Steps.refl _) (argsL := []) (rest := [(.ref r_101)]) (lenOf own_pd5 rfl) rfl (by show 2 * 0 + _ ≤ _; exact Nat.le_of_eq rfl) (hb hby at_198) (fun _ _ => ⟨rfl, hh209, (by decide : 16 + 0 ≤ _), (by decide : 372 + 0 ≤ _)⟩)
    dsimp only [Pt.U, Pt.locs, Pt.cells, Pt.slots] at X210 l210 y210 z210 st210 hQ210
    subst l210 y210 z210
    obtain ⟨rfl, Nq210, hh210⟩ := hQ210
    obtain ⟨lc210, Xh210, N210⟩ := own_hide X210 (Fr.app N209 Nq210)
    clear X210
    refine Go.hop st210 ?_
    show Go p.tables e below P T210 (mkF m 201 #[.val (.int pn), .val (.int c1), .val (.int c2), .val (.int c3), .val (.int c4), .val (.int ((1 : Int32) + (1 : Int32))), .val (.ref r_101), .val (.ref r_107), .val (.ref r_115), .val (.ref r_125), .val (.ref b134), .val (.int (1 : Int32)), .val (.ref r_101)] [(.ref r_101), (.ref r_101)])
    obtain ⟨cq211, kq211, q211a, q211b, q211c⟩ := isOf hZ hh210 F205
    obtain ⟨_, _, ⟨T211, L211, k211, n211⟩, -, X211, ⟨Lc211, hQ211, l211, y211, z211⟩, st211⟩ := Xh210.virtualBack hx (y := (⟨"java/lang/String", "equals", "(Ljava/lang/Object;)Z"⟩ : MethodName)) (z := (⟨"java/lang/String", "equals", "(Ljava/lang/Object;)Z"⟩ : MethodName)) hown (mvT hZ (hw _ (List.mem_of_getElem? (i := 73) rfl))) (mvT hZ (hw _ (List.mem_of_getElem? (i := 74) rfl))) (notFace_of_selects (args := #[]) (mvT hZ (hw _ (List.mem_of_getElem? (i := 76) rfl)))) (mvT hZ (hw _ (List.mem_of_getElem? (i := 76) rfl))) (mvT hZ (hw _ (List.mem_of_getElem? (i := 75) rfl))) (by decide) (backOf (W := 0) (rm13 l Z a0 hw [] r_101 T201.heap n0 Z202 ) hZ (hw _ (List.mem_of_getElem? (i := 77) rfl)) (hw _ (List.mem_of_getElem? (i := 8) rfl)) (by decide) (by decide)) q211a q211c (g := (mkF m 201 #[.val (.int pn), .val (.int c1), .val (.int c2), .val (.int c3), .val (.int c4), .val (.int ((1 : Int32) + (1 : Int32))), .val (.ref r_101), .val (.ref r_107), .val (.ref r_115), .val (.ref r_125), .val (.ref b134), .val (.int (1 : Int32)), .val (.ref r_101)] [(.ref r_101), (.ref r_101)])) rfl (by rw [hml]; rfl) (Steps.refl _) (argsL := [(.ref r_101)]) (rest := []) (lenOf own_pd6 rfl) rfl (by show 2 * 0 + _ ≤ _; exact Nat.le_of_eq rfl) (hb hby at_201) (fun _ _ => ⟨rfl, hh210, (by decide : 16 + 0 ≤ _), (by decide : 372 + 0 ≤ _)⟩)
    dsimp only [Pt.U, Pt.locs, Pt.cells, Pt.slots] at X211 l211 y211 z211 st211 hQ211
    subst l211 y211 z211
    obtain ⟨rfl, Nq211, hh211⟩ := hQ211
    obtain ⟨lc211, Xh211, N211⟩ := own_hide X211 (Fr.app N210 Nq211)
    clear X211
    refine Go.hop st211 ?_
    show Go p.tables e below P T211 (mkF m 204 #[.val (.int pn), .val (.int c1), .val (.int c2), .val (.int c3), .val (.int c4), .val (.int ((1 : Int32) + (1 : Int32))), .val (.ref r_101), .val (.ref r_107), .val (.ref r_115), .val (.ref r_125), .val (.ref b134), .val (.int (1 : Int32)), .val (.ref r_101)] [(.int (1 : Int32))])
    refine Go.via (fun t k => XS.ifNo Xh211.here hx rfl (hb hby at_204) rfl ((if0 _ _).trans (feq (by decide : ¬ ((1 : Int32) = (0 : Int32)))).1) k) ?_
    show Go p.tables e below P T211 (mkF m 207 #[.val (.int pn), .val (.int c1), .val (.int c2), .val (.int c3), .val (.int c4), .val (.int ((1 : Int32) + (1 : Int32))), .val (.ref r_101), .val (.ref r_107), .val (.ref r_115), .val (.ref r_125), .val (.ref b134), .val (.int (1 : Int32)), .val (.ref r_101)] [])
    refine Go.via (fun t k => XS.iconst Xh211.here hx rfl (hb hby at_207) k) ?_
    show Go p.tables e below P T211 (mkF m 208 #[.val (.int pn), .val (.int c1), .val (.int c2), .val (.int c3), .val (.int c4), .val (.int ((1 : Int32) + (1 : Int32))), .val (.ref r_101), .val (.ref r_107), .val (.ref r_115), .val (.ref r_125), .val (.ref b134), .val (.int (1 : Int32)), .val (.ref r_101)] [(.int (1 : Int32))])
    refine Go.via (fun t k => XS.goto Xh211.here hx rfl (pc0 := 208) (pc' := 212) rfl (hb hby at_208) (by decide) (by decide) k) ?_
    show Go p.tables e below P T211 (mkF m 212 #[.val (.int pn), .val (.int c1), .val (.int c2), .val (.int c3), .val (.int c4), .val (.int ((1 : Int32) + (1 : Int32))), .val (.ref r_101), .val (.ref r_107), .val (.ref r_115), .val (.ref r_125), .val (.ref b134), .val (.int (1 : Int32)), .val (.ref r_101)] [(.int (1 : Int32))])
    refine Go.via (fun t k => XS.istore Xh211.here hx rfl (hb hby at_212) rfl (l' := #[.val (.int pn), .val (.int c1), .val (.int c2), .val (.int c3), .val (.int c4), .val (.int ((1 : Int32) + (1 : Int32))), .val (.ref r_101), .val (.ref r_107), .val (.ref r_115), .val (.ref r_125), .val (.ref b134), .val (.int (1 : Int32)), .val (.ref r_101)]) rfl k) ?_
    show Go p.tables e below P T211 (mkF m 214 #[.val (.int pn), .val (.int c1), .val (.int c2), .val (.int c3), .val (.int c4), .val (.int ((1 : Int32) + (1 : Int32))), .val (.ref r_101), .val (.ref r_107), .val (.ref r_115), .val (.ref r_125), .val (.ref b134), .val (.int (1 : Int32)), .val (.ref r_101)] [])
    refine Go.via (fun t k => XS.iload Xh211.here hx rfl (hb hby at_214) rfl k) ?_
    show Go p.tables e below P T211 (mkF m 216 #[.val (.int pn), .val (.int c1), .val (.int c2), .val (.int c3), .val (.int c4), .val (.int ((1 : Int32) + (1 : Int32))), .val (.ref r_101), .val (.ref r_107), .val (.ref r_115), .val (.ref r_125), .val (.ref b134), .val (.int (1 : Int32)), .val (.ref r_101)] [(.int (1 : Int32))])
    obtain ⟨fs, hr, hrun, hended, hW, hsame⟩ := Xh211.leave (v := some (.int (1 : Int32))) (fun h => by rw [Bd.returns] at h; cases h)
    refine ⟨_, _, retZ Xh211 hx (t := .boolean) Bd.returns (by simp) (hb hby at_216) rfl hr, hrun, hended, hP _ _ ⟨_, _, rfl, ?_, ⟨_, rfl⟩, hW, hsame.mono (by decide) (by decide)⟩⟩
    show Q0 Z pn c1 c2 c3 c4 cs h0 n0 _ T211.heap _
    rw [hh211]
    exact ⟨rfl, N211⟩
  · rw [d2]
    show Go p.tables e below P s₁ (mkF m 6 #[.val (.int pn), .val (.int c1), .val (.int c2), .val (.int c3), .val (.int c4), .unset, .unset, .unset, .unset, .unset, .unset, .unset, .unset] [(.int (2 : Int32))])
    refine Go.via (fun t k => XS.iconst X0.here hx rfl (hb hby at_6) k) ?_
    show Go p.tables e below P s₁ (mkF m 7 #[.val (.int pn), .val (.int c1), .val (.int c2), .val (.int c3), .val (.int c4), .unset, .unset, .unset, .unset, .unset, .unset, .unset, .unset] [(.int (1 : Int32)), (.int (2 : Int32))])
    refine Go.via (fun t k => XS.iadd X0.here hx rfl (hb hby at_7) rfl k) ?_
    show Go p.tables e below P s₁ (mkF m 8 #[.val (.int pn), .val (.int c1), .val (.int c2), .val (.int c3), .val (.int c4), .unset, .unset, .unset, .unset, .unset, .unset, .unset, .unset] [(.int ((2 : Int32) + (1 : Int32)))])
    refine Go.via (fun t k => XS.istore X0.here hx rfl (hb hby at_8) rfl (l' := #[.val (.int pn), .val (.int c1), .val (.int c2), .val (.int c3), .val (.int c4), .val (.int ((2 : Int32) + (1 : Int32))), .unset, .unset, .unset, .unset, .unset, .unset, .unset]) rfl k) ?_
    show Go p.tables e below P s₁ (mkF m 10 #[.val (.int pn), .val (.int c1), .val (.int c2), .val (.int c3), .val (.int c4), .val (.int ((2 : Int32) + (1 : Int32))), .unset, .unset, .unset, .unset, .unset, .unset, .unset] [])
    refine Go.via (fun t k => XS.iloadN X0.here hx rfl (hb hby at_10) rfl k) ?_
    show Go p.tables e below P s₁ (mkF m 11 #[.val (.int pn), .val (.int c1), .val (.int c2), .val (.int c3), .val (.int c4), .val (.int ((2 : Int32) + (1 : Int32))), .unset, .unset, .unset, .unset, .unset, .unset, .unset] [(.int c1)])
    obtain ⟨_, _, ⟨T213, L213, k213, n213⟩, -, X213, ⟨Lc213, hQ213, l213, y213, z213⟩, st213⟩ := Jvm.LawKit.callS X0 hx (y := (⟨"com/example/referee/referee/parse/OpenElementsPopPinLaw", "str", "(I)Ljava/lang/String;"⟩ : MethodName)) hown (mvT hZ (hw _ (List.mem_of_getElem? (i := 1) rfl))) (mvT hZ (hw _ (List.mem_of_getElem? (i := 2) rfl))) (mvT hZ (hw _ (List.mem_of_getElem? (i := 3) rfl))) (mvT hZ (hw _ (List.mem_of_getElem? (i := 4) rfl))) (by decide) (backOf (W := 0) (rm1 l Z a0 hw [] c1 cs h0 n0 Z0 O0 P1 (by first | assumption | decide | omega : ¬ cs = (0 : Int32))) hZ (hw _ (List.mem_of_getElem? (i := 4) rfl)) (hw _ (List.mem_of_getElem? (i := 3) rfl)) (by decide) (by decide)) (g := (mkF m 11 #[.val (.int pn), .val (.int c1), .val (.int c2), .val (.int c3), .val (.int c4), .val (.int ((2 : Int32) + (1 : Int32))), .unset, .unset, .unset, .unset, .unset, .unset, .unset] [(.int c1)])) rfl (by rw [hml]; rfl) (argsL := [(.int c1)]) (rest := []) (lenOf own_pd1 rfl) rfl (by show 2 * 0 + _ ≤ _; exact Nat.le_of_eq rfl) (hb hby at_11) (fun _ _ => ⟨rfl, e0, (by decide : 0 + 3 ≤ _), (by decide : 0 + 8 ≤ _)⟩)
    dsimp only [Pt.U, Pt.locs, Pt.cells, Pt.slots] at X213 l213 y213 z213 st213 hQ213
    subst l213 y213 z213
    obtain ⟨r_213, rfl, Nq213, K213, fr213_r, u213_0⟩ := hQ213
    obtain ⟨lc213, Xh213, N213⟩ := own_hide X213 (Fr.app N0 Nq213)
    clear X213
    refine Go.via st213 ?_
    have g214 : n0 ≤ r_213 := Nat.le_trans Z0 fr213_r
    have sz215 : h0.size ≤ r_213 := Nat.le_trans K0.1 fr213_r
    have Z216 : n0 ≤ T213.heap.size := Nat.le_trans Z0 K213.1
    have K217 : Keep h0 T213.heap [] := K0.trans K213 own_all0
    have O218 : Old Z n0 T213.heap := O0.keep K213 own_all0
    show Go p.tables e below P T213 (mkF m 14 #[.val (.int pn), .val (.int c1), .val (.int c2), .val (.int c3), .val (.int c4), .val (.int ((2 : Int32) + (1 : Int32))), .unset, .unset, .unset, .unset, .unset, .unset, .unset] [(.ref r_213)])
    refine Go.via (fun t k => XS.astore Xh213.here hx rfl (hb hby at_14) rfl rfl (l' := #[.val (.int pn), .val (.int c1), .val (.int c2), .val (.int c3), .val (.int c4), .val (.int ((2 : Int32) + (1 : Int32))), .val (.ref r_213), .unset, .unset, .unset, .unset, .unset, .unset]) rfl k) ?_
    show Go p.tables e below P T213 (mkF m 16 #[.val (.int pn), .val (.int c1), .val (.int c2), .val (.int c3), .val (.int c4), .val (.int ((2 : Int32) + (1 : Int32))), .val (.ref r_213), .unset, .unset, .unset, .unset, .unset, .unset] [])
    refine Go.via (fun t k => XS.iloadN Xh213.here hx rfl (hb hby at_16) rfl k) ?_
    show Go p.tables e below P T213 (mkF m 17 #[.val (.int pn), .val (.int c1), .val (.int c2), .val (.int c3), .val (.int c4), .val (.int ((2 : Int32) + (1 : Int32))), .val (.ref r_213), .unset, .unset, .unset, .unset, .unset, .unset] [(.int c2)])
    obtain ⟨_, _, ⟨T219, L219, k219, n219⟩, -, X219, ⟨Lc219, hQ219, l219, y219, z219⟩, st219⟩ := Jvm.LawKit.callS Xh213 hx (y := (⟨"com/example/referee/referee/parse/OpenElementsPopPinLaw", "str", "(I)Ljava/lang/String;"⟩ : MethodName)) hown (mvT hZ (hw _ (List.mem_of_getElem? (i := 1) rfl))) (mvT hZ (hw _ (List.mem_of_getElem? (i := 2) rfl))) (mvT hZ (hw _ (List.mem_of_getElem? (i := 3) rfl))) (mvT hZ (hw _ (List.mem_of_getElem? (i := 4) rfl))) (by decide) (backOf (W := 0) (rm1 l Z a0 hw [] c2 cs T213.heap n0 Z216 O218 P1 (by first | assumption | decide | omega : ¬ cs = (0 : Int32))) hZ (hw _ (List.mem_of_getElem? (i := 4) rfl)) (hw _ (List.mem_of_getElem? (i := 3) rfl)) (by decide) (by decide)) (g := (mkF m 17 #[.val (.int pn), .val (.int c1), .val (.int c2), .val (.int c3), .val (.int c4), .val (.int ((2 : Int32) + (1 : Int32))), .val (.ref r_213), .unset, .unset, .unset, .unset, .unset, .unset] [(.int c2)])) rfl (by rw [hml]; rfl) (argsL := [(.int c2)]) (rest := []) (lenOf own_pd1 rfl) rfl (by show 2 * 0 + _ ≤ _; exact Nat.le_of_eq rfl) (hb hby at_17) (fun _ _ => ⟨rfl, rfl, (by decide : 3 + 3 ≤ _), (by decide : 8 + 8 ≤ _)⟩)
    dsimp only [Pt.U, Pt.locs, Pt.cells, Pt.slots] at X219 l219 y219 z219 st219 hQ219
    subst l219 y219 z219
    obtain ⟨r_219, rfl, Nq219, K219, fr219_r, u219_0⟩ := hQ219
    obtain ⟨lc219, Xh219, N219⟩ := own_hide X219 (Fr.app N213 Nq219)
    clear X219
    refine Go.via st219 ?_
    have ne220 : r_213 ≠ r_219 := Nat.ne_of_lt (Nat.lt_of_lt_of_le u213_0.lt fr219_r)
    have g221 : n0 ≤ r_219 := Nat.le_trans Z216 fr219_r
    have sz222 : h0.size ≤ r_219 := Nat.le_trans K217.1 fr219_r
    have Z223 : n0 ≤ T219.heap.size := Nat.le_trans Z216 K219.1
    have K224 : Keep h0 T219.heap [] := K217.trans K219 own_all0
    have O225 : Old Z n0 T219.heap := O218.keep K219 own_all0
    show Go p.tables e below P T219 (mkF m 20 #[.val (.int pn), .val (.int c1), .val (.int c2), .val (.int c3), .val (.int c4), .val (.int ((2 : Int32) + (1 : Int32))), .val (.ref r_213), .unset, .unset, .unset, .unset, .unset, .unset] [(.ref r_219)])
    refine Go.via (fun t k => XS.astore Xh219.here hx rfl (hb hby at_20) rfl rfl (l' := #[.val (.int pn), .val (.int c1), .val (.int c2), .val (.int c3), .val (.int c4), .val (.int ((2 : Int32) + (1 : Int32))), .val (.ref r_213), .val (.ref r_219), .unset, .unset, .unset, .unset, .unset]) rfl k) ?_
    show Go p.tables e below P T219 (mkF m 22 #[.val (.int pn), .val (.int c1), .val (.int c2), .val (.int c3), .val (.int c4), .val (.int ((2 : Int32) + (1 : Int32))), .val (.ref r_213), .val (.ref r_219), .unset, .unset, .unset, .unset, .unset] [])
    refine Go.via (fun t k => XS.iloadN Xh219.here hx rfl (hb hby at_22) rfl k) ?_
    show Go p.tables e below P T219 (mkF m 23 #[.val (.int pn), .val (.int c1), .val (.int c2), .val (.int c3), .val (.int c4), .val (.int ((2 : Int32) + (1 : Int32))), .val (.ref r_213), .val (.ref r_219), .unset, .unset, .unset, .unset, .unset] [(.int c3)])
    have F226 : Exa Z T219.heap r_213 "java/lang/String" := (u213_0.keep K219)
    obtain ⟨_, _, ⟨T227, L227, k227, n227⟩, -, X227, ⟨Lc227, hQ227, l227, y227, z227⟩, st227⟩ := Jvm.LawKit.callS Xh219 hx (y := (⟨"com/example/referee/referee/parse/OpenElementsPopPinLaw", "str", "(I)Ljava/lang/String;"⟩ : MethodName)) hown (mvT hZ (hw _ (List.mem_of_getElem? (i := 1) rfl))) (mvT hZ (hw _ (List.mem_of_getElem? (i := 2) rfl))) (mvT hZ (hw _ (List.mem_of_getElem? (i := 3) rfl))) (mvT hZ (hw _ (List.mem_of_getElem? (i := 4) rfl))) (by decide) (backOf (W := 0) (rm1 l Z a0 hw [] c3 cs T219.heap n0 Z223 O225 P1 (by first | assumption | decide | omega : ¬ cs = (0 : Int32))) hZ (hw _ (List.mem_of_getElem? (i := 4) rfl)) (hw _ (List.mem_of_getElem? (i := 3) rfl)) (by decide) (by decide)) (g := (mkF m 23 #[.val (.int pn), .val (.int c1), .val (.int c2), .val (.int c3), .val (.int c4), .val (.int ((2 : Int32) + (1 : Int32))), .val (.ref r_213), .val (.ref r_219), .unset, .unset, .unset, .unset, .unset] [(.int c3)])) rfl (by rw [hml]; rfl) (argsL := [(.int c3)]) (rest := []) (lenOf own_pd1 rfl) rfl (by show 2 * 0 + _ ≤ _; exact Nat.le_of_eq rfl) (hb hby at_23) (fun _ _ => ⟨rfl, rfl, (by decide : 6 + 3 ≤ _), (by decide : 16 + 8 ≤ _)⟩)
    dsimp only [Pt.U, Pt.locs, Pt.cells, Pt.slots] at X227 l227 y227 z227 st227 hQ227
    subst l227 y227 z227
    obtain ⟨r_227, rfl, Nq227, K227, fr227_r, u227_0⟩ := hQ227
    obtain ⟨lc227, Xh227, N227⟩ := own_hide X227 (Fr.app N219 Nq227)
    clear X227
    refine Go.via st227 ?_
    have ne228 : r_213 ≠ r_227 := Nat.ne_of_lt (Nat.lt_of_lt_of_le F226.lt fr227_r)
    have ne229 : r_219 ≠ r_227 := Nat.ne_of_lt (Nat.lt_of_lt_of_le u219_0.lt fr227_r)
    have g230 : n0 ≤ r_227 := Nat.le_trans Z223 fr227_r
    have sz231 : h0.size ≤ r_227 := Nat.le_trans K224.1 fr227_r
    have Z232 : n0 ≤ T227.heap.size := Nat.le_trans Z223 K227.1
    have K233 : Keep h0 T227.heap [] := K224.trans K227 own_all0
    have O234 : Old Z n0 T227.heap := O225.keep K227 own_all0
    show Go p.tables e below P T227 (mkF m 26 #[.val (.int pn), .val (.int c1), .val (.int c2), .val (.int c3), .val (.int c4), .val (.int ((2 : Int32) + (1 : Int32))), .val (.ref r_213), .val (.ref r_219), .unset, .unset, .unset, .unset, .unset] [(.ref r_227)])
    refine Go.via (fun t k => XS.astore Xh227.here hx rfl (hb hby at_26) rfl rfl (l' := #[.val (.int pn), .val (.int c1), .val (.int c2), .val (.int c3), .val (.int c4), .val (.int ((2 : Int32) + (1 : Int32))), .val (.ref r_213), .val (.ref r_219), .val (.ref r_227), .unset, .unset, .unset, .unset]) rfl k) ?_
    show Go p.tables e below P T227 (mkF m 28 #[.val (.int pn), .val (.int c1), .val (.int c2), .val (.int c3), .val (.int c4), .val (.int ((2 : Int32) + (1 : Int32))), .val (.ref r_213), .val (.ref r_219), .val (.ref r_227), .unset, .unset, .unset, .unset] [])
    refine Go.via (fun t k => XS.iload Xh227.here hx rfl (hb hby at_28) rfl k) ?_
    show Go p.tables e below P T227 (mkF m 30 #[.val (.int pn), .val (.int c1), .val (.int c2), .val (.int c3), .val (.int c4), .val (.int ((2 : Int32) + (1 : Int32))), .val (.ref r_213), .val (.ref r_219), .val (.ref r_227), .unset, .unset, .unset, .unset] [(.int c4)])
    have F235 : Exa Z T227.heap r_213 "java/lang/String" := (F226.keep K227)
    have F236 : Exa Z T227.heap r_219 "java/lang/String" := (u219_0.keep K227)
    obtain ⟨_, _, ⟨T237, L237, k237, n237⟩, -, X237, ⟨Lc237, hQ237, l237, y237, z237⟩, st237⟩ := Jvm.LawKit.callS Xh227 hx (y := (⟨"com/example/referee/referee/parse/OpenElementsPopPinLaw", "str", "(I)Ljava/lang/String;"⟩ : MethodName)) hown (mvT hZ (hw _ (List.mem_of_getElem? (i := 1) rfl))) (mvT hZ (hw _ (List.mem_of_getElem? (i := 2) rfl))) (mvT hZ (hw _ (List.mem_of_getElem? (i := 3) rfl))) (mvT hZ (hw _ (List.mem_of_getElem? (i := 4) rfl))) (by decide) (backOf (W := 0) (rm1 l Z a0 hw [] c4 cs T227.heap n0 Z232 O234 P1 (by first | assumption | decide | omega : ¬ cs = (0 : Int32))) hZ (hw _ (List.mem_of_getElem? (i := 4) rfl)) (hw _ (List.mem_of_getElem? (i := 3) rfl)) (by decide) (by decide)) (g := (mkF m 30 #[.val (.int pn), .val (.int c1), .val (.int c2), .val (.int c3), .val (.int c4), .val (.int ((2 : Int32) + (1 : Int32))), .val (.ref r_213), .val (.ref r_219), .val (.ref r_227), .unset, .unset, .unset, .unset] [(.int c4)])) rfl (by rw [hml]; rfl) (argsL := [(.int c4)]) (rest := []) (lenOf own_pd1 rfl) rfl (by show 2 * 0 + _ ≤ _; exact Nat.le_of_eq rfl) (hb hby at_30) (fun _ _ => ⟨rfl, rfl, (by decide : 9 + 3 ≤ _), (by decide : 24 + 8 ≤ _)⟩)
    dsimp only [Pt.U, Pt.locs, Pt.cells, Pt.slots] at X237 l237 y237 z237 st237 hQ237
    subst l237 y237 z237
    obtain ⟨r_237, rfl, Nq237, K237, fr237_r, u237_0⟩ := hQ237
    obtain ⟨lc237, Xh237, N237⟩ := own_hide X237 (Fr.app N227 Nq237)
    clear X237
    refine Go.via st237 ?_
    have ne238 : r_213 ≠ r_237 := Nat.ne_of_lt (Nat.lt_of_lt_of_le F235.lt fr237_r)
    have ne239 : r_219 ≠ r_237 := Nat.ne_of_lt (Nat.lt_of_lt_of_le F236.lt fr237_r)
    have ne240 : r_227 ≠ r_237 := Nat.ne_of_lt (Nat.lt_of_lt_of_le u227_0.lt fr237_r)
    have g241 : n0 ≤ r_237 := Nat.le_trans Z232 fr237_r
    have sz242 : h0.size ≤ r_237 := Nat.le_trans K233.1 fr237_r
    have Z243 : n0 ≤ T237.heap.size := Nat.le_trans Z232 K237.1
    have K244 : Keep h0 T237.heap [] := K233.trans K237 own_all0
    have O245 : Old Z n0 T237.heap := O234.keep K237 own_all0
    show Go p.tables e below P T237 (mkF m 33 #[.val (.int pn), .val (.int c1), .val (.int c2), .val (.int c3), .val (.int c4), .val (.int ((2 : Int32) + (1 : Int32))), .val (.ref r_213), .val (.ref r_219), .val (.ref r_227), .unset, .unset, .unset, .unset] [(.ref r_237)])
    refine Go.via (fun t k => XS.astore Xh237.here hx rfl (hb hby at_33) rfl rfl (l' := #[.val (.int pn), .val (.int c1), .val (.int c2), .val (.int c3), .val (.int c4), .val (.int ((2 : Int32) + (1 : Int32))), .val (.ref r_213), .val (.ref r_219), .val (.ref r_227), .val (.ref r_237), .unset, .unset, .unset]) rfl k) ?_
    show Go p.tables e below P T237 (mkF m 35 #[.val (.int pn), .val (.int c1), .val (.int c2), .val (.int c3), .val (.int c4), .val (.int ((2 : Int32) + (1 : Int32))), .val (.ref r_213), .val (.ref r_219), .val (.ref r_227), .val (.ref r_237), .unset, .unset, .unset] [])
    have F247 : Exa Z T237.heap r_213 "java/lang/String" := (F235.keep K237)
    have F248 : Exa Z T237.heap r_219 "java/lang/String" := (F236.keep K237)
    have F249 : Exa Z T237.heap r_227 "java/lang/String" := (u227_0.keep K237)
    obtain ⟨T246, h246, X246, e246, E246, A246, D246, -, st246⟩ := newO Xh237 hx hZ hown (hw _ (List.mem_of_getElem? (i := 35) rfl)) (hw _ (List.mem_of_getElem? (i := 36) rfl)) (hw _ (List.mem_of_getElem? (i := 37) rfl)) rfl (g := (mkF m 35 #[.val (.int pn), .val (.int c1), .val (.int c2), .val (.int c3), .val (.int c4), .val (.int ((2 : Int32) + (1 : Int32))), .val (.ref r_213), .val (.ref r_219), .val (.ref r_227), .val (.ref r_237), .unset, .unset, .unset] [])) rfl (hb hby at_35) (by decide) (by decide)
    obtain ⟨b246, g246⟩ : ∃ z, z = T237.heap.size := ⟨_, rfl⟩
    rw [← g246] at A246 D246 st246
    refine Go.via st246 ?_
    have ne250 : r_213 ≠ b246 := Nat.ne_of_lt (Nat.lt_of_lt_of_le F247.lt (Nat.le_of_eq g246.symm))
    have ne251 : r_219 ≠ b246 := Nat.ne_of_lt (Nat.lt_of_lt_of_le F248.lt (Nat.le_of_eq g246.symm))
    have ne252 : r_227 ≠ b246 := Nat.ne_of_lt (Nat.lt_of_lt_of_le F249.lt (Nat.le_of_eq g246.symm))
    have ne253 : r_237 ≠ b246 := Nat.ne_of_lt (Nat.lt_of_lt_of_le u237_0.lt (Nat.le_of_eq g246.symm))
    have g254 : n0 ≤ b246 := Nat.le_trans Z243 (Nat.le_of_eq g246.symm)
    have sz255 : h0.size ≤ b246 := Nat.le_trans K244.1 (Nat.le_of_eq g246.symm)
    have Z256 : n0 ≤ h246.size := Nat.le_trans Z243 E246.1
    have K257 : Keep h0 h246 [] := K244.ext E246
    have O258 : Old Z n0 h246 := O245.ext E246
    show Go p.tables e below P T246 (mkF m 38 #[.val (.int pn), .val (.int c1), .val (.int c2), .val (.int c3), .val (.int c4), .val (.int ((2 : Int32) + (1 : Int32))), .val (.ref r_213), .val (.ref r_219), .val (.ref r_227), .val (.ref r_237), .unset, .unset, .unset] [(.ref b246)])
    refine Go.via (fun t k => XS.dup X246.here hx rfl (hb hby at_38) rfl rfl k) ?_
    show Go p.tables e below P T246 (mkF m 39 #[.val (.int pn), .val (.int c1), .val (.int c2), .val (.int c3), .val (.int c4), .val (.int ((2 : Int32) + (1 : Int32))), .val (.ref r_213), .val (.ref r_219), .val (.ref r_227), .val (.ref r_237), .unset, .unset, .unset] [(.ref b246), (.ref b246)])
    have F259 : Exa Z h246 r_213 "java/lang/String" := (F247.ext E246)
    have F260 : Exa Z h246 r_219 "java/lang/String" := (F248.ext E246)
    have F261 : Exa Z h246 r_227 "java/lang/String" := (F249.ext E246)
    have F262 : Exa Z h246 r_237 "java/lang/String" := (u237_0.ext E246)
    obtain ⟨_, _, ⟨T263, L263, k263, n263⟩, -, X263, ⟨Lc263, hQ263, l263, y263, z263⟩, st263⟩ := X246.specialBack hx (y := (⟨"com/example/referee/referee/parse/OpenElements", "<init>", "()V"⟩ : MethodName)) rfl hown (mvT hZ (hw _ (List.mem_of_getElem? (i := 38) rfl))) (mvT hZ (hw _ (List.mem_of_getElem? (i := 39) rfl))) (mvT hZ (hw _ (List.mem_of_getElem? (i := 40) rfl))) (by decide) (backOf (W := 1) (rm8 l Z a0 hw [] b246 h246 n0 Z256 A246 (D246 (Or.inr (hw _ (List.mem_of_getElem? (i := 45) rfl))) (ty := (.array (.object "java/lang/String"))) (by decide) : Fld Z h246 b246 "com/example/referee/referee/parse/OpenElements" "shallow" "[Ljava/lang/String;" .null) (D246 (Or.inl (hw _ (List.mem_of_getElem? (i := 47) rfl))) (ty := (.array .char)) (by decide) : Fld Z h246 b246 "com/example/referee/referee/parse/OpenElements" "names" "[C" .null) (D246 (Or.inl (hw _ (List.mem_of_getElem? (i := 50) rfl))) (ty := (.array .int)) (by decide) : Fld Z h246 b246 "com/example/referee/referee/parse/OpenElements" "ends" "[I" .null) (D246 (Or.inl (hw _ (List.mem_of_getElem? (i := 57) rfl))) (ty := .int) (by decide) : Fld Z h246 b246 "com/example/referee/referee/parse/OpenElements" "size" "I" (.int (0 : Int32))) g254) hZ (hw _ (List.mem_of_getElem? (i := 40) rfl)) (hw _ (List.mem_of_getElem? (i := 37) rfl)) (by decide) (by decide)) (g := (mkF m 39 #[.val (.int pn), .val (.int c1), .val (.int c2), .val (.int c3), .val (.int c4), .val (.int ((2 : Int32) + (1 : Int32))), .val (.ref r_213), .val (.ref r_219), .val (.ref r_227), .val (.ref r_237), .unset, .unset, .unset] [(.ref b246), (.ref b246)])) rfl (by rw [hml]; rfl) (Steps.refl _) (a := b246) (argsL := []) (rest := [(.ref b246)]) (lenOf own_pd2 rfl) rfl (by show 2 * 0 + _ ≤ _; exact Nat.le_of_eq rfl) (hb hby at_39) (fun _ _ => ⟨rfl, e246, (by decide : 13 + 3 ≤ _), (by decide : 36 + 336 ≤ _)⟩)
    dsimp only [Pt.U, Pt.locs, Pt.cells, Pt.slots] at X263 l263 y263 z263 st263 hQ263
    subst l263 y263 z263
    obtain ⟨sh_263, ks_263, rfl, Nq263, K263, fr263_sh, u263_0, u263_1, u263_2, u263_3, u263_4, u263_5⟩ := hQ263
    obtain ⟨lc263, Xh263, N263⟩ := own_hide X263 (Fr.app N237 Nq263)
    clear X263
    refine Go.hop st263 ?_
    have ne264 : r_213 ≠ sh_263 := Nat.ne_of_lt (Nat.lt_of_lt_of_le F259.lt fr263_sh)
    have ne265 : r_219 ≠ sh_263 := Nat.ne_of_lt (Nat.lt_of_lt_of_le F260.lt fr263_sh)
    have ne266 : r_227 ≠ sh_263 := Nat.ne_of_lt (Nat.lt_of_lt_of_le F261.lt fr263_sh)
    have ne267 : r_237 ≠ sh_263 := Nat.ne_of_lt (Nat.lt_of_lt_of_le F262.lt fr263_sh)
    have ne268 : b246 ≠ sh_263 := Nat.ne_of_lt (Nat.lt_of_lt_of_le A246.lt fr263_sh)
    have g269 : n0 ≤ sh_263 := Nat.le_trans Z256 fr263_sh
    have sz270 : h0.size ≤ sh_263 := Nat.le_trans K257.1 fr263_sh
    have Z271 : n0 ≤ T263.heap.size := Nat.le_trans Z256 K263.1
    have K272 : Keep h0 T263.heap [] := K257.trans K263 (own_allC (Or.inr sz255) own_all0)
    have O273 : Old Z n0 T263.heap := O258.keep K263 (own_allC g254 own_all0)
    show Go p.tables e below P T263 (mkF m 42 #[.val (.int pn), .val (.int c1), .val (.int c2), .val (.int c3), .val (.int c4), .val (.int ((2 : Int32) + (1 : Int32))), .val (.ref r_213), .val (.ref r_219), .val (.ref r_227), .val (.ref r_237), .unset, .unset, .unset] [(.ref b246)])
    refine Go.via (fun t k => XS.astore Xh263.here hx rfl (hb hby at_42) rfl rfl (l' := #[.val (.int pn), .val (.int c1), .val (.int c2), .val (.int c3), .val (.int c4), .val (.int ((2 : Int32) + (1 : Int32))), .val (.ref r_213), .val (.ref r_219), .val (.ref r_227), .val (.ref r_237), .val (.ref b246), .unset, .unset]) rfl k) ?_
    show Go p.tables e below P T263 (mkF m 44 #[.val (.int pn), .val (.int c1), .val (.int c2), .val (.int c3), .val (.int c4), .val (.int ((2 : Int32) + (1 : Int32))), .val (.ref r_213), .val (.ref r_219), .val (.ref r_227), .val (.ref r_237), .val (.ref b246), .unset, .unset] [])
    refine Go.via (fun t k => XS.aload Xh263.here hx rfl (hb hby at_44) rfl rfl k) ?_
    show Go p.tables e below P T263 (mkF m 46 #[.val (.int pn), .val (.int c1), .val (.int c2), .val (.int c3), .val (.int c4), .val (.int ((2 : Int32) + (1 : Int32))), .val (.ref r_213), .val (.ref r_219), .val (.ref r_227), .val (.ref r_237), .val (.ref b246), .unset, .unset] [(.ref b246)])
    refine Go.via (fun t k => XS.aload Xh263.here hx rfl (hb hby at_46) rfl rfl k) ?_
    show Go p.tables e below P T263 (mkF m 48 #[.val (.int pn), .val (.int c1), .val (.int c2), .val (.int c3), .val (.int c4), .val (.int ((2 : Int32) + (1 : Int32))), .val (.ref r_213), .val (.ref r_219), .val (.ref r_227), .val (.ref r_237), .val (.ref b246), .unset, .unset] [(.ref r_213), (.ref b246)])
    have F274 : Exa Z T263.heap r_213 "java/lang/String" := (F259.keep K263)
    have F275 : Exa Z T263.heap r_219 "java/lang/String" := (F260.keep K263)
    have F276 : Exa Z T263.heap r_227 "java/lang/String" := (F261.keep K263)
    have F277 : Exa Z T263.heap r_237 "java/lang/String" := (F262.keep K263)
    obtain ⟨cq278, kq278, q278a, q278b, q278c⟩ := isOf hZ rfl u263_0
    obtain ⟨_, _, ⟨T278, L278, k278, n278⟩, -, X278, ⟨Lc278, hQ278, l278, y278, z278⟩, st278⟩ := Xh263.virtualBack hx (y := (⟨"com/example/referee/referee/parse/OpenElements", "push", "(Ljava/lang/String;)V"⟩ : MethodName)) (z := (⟨"com/example/referee/referee/parse/OpenElements", "push", "(Ljava/lang/String;)V"⟩ : MethodName)) hown (mvT hZ (hw _ (List.mem_of_getElem? (i := 51) rfl))) (mvT hZ (hw _ (List.mem_of_getElem? (i := 52) rfl))) (notFace_of_selects (args := #[]) (mvT hZ (hw _ (List.mem_of_getElem? (i := 54) rfl)))) (mvT hZ (hw _ (List.mem_of_getElem? (i := 54) rfl))) (mvT hZ (hw _ (List.mem_of_getElem? (i := 53) rfl))) (by decide) (backOf (W := 0) (rm9 l Z a0 hw [] b246 r_213 sh_263 ks_263 (0 : Int32) (List.replicate 64 .null) 0 T263.heap n0 Z271 u263_0 u263_1 u263_2 u263_3 F274 u263_4 g254 g269 ne268 (by decide) (by simp) (by decide)) hZ (hw _ (List.mem_of_getElem? (i := 55) rfl)) (hw _ (List.mem_of_getElem? (i := 37) rfl)) (by decide) (by decide)) q278a q278c (g := (mkF m 48 #[.val (.int pn), .val (.int c1), .val (.int c2), .val (.int c3), .val (.int c4), .val (.int ((2 : Int32) + (1 : Int32))), .val (.ref r_213), .val (.ref r_219), .val (.ref r_227), .val (.ref r_237), .val (.ref b246), .unset, .unset] [(.ref r_213), (.ref b246)])) rfl (by rw [hml]; rfl) (Steps.refl _) (argsL := [(.ref r_213)]) (rest := []) (lenOf own_pd3 rfl) rfl (by show 2 * 0 + _ ≤ _; exact Nat.le_of_eq rfl) (hb hby at_48) (fun _ _ => ⟨rfl, rfl, (by decide : 16 + 0 ≤ _), (by decide : 372 + 0 ≤ _)⟩)
    dsimp only [Pt.U, Pt.locs, Pt.cells, Pt.slots] at X278 l278 y278 z278 st278 hQ278
    subst l278 y278 z278
    obtain ⟨rfl, Nq278, K278, u278_0, u278_1, u278_2, u278_3⟩ := hQ278
    obtain ⟨lc278, Xh278, N278⟩ := own_hide X278 (Fr.app N263 Nq278)
    clear X278
    refine Go.hop st278 ?_
    have Z279 : n0 ≤ T278.heap.size := Nat.le_trans Z271 K278.1
    have K280 : Keep h0 T278.heap [] := K272.trans K278 (own_allC (Or.inr sz255) (own_allC (Or.inr sz270) own_all0))
    have O281 : Old Z n0 T278.heap := O273.keep K278 (own_allC g254 (own_allC g269 own_all0))
    show Go p.tables e below P T278 (mkF m 51 #[.val (.int pn), .val (.int c1), .val (.int c2), .val (.int c3), .val (.int c4), .val (.int ((2 : Int32) + (1 : Int32))), .val (.ref r_213), .val (.ref r_219), .val (.ref r_227), .val (.ref r_237), .val (.ref b246), .unset, .unset] [])
    refine Go.via (fun t k => XS.iload Xh278.here hx rfl (hb hby at_51) rfl k) ?_
    show Go p.tables e below P T278 (mkF m 53 #[.val (.int pn), .val (.int c1), .val (.int c2), .val (.int c3), .val (.int c4), .val (.int ((2 : Int32) + (1 : Int32))), .val (.ref r_213), .val (.ref r_219), .val (.ref r_227), .val (.ref r_237), .val (.ref b246), .unset, .unset] [(.int ((2 : Int32) + (1 : Int32)))])
    refine Go.via (fun t k => XS.iconst Xh278.here hx rfl (hb hby at_53) k) ?_
    show Go p.tables e below P T278 (mkF m 54 #[.val (.int pn), .val (.int c1), .val (.int c2), .val (.int c3), .val (.int c4), .val (.int ((2 : Int32) + (1 : Int32))), .val (.ref r_213), .val (.ref r_219), .val (.ref r_227), .val (.ref r_237), .val (.ref b246), .unset, .unset] [(.int (2 : Int32)), (.int ((2 : Int32) + (1 : Int32)))])
    refine Go.via (fun t k => XS.icmpNo Xh278.here hx rfl (hb hby at_54) rfl (flt (by decide : ¬ (((2 : Int32) + (1 : Int32)) < (2 : Int32)))).1 k) ?_
    show Go p.tables e below P T278 (mkF m 57 #[.val (.int pn), .val (.int c1), .val (.int c2), .val (.int c3), .val (.int c4), .val (.int ((2 : Int32) + (1 : Int32))), .val (.ref r_213), .val (.ref r_219), .val (.ref r_227), .val (.ref r_237), .val (.ref b246), .unset, .unset] [])
    refine Go.via (fun t k => XS.aload Xh278.here hx rfl (hb hby at_57) rfl rfl k) ?_
    show Go p.tables e below P T278 (mkF m 59 #[.val (.int pn), .val (.int c1), .val (.int c2), .val (.int c3), .val (.int c4), .val (.int ((2 : Int32) + (1 : Int32))), .val (.ref r_213), .val (.ref r_219), .val (.ref r_227), .val (.ref r_237), .val (.ref b246), .unset, .unset] [(.ref b246)])
    refine Go.via (fun t k => XS.aload Xh278.here hx rfl (hb hby at_59) rfl rfl k) ?_
    show Go p.tables e below P T278 (mkF m 61 #[.val (.int pn), .val (.int c1), .val (.int c2), .val (.int c3), .val (.int c4), .val (.int ((2 : Int32) + (1 : Int32))), .val (.ref r_213), .val (.ref r_219), .val (.ref r_227), .val (.ref r_237), .val (.ref b246), .unset, .unset] [(.ref r_219), (.ref b246)])
    have F282 : Exa Z T278.heap r_219 "java/lang/String" := (F275.keep K278)
    have F283 : Exa Z T278.heap r_213 "java/lang/String" := (F274.keep K278)
    have F284 : Exa Z T278.heap r_227 "java/lang/String" := (F276.keep K278)
    have F285 : Exa Z T278.heap r_237 "java/lang/String" := (F277.keep K278)
    obtain ⟨cq286, kq286, q286a, q286b, q286c⟩ := isOf hZ rfl u278_0
    obtain ⟨_, _, ⟨T286, L286, k286, n286⟩, -, X286, ⟨Lc286, hQ286, l286, y286, z286⟩, st286⟩ := Xh278.virtualBack hx (y := (⟨"com/example/referee/referee/parse/OpenElements", "push", "(Ljava/lang/String;)V"⟩ : MethodName)) (z := (⟨"com/example/referee/referee/parse/OpenElements", "push", "(Ljava/lang/String;)V"⟩ : MethodName)) hown (mvT hZ (hw _ (List.mem_of_getElem? (i := 51) rfl))) (mvT hZ (hw _ (List.mem_of_getElem? (i := 52) rfl))) (notFace_of_selects (args := #[]) (mvT hZ (hw _ (List.mem_of_getElem? (i := 54) rfl)))) (mvT hZ (hw _ (List.mem_of_getElem? (i := 54) rfl))) (mvT hZ (hw _ (List.mem_of_getElem? (i := 53) rfl))) (by decide) (backOf (W := 0) (rm9 l Z a0 hw [] b246 r_219 sh_263 ks_263 ((0 : Int32) + (1 : Int32)) ((List.replicate 64 .null).set 0 (.ref r_213)) 1 T278.heap n0 Z279 u278_0 u278_1 u278_2 u278_3 F282 u263_4 g254 g269 ne268 (by decide) (by simp) (by decide)) hZ (hw _ (List.mem_of_getElem? (i := 55) rfl)) (hw _ (List.mem_of_getElem? (i := 37) rfl)) (by decide) (by decide)) q286a q286c (g := (mkF m 61 #[.val (.int pn), .val (.int c1), .val (.int c2), .val (.int c3), .val (.int c4), .val (.int ((2 : Int32) + (1 : Int32))), .val (.ref r_213), .val (.ref r_219), .val (.ref r_227), .val (.ref r_237), .val (.ref b246), .unset, .unset] [(.ref r_219), (.ref b246)])) rfl (by rw [hml]; rfl) (Steps.refl _) (argsL := [(.ref r_219)]) (rest := []) (lenOf own_pd3 rfl) rfl (by show 2 * 0 + _ ≤ _; exact Nat.le_of_eq rfl) (hb hby at_61) (fun _ _ => ⟨rfl, rfl, (by decide : 16 + 0 ≤ _), (by decide : 372 + 0 ≤ _)⟩)
    dsimp only [Pt.U, Pt.locs, Pt.cells, Pt.slots] at X286 l286 y286 z286 st286 hQ286
    subst l286 y286 z286
    obtain ⟨rfl, Nq286, K286, u286_0, u286_1, u286_2, u286_3⟩ := hQ286
    obtain ⟨lc286, Xh286, N286⟩ := own_hide X286 (Fr.app N278 Nq286)
    clear X286
    refine Go.hop st286 ?_
    have Z287 : n0 ≤ T286.heap.size := Nat.le_trans Z279 K286.1
    have K288 : Keep h0 T286.heap [] := K280.trans K286 (own_allC (Or.inr sz255) (own_allC (Or.inr sz270) own_all0))
    have O289 : Old Z n0 T286.heap := O281.keep K286 (own_allC g254 (own_allC g269 own_all0))
    show Go p.tables e below P T286 (mkF m 64 #[.val (.int pn), .val (.int c1), .val (.int c2), .val (.int c3), .val (.int c4), .val (.int ((2 : Int32) + (1 : Int32))), .val (.ref r_213), .val (.ref r_219), .val (.ref r_227), .val (.ref r_237), .val (.ref b246), .unset, .unset] [])
    refine Go.via (fun t k => XS.iload Xh286.here hx rfl (hb hby at_64) rfl k) ?_
    show Go p.tables e below P T286 (mkF m 66 #[.val (.int pn), .val (.int c1), .val (.int c2), .val (.int c3), .val (.int c4), .val (.int ((2 : Int32) + (1 : Int32))), .val (.ref r_213), .val (.ref r_219), .val (.ref r_227), .val (.ref r_237), .val (.ref b246), .unset, .unset] [(.int ((2 : Int32) + (1 : Int32)))])
    refine Go.via (fun t k => XS.iconst Xh286.here hx rfl (hb hby at_66) k) ?_
    show Go p.tables e below P T286 (mkF m 67 #[.val (.int pn), .val (.int c1), .val (.int c2), .val (.int c3), .val (.int c4), .val (.int ((2 : Int32) + (1 : Int32))), .val (.ref r_213), .val (.ref r_219), .val (.ref r_227), .val (.ref r_237), .val (.ref b246), .unset, .unset] [(.int (3 : Int32)), (.int ((2 : Int32) + (1 : Int32)))])
    refine Go.via (fun t k => XS.icmpNo Xh286.here hx rfl (hb hby at_67) rfl (flt (by decide : ¬ (((2 : Int32) + (1 : Int32)) < (3 : Int32)))).1 k) ?_
    show Go p.tables e below P T286 (mkF m 70 #[.val (.int pn), .val (.int c1), .val (.int c2), .val (.int c3), .val (.int c4), .val (.int ((2 : Int32) + (1 : Int32))), .val (.ref r_213), .val (.ref r_219), .val (.ref r_227), .val (.ref r_237), .val (.ref b246), .unset, .unset] [])
    refine Go.via (fun t k => XS.aload Xh286.here hx rfl (hb hby at_70) rfl rfl k) ?_
    show Go p.tables e below P T286 (mkF m 72 #[.val (.int pn), .val (.int c1), .val (.int c2), .val (.int c3), .val (.int c4), .val (.int ((2 : Int32) + (1 : Int32))), .val (.ref r_213), .val (.ref r_219), .val (.ref r_227), .val (.ref r_237), .val (.ref b246), .unset, .unset] [(.ref b246)])
    refine Go.via (fun t k => XS.aload Xh286.here hx rfl (hb hby at_72) rfl rfl k) ?_
    show Go p.tables e below P T286 (mkF m 74 #[.val (.int pn), .val (.int c1), .val (.int c2), .val (.int c3), .val (.int c4), .val (.int ((2 : Int32) + (1 : Int32))), .val (.ref r_213), .val (.ref r_219), .val (.ref r_227), .val (.ref r_237), .val (.ref b246), .unset, .unset] [(.ref r_227), (.ref b246)])
    have F290 : Exa Z T286.heap r_227 "java/lang/String" := (F284.keep K286)
    have F291 : Exa Z T286.heap r_213 "java/lang/String" := (F283.keep K286)
    have F292 : Exa Z T286.heap r_219 "java/lang/String" := (F282.keep K286)
    have F293 : Exa Z T286.heap r_237 "java/lang/String" := (F285.keep K286)
    obtain ⟨cq294, kq294, q294a, q294b, q294c⟩ := isOf hZ rfl u286_0
    obtain ⟨_, _, ⟨T294, L294, k294, n294⟩, -, X294, ⟨Lc294, hQ294, l294, y294, z294⟩, st294⟩ := Xh286.virtualBack hx (y := (⟨"com/example/referee/referee/parse/OpenElements", "push", "(Ljava/lang/String;)V"⟩ : MethodName)) (z := (⟨"com/example/referee/referee/parse/OpenElements", "push", "(Ljava/lang/String;)V"⟩ : MethodName)) hown (mvT hZ (hw _ (List.mem_of_getElem? (i := 51) rfl))) (mvT hZ (hw _ (List.mem_of_getElem? (i := 52) rfl))) (notFace_of_selects (args := #[]) (mvT hZ (hw _ (List.mem_of_getElem? (i := 54) rfl)))) (mvT hZ (hw _ (List.mem_of_getElem? (i := 54) rfl))) (mvT hZ (hw _ (List.mem_of_getElem? (i := 53) rfl))) (by decide) (backOf (W := 0) (rm9 l Z a0 hw [] b246 r_227 sh_263 ks_263 (((0 : Int32) + (1 : Int32)) + (1 : Int32)) (((List.replicate 64 .null).set 0 (.ref r_213)).set 1 (.ref r_219)) 2 T286.heap n0 Z287 u286_0 u286_1 u286_2 u286_3 F290 u263_4 g254 g269 ne268 (by decide) (by simp) (by decide)) hZ (hw _ (List.mem_of_getElem? (i := 55) rfl)) (hw _ (List.mem_of_getElem? (i := 37) rfl)) (by decide) (by decide)) q294a q294c (g := (mkF m 74 #[.val (.int pn), .val (.int c1), .val (.int c2), .val (.int c3), .val (.int c4), .val (.int ((2 : Int32) + (1 : Int32))), .val (.ref r_213), .val (.ref r_219), .val (.ref r_227), .val (.ref r_237), .val (.ref b246), .unset, .unset] [(.ref r_227), (.ref b246)])) rfl (by rw [hml]; rfl) (Steps.refl _) (argsL := [(.ref r_227)]) (rest := []) (lenOf own_pd3 rfl) rfl (by show 2 * 0 + _ ≤ _; exact Nat.le_of_eq rfl) (hb hby at_74) (fun _ _ => ⟨rfl, rfl, (by decide : 16 + 0 ≤ _), (by decide : 372 + 0 ≤ _)⟩)
    dsimp only [Pt.U, Pt.locs, Pt.cells, Pt.slots] at X294 l294 y294 z294 st294 hQ294
    subst l294 y294 z294
    obtain ⟨rfl, Nq294, K294, u294_0, u294_1, u294_2, u294_3⟩ := hQ294
    obtain ⟨lc294, Xh294, N294⟩ := own_hide X294 (Fr.app N286 Nq294)
    clear X294
    refine Go.hop st294 ?_
    have Z295 : n0 ≤ T294.heap.size := Nat.le_trans Z287 K294.1
    have K296 : Keep h0 T294.heap [] := K288.trans K294 (own_allC (Or.inr sz255) (own_allC (Or.inr sz270) own_all0))
    have O297 : Old Z n0 T294.heap := O289.keep K294 (own_allC g254 (own_allC g269 own_all0))
    show Go p.tables e below P T294 (mkF m 77 #[.val (.int pn), .val (.int c1), .val (.int c2), .val (.int c3), .val (.int c4), .val (.int ((2 : Int32) + (1 : Int32))), .val (.ref r_213), .val (.ref r_219), .val (.ref r_227), .val (.ref r_237), .val (.ref b246), .unset, .unset] [])
    refine Go.via (fun t k => XS.aload Xh294.here hx rfl (hb hby at_77) rfl rfl k) ?_
    show Go p.tables e below P T294 (mkF m 79 #[.val (.int pn), .val (.int c1), .val (.int c2), .val (.int c3), .val (.int c4), .val (.int ((2 : Int32) + (1 : Int32))), .val (.ref r_213), .val (.ref r_219), .val (.ref r_227), .val (.ref r_237), .val (.ref b246), .unset, .unset] [(.ref b246)])
    have F298 : Exa Z T294.heap r_213 "java/lang/String" := (F291.keep K294)
    have F299 : Exa Z T294.heap r_219 "java/lang/String" := (F292.keep K294)
    have F300 : Exa Z T294.heap r_227 "java/lang/String" := (F290.keep K294)
    have F301 : Exa Z T294.heap r_237 "java/lang/String" := (F293.keep K294)
    obtain ⟨cq302, kq302, q302a, q302b, q302c⟩ := isOf hZ rfl u294_0
    obtain ⟨_, _, ⟨T302, L302, k302, n302⟩, -, X302, ⟨Lc302, hQ302, l302, y302, z302⟩, st302⟩ := Xh294.virtualBack hx (y := (⟨"com/example/referee/referee/parse/OpenElements", "pop", "()V"⟩ : MethodName)) (z := (⟨"com/example/referee/referee/parse/OpenElements", "pop", "()V"⟩ : MethodName)) hown (mvT hZ (hw _ (List.mem_of_getElem? (i := 58) rfl))) (mvT hZ (hw _ (List.mem_of_getElem? (i := 59) rfl))) (notFace_of_selects (args := #[]) (mvT hZ (hw _ (List.mem_of_getElem? (i := 61) rfl)))) (mvT hZ (hw _ (List.mem_of_getElem? (i := 61) rfl))) (mvT hZ (hw _ (List.mem_of_getElem? (i := 60) rfl))) (by decide) (backOf (W := 0) (rm10 l Z a0 hw [] b246 sh_263 ks_263 ((((0 : Int32) + (1 : Int32)) + (1 : Int32)) + (1 : Int32)) ((((List.replicate 64 .null).set 0 (.ref r_213)).set 1 (.ref r_219)).set 2 (.ref r_227)) 2 T294.heap n0 Z295 u294_0 u294_1 u294_2 u294_3 g254 g269 ne268 (by decide) (by simp) (by decide)) hZ (hw _ (List.mem_of_getElem? (i := 62) rfl)) (hw _ (List.mem_of_getElem? (i := 37) rfl)) (by decide) (by decide)) q302a q302c (g := (mkF m 79 #[.val (.int pn), .val (.int c1), .val (.int c2), .val (.int c3), .val (.int c4), .val (.int ((2 : Int32) + (1 : Int32))), .val (.ref r_213), .val (.ref r_219), .val (.ref r_227), .val (.ref r_237), .val (.ref b246), .unset, .unset] [(.ref b246)])) rfl (by rw [hml]; rfl) (Steps.refl _) (argsL := []) (rest := []) (lenOf own_pd2 rfl) rfl (by show 2 * 0 + _ ≤ _; exact Nat.le_of_eq rfl) (hb hby at_79) (fun _ _ => ⟨rfl, rfl, (by decide : 16 + 0 ≤ _), (by decide : 372 + 0 ≤ _)⟩)
    dsimp only [Pt.U, Pt.locs, Pt.cells, Pt.slots] at X302 l302 y302 z302 st302 hQ302
    subst l302 y302 z302
    obtain ⟨rfl, Nq302, K302, u302_0, u302_1, u302_2, u302_3⟩ := hQ302
    obtain ⟨lc302, Xh302, N302⟩ := own_hide X302 (Fr.app N294 Nq302)
    clear X302
    refine Go.hop st302 ?_
    have Z303 : n0 ≤ T302.heap.size := Nat.le_trans Z295 K302.1
    have K304 : Keep h0 T302.heap [] := K296.trans K302 (own_allC (Or.inr sz255) (own_allC (Or.inr sz270) own_all0))
    have O305 : Old Z n0 T302.heap := O297.keep K302 (own_allC g254 (own_allC g269 own_all0))
    show Go p.tables e below P T302 (mkF m 82 #[.val (.int pn), .val (.int c1), .val (.int c2), .val (.int c3), .val (.int c4), .val (.int ((2 : Int32) + (1 : Int32))), .val (.ref r_213), .val (.ref r_219), .val (.ref r_227), .val (.ref r_237), .val (.ref b246), .unset, .unset] [])
    refine Go.via (fun t k => XS.aload Xh302.here hx rfl (hb hby at_82) rfl rfl k) ?_
    show Go p.tables e below P T302 (mkF m 84 #[.val (.int pn), .val (.int c1), .val (.int c2), .val (.int c3), .val (.int c4), .val (.int ((2 : Int32) + (1 : Int32))), .val (.ref r_213), .val (.ref r_219), .val (.ref r_227), .val (.ref r_237), .val (.ref b246), .unset, .unset] [(.ref b246)])
    have F306 : Exa Z T302.heap r_213 "java/lang/String" := (F298.keep K302)
    have F307 : Exa Z T302.heap r_219 "java/lang/String" := (F299.keep K302)
    have F308 : Exa Z T302.heap r_227 "java/lang/String" := (F300.keep K302)
    have F309 : Exa Z T302.heap r_237 "java/lang/String" := (F301.keep K302)
    obtain ⟨cq310, kq310, q310a, q310b, q310c⟩ := isOf hZ rfl u302_0
    obtain ⟨_, _, ⟨T310, L310, k310, n310⟩, -, X310, ⟨Lc310, hQ310, l310, y310, z310⟩, st310⟩ := Xh302.virtualBack hx (y := (⟨"com/example/referee/referee/parse/OpenElements", "size", "()I"⟩ : MethodName)) (z := (⟨"com/example/referee/referee/parse/OpenElements", "size", "()I"⟩ : MethodName)) hown (mvT hZ (hw _ (List.mem_of_getElem? (i := 63) rfl))) (mvT hZ (hw _ (List.mem_of_getElem? (i := 64) rfl))) (notFace_of_selects (args := #[]) (mvT hZ (hw _ (List.mem_of_getElem? (i := 66) rfl)))) (mvT hZ (hw _ (List.mem_of_getElem? (i := 66) rfl))) (mvT hZ (hw _ (List.mem_of_getElem? (i := 65) rfl))) (by decide) (backOf (W := 0) (rm11 l Z a0 hw [] b246 (((((0 : Int32) + (1 : Int32)) + (1 : Int32)) + (1 : Int32)) - (1 : Int32)) T302.heap n0 Z303 u302_2) hZ (hw _ (List.mem_of_getElem? (i := 67) rfl)) (hw _ (List.mem_of_getElem? (i := 37) rfl)) (by decide) (by decide)) q310a q310c (g := (mkF m 84 #[.val (.int pn), .val (.int c1), .val (.int c2), .val (.int c3), .val (.int c4), .val (.int ((2 : Int32) + (1 : Int32))), .val (.ref r_213), .val (.ref r_219), .val (.ref r_227), .val (.ref r_237), .val (.ref b246), .unset, .unset] [(.ref b246)])) rfl (by rw [hml]; rfl) (Steps.refl _) (argsL := []) (rest := []) (lenOf own_pd4 rfl) rfl (by show 2 * 0 + _ ≤ _; exact Nat.le_of_eq rfl) (hb hby at_84) (fun _ _ => ⟨rfl, rfl, (by decide : 16 + 0 ≤ _), (by decide : 372 + 0 ≤ _)⟩)
    dsimp only [Pt.U, Pt.locs, Pt.cells, Pt.slots] at X310 l310 y310 z310 st310 hQ310
    subst l310 y310 z310
    obtain ⟨rfl, Nq310, hh310⟩ := hQ310
    obtain ⟨lc310, Xh310, N310⟩ := own_hide X310 (Fr.app N302 Nq310)
    clear X310
    refine Go.hop st310 ?_
    show Go p.tables e below P T310 (mkF m 87 #[.val (.int pn), .val (.int c1), .val (.int c2), .val (.int c3), .val (.int c4), .val (.int ((2 : Int32) + (1 : Int32))), .val (.ref r_213), .val (.ref r_219), .val (.ref r_227), .val (.ref r_237), .val (.ref b246), .unset, .unset] [(.int (((((0 : Int32) + (1 : Int32)) + (1 : Int32)) + (1 : Int32)) - (1 : Int32)))])
    refine Go.via (fun t k => XS.iload Xh310.here hx rfl (hb hby at_87) rfl k) ?_
    show Go p.tables e below P T310 (mkF m 89 #[.val (.int pn), .val (.int c1), .val (.int c2), .val (.int c3), .val (.int c4), .val (.int ((2 : Int32) + (1 : Int32))), .val (.ref r_213), .val (.ref r_219), .val (.ref r_227), .val (.ref r_237), .val (.ref b246), .unset, .unset] [(.int ((2 : Int32) + (1 : Int32))), (.int (((((0 : Int32) + (1 : Int32)) + (1 : Int32)) + (1 : Int32)) - (1 : Int32)))])
    refine Go.via (fun t k => XS.iconst Xh310.here hx rfl (hb hby at_89) k) ?_
    show Go p.tables e below P T310 (mkF m 90 #[.val (.int pn), .val (.int c1), .val (.int c2), .val (.int c3), .val (.int c4), .val (.int ((2 : Int32) + (1 : Int32))), .val (.ref r_213), .val (.ref r_219), .val (.ref r_227), .val (.ref r_237), .val (.ref b246), .unset, .unset] [(.int (1 : Int32)), (.int ((2 : Int32) + (1 : Int32))), (.int (((((0 : Int32) + (1 : Int32)) + (1 : Int32)) + (1 : Int32)) - (1 : Int32)))])
    refine Go.via (fun t k => XS.isub Xh310.here hx rfl (hb hby at_90) rfl k) ?_
    show Go p.tables e below P T310 (mkF m 91 #[.val (.int pn), .val (.int c1), .val (.int c2), .val (.int c3), .val (.int c4), .val (.int ((2 : Int32) + (1 : Int32))), .val (.ref r_213), .val (.ref r_219), .val (.ref r_227), .val (.ref r_237), .val (.ref b246), .unset, .unset] [(.int (((2 : Int32) + (1 : Int32)) - (1 : Int32))), (.int (((((0 : Int32) + (1 : Int32)) + (1 : Int32)) + (1 : Int32)) - (1 : Int32)))])
    refine Go.via (fun t k => XS.icmpNo Xh310.here hx rfl (hb hby at_91) rfl (teq (by decide : (((((0 : Int32) + (1 : Int32)) + (1 : Int32)) + (1 : Int32)) - (1 : Int32)) = (((2 : Int32) + (1 : Int32)) - (1 : Int32)))).2 k) ?_
    show Go p.tables e below P T310 (mkF m 94 #[.val (.int pn), .val (.int c1), .val (.int c2), .val (.int c3), .val (.int c4), .val (.int ((2 : Int32) + (1 : Int32))), .val (.ref r_213), .val (.ref r_219), .val (.ref r_227), .val (.ref r_237), .val (.ref b246), .unset, .unset] [])
    refine Go.via (fun t k => XS.iconst Xh310.here hx rfl (hb hby at_94) k) ?_
    show Go p.tables e below P T310 (mkF m 95 #[.val (.int pn), .val (.int c1), .val (.int c2), .val (.int c3), .val (.int c4), .val (.int ((2 : Int32) + (1 : Int32))), .val (.ref r_213), .val (.ref r_219), .val (.ref r_227), .val (.ref r_237), .val (.ref b246), .unset, .unset] [(.int (1 : Int32))])
    refine Go.via (fun t k => XS.goto Xh310.here hx rfl (pc0 := 95) (pc' := 99) rfl (hb hby at_95) (by decide) (by decide) k) ?_
    show Go p.tables e below P T310 (mkF m 99 #[.val (.int pn), .val (.int c1), .val (.int c2), .val (.int c3), .val (.int c4), .val (.int ((2 : Int32) + (1 : Int32))), .val (.ref r_213), .val (.ref r_219), .val (.ref r_227), .val (.ref r_237), .val (.ref b246), .unset, .unset] [(.int (1 : Int32))])
    refine Go.via (fun t k => XS.istore Xh310.here hx rfl (hb hby at_99) rfl (l' := #[.val (.int pn), .val (.int c1), .val (.int c2), .val (.int c3), .val (.int c4), .val (.int ((2 : Int32) + (1 : Int32))), .val (.ref r_213), .val (.ref r_219), .val (.ref r_227), .val (.ref r_237), .val (.ref b246), .val (.int (1 : Int32)), .unset]) rfl k) ?_
    show Go p.tables e below P T310 (mkF m 101 #[.val (.int pn), .val (.int c1), .val (.int c2), .val (.int c3), .val (.int c4), .val (.int ((2 : Int32) + (1 : Int32))), .val (.ref r_213), .val (.ref r_219), .val (.ref r_227), .val (.ref r_237), .val (.ref b246), .val (.int (1 : Int32)), .unset] [])
    refine Go.via (fun t k => XS.iload Xh310.here hx rfl (hb hby at_101) rfl k) ?_
    show Go p.tables e below P T310 (mkF m 103 #[.val (.int pn), .val (.int c1), .val (.int c2), .val (.int c3), .val (.int c4), .val (.int ((2 : Int32) + (1 : Int32))), .val (.ref r_213), .val (.ref r_219), .val (.ref r_227), .val (.ref r_237), .val (.ref b246), .val (.int (1 : Int32)), .unset] [(.int ((2 : Int32) + (1 : Int32)))])
    refine Go.via (fun t k => XS.iconst Xh310.here hx rfl (hb hby at_103) k) ?_
    show Go p.tables e below P T310 (mkF m 104 #[.val (.int pn), .val (.int c1), .val (.int c2), .val (.int c3), .val (.int c4), .val (.int ((2 : Int32) + (1 : Int32))), .val (.ref r_213), .val (.ref r_219), .val (.ref r_227), .val (.ref r_237), .val (.ref b246), .val (.int (1 : Int32)), .unset] [(.int (3 : Int32)), (.int ((2 : Int32) + (1 : Int32)))])
    refine Go.via (fun t k => XS.icmpNo Xh310.here hx rfl (hb hby at_104) rfl (teq (by decide : ((2 : Int32) + (1 : Int32)) = (3 : Int32))).2 k) ?_
    show Go p.tables e below P T310 (mkF m 107 #[.val (.int pn), .val (.int c1), .val (.int c2), .val (.int c3), .val (.int c4), .val (.int ((2 : Int32) + (1 : Int32))), .val (.ref r_213), .val (.ref r_219), .val (.ref r_227), .val (.ref r_237), .val (.ref b246), .val (.int (1 : Int32)), .unset] [])
    refine Go.via (fun t k => XS.aload Xh310.here hx rfl (hb hby at_107) rfl rfl k) ?_
    show Go p.tables e below P T310 (mkF m 109 #[.val (.int pn), .val (.int c1), .val (.int c2), .val (.int c3), .val (.int c4), .val (.int ((2 : Int32) + (1 : Int32))), .val (.ref r_213), .val (.ref r_219), .val (.ref r_227), .val (.ref r_237), .val (.ref b246), .val (.int (1 : Int32)), .unset] [(.ref r_219)])
    refine Go.via (fun t k => XS.goto Xh310.here hx rfl (pc0 := 109) (pc' := 114) rfl (hb hby at_109) (by decide) (by decide) k) ?_
    show Go p.tables e below P T310 (mkF m 114 #[.val (.int pn), .val (.int c1), .val (.int c2), .val (.int c3), .val (.int c4), .val (.int ((2 : Int32) + (1 : Int32))), .val (.ref r_213), .val (.ref r_219), .val (.ref r_227), .val (.ref r_237), .val (.ref b246), .val (.int (1 : Int32)), .unset] [(.ref r_219)])
    refine Go.via (fun t k => XS.astore Xh310.here hx rfl (hb hby at_114) rfl rfl (l' := #[.val (.int pn), .val (.int c1), .val (.int c2), .val (.int c3), .val (.int c4), .val (.int ((2 : Int32) + (1 : Int32))), .val (.ref r_213), .val (.ref r_219), .val (.ref r_227), .val (.ref r_237), .val (.ref b246), .val (.int (1 : Int32)), .val (.ref r_219)]) rfl k) ?_
    show Go p.tables e below P T310 (mkF m 116 #[.val (.int pn), .val (.int c1), .val (.int c2), .val (.int c3), .val (.int c4), .val (.int ((2 : Int32) + (1 : Int32))), .val (.ref r_213), .val (.ref r_219), .val (.ref r_227), .val (.ref r_237), .val (.ref b246), .val (.int (1 : Int32)), .val (.ref r_219)] [])
    refine Go.via (fun t k => XS.iload Xh310.here hx rfl (hb hby at_116) rfl k) ?_
    show Go p.tables e below P T310 (mkF m 118 #[.val (.int pn), .val (.int c1), .val (.int c2), .val (.int c3), .val (.int c4), .val (.int ((2 : Int32) + (1 : Int32))), .val (.ref r_213), .val (.ref r_219), .val (.ref r_227), .val (.ref r_237), .val (.ref b246), .val (.int (1 : Int32)), .val (.ref r_219)] [(.int ((2 : Int32) + (1 : Int32)))])
    refine Go.via (fun t k => XS.iconst Xh310.here hx rfl (hb hby at_118) k) ?_
    show Go p.tables e below P T310 (mkF m 119 #[.val (.int pn), .val (.int c1), .val (.int c2), .val (.int c3), .val (.int c4), .val (.int ((2 : Int32) + (1 : Int32))), .val (.ref r_213), .val (.ref r_219), .val (.ref r_227), .val (.ref r_237), .val (.ref b246), .val (.int (1 : Int32)), .val (.ref r_219)] [(.int (2 : Int32)), (.int ((2 : Int32) + (1 : Int32)))])
    refine Go.via (fun t k => XS.icmpNo Xh310.here hx rfl (hb hby at_119) rfl (flt (by decide : ¬ (((2 : Int32) + (1 : Int32)) < (2 : Int32)))).1 k) ?_
    show Go p.tables e below P T310 (mkF m 122 #[.val (.int pn), .val (.int c1), .val (.int c2), .val (.int c3), .val (.int c4), .val (.int ((2 : Int32) + (1 : Int32))), .val (.ref r_213), .val (.ref r_219), .val (.ref r_227), .val (.ref r_237), .val (.ref b246), .val (.int (1 : Int32)), .val (.ref r_219)] [])
    refine Go.via (fun t k => XS.iload Xh310.here hx rfl (hb hby at_122) rfl k) ?_
    show Go p.tables e below P T310 (mkF m 124 #[.val (.int pn), .val (.int c1), .val (.int c2), .val (.int c3), .val (.int c4), .val (.int ((2 : Int32) + (1 : Int32))), .val (.ref r_213), .val (.ref r_219), .val (.ref r_227), .val (.ref r_237), .val (.ref b246), .val (.int (1 : Int32)), .val (.ref r_219)] [(.int (1 : Int32))])
    refine Go.via (fun t k => XS.ifNo Xh310.here hx rfl (hb hby at_124) rfl ((if0 _ _).trans (feq (by decide : ¬ ((1 : Int32) = (0 : Int32)))).1) k) ?_
    show Go p.tables e below P T310 (mkF m 127 #[.val (.int pn), .val (.int c1), .val (.int c2), .val (.int c3), .val (.int c4), .val (.int ((2 : Int32) + (1 : Int32))), .val (.ref r_213), .val (.ref r_219), .val (.ref r_227), .val (.ref r_237), .val (.ref b246), .val (.int (1 : Int32)), .val (.ref r_219)] [])
    refine Go.via (fun t k => XS.aload Xh310.here hx rfl (hb hby at_127) rfl rfl k) ?_
    show Go p.tables e below P T310 (mkF m 129 #[.val (.int pn), .val (.int c1), .val (.int c2), .val (.int c3), .val (.int c4), .val (.int ((2 : Int32) + (1 : Int32))), .val (.ref r_213), .val (.ref r_219), .val (.ref r_227), .val (.ref r_237), .val (.ref b246), .val (.int (1 : Int32)), .val (.ref r_219)] [(.ref r_219)])
    refine Go.via (fun t k => XS.aload Xh310.here hx rfl (hb hby at_129) rfl rfl k) ?_
    show Go p.tables e below P T310 (mkF m 131 #[.val (.int pn), .val (.int c1), .val (.int c2), .val (.int c3), .val (.int c4), .val (.int ((2 : Int32) + (1 : Int32))), .val (.ref r_213), .val (.ref r_219), .val (.ref r_227), .val (.ref r_237), .val (.ref b246), .val (.int (1 : Int32)), .val (.ref r_219)] [(.ref b246), (.ref r_219)])
    obtain ⟨cq311, kq311, q311a, q311b, q311c⟩ := isOf hZ hh310 u302_0
    obtain ⟨_, _, ⟨T311, L311, k311, n311⟩, -, X311, ⟨Lc311, hQ311, l311, y311, z311⟩, st311⟩ := Xh310.virtualBack hx (y := (⟨"com/example/referee/referee/parse/OpenElements", "innermost", "()Ljava/lang/String;"⟩ : MethodName)) (z := (⟨"com/example/referee/referee/parse/OpenElements", "innermost", "()Ljava/lang/String;"⟩ : MethodName)) hown (mvT hZ (hw _ (List.mem_of_getElem? (i := 68) rfl))) (mvT hZ (hw _ (List.mem_of_getElem? (i := 69) rfl))) (notFace_of_selects (args := #[]) (mvT hZ (hw _ (List.mem_of_getElem? (i := 71) rfl)))) (mvT hZ (hw _ (List.mem_of_getElem? (i := 71) rfl))) (mvT hZ (hw _ (List.mem_of_getElem? (i := 70) rfl))) (by decide) (backOf (W := 1) (rm12 l Z a0 hw [] b246 sh_263 ks_263 (((((0 : Int32) + (1 : Int32)) + (1 : Int32)) + (1 : Int32)) - (1 : Int32)) (((((List.replicate 64 .null).set 0 (.ref r_213)).set 1 (.ref r_219)).set 2 (.ref r_227)).set 2 .null) 1 r_219 T302.heap n0 Z303 u302_0 u302_1 u302_2 u302_3 (by decide) (by decide) (by decide) rfl) hZ (hw _ (List.mem_of_getElem? (i := 72) rfl)) (hw _ (List.mem_of_getElem? (i := 37) rfl)) (by decide) (by decide)) q311a q311c (g := (mkF m 131 #[.val (.int pn), .val (.int c1), .val (.int c2), .val (.int c3), .val (.int c4), .val (.int ((2 : Int32) + (1 : Int32))), .val (.ref r_213), .val (.ref r_219), .val (.ref r_227), .val (.ref r_237), .val (.ref b246), .val (.int (1 : Int32)), .val (.ref r_219)] [(.ref b246), (.ref r_219)])) rfl (by rw [hml]; rfl) (Steps.refl _) (argsL := []) (rest := [(.ref r_219)]) (lenOf own_pd5 rfl) rfl (by show 2 * 0 + _ ≤ _; exact Nat.le_of_eq rfl) (hb hby at_131) (fun _ _ => ⟨rfl, hh310, (by decide : 16 + 0 ≤ _), (by decide : 372 + 0 ≤ _)⟩)
    dsimp only [Pt.U, Pt.locs, Pt.cells, Pt.slots] at X311 l311 y311 z311 st311 hQ311
    subst l311 y311 z311
    obtain ⟨rfl, Nq311, hh311⟩ := hQ311
    obtain ⟨lc311, Xh311, N311⟩ := own_hide X311 (Fr.app N310 Nq311)
    clear X311
    refine Go.hop st311 ?_
    show Go p.tables e below P T311 (mkF m 134 #[.val (.int pn), .val (.int c1), .val (.int c2), .val (.int c3), .val (.int c4), .val (.int ((2 : Int32) + (1 : Int32))), .val (.ref r_213), .val (.ref r_219), .val (.ref r_227), .val (.ref r_237), .val (.ref b246), .val (.int (1 : Int32)), .val (.ref r_219)] [(.ref r_219), (.ref r_219)])
    obtain ⟨cq312, kq312, q312a, q312b, q312c⟩ := isOf hZ hh311 F307
    obtain ⟨_, _, ⟨T312, L312, k312, n312⟩, -, X312, ⟨Lc312, hQ312, l312, y312, z312⟩, st312⟩ := Xh311.virtualBack hx (y := (⟨"java/lang/String", "equals", "(Ljava/lang/Object;)Z"⟩ : MethodName)) (z := (⟨"java/lang/String", "equals", "(Ljava/lang/Object;)Z"⟩ : MethodName)) hown (mvT hZ (hw _ (List.mem_of_getElem? (i := 73) rfl))) (mvT hZ (hw _ (List.mem_of_getElem? (i := 74) rfl))) (notFace_of_selects (args := #[]) (mvT hZ (hw _ (List.mem_of_getElem? (i := 76) rfl)))) (mvT hZ (hw _ (List.mem_of_getElem? (i := 76) rfl))) (mvT hZ (hw _ (List.mem_of_getElem? (i := 75) rfl))) (by decide) (backOf (W := 0) (rm13 l Z a0 hw [] r_219 T302.heap n0 Z303 ) hZ (hw _ (List.mem_of_getElem? (i := 77) rfl)) (hw _ (List.mem_of_getElem? (i := 8) rfl)) (by decide) (by decide)) q312a q312c (g := (mkF m 134 #[.val (.int pn), .val (.int c1), .val (.int c2), .val (.int c3), .val (.int c4), .val (.int ((2 : Int32) + (1 : Int32))), .val (.ref r_213), .val (.ref r_219), .val (.ref r_227), .val (.ref r_237), .val (.ref b246), .val (.int (1 : Int32)), .val (.ref r_219)] [(.ref r_219), (.ref r_219)])) rfl (by rw [hml]; rfl) (Steps.refl _) (argsL := [(.ref r_219)]) (rest := []) (lenOf own_pd6 rfl) rfl (by show 2 * 0 + _ ≤ _; exact Nat.le_of_eq rfl) (hb hby at_134) (fun _ _ => ⟨rfl, hh311, (by decide : 16 + 0 ≤ _), (by decide : 372 + 0 ≤ _)⟩)
    dsimp only [Pt.U, Pt.locs, Pt.cells, Pt.slots] at X312 l312 y312 z312 st312 hQ312
    subst l312 y312 z312
    obtain ⟨rfl, Nq312, hh312⟩ := hQ312
    obtain ⟨lc312, Xh312, N312⟩ := own_hide X312 (Fr.app N311 Nq312)
    clear X312
    refine Go.hop st312 ?_
    show Go p.tables e below P T312 (mkF m 137 #[.val (.int pn), .val (.int c1), .val (.int c2), .val (.int c3), .val (.int c4), .val (.int ((2 : Int32) + (1 : Int32))), .val (.ref r_213), .val (.ref r_219), .val (.ref r_227), .val (.ref r_237), .val (.ref b246), .val (.int (1 : Int32)), .val (.ref r_219)] [(.int (1 : Int32))])
    refine Go.via (fun t k => XS.ifNo Xh312.here hx rfl (hb hby at_137) rfl ((if0 _ _).trans (feq (by decide : ¬ ((1 : Int32) = (0 : Int32)))).1) k) ?_
    show Go p.tables e below P T312 (mkF m 140 #[.val (.int pn), .val (.int c1), .val (.int c2), .val (.int c3), .val (.int c4), .val (.int ((2 : Int32) + (1 : Int32))), .val (.ref r_213), .val (.ref r_219), .val (.ref r_227), .val (.ref r_237), .val (.ref b246), .val (.int (1 : Int32)), .val (.ref r_219)] [])
    refine Go.via (fun t k => XS.iconst Xh312.here hx rfl (hb hby at_140) k) ?_
    show Go p.tables e below P T312 (mkF m 141 #[.val (.int pn), .val (.int c1), .val (.int c2), .val (.int c3), .val (.int c4), .val (.int ((2 : Int32) + (1 : Int32))), .val (.ref r_213), .val (.ref r_219), .val (.ref r_227), .val (.ref r_237), .val (.ref b246), .val (.int (1 : Int32)), .val (.ref r_219)] [(.int (1 : Int32))])
    refine Go.via (fun t k => XS.goto Xh312.here hx rfl (pc0 := 141) (pc' := 145) rfl (hb hby at_141) (by decide) (by decide) k) ?_
    show Go p.tables e below P T312 (mkF m 145 #[.val (.int pn), .val (.int c1), .val (.int c2), .val (.int c3), .val (.int c4), .val (.int ((2 : Int32) + (1 : Int32))), .val (.ref r_213), .val (.ref r_219), .val (.ref r_227), .val (.ref r_237), .val (.ref b246), .val (.int (1 : Int32)), .val (.ref r_219)] [(.int (1 : Int32))])
    refine Go.via (fun t k => XS.istore Xh312.here hx rfl (hb hby at_145) rfl (l' := #[.val (.int pn), .val (.int c1), .val (.int c2), .val (.int c3), .val (.int c4), .val (.int ((2 : Int32) + (1 : Int32))), .val (.ref r_213), .val (.ref r_219), .val (.ref r_227), .val (.ref r_237), .val (.ref b246), .val (.int (1 : Int32)), .val (.ref r_219)]) rfl k) ?_
    show Go p.tables e below P T312 (mkF m 147 #[.val (.int pn), .val (.int c1), .val (.int c2), .val (.int c3), .val (.int c4), .val (.int ((2 : Int32) + (1 : Int32))), .val (.ref r_213), .val (.ref r_219), .val (.ref r_227), .val (.ref r_237), .val (.ref b246), .val (.int (1 : Int32)), .val (.ref r_219)] [])
    refine Go.via (fun t k => XS.aload Xh312.here hx rfl (hb hby at_147) rfl rfl k) ?_
    show Go p.tables e below P T312 (mkF m 149 #[.val (.int pn), .val (.int c1), .val (.int c2), .val (.int c3), .val (.int c4), .val (.int ((2 : Int32) + (1 : Int32))), .val (.ref r_213), .val (.ref r_219), .val (.ref r_227), .val (.ref r_237), .val (.ref b246), .val (.int (1 : Int32)), .val (.ref r_219)] [(.ref b246)])
    refine Go.via (fun t k => XS.aload Xh312.here hx rfl (hb hby at_149) rfl rfl k) ?_
    show Go p.tables e below P T312 (mkF m 151 #[.val (.int pn), .val (.int c1), .val (.int c2), .val (.int c3), .val (.int c4), .val (.int ((2 : Int32) + (1 : Int32))), .val (.ref r_213), .val (.ref r_219), .val (.ref r_227), .val (.ref r_237), .val (.ref b246), .val (.int (1 : Int32)), .val (.ref r_219)] [(.ref r_237), (.ref b246)])
    obtain ⟨cq313, kq313, q313a, q313b, q313c⟩ := isOf hZ hh312 u302_0
    obtain ⟨_, _, ⟨T313, L313, k313, n313⟩, -, X313, ⟨Lc313, hQ313, l313, y313, z313⟩, st313⟩ := Xh312.virtualBack hx (y := (⟨"com/example/referee/referee/parse/OpenElements", "push", "(Ljava/lang/String;)V"⟩ : MethodName)) (z := (⟨"com/example/referee/referee/parse/OpenElements", "push", "(Ljava/lang/String;)V"⟩ : MethodName)) hown (mvT hZ (hw _ (List.mem_of_getElem? (i := 51) rfl))) (mvT hZ (hw _ (List.mem_of_getElem? (i := 52) rfl))) (notFace_of_selects (args := #[]) (mvT hZ (hw _ (List.mem_of_getElem? (i := 54) rfl)))) (mvT hZ (hw _ (List.mem_of_getElem? (i := 54) rfl))) (mvT hZ (hw _ (List.mem_of_getElem? (i := 53) rfl))) (by decide) (backOf (W := 0) (rm9 l Z a0 hw [] b246 r_237 sh_263 ks_263 (((((0 : Int32) + (1 : Int32)) + (1 : Int32)) + (1 : Int32)) - (1 : Int32)) (((((List.replicate 64 .null).set 0 (.ref r_213)).set 1 (.ref r_219)).set 2 (.ref r_227)).set 2 .null) 2 T302.heap n0 Z303 u302_0 u302_1 u302_2 u302_3 F309 u263_4 g254 g269 ne268 (by decide) (by simp) (by decide)) hZ (hw _ (List.mem_of_getElem? (i := 55) rfl)) (hw _ (List.mem_of_getElem? (i := 37) rfl)) (by decide) (by decide)) q313a q313c (g := (mkF m 151 #[.val (.int pn), .val (.int c1), .val (.int c2), .val (.int c3), .val (.int c4), .val (.int ((2 : Int32) + (1 : Int32))), .val (.ref r_213), .val (.ref r_219), .val (.ref r_227), .val (.ref r_237), .val (.ref b246), .val (.int (1 : Int32)), .val (.ref r_219)] [(.ref r_237), (.ref b246)])) rfl (by rw [hml]; rfl) (Steps.refl _) (argsL := [(.ref r_237)]) (rest := []) (lenOf own_pd3 rfl) rfl (by show 2 * 0 + _ ≤ _; exact Nat.le_of_eq rfl) (hb hby at_151) (fun _ _ => ⟨rfl, hh312, (by decide : 16 + 0 ≤ _), (by decide : 372 + 0 ≤ _)⟩)
    dsimp only [Pt.U, Pt.locs, Pt.cells, Pt.slots] at X313 l313 y313 z313 st313 hQ313
    subst l313 y313 z313
    obtain ⟨rfl, Nq313, K313, u313_0, u313_1, u313_2, u313_3⟩ := hQ313
    obtain ⟨lc313, Xh313, N313⟩ := own_hide X313 (Fr.app N312 Nq313)
    clear X313
    refine Go.hop st313 ?_
    have Z314 : n0 ≤ T313.heap.size := Nat.le_trans Z303 K313.1
    have K315 : Keep h0 T313.heap [] := K304.trans K313 (own_allC (Or.inr sz255) (own_allC (Or.inr sz270) own_all0))
    have O316 : Old Z n0 T313.heap := O305.keep K313 (own_allC g254 (own_allC g269 own_all0))
    show Go p.tables e below P T313 (mkF m 154 #[.val (.int pn), .val (.int c1), .val (.int c2), .val (.int c3), .val (.int c4), .val (.int ((2 : Int32) + (1 : Int32))), .val (.ref r_213), .val (.ref r_219), .val (.ref r_227), .val (.ref r_237), .val (.ref b246), .val (.int (1 : Int32)), .val (.ref r_219)] [])
    refine Go.via (fun t k => XS.aload Xh313.here hx rfl (hb hby at_154) rfl rfl k) ?_
    show Go p.tables e below P T313 (mkF m 156 #[.val (.int pn), .val (.int c1), .val (.int c2), .val (.int c3), .val (.int c4), .val (.int ((2 : Int32) + (1 : Int32))), .val (.ref r_213), .val (.ref r_219), .val (.ref r_227), .val (.ref r_237), .val (.ref b246), .val (.int (1 : Int32)), .val (.ref r_219)] [(.ref b246)])
    have F317 : Exa Z T313.heap r_213 "java/lang/String" := (F306.keep K313)
    have F318 : Exa Z T313.heap r_219 "java/lang/String" := (F307.keep K313)
    have F319 : Exa Z T313.heap r_227 "java/lang/String" := (F308.keep K313)
    have F320 : Exa Z T313.heap r_237 "java/lang/String" := (F309.keep K313)
    obtain ⟨cq321, kq321, q321a, q321b, q321c⟩ := isOf hZ rfl u313_0
    obtain ⟨_, _, ⟨T321, L321, k321, n321⟩, -, X321, ⟨Lc321, hQ321, l321, y321, z321⟩, st321⟩ := Xh313.virtualBack hx (y := (⟨"com/example/referee/referee/parse/OpenElements", "pop", "()V"⟩ : MethodName)) (z := (⟨"com/example/referee/referee/parse/OpenElements", "pop", "()V"⟩ : MethodName)) hown (mvT hZ (hw _ (List.mem_of_getElem? (i := 58) rfl))) (mvT hZ (hw _ (List.mem_of_getElem? (i := 59) rfl))) (notFace_of_selects (args := #[]) (mvT hZ (hw _ (List.mem_of_getElem? (i := 61) rfl)))) (mvT hZ (hw _ (List.mem_of_getElem? (i := 61) rfl))) (mvT hZ (hw _ (List.mem_of_getElem? (i := 60) rfl))) (by decide) (backOf (W := 0) (rm10 l Z a0 hw [] b246 sh_263 ks_263 ((((((0 : Int32) + (1 : Int32)) + (1 : Int32)) + (1 : Int32)) - (1 : Int32)) + (1 : Int32)) ((((((List.replicate 64 .null).set 0 (.ref r_213)).set 1 (.ref r_219)).set 2 (.ref r_227)).set 2 .null).set 2 (.ref r_237)) 2 T313.heap n0 Z314 u313_0 u313_1 u313_2 u313_3 g254 g269 ne268 (by decide) (by simp) (by decide)) hZ (hw _ (List.mem_of_getElem? (i := 62) rfl)) (hw _ (List.mem_of_getElem? (i := 37) rfl)) (by decide) (by decide)) q321a q321c (g := (mkF m 156 #[.val (.int pn), .val (.int c1), .val (.int c2), .val (.int c3), .val (.int c4), .val (.int ((2 : Int32) + (1 : Int32))), .val (.ref r_213), .val (.ref r_219), .val (.ref r_227), .val (.ref r_237), .val (.ref b246), .val (.int (1 : Int32)), .val (.ref r_219)] [(.ref b246)])) rfl (by rw [hml]; rfl) (Steps.refl _) (argsL := []) (rest := []) (lenOf own_pd2 rfl) rfl (by show 2 * 0 + _ ≤ _; exact Nat.le_of_eq rfl) (hb hby at_156) (fun _ _ => ⟨rfl, rfl, (by decide : 16 + 0 ≤ _), (by decide : 372 + 0 ≤ _)⟩)
    dsimp only [Pt.U, Pt.locs, Pt.cells, Pt.slots] at X321 l321 y321 z321 st321 hQ321
    subst l321 y321 z321
    obtain ⟨rfl, Nq321, K321, u321_0, u321_1, u321_2, u321_3⟩ := hQ321
    obtain ⟨lc321, Xh321, N321⟩ := own_hide X321 (Fr.app N313 Nq321)
    clear X321
    refine Go.hop st321 ?_
    have Z322 : n0 ≤ T321.heap.size := Nat.le_trans Z314 K321.1
    have K323 : Keep h0 T321.heap [] := K315.trans K321 (own_allC (Or.inr sz255) (own_allC (Or.inr sz270) own_all0))
    have O324 : Old Z n0 T321.heap := O316.keep K321 (own_allC g254 (own_allC g269 own_all0))
    show Go p.tables e below P T321 (mkF m 159 #[.val (.int pn), .val (.int c1), .val (.int c2), .val (.int c3), .val (.int c4), .val (.int ((2 : Int32) + (1 : Int32))), .val (.ref r_213), .val (.ref r_219), .val (.ref r_227), .val (.ref r_237), .val (.ref b246), .val (.int (1 : Int32)), .val (.ref r_219)] [])
    refine Go.via (fun t k => XS.iload Xh321.here hx rfl (hb hby at_159) rfl k) ?_
    show Go p.tables e below P T321 (mkF m 161 #[.val (.int pn), .val (.int c1), .val (.int c2), .val (.int c3), .val (.int c4), .val (.int ((2 : Int32) + (1 : Int32))), .val (.ref r_213), .val (.ref r_219), .val (.ref r_227), .val (.ref r_237), .val (.ref b246), .val (.int (1 : Int32)), .val (.ref r_219)] [(.int (1 : Int32))])
    refine Go.via (fun t k => XS.ifNo Xh321.here hx rfl (hb hby at_161) rfl ((if0 _ _).trans (feq (by decide : ¬ ((1 : Int32) = (0 : Int32)))).1) k) ?_
    show Go p.tables e below P T321 (mkF m 164 #[.val (.int pn), .val (.int c1), .val (.int c2), .val (.int c3), .val (.int c4), .val (.int ((2 : Int32) + (1 : Int32))), .val (.ref r_213), .val (.ref r_219), .val (.ref r_227), .val (.ref r_237), .val (.ref b246), .val (.int (1 : Int32)), .val (.ref r_219)] [])
    refine Go.via (fun t k => XS.aload Xh321.here hx rfl (hb hby at_164) rfl rfl k) ?_
    show Go p.tables e below P T321 (mkF m 166 #[.val (.int pn), .val (.int c1), .val (.int c2), .val (.int c3), .val (.int c4), .val (.int ((2 : Int32) + (1 : Int32))), .val (.ref r_213), .val (.ref r_219), .val (.ref r_227), .val (.ref r_237), .val (.ref b246), .val (.int (1 : Int32)), .val (.ref r_219)] [(.ref b246)])
    have F325 : Exa Z T321.heap r_213 "java/lang/String" := (F317.keep K321)
    have F326 : Exa Z T321.heap r_219 "java/lang/String" := (F318.keep K321)
    have F327 : Exa Z T321.heap r_227 "java/lang/String" := (F319.keep K321)
    have F328 : Exa Z T321.heap r_237 "java/lang/String" := (F320.keep K321)
    obtain ⟨cq329, kq329, q329a, q329b, q329c⟩ := isOf hZ rfl u321_0
    obtain ⟨_, _, ⟨T329, L329, k329, n329⟩, -, X329, ⟨Lc329, hQ329, l329, y329, z329⟩, st329⟩ := Xh321.virtualBack hx (y := (⟨"com/example/referee/referee/parse/OpenElements", "size", "()I"⟩ : MethodName)) (z := (⟨"com/example/referee/referee/parse/OpenElements", "size", "()I"⟩ : MethodName)) hown (mvT hZ (hw _ (List.mem_of_getElem? (i := 63) rfl))) (mvT hZ (hw _ (List.mem_of_getElem? (i := 64) rfl))) (notFace_of_selects (args := #[]) (mvT hZ (hw _ (List.mem_of_getElem? (i := 66) rfl)))) (mvT hZ (hw _ (List.mem_of_getElem? (i := 66) rfl))) (mvT hZ (hw _ (List.mem_of_getElem? (i := 65) rfl))) (by decide) (backOf (W := 0) (rm11 l Z a0 hw [] b246 (((((((0 : Int32) + (1 : Int32)) + (1 : Int32)) + (1 : Int32)) - (1 : Int32)) + (1 : Int32)) - (1 : Int32)) T321.heap n0 Z322 u321_2) hZ (hw _ (List.mem_of_getElem? (i := 67) rfl)) (hw _ (List.mem_of_getElem? (i := 37) rfl)) (by decide) (by decide)) q329a q329c (g := (mkF m 166 #[.val (.int pn), .val (.int c1), .val (.int c2), .val (.int c3), .val (.int c4), .val (.int ((2 : Int32) + (1 : Int32))), .val (.ref r_213), .val (.ref r_219), .val (.ref r_227), .val (.ref r_237), .val (.ref b246), .val (.int (1 : Int32)), .val (.ref r_219)] [(.ref b246)])) rfl (by rw [hml]; rfl) (Steps.refl _) (argsL := []) (rest := []) (lenOf own_pd4 rfl) rfl (by show 2 * 0 + _ ≤ _; exact Nat.le_of_eq rfl) (hb hby at_166) (fun _ _ => ⟨rfl, rfl, (by decide : 16 + 0 ≤ _), (by decide : 372 + 0 ≤ _)⟩)
    dsimp only [Pt.U, Pt.locs, Pt.cells, Pt.slots] at X329 l329 y329 z329 st329 hQ329
    subst l329 y329 z329
    obtain ⟨rfl, Nq329, hh329⟩ := hQ329
    obtain ⟨lc329, Xh329, N329⟩ := own_hide X329 (Fr.app N321 Nq329)
    clear X329
    refine Go.hop st329 ?_
    show Go p.tables e below P T329 (mkF m 169 #[.val (.int pn), .val (.int c1), .val (.int c2), .val (.int c3), .val (.int c4), .val (.int ((2 : Int32) + (1 : Int32))), .val (.ref r_213), .val (.ref r_219), .val (.ref r_227), .val (.ref r_237), .val (.ref b246), .val (.int (1 : Int32)), .val (.ref r_219)] [(.int (((((((0 : Int32) + (1 : Int32)) + (1 : Int32)) + (1 : Int32)) - (1 : Int32)) + (1 : Int32)) - (1 : Int32)))])
    refine Go.via (fun t k => XS.iload Xh329.here hx rfl (hb hby at_169) rfl k) ?_
    show Go p.tables e below P T329 (mkF m 171 #[.val (.int pn), .val (.int c1), .val (.int c2), .val (.int c3), .val (.int c4), .val (.int ((2 : Int32) + (1 : Int32))), .val (.ref r_213), .val (.ref r_219), .val (.ref r_227), .val (.ref r_237), .val (.ref b246), .val (.int (1 : Int32)), .val (.ref r_219)] [(.int ((2 : Int32) + (1 : Int32))), (.int (((((((0 : Int32) + (1 : Int32)) + (1 : Int32)) + (1 : Int32)) - (1 : Int32)) + (1 : Int32)) - (1 : Int32)))])
    refine Go.via (fun t k => XS.iconst Xh329.here hx rfl (hb hby at_171) k) ?_
    show Go p.tables e below P T329 (mkF m 172 #[.val (.int pn), .val (.int c1), .val (.int c2), .val (.int c3), .val (.int c4), .val (.int ((2 : Int32) + (1 : Int32))), .val (.ref r_213), .val (.ref r_219), .val (.ref r_227), .val (.ref r_237), .val (.ref b246), .val (.int (1 : Int32)), .val (.ref r_219)] [(.int (1 : Int32)), (.int ((2 : Int32) + (1 : Int32))), (.int (((((((0 : Int32) + (1 : Int32)) + (1 : Int32)) + (1 : Int32)) - (1 : Int32)) + (1 : Int32)) - (1 : Int32)))])
    refine Go.via (fun t k => XS.isub Xh329.here hx rfl (hb hby at_172) rfl k) ?_
    show Go p.tables e below P T329 (mkF m 173 #[.val (.int pn), .val (.int c1), .val (.int c2), .val (.int c3), .val (.int c4), .val (.int ((2 : Int32) + (1 : Int32))), .val (.ref r_213), .val (.ref r_219), .val (.ref r_227), .val (.ref r_237), .val (.ref b246), .val (.int (1 : Int32)), .val (.ref r_219)] [(.int (((2 : Int32) + (1 : Int32)) - (1 : Int32))), (.int (((((((0 : Int32) + (1 : Int32)) + (1 : Int32)) + (1 : Int32)) - (1 : Int32)) + (1 : Int32)) - (1 : Int32)))])
    refine Go.via (fun t k => XS.icmpNo Xh329.here hx rfl (hb hby at_173) rfl (teq (by decide : (((((((0 : Int32) + (1 : Int32)) + (1 : Int32)) + (1 : Int32)) - (1 : Int32)) + (1 : Int32)) - (1 : Int32)) = (((2 : Int32) + (1 : Int32)) - (1 : Int32)))).2 k) ?_
    show Go p.tables e below P T329 (mkF m 176 #[.val (.int pn), .val (.int c1), .val (.int c2), .val (.int c3), .val (.int c4), .val (.int ((2 : Int32) + (1 : Int32))), .val (.ref r_213), .val (.ref r_219), .val (.ref r_227), .val (.ref r_237), .val (.ref b246), .val (.int (1 : Int32)), .val (.ref r_219)] [])
    refine Go.via (fun t k => XS.iconst Xh329.here hx rfl (hb hby at_176) k) ?_
    show Go p.tables e below P T329 (mkF m 177 #[.val (.int pn), .val (.int c1), .val (.int c2), .val (.int c3), .val (.int c4), .val (.int ((2 : Int32) + (1 : Int32))), .val (.ref r_213), .val (.ref r_219), .val (.ref r_227), .val (.ref r_237), .val (.ref b246), .val (.int (1 : Int32)), .val (.ref r_219)] [(.int (1 : Int32))])
    refine Go.via (fun t k => XS.goto Xh329.here hx rfl (pc0 := 177) (pc' := 181) rfl (hb hby at_177) (by decide) (by decide) k) ?_
    show Go p.tables e below P T329 (mkF m 181 #[.val (.int pn), .val (.int c1), .val (.int c2), .val (.int c3), .val (.int c4), .val (.int ((2 : Int32) + (1 : Int32))), .val (.ref r_213), .val (.ref r_219), .val (.ref r_227), .val (.ref r_237), .val (.ref b246), .val (.int (1 : Int32)), .val (.ref r_219)] [(.int (1 : Int32))])
    refine Go.via (fun t k => XS.istore Xh329.here hx rfl (hb hby at_181) rfl (l' := #[.val (.int pn), .val (.int c1), .val (.int c2), .val (.int c3), .val (.int c4), .val (.int ((2 : Int32) + (1 : Int32))), .val (.ref r_213), .val (.ref r_219), .val (.ref r_227), .val (.ref r_237), .val (.ref b246), .val (.int (1 : Int32)), .val (.ref r_219)]) rfl k) ?_
    show Go p.tables e below P T329 (mkF m 183 #[.val (.int pn), .val (.int c1), .val (.int c2), .val (.int c3), .val (.int c4), .val (.int ((2 : Int32) + (1 : Int32))), .val (.ref r_213), .val (.ref r_219), .val (.ref r_227), .val (.ref r_237), .val (.ref b246), .val (.int (1 : Int32)), .val (.ref r_219)] [])
    refine Go.via (fun t k => XS.iload Xh329.here hx rfl (hb hby at_183) rfl k) ?_
    show Go p.tables e below P T329 (mkF m 185 #[.val (.int pn), .val (.int c1), .val (.int c2), .val (.int c3), .val (.int c4), .val (.int ((2 : Int32) + (1 : Int32))), .val (.ref r_213), .val (.ref r_219), .val (.ref r_227), .val (.ref r_237), .val (.ref b246), .val (.int (1 : Int32)), .val (.ref r_219)] [(.int ((2 : Int32) + (1 : Int32)))])
    refine Go.via (fun t k => XS.iconst Xh329.here hx rfl (hb hby at_185) k) ?_
    show Go p.tables e below P T329 (mkF m 186 #[.val (.int pn), .val (.int c1), .val (.int c2), .val (.int c3), .val (.int c4), .val (.int ((2 : Int32) + (1 : Int32))), .val (.ref r_213), .val (.ref r_219), .val (.ref r_227), .val (.ref r_237), .val (.ref b246), .val (.int (1 : Int32)), .val (.ref r_219)] [(.int (2 : Int32)), (.int ((2 : Int32) + (1 : Int32)))])
    refine Go.via (fun t k => XS.icmpNo Xh329.here hx rfl (hb hby at_186) rfl (flt (by decide : ¬ (((2 : Int32) + (1 : Int32)) < (2 : Int32)))).1 k) ?_
    show Go p.tables e below P T329 (mkF m 189 #[.val (.int pn), .val (.int c1), .val (.int c2), .val (.int c3), .val (.int c4), .val (.int ((2 : Int32) + (1 : Int32))), .val (.ref r_213), .val (.ref r_219), .val (.ref r_227), .val (.ref r_237), .val (.ref b246), .val (.int (1 : Int32)), .val (.ref r_219)] [])
    refine Go.via (fun t k => XS.iload Xh329.here hx rfl (hb hby at_189) rfl k) ?_
    show Go p.tables e below P T329 (mkF m 191 #[.val (.int pn), .val (.int c1), .val (.int c2), .val (.int c3), .val (.int c4), .val (.int ((2 : Int32) + (1 : Int32))), .val (.ref r_213), .val (.ref r_219), .val (.ref r_227), .val (.ref r_237), .val (.ref b246), .val (.int (1 : Int32)), .val (.ref r_219)] [(.int (1 : Int32))])
    refine Go.via (fun t k => XS.ifNo Xh329.here hx rfl (hb hby at_191) rfl ((if0 _ _).trans (feq (by decide : ¬ ((1 : Int32) = (0 : Int32)))).1) k) ?_
    show Go p.tables e below P T329 (mkF m 194 #[.val (.int pn), .val (.int c1), .val (.int c2), .val (.int c3), .val (.int c4), .val (.int ((2 : Int32) + (1 : Int32))), .val (.ref r_213), .val (.ref r_219), .val (.ref r_227), .val (.ref r_237), .val (.ref b246), .val (.int (1 : Int32)), .val (.ref r_219)] [])
    refine Go.via (fun t k => XS.aload Xh329.here hx rfl (hb hby at_194) rfl rfl k) ?_
    show Go p.tables e below P T329 (mkF m 196 #[.val (.int pn), .val (.int c1), .val (.int c2), .val (.int c3), .val (.int c4), .val (.int ((2 : Int32) + (1 : Int32))), .val (.ref r_213), .val (.ref r_219), .val (.ref r_227), .val (.ref r_237), .val (.ref b246), .val (.int (1 : Int32)), .val (.ref r_219)] [(.ref r_219)])
    refine Go.via (fun t k => XS.aload Xh329.here hx rfl (hb hby at_196) rfl rfl k) ?_
    show Go p.tables e below P T329 (mkF m 198 #[.val (.int pn), .val (.int c1), .val (.int c2), .val (.int c3), .val (.int c4), .val (.int ((2 : Int32) + (1 : Int32))), .val (.ref r_213), .val (.ref r_219), .val (.ref r_227), .val (.ref r_237), .val (.ref b246), .val (.int (1 : Int32)), .val (.ref r_219)] [(.ref b246), (.ref r_219)])
    obtain ⟨cq330, kq330, q330a, q330b, q330c⟩ := isOf hZ hh329 u321_0
    obtain ⟨_, _, ⟨T330, L330, k330, n330⟩, -, X330, ⟨Lc330, hQ330, l330, y330, z330⟩, st330⟩ := Xh329.virtualBack hx (y := (⟨"com/example/referee/referee/parse/OpenElements", "innermost", "()Ljava/lang/String;"⟩ : MethodName)) (z := (⟨"com/example/referee/referee/parse/OpenElements", "innermost", "()Ljava/lang/String;"⟩ : MethodName)) hown (mvT hZ (hw _ (List.mem_of_getElem? (i := 68) rfl))) (mvT hZ (hw _ (List.mem_of_getElem? (i := 69) rfl))) (notFace_of_selects (args := #[]) (mvT hZ (hw _ (List.mem_of_getElem? (i := 71) rfl)))) (mvT hZ (hw _ (List.mem_of_getElem? (i := 71) rfl))) (mvT hZ (hw _ (List.mem_of_getElem? (i := 70) rfl))) (by decide) (backOf (W := 1) (rm12 l Z a0 hw [] b246 sh_263 ks_263 (((((((0 : Int32) + (1 : Int32)) + (1 : Int32)) + (1 : Int32)) - (1 : Int32)) + (1 : Int32)) - (1 : Int32)) (((((((List.replicate 64 .null).set 0 (.ref r_213)).set 1 (.ref r_219)).set 2 (.ref r_227)).set 2 .null).set 2 (.ref r_237)).set 2 .null) 1 r_219 T321.heap n0 Z322 u321_0 u321_1 u321_2 u321_3 (by decide) (by decide) (by decide) rfl) hZ (hw _ (List.mem_of_getElem? (i := 72) rfl)) (hw _ (List.mem_of_getElem? (i := 37) rfl)) (by decide) (by decide)) q330a q330c (g := (mkF m 198 #[.val (.int pn), .val (.int c1), .val (.int c2), .val (.int c3), .val (.int c4), .val (.int ((2 : Int32) + (1 : Int32))), .val (.ref r_213), .val (.ref r_219), .val (.ref r_227), .val (.ref r_237), .val (.ref b246), .val (.int (1 : Int32)), .val (.ref r_219)] [(.ref b246), (.ref r_219)])) rfl (by rw [hml]; rfl) (Steps.refl _) (argsL := []) (rest := [(.ref r_219)]) (lenOf own_pd5 rfl) rfl (by show 2 * 0 + _ ≤ _; exact Nat.le_of_eq rfl) (hb hby at_198) (fun _ _ => ⟨rfl, hh329, (by decide : 16 + 0 ≤ _), (by decide : 372 + 0 ≤ _)⟩)
    dsimp only [Pt.U, Pt.locs, Pt.cells, Pt.slots] at X330 l330 y330 z330 st330 hQ330
    subst l330 y330 z330
    obtain ⟨rfl, Nq330, hh330⟩ := hQ330
    obtain ⟨lc330, Xh330, N330⟩ := own_hide X330 (Fr.app N329 Nq330)
    clear X330
    refine Go.hop st330 ?_
    show Go p.tables e below P T330 (mkF m 201 #[.val (.int pn), .val (.int c1), .val (.int c2), .val (.int c3), .val (.int c4), .val (.int ((2 : Int32) + (1 : Int32))), .val (.ref r_213), .val (.ref r_219), .val (.ref r_227), .val (.ref r_237), .val (.ref b246), .val (.int (1 : Int32)), .val (.ref r_219)] [(.ref r_219), (.ref r_219)])
    obtain ⟨cq331, kq331, q331a, q331b, q331c⟩ := isOf hZ hh330 F326
    obtain ⟨_, _, ⟨T331, L331, k331, n331⟩, -, X331, ⟨Lc331, hQ331, l331, y331, z331⟩, st331⟩ := Xh330.virtualBack hx (y := (⟨"java/lang/String", "equals", "(Ljava/lang/Object;)Z"⟩ : MethodName)) (z := (⟨"java/lang/String", "equals", "(Ljava/lang/Object;)Z"⟩ : MethodName)) hown (mvT hZ (hw _ (List.mem_of_getElem? (i := 73) rfl))) (mvT hZ (hw _ (List.mem_of_getElem? (i := 74) rfl))) (notFace_of_selects (args := #[]) (mvT hZ (hw _ (List.mem_of_getElem? (i := 76) rfl)))) (mvT hZ (hw _ (List.mem_of_getElem? (i := 76) rfl))) (mvT hZ (hw _ (List.mem_of_getElem? (i := 75) rfl))) (by decide) (backOf (W := 0) (rm13 l Z a0 hw [] r_219 T321.heap n0 Z322 ) hZ (hw _ (List.mem_of_getElem? (i := 77) rfl)) (hw _ (List.mem_of_getElem? (i := 8) rfl)) (by decide) (by decide)) q331a q331c (g := (mkF m 201 #[.val (.int pn), .val (.int c1), .val (.int c2), .val (.int c3), .val (.int c4), .val (.int ((2 : Int32) + (1 : Int32))), .val (.ref r_213), .val (.ref r_219), .val (.ref r_227), .val (.ref r_237), .val (.ref b246), .val (.int (1 : Int32)), .val (.ref r_219)] [(.ref r_219), (.ref r_219)])) rfl (by rw [hml]; rfl) (Steps.refl _) (argsL := [(.ref r_219)]) (rest := []) (lenOf own_pd6 rfl) rfl (by show 2 * 0 + _ ≤ _; exact Nat.le_of_eq rfl) (hb hby at_201) (fun _ _ => ⟨rfl, hh330, (by decide : 16 + 0 ≤ _), (by decide : 372 + 0 ≤ _)⟩)
    dsimp only [Pt.U, Pt.locs, Pt.cells, Pt.slots] at X331 l331 y331 z331 st331 hQ331
    subst l331 y331 z331
    obtain ⟨rfl, Nq331, hh331⟩ := hQ331
    obtain ⟨lc331, Xh331, N331⟩ := own_hide X331 (Fr.app N330 Nq331)
    clear X331
    refine Go.hop st331 ?_
    show Go p.tables e below P T331 (mkF m 204 #[.val (.int pn), .val (.int c1), .val (.int c2), .val (.int c3), .val (.int c4), .val (.int ((2 : Int32) + (1 : Int32))), .val (.ref r_213), .val (.ref r_219), .val (.ref r_227), .val (.ref r_237), .val (.ref b246), .val (.int (1 : Int32)), .val (.ref r_219)] [(.int (1 : Int32))])
    refine Go.via (fun t k => XS.ifNo Xh331.here hx rfl (hb hby at_204) rfl ((if0 _ _).trans (feq (by decide : ¬ ((1 : Int32) = (0 : Int32)))).1) k) ?_
    show Go p.tables e below P T331 (mkF m 207 #[.val (.int pn), .val (.int c1), .val (.int c2), .val (.int c3), .val (.int c4), .val (.int ((2 : Int32) + (1 : Int32))), .val (.ref r_213), .val (.ref r_219), .val (.ref r_227), .val (.ref r_237), .val (.ref b246), .val (.int (1 : Int32)), .val (.ref r_219)] [])
    refine Go.via (fun t k => XS.iconst Xh331.here hx rfl (hb hby at_207) k) ?_
    show Go p.tables e below P T331 (mkF m 208 #[.val (.int pn), .val (.int c1), .val (.int c2), .val (.int c3), .val (.int c4), .val (.int ((2 : Int32) + (1 : Int32))), .val (.ref r_213), .val (.ref r_219), .val (.ref r_227), .val (.ref r_237), .val (.ref b246), .val (.int (1 : Int32)), .val (.ref r_219)] [(.int (1 : Int32))])
    refine Go.via (fun t k => XS.goto Xh331.here hx rfl (pc0 := 208) (pc' := 212) rfl (hb hby at_208) (by decide) (by decide) k) ?_
    show Go p.tables e below P T331 (mkF m 212 #[.val (.int pn), .val (.int c1), .val (.int c2), .val (.int c3), .val (.int c4), .val (.int ((2 : Int32) + (1 : Int32))), .val (.ref r_213), .val (.ref r_219), .val (.ref r_227), .val (.ref r_237), .val (.ref b246), .val (.int (1 : Int32)), .val (.ref r_219)] [(.int (1 : Int32))])
    refine Go.via (fun t k => XS.istore Xh331.here hx rfl (hb hby at_212) rfl (l' := #[.val (.int pn), .val (.int c1), .val (.int c2), .val (.int c3), .val (.int c4), .val (.int ((2 : Int32) + (1 : Int32))), .val (.ref r_213), .val (.ref r_219), .val (.ref r_227), .val (.ref r_237), .val (.ref b246), .val (.int (1 : Int32)), .val (.ref r_219)]) rfl k) ?_
    show Go p.tables e below P T331 (mkF m 214 #[.val (.int pn), .val (.int c1), .val (.int c2), .val (.int c3), .val (.int c4), .val (.int ((2 : Int32) + (1 : Int32))), .val (.ref r_213), .val (.ref r_219), .val (.ref r_227), .val (.ref r_237), .val (.ref b246), .val (.int (1 : Int32)), .val (.ref r_219)] [])
    refine Go.via (fun t k => XS.iload Xh331.here hx rfl (hb hby at_214) rfl k) ?_
    show Go p.tables e below P T331 (mkF m 216 #[.val (.int pn), .val (.int c1), .val (.int c2), .val (.int c3), .val (.int c4), .val (.int ((2 : Int32) + (1 : Int32))), .val (.ref r_213), .val (.ref r_219), .val (.ref r_227), .val (.ref r_237), .val (.ref b246), .val (.int (1 : Int32)), .val (.ref r_219)] [(.int (1 : Int32))])
    obtain ⟨fs, hr, hrun, hended, hW, hsame⟩ := Xh331.leave (v := some (.int (1 : Int32))) (fun h => by rw [Bd.returns] at h; cases h)
    refine ⟨_, _, retZ Xh331 hx (t := .boolean) Bd.returns (by simp) (hb hby at_216) rfl hr, hrun, hended, hP _ _ ⟨_, _, rfl, ?_, ⟨_, rfl⟩, hW, hsame.mono (by decide) (by decide)⟩⟩
    show Q0 Z pn c1 c2 c3 c4 cs h0 n0 _ T331.heap _
    rw [hh331]
    exact ⟨rfl, N331⟩
set_option maxRecDepth 65536 in
set_option maxHeartbeats 40000000 in
theorem comes_1 {Post : Tables → Env → Array Value → State → Outcome → State → Prop} (hpost : ∀ tb e args s v u, (limb_1_1.after args s (.returned v) u = true ∧ limb_1_2.after args s (.returned v) u = true ∧ True) → FrameEnd s (.returned v) u (Jvm.fieldLocs frame_1_writes args s ++ Jvm.arrayLocs frame_1_arrays args s ++ Jvm.staticLocs frame_1_statics s) 40 832 → Post tb e args s (.returned v) u) :
    ArmFor flags0 classFile x code maxLocals ret World_1 tables_1 room_1 Calls_1 rest_1 Pre_1 Post := by
  intro l hfl _ _ p e ha hc hk s m args below hf hA hF happ hP
  obtain ⟨hcalls, hrest, hpre⟩ := hP
  obtain ⟨-, -, -, hnamed, -, -, -, hat⟩ := (Spec.applies_iff hf).mp happ
  obtain ⟨hg, hn⟩ := and_e (Cond.before_iff.mp (show (Jvm.Cond.and given_1 narrow_1).before args s = true from hpre))
  obtain ⟨hv0, hr0⟩ := and_e hg
  obtain ⟨hv1, hr1⟩ := and_e hr0
  obtain ⟨hv2, hr2⟩ := and_e hr1
  obtain ⟨hv3, hr3⟩ := and_e hr2
  obtain ⟨hv4, hr4⟩ := and_e hr3
  obtain ⟨w0, w1, w2, w3, w4, rfl⟩ : ∃ w0 w1 w2 w3 w4 : Value, args = #[w0, w1, w2, w3, w4] := by
    have hs : args.size = 5 := by simpa [Cond.value, given_1] using hv0
    obtain ⟨L⟩ := args
    match L, hs with
    | [w0, w1, w2, w3, w4], _ => exact ⟨w0, w1, w2, w3, w4, rfl⟩
  have hw := fun d (hd : d ∈ tables_1) => atoms_spec (ws := Jvm.Cond.code x code maxLocals ret :: tables_1) hat d (List.mem_cons_of_mem _ hd)
  have hfit : Fit s := fun {y c} hc i hi => by
    obtain ⟨ha, rfl⟩ := Array.getElem?_eq_some_iff.mp hc
    have q := List.all_eq_true.mp ((Array.all_eq_true_iff_forall_mem.mp hF) _ (Array.getElem_mem ha)) i (List.mem_range.mpr hi)
    simpa [Array.getElem?_eq_getElem hi] using q
  obtain ⟨hsets, hown0⟩ := atoms_of _ (rest_1_c_eq ▸ (show rest_1_c.before _ s = true from hrest))
  have hr00 := Cond.before_iff.mp hown0
  obtain ⟨i0, ei0⟩ := is_v hv1
  obtain rfl : w0 = (.int i0) := Option.some.inj ei0
  obtain ⟨i1, ei1⟩ := is_v hv2
  obtain rfl : w1 = (.int i1) := Option.some.inj ei1
  obtain ⟨i2, ei2⟩ := is_v hv3
  obtain rfl : w2 = (.int i2) := Option.some.inj ei2
  obtain ⟨i3, ei3⟩ := is_v hv4
  obtain rfl : w3 = (.int i3) := Option.some.inj ei3
  obtain ⟨i4, ei4⟩ := is_v hr4
  obtain rfl : w4 = (.int i4) := Option.some.inj ei4
  have ncs := not_v (Cond.before_iff.mp (hsets _ (List.mem_of_getElem? (i := 2) rfl)))
  obtain ⟨cs, ecs⟩ := is_v (Cond.before_iff.mp (hsets _ (List.mem_of_getElem? (i := 1) rfl)))
  have Scs : Sta s s.heap "java/lang/String" "COMPACT_STRINGS" "Z" (.int cs) := Sta.start ecs (Or.inl (hsets _ (List.mem_of_getElem? (i := 0) rfl)))
  have hcs : ¬ (cs = (0 : Int32)) := gotF (Cond.eq_ints ecs (Term.int_eval (0))) ncs
  obtain ⟨n, o, h1, h2, h3, _, L, rfl, ⟨rfl, N⟩, hq⟩ := rm0 l s _ hw tables_1 i0 i1 i2 i3 i4 cs s.heap s.heap.size (Nat.le_refl _) (Old.start s) Scs hcs p e ha hc hk s m _ below hf ((Spec.applies_iff_loose hf).mp happ).1 ⟨rfl, State.Warmed39.refl s, rfl⟩ trivial
  refine ⟨n, _, h1, h2, h3, hpost _ _ _ _ _ _ ⟨Cond.after_iff.mpr rfl, Cond.after_iff.mpr (eq_i res_at (Term.int_eval (1)) rfl), trivial⟩ ⟨hq.1, hq.2.1, (hq.2.2.sift fun y hy => Or.inr (N y hy)).mono (by decide) (by decide)⟩⟩
theorem main_1_1 : Claimed_1_1 := comes_1 fun _ _ _ _ _ _ h hF => ⟨h.1, hF⟩
theorem main_1_2 : Claimed_1_2 := comes_1 fun _ _ _ _ _ _ h hF => ⟨h.2.1, hF⟩
end Jvm.Pilot.@@N@@
namespace Jvm.Pilot.@@N@@
open Jvm Jvm.ClassFile Sem Op Lib Jvm.Free Jvm.Stand Jvm.Pilot.@@N@@.Jvm.D
/-! MADE BY PROGRAM (witnessworld.py) out of the Statement's table words and the real class files: 21 classes; the members and pool entries that the words name. The judged class is class 1, her method 2. -/
namespace start1
open Jvm.ClassFile
def u (s : String) : CpInfo := .utf8 (stringToUtf16 s)
/-- a pool by its gaps: so many unusable entries, then the entry; so many at the end -/
def gap : Nat → List CpInfo → List CpInfo
  | 0, r => r
  | n + 1, r => .unusable :: gap n r
def poolList (es : List (Nat × CpInfo)) (last : Nat) : List CpInfo := es.foldr (fun e r => gap e.1 (e.2 :: r)) (gap last [])
def pool (es : List (Nat × CpInfo)) (last : Nat) : Array CpInfo := ⟨poolList es last⟩
def fileOf (pool : Array CpInfo) (this : Nat) (attrs : Array Attribute := #[]) (ms : Array MethodInfo := #[]) (fl : Nat := 33) (sup : Nat := 0) (ifs : Array Nat := #[]) (fds : Array FieldInfo := #[]) : ClassFile where
  minorVersion := 0
  majorVersion := 65
  constantPool := pool
  accessFlags := fl
  thisClass := this
  superClass := sup
  interfaces := ifs
  fields := fds
  methods := ms
  attributes := attrs
def plain (name : String) (sup : Option ClassId) : Class where
  name := name
  kind := .ordinary
  loader := none
  accessFlags := 33
  super := sup
  interfaces := #[]
  cf := none
  fields := #[]
  methods := #[]
  instanceTypes := #[]
  staticTypes := #[]
  resolved := #[]
  callSites := []
  init := .initialized
  statics := none
  mirror := none

def pool0 : Array CpInfo := pool [(5, u "<init>"), (0, u "()V"), (1, .class_ 10), (1, u "java/lang/Object")] 113

def k0c0 : Code := { maxStack := 0, maxLocals := 1, code := object_method_1_code, exceptionTable := #[], attributes := #[] }
def k0m0 : Method := { name := "<init>", desc := "()V", sig := { parameters := [], returnType := none }, accessFlags := 1, code := some k0c0 }
/-- java/lang/Object -/
def k0 : Class := { plain "java/lang/Object" none with
  accessFlags := 33
  interfaces := #[]
  cf := some (fileOf pool0 8 #[] #[{ accessFlags := 1, nameIndex := 5, descriptorIndex := 6, attributes := #[] }] 33 0 #[] #[])
  fields := #[]
  methods := #[k0m0]
  instanceTypes := #[]
  staticTypes := #[]
  resolved := Array.replicate 124 none
  statics := none }

def pool1 : Array CpInfo := pool [(2, .class_ 4), (0, .nameAndType 5 6), (0, u "java/lang/Object"), (0, u "<init>"), (0, u "()V"), (0, .class_ 8), (0, u "java/lang/String"), (0, .methodref 7 10), (0, .nameAndType 5 11), (0, u "([C)V"), (0, .integer 2147483647), (0, .methodref 14 15), (0, .class_ 16), (0, .nameAndType 17 18), (0, u "com/example/referee/referee/parse/OpenElementsPopPinLaw"), (0, u "str"), (0, u "(I)Ljava/lang/String;"), (0, .class_ 20), (0, u "com/example/referee/referee/parse/OpenElements"), (0, .methodref 19 3), (0, .methodref 19 23), (0, .nameAndType 24 25), (0, u "push"), (0, u "(Ljava/lang/String;)V"), (0, .methodref 19 27), (0, .nameAndType 28 6), (0, u "pop"), (0, .methodref 19 30), (0, .nameAndType 31 32), (0, u "size"), (0, u "()I"), (0, .methodref 19 34), (0, .nameAndType 35 36), (0, u "innermost"), (0, u "()Ljava/lang/String;"), (0, .methodref 7 38), (0, .nameAndType 39 40), (0, u "equals"), (0, u "(Ljava/lang/Object;)Z"), (2, u "law"), (0, u "(IIIII)Z")] 3

def k1m0 : Method := { name := "<init>", desc := "()V", sig := { parameters := [], returnType := none }, accessFlags := 1, code := none }
def k1c1 : Code := { maxStack := 4, maxLocals := 2, code := method_2_code, exceptionTable := #[], attributes := #[] }
def k1m1 : Method := { name := "str", desc := "(I)Ljava/lang/String;", sig := { parameters := [.int], returnType := some (.object "java/lang/String") }, accessFlags := 10, code := some k1c1 }
def k1c2 : Code := { maxStack := 3, maxLocals := 13, code := code, exceptionTable := #[], attributes := #[] }
def k1m2 : Method := { name := "law", desc := "(IIIII)Z", sig := { parameters := [.int, .int, .int, .int, .int], returnType := some .boolean }, accessFlags := 9, code := some k1c2 }
/-- com/example/referee/referee/parse/OpenElementsPopPinLaw -/
def k1 : Class := { plain "com/example/referee/referee/parse/OpenElementsPopPinLaw" (some 0) with
  accessFlags := 49
  interfaces := #[]
  cf := some (fileOf pool1 14 #[] #[{ accessFlags := 1, nameIndex := 5, descriptorIndex := 6, attributes := #[] }, { accessFlags := 10, nameIndex := 17, descriptorIndex := 18, attributes := #[] }, { accessFlags := 9, nameIndex := 43, descriptorIndex := 44, attributes := #[] }] 49 2 #[] #[])
  fields := #[]
  methods := #[k1m0, k1m1, k1m2]
  instanceTypes := #[]
  staticTypes := #[]
  resolved := Array.replicate 48 none
  statics := none }

def pool2 : Array CpInfo := pool [(1, .class_ 2), (0, u "java/io/Serializable"), (0, .class_ 4), (0, u "java/lang/Object")] 2

/-- java/io/Serializable -/
def k2 : Class := { plain "java/io/Serializable" (some 0) with
  accessFlags := 1537
  interfaces := #[]
  cf := some (fileOf pool2 1 #[] #[] 1537 3 #[] #[])
  fields := #[]
  methods := #[]
  instanceTypes := #[]
  staticTypes := #[]
  resolved := Array.replicate 7 none
  statics := none }

def pool3 : Array CpInfo := pool [(1, .class_ 2), (0, u "java/lang/Comparable"), (0, .class_ 4), (0, u "java/lang/Object")] 7

/-- java/lang/Comparable -/
def k3 : Class := { plain "java/lang/Comparable" (some 0) with
  accessFlags := 1537
  interfaces := #[]
  cf := some (fileOf pool3 1 #[] #[] 1537 3 #[] #[])
  fields := #[]
  methods := #[]
  instanceTypes := #[]
  staticTypes := #[]
  resolved := Array.replicate 12 none
  statics := none }

def pool4 : Array CpInfo := pool [(2, .class_ 4), (1, u "java/lang/CharSequence"), (42, .class_ 48), (0, u "java/lang/CharSequence$1CodePointIterator"), (10, .class_ 60), (0, u "java/lang/CharSequence$1CharIterator"), (5, .class_ 67), (0, u "java/lang/Object")] 63

/-- java/lang/CharSequence -/
def k4 : Class := { plain "java/lang/CharSequence" (some 0) with
  accessFlags := 1537
  interfaces := #[]
  cf := some (fileOf pool4 2 #[.nestMembers #[47, 59]] #[] 1537 66 #[] #[])
  fields := #[]
  methods := #[]
  instanceTypes := #[]
  staticTypes := #[]
  resolved := Array.replicate 131 none
  statics := none }

def pool5 : Array CpInfo := pool [(1, .class_ 2), (0, u "java/lang/constant/Constable"), (0, .class_ 4), (0, u "java/lang/Object")] 6

/-- java/lang/constant/Constable -/
def k5 : Class := { plain "java/lang/constant/Constable" (some 0) with
  accessFlags := 1537
  interfaces := #[]
  cf := some (fileOf pool5 1 #[] #[] 1537 3 #[] #[])
  fields := #[]
  methods := #[]
  instanceTypes := #[]
  staticTypes := #[]
  resolved := Array.replicate 11 none
  statics := none }

def pool6 : Array CpInfo := pool [(1, .class_ 2), (0, u "java/lang/constant/ConstantDesc"), (0, .class_ 4), (0, u "java/lang/Object")] 32

/-- java/lang/constant/ConstantDesc -/
def k6 : Class := { plain "java/lang/constant/ConstantDesc" (some 0) with
  accessFlags := 1537
  interfaces := #[]
  cf := some (fileOf pool6 1 #[] #[] 1537 3 #[] #[])
  fields := #[]
  methods := #[]
  instanceTypes := #[]
  staticTypes := #[]
  resolved := Array.replicate 37 none
  statics := none }

def pool7 : Array CpInfo := pool [(1, .methodref 2 3), (0, .class_ 4), (0, .nameAndType 5 6), (0, u "java/lang/Object"), (0, u "<init>"), (0, u "()V"), (2, .fieldref 10 11), (0, .class_ 12), (0, .nameAndType 13 14), (0, u "java/lang/String"), (0, u "value"), (0, u "[B"), (0, .fieldref 10 16), (0, .nameAndType 17 18), (0, u "coder"), (0, u "B"), (2, u "hash"), (0, u "I"), (2, u "hashIsZero"), (0, u "Z"), (0, .methodref 10 28), (0, .nameAndType 5 29), (0, u "([CIILjava/lang/Void;)V"), (8, .fieldref 10 39), (0, .nameAndType 40 26), (0, u "COMPACT_STRINGS"), (1, .class_ 44), (1, u "java/lang/StringUTF16"), (0, u "compress"), (1, .methodref 42 48), (0, .nameAndType 49 50), (0, u "coderFromArrayLen"), (0, u "([BI)B"), (126, .methodref 42 178), (0, .nameAndType 45 179), (0, u "([CII)[B"), (363, u "equals"), (29, u "(Ljava/lang/Object;)Z"), (1, .class_ 576), (0, u "java/lang/CharSequence"), (22, u "CASE_INSENSITIVE_ORDER"), (0, u "Ljava/util/Comparator;"), (409, u "([C)V"), (90, u "serialPersistentFields"), (0, u "[Ljava/io/ObjectStreamField;"), (0, .class_ 1104), (0, u "java/lang/String$CaseInsensitiveComparator"), (1, .class_ 1107), (0, u "java/io/Serializable"), (0, .class_ 1109), (0, u "java/lang/Comparable"), (0, .class_ 1111), (0, u "java/lang/constant/Constable"), (0, .class_ 1113), (0, u "java/lang/constant/ConstantDesc"), (2, u "serialVersionUID"), (0, u "J"), (3, u "REPL"), (0, u "C"), (2, u "LATIN1"), (1, u "UTF16")] 323

def k7m0 : Method := { name := "<init>", desc := "()V", sig := { parameters := [], returnType := none }, accessFlags := 1, code := none }
def k7c1 : Code := { maxStack := 5, maxLocals := 2, code := jdk_42_method_3_code, exceptionTable := #[], attributes := #[] }
def k7m1 : Method := { name := "<init>", desc := "([C)V", sig := { parameters := [(.array .char)], returnType := none }, accessFlags := 1, code := some k7c1 }
def k7c2 : Code := { maxStack := 2, maxLocals := 3, code := jdk_42_method_66_code, exceptionTable := #[], attributes := #[] }
def k7m2 : Method := { name := "equals", desc := "(Ljava/lang/Object;)Z", sig := { parameters := [(.object "java/lang/Object")], returnType := some .boolean }, accessFlags := 1, code := some k7c2 }
def k7c3 : Code := { maxStack := 4, maxLocals := 6, code := jdk_42_method_149_code, exceptionTable := #[], attributes := #[] }
def k7m3 : Method := { name := "<init>", desc := "([CIILjava/lang/Void;)V", sig := { parameters := [(.array .char), .int, .int, (.object "java/lang/Void")], returnType := none }, accessFlags := 2, code := some k7c3 }
/-- java/lang/String -/
def k7 : Class := { plain "java/lang/String" (some 0) with
  accessFlags := 49
  interfaces := #[2, 3, 4, 5, 6]
  cf := some (fileOf pool7 10 #[.nestMembers #[1103]] #[{ accessFlags := 1, nameIndex := 5, descriptorIndex := 6, attributes := #[] }, { accessFlags := 1, nameIndex := 5, descriptorIndex := 1010, attributes := #[] }, { accessFlags := 1, nameIndex := 543, descriptorIndex := 573, attributes := #[] }, { accessFlags := 2, nameIndex := 5, descriptorIndex := 29, attributes := #[] }] 49 2 #[1106, 1108, 575, 1110, 1112] #[{ accessFlags := 18, nameIndex := 13, descriptorIndex := 14, attributes := #[] }, { accessFlags := 18, nameIndex := 17, descriptorIndex := 18, attributes := #[] }, { accessFlags := 2, nameIndex := 21, descriptorIndex := 22, attributes := #[] }, { accessFlags := 2, nameIndex := 25, descriptorIndex := 26, attributes := #[] }, { accessFlags := 26, nameIndex := 1116, descriptorIndex := 1117, attributes := #[] }, { accessFlags := 24, nameIndex := 40, descriptorIndex := 26, attributes := #[] }, { accessFlags := 26, nameIndex := 1101, descriptorIndex := 1102, attributes := #[] }, { accessFlags := 26, nameIndex := 1121, descriptorIndex := 1122, attributes := #[] }, { accessFlags := 25, nameIndex := 599, descriptorIndex := 600, attributes := #[] }, { accessFlags := 24, nameIndex := 1125, descriptorIndex := 18, attributes := #[] }, { accessFlags := 24, nameIndex := 1127, descriptorIndex := 18, attributes := #[] }])
  fields := #[{ name := "value", type := (.array .byte), accessFlags := 18, slot := 0, constantValue := 0 }, { name := "coder", type := .byte, accessFlags := 18, slot := 1, constantValue := 0 }, { name := "hash", type := .int, accessFlags := 2, slot := 2, constantValue := 0 }, { name := "hashIsZero", type := .boolean, accessFlags := 2, slot := 3, constantValue := 0 }, { name := "serialVersionUID", type := .long, accessFlags := 26, slot := 0, constantValue := 0 }, { name := "COMPACT_STRINGS", type := .boolean, accessFlags := 24, slot := 1, constantValue := 0 }, { name := "serialPersistentFields", type := (.array (.object "java/io/ObjectStreamField")), accessFlags := 26, slot := 2, constantValue := 0 }, { name := "REPL", type := .char, accessFlags := 26, slot := 3, constantValue := 0 }, { name := "CASE_INSENSITIVE_ORDER", type := (.object "java/util/Comparator"), accessFlags := 25, slot := 4, constantValue := 0 }, { name := "LATIN1", type := .byte, accessFlags := 24, slot := 5, constantValue := 0 }, { name := "UTF16", type := .byte, accessFlags := 24, slot := 6, constantValue := 0 }]
  methods := #[k7m0, k7m1, k7m2, k7m3]
  instanceTypes := #[(.array .byte), .byte, .int, .boolean]
  staticTypes := #[.long, .boolean, (.array (.object "java/io/ObjectStreamField")), .char, (.object "java/util/Comparator"), .byte, .byte]
  resolved := Array.replicate 1451 none
  statics := some 0 }

def pool8 : Array CpInfo := pool [(6, .class_ 8), (1, u "java/lang/Object"), (0, u "<init>"), (0, u "()V"), (1, .class_ 14), (1, u "java/lang/StringUTF16"), (31, u "$assertionsDisabled"), (0, u "Z"), (13, u "HI_BYTE_SHIFT"), (0, u "I"), (2, u "LO_BYTE_SHIFT"), (49, .methodref 12 116), (0, .nameAndType 117 118), (0, u "compress"), (0, u "([CI[BII)I"), (3, u "([CII)[B"), (138, u "coderFromArrayLen"), (0, u "([BI)B"), (106, .class_ 371), (1, u "java/lang/StringUTF16$LinesSpliterator"), (58, u "MAX_LENGTH"), (196, .class_ 628), (0, u "java/lang/StringUTF16$CodePointsSpliterator"), (0, .class_ 630), (0, u "java/lang/StringUTF16$CharsSpliterator")] 4

def k8m0 : Method := { name := "<init>", desc := "()V", sig := { parameters := [], returnType := none }, accessFlags := 0, code := none }
def k8c1 : Code := { maxStack := 2, maxLocals := 2, code := jdk_52_method_15_code, exceptionTable := #[], attributes := #[] }
def k8m1 : Method := { name := "coderFromArrayLen", desc := "([BI)B", sig := { parameters := [(.array .byte), .int], returnType := some .byte }, accessFlags := 8, code := some k8c1 }
def k8c2 : Code := { maxStack := 5, maxLocals := 6, code := jdk_52_method_16_code, exceptionTable := #[], attributes := #[] }
def k8m2 : Method := { name := "compress", desc := "([CII)[B", sig := { parameters := [(.array .char), .int, .int], returnType := some (.array .byte) }, accessFlags := 9, code := some k8c2 }
def k8c3 : Code := { maxStack := 3, maxLocals := 7, code := jdk_52_method_21_code, exceptionTable := #[], attributes := #[] }
def k8m3 : Method := { name := "compress", desc := "([CI[BII)I", sig := { parameters := [(.array .char), .int, (.array .byte), .int, .int], returnType := some .int }, accessFlags := 9, code := some k8c3 }
/-- java/lang/StringUTF16 -/
def k8 : Class := { plain "java/lang/StringUTF16" (some 0) with
  accessFlags := 48
  interfaces := #[]
  cf := some (fileOf pool8 12 #[.nestMembers #[627, 629, 369]] #[{ accessFlags := 0, nameIndex := 9, descriptorIndex := 10, attributes := #[] }, { accessFlags := 8, nameIndex := 261, descriptorIndex := 262, attributes := #[] }, { accessFlags := 9, nameIndex := 117, descriptorIndex := 122, attributes := #[] }, { accessFlags := 9, nameIndex := 117, descriptorIndex := 118, attributes := #[] }] 48 6 #[] #[{ accessFlags := 26, nameIndex := 61, descriptorIndex := 62, attributes := #[] }, { accessFlags := 26, nameIndex := 65, descriptorIndex := 62, attributes := #[] }, { accessFlags := 24, nameIndex := 430, descriptorIndex := 62, attributes := #[] }, { accessFlags := 4120, nameIndex := 46, descriptorIndex := 47, attributes := #[] }])
  fields := #[{ name := "HI_BYTE_SHIFT", type := .int, accessFlags := 26, slot := 0, constantValue := 0 }, { name := "LO_BYTE_SHIFT", type := .int, accessFlags := 26, slot := 1, constantValue := 0 }, { name := "MAX_LENGTH", type := .int, accessFlags := 24, slot := 2, constantValue := 0 }, { name := "$assertionsDisabled", type := .boolean, accessFlags := 4120, slot := 3, constantValue := 0 }]
  methods := #[k8m0, k8m1, k8m2, k8m3]
  instanceTypes := #[]
  staticTypes := #[.int, .int, .int, .boolean]
  resolved := Array.replicate 635 none
  statics := none }

def pool9 : Array CpInfo := pool [(1, .methodref 2 3), (0, .class_ 4), (0, .nameAndType 5 6), (0, u "java/lang/Object"), (0, u "<init>"), (0, u "()V"), (0, .class_ 8), (0, u "com/example/referee/referee/parse/OpenElements"), (0, .class_ 10), (0, u "java/lang/String"), (0, .fieldref 7 12), (0, .nameAndType 13 14), (0, u "shallow"), (0, u "[Ljava/lang/String;"), (0, .fieldref 7 16), (0, .nameAndType 17 18), (0, u "names"), (0, u "[C"), (0, .fieldref 7 20), (0, .nameAndType 21 22), (0, u "ends"), (0, u "[I"), (0, .fieldref 7 24), (0, .nameAndType 25 26), (0, u "size"), (0, u "I"), (3, u "(Ljava/lang/String;)V"), (7, u "()I"), (34, u "SHALLOW"), (7, u "push"), (0, u "pop"), (0, u "innermost"), (0, u "()Ljava/lang/String;")] 3

def k9c0 : Code := { maxStack := 2, maxLocals := 1, code := prog_65_method_1_code, exceptionTable := #[], attributes := #[] }
def k9m0 : Method := { name := "<init>", desc := "()V", sig := { parameters := [], returnType := none }, accessFlags := 0, code := some k9c0 }
def k9c1 : Code := { maxStack := 1, maxLocals := 1, code := prog_65_method_2_code, exceptionTable := #[], attributes := #[] }
def k9m1 : Method := { name := "size", desc := "()I", sig := { parameters := [], returnType := some .int }, accessFlags := 0, code := some k9c1 }
def k9c2 : Code := { maxStack := 3, maxLocals := 2, code := prog_65_method_4_code, exceptionTable := #[], attributes := #[] }
def k9m2 : Method := { name := "push", desc := "(Ljava/lang/String;)V", sig := { parameters := [(.object "java/lang/String")], returnType := none }, accessFlags := 0, code := some k9c2 }
def k9c3 : Code := { maxStack := 3, maxLocals := 1, code := prog_65_method_6_code, exceptionTable := #[], attributes := #[] }
def k9m3 : Method := { name := "pop", desc := "()V", sig := { parameters := [], returnType := none }, accessFlags := 0, code := some k9c3 }
def k9c4 : Code := { maxStack := 7, maxLocals := 3, code := prog_65_method_7_code, exceptionTable := #[], attributes := #[] }
def k9m4 : Method := { name := "innermost", desc := "()Ljava/lang/String;", sig := { parameters := [], returnType := some (.object "java/lang/String") }, accessFlags := 0, code := some k9c4 }
/-- com/example/referee/referee/parse/OpenElements -/
def k9 : Class := { plain "com/example/referee/referee/parse/OpenElements" (some 0) with
  accessFlags := 32
  interfaces := #[]
  cf := some (fileOf pool9 7 #[] #[{ accessFlags := 0, nameIndex := 5, descriptorIndex := 6, attributes := #[] }, { accessFlags := 0, nameIndex := 25, descriptorIndex := 38, attributes := #[] }, { accessFlags := 0, nameIndex := 81, descriptorIndex := 30, attributes := #[] }, { accessFlags := 0, nameIndex := 82, descriptorIndex := 6, attributes := #[] }, { accessFlags := 0, nameIndex := 83, descriptorIndex := 84, attributes := #[] }] 32 2 #[] #[{ accessFlags := 26, nameIndex := 73, descriptorIndex := 26, attributes := #[] }, { accessFlags := 18, nameIndex := 13, descriptorIndex := 14, attributes := #[] }, { accessFlags := 2, nameIndex := 17, descriptorIndex := 18, attributes := #[] }, { accessFlags := 2, nameIndex := 21, descriptorIndex := 22, attributes := #[] }, { accessFlags := 2, nameIndex := 25, descriptorIndex := 26, attributes := #[] }])
  fields := #[{ name := "SHALLOW", type := .int, accessFlags := 26, slot := 0, constantValue := 0 }, { name := "shallow", type := (.array (.object "java/lang/String")), accessFlags := 18, slot := 0, constantValue := 0 }, { name := "names", type := (.array .char), accessFlags := 2, slot := 1, constantValue := 0 }, { name := "ends", type := (.array .int), accessFlags := 2, slot := 2, constantValue := 0 }, { name := "size", type := .int, accessFlags := 2, slot := 3, constantValue := 0 }]
  methods := #[k9m0, k9m1, k9m2, k9m3, k9m4]
  instanceTypes := #[(.array (.object "java/lang/String")), (.array .char), (.array .int), .int]
  staticTypes := #[.int]
  resolved := Array.replicate 88 none
  statics := none }

def pool10 : Array CpInfo := pool [(4, .class_ 6), (1, u "java/lang/Object"), (0, u "<init>"), (0, u "()V"), (5, .class_ 16), (1, u "java/lang/StringLatin1"), (104, u "$assertionsDisabled"), (0, u "Z"), (98, .class_ 223), (1, u "java/lang/StringLatin1$LinesSpliterator"), (166, .class_ 391), (0, u "java/lang/StringLatin1$CharsSpliterator")] 3

def k10m0 : Method := { name := "<init>", desc := "()V", sig := { parameters := [], returnType := none }, accessFlags := 0, code := none }
/-- java/lang/StringLatin1 -/
def k10 : Class := { plain "java/lang/StringLatin1" (some 0) with
  accessFlags := 48
  interfaces := #[]
  cf := some (fileOf pool10 14 #[.nestMembers #[390, 221]] #[{ accessFlags := 0, nameIndex := 7, descriptorIndex := 8, attributes := #[] }] 48 4 #[] #[{ accessFlags := 4120, nameIndex := 121, descriptorIndex := 122, attributes := #[] }])
  fields := #[{ name := "$assertionsDisabled", type := .boolean, accessFlags := 4120, slot := 0, constantValue := 0 }]
  methods := #[k10m0]
  instanceTypes := #[]
  staticTypes := #[.boolean]
  resolved := Array.replicate 395 none
  statics := none }

def pool11 : Array CpInfo := pool [(2, .class_ 4), (1, u "java/lang/Object"), (0, u "<init>"), (0, u "()V"), (17, .class_ 26), (1, u "jdk/internal/util/Preconditions"), (28, .class_ 56), (0, u "jdk/internal/util/Preconditions$4"), (57, .class_ 115), (0, u "jdk/internal/util/Preconditions$1"), (7, u "SIOOBE_FORMATTER"), (0, u "Ljava/util/function/BiFunction;"), (0, .class_ 126), (0, u "jdk/internal/util/Preconditions$2"), (3, u "AIOOBE_FORMATTER"), (0, .class_ 132), (0, u "jdk/internal/util/Preconditions$3"), (3, u "IOOBE_FORMATTER")] 57

def k11m0 : Method := { name := "<init>", desc := "()V", sig := { parameters := [], returnType := none }, accessFlags := 1, code := none }
/-- jdk/internal/util/Preconditions -/
def k11 : Class := { plain "jdk/internal/util/Preconditions" (some 0) with
  accessFlags := 33
  interfaces := #[]
  cf := some (fileOf pool11 24 #[.nestMembers #[55, 131, 125, 114]] #[{ accessFlags := 1, nameIndex := 5, descriptorIndex := 6, attributes := #[] }] 33 2 #[] #[{ accessFlags := 25, nameIndex := 123, descriptorIndex := 124, attributes := #[] }, { accessFlags := 25, nameIndex := 130, descriptorIndex := 124, attributes := #[] }, { accessFlags := 25, nameIndex := 136, descriptorIndex := 124, attributes := #[] }])
  fields := #[{ name := "SIOOBE_FORMATTER", type := (.object "java/util/function/BiFunction"), accessFlags := 25, slot := 0, constantValue := 0 }, { name := "AIOOBE_FORMATTER", type := (.object "java/util/function/BiFunction"), accessFlags := 25, slot := 1, constantValue := 0 }, { name := "IOOBE_FORMATTER", type := (.object "java/util/function/BiFunction"), accessFlags := 25, slot := 2, constantValue := 0 }]
  methods := #[k11m0]
  instanceTypes := #[]
  staticTypes := #[(.object "java/util/function/BiFunction"), (.object "java/util/function/BiFunction"), (.object "java/util/function/BiFunction")]
  resolved := Array.replicate 194 none
  statics := some 1 }

def pool12 : Array CpInfo := pool [(9, u "<init>"), (6, .class_ 18), (1, u "java/lang/Object"), (0, u "()V"), (1, .class_ 23), (1, u "jdk/internal/util/ArraysSupport"), (0, u "LOG2_ARRAY_LONG_INDEX_SCALE"), (0, u "I"), (2, u "U"), (0, u "Ljdk/internal/misc/Unsafe;"), (8, u "BIG_ENDIAN"), (0, u "Z"), (8, u "LOG2_BYTE_BIT_SIZE"), (4, u "LOG2_ARRAY_INT_INDEX_SCALE"), (54, u "JLA"), (0, u "Ljdk/internal/access/JavaLangAccess;"), (11, u "LOG2_ARRAY_BOOLEAN_INDEX_SCALE"), (9, u "LOG2_ARRAY_BYTE_INDEX_SCALE"), (5, u "LOG2_ARRAY_CHAR_INDEX_SCALE"), (5, u "LOG2_ARRAY_SHORT_INDEX_SCALE"), (18, u "LOG2_ARRAY_FLOAT_INDEX_SCALE"), (24, u "LOG2_ARRAY_DOUBLE_INDEX_SCALE"), (89, u "T_BOOLEAN"), (2, u "T_CHAR"), (1, u "T_FLOAT"), (1, u "T_DOUBLE"), (1, u "T_BYTE"), (1, u "T_SHORT"), (1, u "T_INT"), (1, u "T_LONG"), (1, u "SOFT_MAX_ARRAY_LENGTH")] 83

def k12m0 : Method := { name := "<init>", desc := "()V", sig := { parameters := [], returnType := none }, accessFlags := 2, code := none }
/-- jdk/internal/util/ArraysSupport -/
def k12 : Class := { plain "jdk/internal/util/ArraysSupport" (some 0) with
  accessFlags := 33
  interfaces := #[]
  cf := some (fileOf pool12 21 #[] #[{ accessFlags := 2, nameIndex := 9, descriptorIndex := 19, attributes := #[] }] 33 16 #[] #[{ accessFlags := 24, nameIndex := 28, descriptorIndex := 29, attributes := #[] }, { accessFlags := 26, nameIndex := 38, descriptorIndex := 39, attributes := #[] }, { accessFlags := 25, nameIndex := 121, descriptorIndex := 25, attributes := #[] }, { accessFlags := 25, nameIndex := 131, descriptorIndex := 25, attributes := #[] }, { accessFlags := 25, nameIndex := 137, descriptorIndex := 25, attributes := #[] }, { accessFlags := 25, nameIndex := 143, descriptorIndex := 25, attributes := #[] }, { accessFlags := 25, nameIndex := 53, descriptorIndex := 25, attributes := #[] }, { accessFlags := 25, nameIndex := 24, descriptorIndex := 25, attributes := #[] }, { accessFlags := 25, nameIndex := 162, descriptorIndex := 25, attributes := #[] }, { accessFlags := 25, nameIndex := 187, descriptorIndex := 25, attributes := #[] }, { accessFlags := 26, nameIndex := 48, descriptorIndex := 25, attributes := #[] }, { accessFlags := 25, nameIndex := 277, descriptorIndex := 25, attributes := #[] }, { accessFlags := 25, nameIndex := 280, descriptorIndex := 25, attributes := #[] }, { accessFlags := 25, nameIndex := 282, descriptorIndex := 25, attributes := #[] }, { accessFlags := 25, nameIndex := 284, descriptorIndex := 25, attributes := #[] }, { accessFlags := 25, nameIndex := 286, descriptorIndex := 25, attributes := #[] }, { accessFlags := 25, nameIndex := 288, descriptorIndex := 25, attributes := #[] }, { accessFlags := 25, nameIndex := 290, descriptorIndex := 25, attributes := #[] }, { accessFlags := 25, nameIndex := 292, descriptorIndex := 25, attributes := #[] }, { accessFlags := 26, nameIndex := 108, descriptorIndex := 109, attributes := #[] }, { accessFlags := 25, nameIndex := 294, descriptorIndex := 25, attributes := #[] }])
  fields := #[{ name := "U", type := (.object "jdk/internal/misc/Unsafe"), accessFlags := 24, slot := 0, constantValue := 0 }, { name := "BIG_ENDIAN", type := .boolean, accessFlags := 26, slot := 1, constantValue := 0 }, { name := "LOG2_ARRAY_BOOLEAN_INDEX_SCALE", type := .int, accessFlags := 25, slot := 2, constantValue := 0 }, { name := "LOG2_ARRAY_BYTE_INDEX_SCALE", type := .int, accessFlags := 25, slot := 3, constantValue := 0 }, { name := "LOG2_ARRAY_CHAR_INDEX_SCALE", type := .int, accessFlags := 25, slot := 4, constantValue := 0 }, { name := "LOG2_ARRAY_SHORT_INDEX_SCALE", type := .int, accessFlags := 25, slot := 5, constantValue := 0 }, { name := "LOG2_ARRAY_INT_INDEX_SCALE", type := .int, accessFlags := 25, slot := 6, constantValue := 0 }, { name := "LOG2_ARRAY_LONG_INDEX_SCALE", type := .int, accessFlags := 25, slot := 7, constantValue := 0 }, { name := "LOG2_ARRAY_FLOAT_INDEX_SCALE", type := .int, accessFlags := 25, slot := 8, constantValue := 0 }, { name := "LOG2_ARRAY_DOUBLE_INDEX_SCALE", type := .int, accessFlags := 25, slot := 9, constantValue := 0 }, { name := "LOG2_BYTE_BIT_SIZE", type := .int, accessFlags := 26, slot := 10, constantValue := 0 }, { name := "T_BOOLEAN", type := .int, accessFlags := 25, slot := 11, constantValue := 0 }, { name := "T_CHAR", type := .int, accessFlags := 25, slot := 12, constantValue := 0 }, { name := "T_FLOAT", type := .int, accessFlags := 25, slot := 13, constantValue := 0 }, { name := "T_DOUBLE", type := .int, accessFlags := 25, slot := 14, constantValue := 0 }, { name := "T_BYTE", type := .int, accessFlags := 25, slot := 15, constantValue := 0 }, { name := "T_SHORT", type := .int, accessFlags := 25, slot := 16, constantValue := 0 }, { name := "T_INT", type := .int, accessFlags := 25, slot := 17, constantValue := 0 }, { name := "T_LONG", type := .int, accessFlags := 25, slot := 18, constantValue := 0 }, { name := "JLA", type := (.object "jdk/internal/access/JavaLangAccess"), accessFlags := 26, slot := 19, constantValue := 0 }, { name := "SOFT_MAX_ARRAY_LENGTH", type := .int, accessFlags := 25, slot := 20, constantValue := 0 }]
  methods := #[k12m0]
  instanceTypes := #[]
  staticTypes := #[(.object "jdk/internal/misc/Unsafe"), .boolean, .int, .int, .int, .int, .int, .int, .int, .int, .int, .int, .int, .int, .int, .int, .int, .int, .int, (.object "jdk/internal/access/JavaLangAccess"), .int]
  resolved := Array.replicate 378 none
  statics := none }

def pool13 : Array CpInfo := pool [(1, u "java/lang/Cloneable"), (0, .class_ 1), (0, u "java/lang/Object"), (0, .class_ 3)] 3

/-- java/lang/Cloneable -/
def k13 : Class := { plain "java/lang/Cloneable" (some 0) with
  accessFlags := 1537
  interfaces := #[]
  cf := some (fileOf pool13 2 #[] #[] 1537 4 #[] #[])
  fields := #[]
  methods := #[]
  instanceTypes := #[]
  staticTypes := #[]
  resolved := Array.replicate 8 none
  statics := none }

/-- the primitive byte -/
def k14 : Class := { plain "byte" none with kind := .primitive 'B', accessFlags := 0x411 }
/-- [B -/
def k15 : Class := { plain "[B" (some 0) with kind := .array 14 .byte, interfaces := #[13, 2], accessFlags := 1041 }

/-- the primitive char -/
def k16 : Class := { plain "char" none with kind := .primitive 'C', accessFlags := 0x411 }
/-- [C -/
def k17 : Class := { plain "[C" (some 0) with kind := .array 16 .char, interfaces := #[13, 2], accessFlags := 1041 }

/-- the primitive int -/
def k18 : Class := { plain "int" none with kind := .primitive 'I', accessFlags := 0x411 }
/-- [I -/
def k19 : Class := { plain "[I" (some 0) with kind := .array 18 .int, interfaces := #[13, 2], accessFlags := 1041 }

/-- [Ljava/lang/String; -/
def k20 : Class := { plain "[Ljava/lang/String;" (some 0) with kind := .array 7 (.object "java/lang/String"), interfaces := #[13, 2], accessFlags := 1041 }

def heap : Heap := #[{ cls := 7, slots := #[.long 0, .int 1, .null, .int 0, .null, .int 0, .int 0], vm := .statics 7 },
  { cls := 11, slots := #[.null, .null, .null], vm := .statics 11 }]
def classes : Array Class := #[k0, k1, k2, k3, k4, k5, k6, k7, k8, k9, k10, k11, k12, k13, k14, k15, k16, k17, k18, k19, k20]
def interned : List (Array UInt16 × Addr) := []
def slotsUsed : Nat := 10
def theMethod : MethodId := ⟨1, 2⟩
def args0 : Array Value := #[.int 5, .int 7, .int 9, .int 3, .int 2]
def aboutOver (below : List Frame) : State where
  vm := { classes := classes, interned := interned.toArray }
  heap := heap
  slotsUsed := slotsUsed
  threads := #[{ frames := .invoking theMethod args0 :: below }]
def below0 : List Frame := [.native { method := ⟨0, 0⟩, args := #[] }]
def about1 : State := aboutOver below0
def p0 : Program := .bare "" "" ""
def e0 : Env := launch0.env 0 0 0
theorem w_frames : about1.frames = Frame.invoking theMethod args0 :: below0 := rfl
set_option maxRecDepth 65536 in
theorem w_args : argsFit about1.vm theMethod args0 = true := by decide +kernel
set_option maxRecDepth 65536 in
theorem w_heap : heapFits about1 = true := by decide +kernel
set_option maxRecDepth 65536 in
theorem w_runnable : about1.curStatus? = some .runnable := by decide +kernel
set_option maxRecDepth 65536 in
theorem w_alone : about1.alone = true := by decide +kernel
set_option maxRecDepth 65536 in
theorem w_named : about1.methodNamed? x = some theMethod := by decide +kernel
set_option maxRecDepth 65536 in
theorem w_hears : about1.hears theMethod below0 = true := by decide +kernel
set_option maxRecDepth 65536 in
theorem w_ripe : about1.ripe theMethod args0 below0 = true := by decide +kernel
theorem w_running : about1.status = .running := rfl
set_option maxRecDepth 65536 in
theorem w_room : about1.hasRoom e0.platform room_1 = true :=
  launch0.hasRoom_least _ room_1 (by decide +kernel) (by decide +kernel) (by decide +kernel) (by decide +kernel) (by decide +kernel) (by decide +kernel)
theorem allAtoms_all (ts : List Jvm.Cond) (a : Array Jvm.Value) (st : Jvm.State) : (allAtoms ts).before a st = ts.all (fun c => c.before a st) := by
  induction ts with
  | nil => rfl
  | cons c t ih =>
    show (Jvm.Cond.and c (allAtoms t)).before a st = _
    rw [Jvm.Cond.before_and, ih, List.all_cons]
def words1 : List Jvm.Cond := Jvm.Cond.code x code maxLocals ret :: tables_1
/-- a 'code' word, met by the world's own term for the bytes: nothing is compared byte by byte -/
theorem code_word {y : MethodName} {bytes : ByteArray} {mx : Nat} {rt : Option FieldType} {a : Array Value} {s : State} {m : MethodId} {meth : Method} {c : Code} (h1 : s.methodNamed? y = some m) (h2 : s.vm.method? m = some meth) (h3 : meth.code = some c) (h4 : c.code = bytes)
    (h5 : (c.maxLocals == mx && c.exceptionTable.isEmpty && decide (c.maxStack ≤ mostOperands) && decide (meth.sig.returnType = rt) && !meth.locks && decide (parseMethodDescriptor y.desc = some meth.sig)) = true) : (Jvm.Cond.code y bytes mx rt).before a s = true := by
  simp only [Bool.and_eq_true, beq_iff_eq, Bool.not_eq_true', decide_eq_true_eq] at h5
  obtain ⟨⟨⟨⟨⟨g1, g2⟩, g3⟩, g4⟩, g5⟩, g6⟩ := h5
  simp [Cond.before, Cond.holds, Cond.value, h1, h2, h3, h4, g1, g2, g3, g4, g5, g6]
def isCode : Jvm.Cond → Bool
  | .code _ _ _ _ => true
  | _ => false
theorem all_split {L : List Jvm.Cond} {P : Jvm.Cond → Bool} (h1 : L.all (fun c => isCode c || P c) = true) (h2 : ∀ c ∈ L.filter isCode, P c = true) : L.all P = true := by
  refine List.all_eq_true.mpr fun c hc => ?_
  have h := List.all_eq_true.mp h1 c hc
  rcases Bool.eq_false_or_eq_true (isCode c) with hi | hi
  · exact h2 c (List.mem_filter.mpr ⟨hc, hi⟩)
  · simpa [hi] using h
set_option maxRecDepth 65536 in
theorem w_c0 : (Jvm.Cond.code x code maxLocals ret).before args0 about1 = true := code_word (m := ⟨1, 2⟩) (meth := k1m2) (c := k1c2) (by decide +kernel) rfl rfl rfl (by decide +kernel)
set_option maxRecDepth 65536 in
theorem w_c1 : (Jvm.Cond.code ({ cls := "com/example/referee/referee/parse/OpenElementsPopPinLaw", name := "str", desc := "(I)Ljava/lang/String;" } : Jvm.MethodName) method_2_code (2 : Nat) (Option.some (Jvm.ClassFile.FieldType.object "java/lang/String"))).before args0 about1 = true := code_word (m := ⟨1, 1⟩) (meth := k1m1) (c := k1c1) (by decide +kernel) rfl rfl rfl (by decide +kernel)
set_option maxRecDepth 65536 in
theorem w_c2 : (Jvm.Cond.code ({ cls := "java/lang/String", name := "<init>", desc := "([C)V" } : Jvm.MethodName) jdk_42_method_3_code (2 : Nat) (Option.none : Option Jvm.ClassFile.FieldType)).before args0 about1 = true := code_word (m := ⟨7, 1⟩) (meth := k7m1) (c := k7c1) (by decide +kernel) rfl rfl rfl (by decide +kernel)
set_option maxRecDepth 65536 in
theorem w_c3 : (Jvm.Cond.code ({ cls := "java/lang/String", name := "<init>", desc := "([CIILjava/lang/Void;)V" } : Jvm.MethodName) jdk_42_method_149_code (6 : Nat) (Option.none : Option Jvm.ClassFile.FieldType)).before args0 about1 = true := code_word (m := ⟨7, 3⟩) (meth := k7m3) (c := k7c3) (by decide +kernel) rfl rfl rfl (by decide +kernel)
set_option maxRecDepth 65536 in
theorem w_c4 : (Jvm.Cond.code ({ cls := "java/lang/Object", name := "<init>", desc := "()V" } : Jvm.MethodName) object_method_1_code (1 : Nat) (Option.none : Option Jvm.ClassFile.FieldType)).before args0 about1 = true := code_word (m := ⟨0, 0⟩) (meth := k0m0) (c := k0c0) (by decide +kernel) rfl rfl rfl (by decide +kernel)
set_option maxRecDepth 65536 in
theorem w_c5 : (Jvm.Cond.code ({ cls := "java/lang/StringUTF16", name := "compress", desc := "([CII)[B" } : Jvm.MethodName) jdk_52_method_16_code (6 : Nat) (Option.some (Jvm.ClassFile.FieldType.array Jvm.ClassFile.FieldType.byte))).before args0 about1 = true := code_word (m := ⟨8, 2⟩) (meth := k8m2) (c := k8c2) (by decide +kernel) rfl rfl rfl (by decide +kernel)
set_option maxRecDepth 65536 in
theorem w_c6 : (Jvm.Cond.code ({ cls := "java/lang/StringUTF16", name := "compress", desc := "([CI[BII)I" } : Jvm.MethodName) jdk_52_method_21_code (7 : Nat) (Option.some Jvm.ClassFile.FieldType.int)).before args0 about1 = true := code_word (m := ⟨8, 3⟩) (meth := k8m3) (c := k8c3) (by decide +kernel) rfl rfl rfl (by decide +kernel)
set_option maxRecDepth 65536 in
theorem w_c7 : (Jvm.Cond.code ({ cls := "java/lang/StringUTF16", name := "coderFromArrayLen", desc := "([BI)B" } : Jvm.MethodName) jdk_52_method_15_code (2 : Nat) (Option.some Jvm.ClassFile.FieldType.byte)).before args0 about1 = true := code_word (m := ⟨8, 1⟩) (meth := k8m1) (c := k8c1) (by decide +kernel) rfl rfl rfl (by decide +kernel)
set_option maxRecDepth 65536 in
theorem w_c8 : (Jvm.Cond.code ({ cls := "com/example/referee/referee/parse/OpenElements", name := "<init>", desc := "()V" } : Jvm.MethodName) prog_65_method_1_code (1 : Nat) (Option.none : Option Jvm.ClassFile.FieldType)).before args0 about1 = true := code_word (m := ⟨9, 0⟩) (meth := k9m0) (c := k9c0) (by decide +kernel) rfl rfl rfl (by decide +kernel)
set_option maxRecDepth 65536 in
theorem w_c9 : (Jvm.Cond.code ({ cls := "com/example/referee/referee/parse/OpenElements", name := "push", desc := "(Ljava/lang/String;)V" } : Jvm.MethodName) prog_65_method_4_code (2 : Nat) (Option.none : Option Jvm.ClassFile.FieldType)).before args0 about1 = true := code_word (m := ⟨9, 2⟩) (meth := k9m2) (c := k9c2) (by decide +kernel) rfl rfl rfl (by decide +kernel)
set_option maxRecDepth 65536 in
theorem w_c10 : (Jvm.Cond.code ({ cls := "com/example/referee/referee/parse/OpenElements", name := "pop", desc := "()V" } : Jvm.MethodName) prog_65_method_6_code (1 : Nat) (Option.none : Option Jvm.ClassFile.FieldType)).before args0 about1 = true := code_word (m := ⟨9, 3⟩) (meth := k9m3) (c := k9c3) (by decide +kernel) rfl rfl rfl (by decide +kernel)
set_option maxRecDepth 65536 in
theorem w_c11 : (Jvm.Cond.code ({ cls := "com/example/referee/referee/parse/OpenElements", name := "size", desc := "()I" } : Jvm.MethodName) prog_65_method_2_code (1 : Nat) (Option.some Jvm.ClassFile.FieldType.int)).before args0 about1 = true := code_word (m := ⟨9, 1⟩) (meth := k9m1) (c := k9c1) (by decide +kernel) rfl rfl rfl (by decide +kernel)
set_option maxRecDepth 65536 in
theorem w_c12 : (Jvm.Cond.code ({ cls := "com/example/referee/referee/parse/OpenElements", name := "innermost", desc := "()Ljava/lang/String;" } : Jvm.MethodName) prog_65_method_7_code (3 : Nat) (Option.some (Jvm.ClassFile.FieldType.object "java/lang/String"))).before args0 about1 = true := code_word (m := ⟨9, 4⟩) (meth := k9m4) (c := k9c4) (by decide +kernel) rfl rfl rfl (by decide +kernel)
set_option maxRecDepth 65536 in
theorem w_c13 : (Jvm.Cond.code ({ cls := "java/lang/String", name := "equals", desc := "(Ljava/lang/Object;)Z" } : Jvm.MethodName) jdk_42_method_66_code (3 : Nat) (Option.some Jvm.ClassFile.FieldType.boolean)).before args0 about1 = true := code_word (m := ⟨7, 2⟩) (meth := k7m2) (c := k7c2) (by decide +kernel) rfl rfl rfl (by decide +kernel)
def codes1 : List Jvm.Cond := [Jvm.Cond.code x code maxLocals ret, Jvm.Cond.code ({ cls := "com/example/referee/referee/parse/OpenElementsPopPinLaw", name := "str", desc := "(I)Ljava/lang/String;" } : Jvm.MethodName) method_2_code (2 : Nat) (Option.some (Jvm.ClassFile.FieldType.object "java/lang/String")), Jvm.Cond.code ({ cls := "java/lang/String", name := "<init>", desc := "([C)V" } : Jvm.MethodName) jdk_42_method_3_code (2 : Nat) (Option.none : Option Jvm.ClassFile.FieldType), Jvm.Cond.code ({ cls := "java/lang/String", name := "<init>", desc := "([CIILjava/lang/Void;)V" } : Jvm.MethodName) jdk_42_method_149_code (6 : Nat) (Option.none : Option Jvm.ClassFile.FieldType), Jvm.Cond.code ({ cls := "java/lang/Object", name := "<init>", desc := "()V" } : Jvm.MethodName) object_method_1_code (1 : Nat) (Option.none : Option Jvm.ClassFile.FieldType), Jvm.Cond.code ({ cls := "java/lang/StringUTF16", name := "compress", desc := "([CII)[B" } : Jvm.MethodName) jdk_52_method_16_code (6 : Nat) (Option.some (Jvm.ClassFile.FieldType.array Jvm.ClassFile.FieldType.byte)), Jvm.Cond.code ({ cls := "java/lang/StringUTF16", name := "compress", desc := "([CI[BII)I" } : Jvm.MethodName) jdk_52_method_21_code (7 : Nat) (Option.some Jvm.ClassFile.FieldType.int), Jvm.Cond.code ({ cls := "java/lang/StringUTF16", name := "coderFromArrayLen", desc := "([BI)B" } : Jvm.MethodName) jdk_52_method_15_code (2 : Nat) (Option.some Jvm.ClassFile.FieldType.byte), Jvm.Cond.code ({ cls := "com/example/referee/referee/parse/OpenElements", name := "<init>", desc := "()V" } : Jvm.MethodName) prog_65_method_1_code (1 : Nat) (Option.none : Option Jvm.ClassFile.FieldType), Jvm.Cond.code ({ cls := "com/example/referee/referee/parse/OpenElements", name := "push", desc := "(Ljava/lang/String;)V" } : Jvm.MethodName) prog_65_method_4_code (2 : Nat) (Option.none : Option Jvm.ClassFile.FieldType), Jvm.Cond.code ({ cls := "com/example/referee/referee/parse/OpenElements", name := "pop", desc := "()V" } : Jvm.MethodName) prog_65_method_6_code (1 : Nat) (Option.none : Option Jvm.ClassFile.FieldType), Jvm.Cond.code ({ cls := "com/example/referee/referee/parse/OpenElements", name := "size", desc := "()I" } : Jvm.MethodName) prog_65_method_2_code (1 : Nat) (Option.some Jvm.ClassFile.FieldType.int), Jvm.Cond.code ({ cls := "com/example/referee/referee/parse/OpenElements", name := "innermost", desc := "()Ljava/lang/String;" } : Jvm.MethodName) prog_65_method_7_code (3 : Nat) (Option.some (Jvm.ClassFile.FieldType.object "java/lang/String")), Jvm.Cond.code ({ cls := "java/lang/String", name := "equals", desc := "(Ljava/lang/Object;)Z" } : Jvm.MethodName) jdk_42_method_66_code (3 : Nat) (Option.some Jvm.ClassFile.FieldType.boolean)]
set_option maxRecDepth 65536 in
theorem codes_eq : words1.filter isCode = codes1 := rfl
theorem w_codes : ∀ c ∈ words1.filter isCode, c.before args0 about1 = true := by
  rw [codes_eq]
  intro c hc
  simp only [codes1, List.mem_cons, List.not_mem_nil, or_false] at hc
  rcases hc with rfl | rfl | rfl | rfl | rfl | rfl | rfl | rfl | rfl | rfl | rfl | rfl | rfl | rfl
  · exact w_c0
  · exact w_c1
  · exact w_c2
  · exact w_c3
  · exact w_c4
  · exact w_c5
  · exact w_c6
  · exact w_c7
  · exact w_c8
  · exact w_c9
  · exact w_c10
  · exact w_c11
  · exact w_c12
  · exact w_c13
set_option maxRecDepth 65536 in
theorem w_t1 : (words1.take 24).all (fun c => isCode c || c.before args0 about1) = true := by decide +kernel
set_option maxRecDepth 65536 in
theorem w_t2 : ((words1.drop 24).take 24).all (fun c => isCode c || c.before args0 about1) = true := by decide +kernel
set_option maxRecDepth 65536 in
theorem w_t3 : (((words1.drop 24).drop 24).take 24).all (fun c => isCode c || c.before args0 about1) = true := by decide +kernel
set_option maxRecDepth 65536 in
theorem w_t4 : (((words1.drop 24).drop 24).drop 24).all (fun c => isCode c || c.before args0 about1) = true := by decide +kernel
theorem w_tables : (allAtoms (Jvm.Cond.code x code maxLocals ret :: tables_1)).before args0 about1 = true := by
  rw [allAtoms_all]
  show words1.all (fun c => c.before args0 about1) = true
  refine all_split ?_ w_codes
  rw [← List.take_append_drop 24 words1, List.all_append, w_t1, ← List.take_append_drop 24 (words1.drop 24), List.all_append, w_t2, ← List.take_append_drop 24 ((words1.drop 24).drop 24), List.all_append, w_t3, w_t4]
  rfl
set_option maxRecDepth 65536 in
theorem w_rest : rest_1_c.before args0 about1 = true := by decide +kernel
set_option maxRecDepth 65536 in
theorem w_case : (Jvm.Cond.and given_1 narrow_1).before args0 about1 = true := by decide +kernel
theorem w_applies : (headSpec (Jvm.Cond.code x code maxLocals ret :: tables_1) room_1).applies x e0.platform about1 = true :=
  (Spec.applies_iff w_frames).mpr ⟨w_running, w_runnable, w_alone, w_named, w_hears, w_ripe, w_room, w_tables⟩
theorem atStart : AtStart classFile x code maxLocals ret World_1 tables_1 room_1 Calls_1 rest_1 Pre_1 launch0 p0 e0 about1 theMethod args0 below0 :=
  ⟨lists_1, trivial, launch0.admits_env _ _ _, launch0.least_env, fairChoices_fair.cas, fairChoices_fair.clock, w_frames, w_args, w_heap, w_applies, trivial, w_rest, w_case⟩
end start1
theorem witness_1 : WitnessClaimed_1 := ⟨start1.p0, start1.e0, start1.about1, start1.theMethod, start1.args0, start1.below0, start1.atStart⟩
end Jvm.Pilot.@@N@@
