import JvmDerived
import JvmDerived.Pilot.@@N@@Statement
import JvmDerived.Pilot.@@N@@Code
set_option linter.unusedVariables false
set_option linter.unusedSimpArgs false
namespace Jvm.RoadKit
open Sem ClassFile Op Lib Jvm.Stand Jvm.Free Jvm.LawKit
section Own
variable {p : Program} {l : Launch} {e : Env} {R : Room} {s : State} {m : MethodId} {args : Array Value} {below : List Frame} {meth : Method} {c : Code} {T : State} {locs : List Loc} {cells slots : Nat}
theorem retI (X : Stand p l e R s m args below meth c T locs cells slots) (hx : p.tables.exec = Jvm.exec) {pc : Nat} {Ls : Array Slot} {z : Int32} {rest : List Value} (hret : meth.sig.returnType = some .int) (hd : decode c.code pc = .ok (.ireturn, 1)) {fs : List Frame}
    (hl : ∀ (f : JFrame) (acts : List Action), f.method = m → f.locked = none → f.entered = [] → (doReturn e (T.setTop f) acts (some (.int z))).1 = T.setFrames fs) : Steps p.tables e below (T.setTop (mkF m pc Ls (.int z :: rest))) (T.setFrames fs) :=
  retOut X hx hret rfl (Or.inl ⟨rfl, Or.inl rfl, _, rfl⟩) hd hl
theorem retJ (X : Stand p l e R s m args below meth c T locs cells slots) (hx : p.tables.exec = Jvm.exec) {pc : Nat} {Ls : Array Slot} {z : Int64} {rest : List Value} (hret : meth.sig.returnType = some .long) (hd : decode c.code pc = .ok (.lreturn, 1)) {fs : List Frame}
    (hl : ∀ (f : JFrame) (acts : List Action), f.method = m → f.locked = none → f.entered = [] → (doReturn e (T.setTop f) acts (some (.long z))).1 = T.setFrames fs) : Steps p.tables e below (T.setTop (mkF m pc Ls (.long z :: rest))) (T.setFrames fs) :=
  retOut X hx hret rfl (Or.inr (Or.inl ⟨rfl, rfl, _, rfl⟩)) hd hl
theorem retA (X : Stand p l e R s m args below meth c T locs cells slots) (hx : p.tables.exec = Jvm.exec) {pc : Nat} {Ls : Array Slot} {t : FieldType} {z : Value} {rest : List Value} (hret : meth.sig.returnType = some t) (hn : narrow t z = z) (ht : t.isReference = true) (hz : z.isRef = true) (hd : decode c.code pc = .ok (.areturn, 1)) {fs : List Frame}
    (hl : ∀ (f : JFrame) (acts : List Action), f.method = m → f.locked = none → f.entered = [] → (doReturn e (T.setTop f) acts (some z)).1 = T.setFrames fs) : Steps p.tables e below (T.setTop (mkF m pc Ls (z :: rest))) (T.setFrames fs) :=
  retOut X hx hret hn (Or.inr (Or.inr (Or.inr (Or.inr ⟨rfl, ht, hz⟩)))) hd hl
theorem retZ (X : Stand p l e R s m args below meth c T locs cells slots) (hx : p.tables.exec = Jvm.exec) {pc : Nat} {Ls : Array Slot} {z r : Int32} {t : FieldType} {rest : List Value} (hret : meth.sig.returnType = some t) (ht : t = .boolean ∨ t = .byte ∨ t = .char ∨ t = .short)
    (hd : decode c.code pc = .ok (.ireturn, 1)) (hn : nar t z = r) {fs : List Frame} (hl : ∀ (f : JFrame) (acts : List Action), f.method = m → f.locked = none → f.entered = [] → (doReturn e (T.setTop f) acts (some (.int r))).1 = T.setFrames fs) :
    Steps p.tables e below (T.setTop (mkF m pc Ls (.int z :: rest))) (T.setFrames fs) := retN X hx hret ht hd (by rw [hn]; exact hl)
theorem ownUp (X : Stand p l e R s m args below meth c T locs cells slots) {cells' slots' : Nat} (h1 : cells ≤ cells') (h2 : slots ≤ slots') : Stand p l e R s m args below meth c T locs cells' slots' :=
  ⟨X.admits, X.cas, X.clock, X.frames, X.room, X.hears, X.method, X.code, X.here, X.tail, X.warmed, X.limits, X.bytes, X.same.mono h1 h2⟩
theorem own_hide (X : Stand p l e R s m args below meth c T locs cells slots) {n0 : Nat} (N : Fr n0 locs) : ∃ L, Stand p l e R s m args below meth c T L cells slots ∧ Fr n0 L := ⟨_, X, N⟩
end Own
def Go (tb : Tables) (e : Env) (below : List Frame) (P : Outcome → State → Prop) (T : State) (f : JFrame) : Prop :=
  ∃ s₂ o, Steps tb e below (T.setTop f) s₂ ∧ s₂.status = .running ∧ Ended s₂ below o ∧ P o s₂
theorem Go.via {tb : Tables} {e : Env} {below : List Frame} {P : Outcome → State → Prop} {T T' : State} {f f' : JFrame} (st : ∀ t, Steps tb e below (T'.setTop f') t → Steps tb e below (T.setTop f) t) (k : Go tb e below P T' f') : Go tb e below P T f := by
  obtain ⟨s₂, o, h, r⟩ := k; exact ⟨s₂, o, st _ h, r⟩
theorem Go.hop {tb : Tables} {e : Env} {below : List Frame} {P : Outcome → State → Prop} {T T' : State} {f f' : JFrame} (st : Steps tb e below (T.setTop f) (T'.setTop f')) (k : Go tb e below P T' f') : Go tb e below P T f := by
  obtain ⟨s₂, o, h, r⟩ := k; exact ⟨s₂, o, st.trans h, r⟩
theorem own_nin0 {a : Addr} : a ∉ ([] : List Addr) := fun q => nomatch q
theorem own_ninC {a b : Addr} {l : List Addr} (h : a ≠ b) (h' : a ∉ l) : a ∉ b :: l := fun q => (List.mem_cons.mp q).elim h h'
theorem own_nb {x : Int32} (h : x = 0 ∨ x = 1) : nar .boolean x = x := by rcases h with rfl | rfl <;> rfl
theorem own_nnb {x : Int32} (h : x = 0 ∨ x = 1) : narrow .boolean (.int x) = .int x := by rcases h with rfl | rfl <;> rfl
theorem own_fb {x : Int32} (h : x = 0 ∨ x = 1) : fits .boolean (.int x) = true := by rcases h with rfl | rfl <;> rfl
theorem own_all0 {P : Addr → Prop} : ∀ x ∈ ([] : List Addr), P x := fun _ q => nomatch q
theorem own_allC {P : Addr → Prop} {a : Addr} {l : List Addr} (h : P a) (h' : ∀ x ∈ l, P x) : ∀ x ∈ a :: l, P x := fun x q => (List.mem_cons.mp q).elim (fun e => e ▸ h) (h' x)
theorem own_m0 {k : Int32} : ∀ p ∈ ([] : List (Int × Int)), p.1 ≠ k.toInt := fun _ q => nomatch q
theorem own_mC {k x : Int32} {a o : Int} {l : List (Int × Int)} (h : ¬ k = x) (hx : x.toInt = a) (t : ∀ p ∈ l, p.1 ≠ k.toInt) : ∀ p ∈ (a, o) :: l, p.1 ≠ k.toInt := fun p q => (List.mem_cons.mp q).elim (fun e r => h (Int32.toInt_inj.mp (by rw [hx, ← r, e]))) (t p)
theorem own_cat {v : Value} (h : v.isRef = true) : v.category = 1 := by rcases ref_cases h with rfl | ⟨a, rfl⟩ <;> rfl
theorem own_nat {n : Nat} (h : n < 2147483648) : n.toInt32.toInt = n := len_toInt h
theorem own_ltN {i n : Nat} (hi : i < 2147483648) (hn : n < 2147483648) : i.toInt32 < n.toInt32 ↔ i < n := by
  rw [Int32.lt_iff_toInt_lt, own_nat hi, own_nat hn]; omega
theorem own_succ (i : Nat) : i.toInt32 + 1 = (i + 1).toInt32 := (Int32.ofNat_add i 1).symm
theorem own_nneg {i : Nat} (hi : i < 2147483648) : ¬ i.toInt32 < 0 := by
  rw [Int32.lt_iff_toInt_lt, own_nat hi]; simp
theorem own_clamp {i : Nat} (hi : i < 2147483648) : i.toInt32.toNatClampNeg = i := by
  show i.toInt32.toInt.toNat = i
  rw [own_nat hi]; rfl
end Jvm.RoadKit
namespace Jvm.Pilot.@@N@@
open Jvm Jvm.ClassFile Sem Op Lib Jvm.Free Jvm.Stand Jvm.LawKit Jvm.RoadKit Bundle Jvm.Pilot.@@N@@.Jvm.D
def own_mix (x : Int64) : Int64 :=
  let z1 := ((x ^^^ ((x.toUInt64 >>> ((30 : Int32) &&& 0x3f).toInt64.toUInt64).toInt64)) * (-4658895280553007687 : Int64))
  let z2 := ((z1 ^^^ ((z1.toUInt64 >>> ((27 : Int32) &&& 0x3f).toInt64.toUInt64).toInt64)) * (-7723592293110705685 : Int64))
  (z2 ^^^ ((z2.toUInt64 >>> ((31 : Int32) &&& 0x3f).toInt64.toUInt64).toInt64))
def own_value (h : Int64) (j : Int32) : Int64 := own_mix (h + (j.toInt64 * (-7046029254386353131 : Int64)))
def own_umin (x y : Int64) : Int64 := if lcmpW (x ^^^ (-9223372036854775808 : Int64)) (y ^^^ (-9223372036854775808 : Int64)) < (0 : Int32) then x else y
def own_cmp (x y : Int64) : Int32 := if lcmpW x y < (0 : Int32) then (-1 : Int32) else (if lcmpW x y = (0 : Int32) then (0 : Int32) else (1 : Int32))
def own_cu (x y : Int64) : Int32 := own_cmp (x + (-9223372036854775808 : Int64)) (y + (-9223372036854775808 : Int64))
def own_pick (v cur : Int64) : Int64 := if own_cu v cur < (0 : Int32) then v else cur
def own_min (a b c : Int64) (n j : Int32) : Int64 :=
  let v1 := if n < (2 : Int32) then own_value a j else own_umin (own_value a j) (own_value b j)
  if n < (3 : Int32) then v1 else own_umin v1 (own_value c j)
def own_fill (v : Int64) (xs : List Int64) : Nat → List Int64
  | 0 => xs
  | i + 1 => (own_fill v xs i).set i v
def own_st (h : Int64) : Nat → Int64
  | 0 => h
  | i + 1 => own_st h i + (-7046029254386353131 : Int64)
def own_upd (h : Int64) (xs : List Int64) : Nat → List Int64
  | 0 => xs
  | i + 1 => (own_upd h xs i).set i (own_pick (own_mix (own_st h (i + 1))) ((own_upd h xs i).getD i 0))
def own_fp (xs : List Int64) : Nat → Int64
  | 0 => 0
  | i + 1 => own_fp xs i ^^^ ((xs.getD i 0 &&& 1) <<< ((i.toInt32 % (64 : Int32)) &&& 0x3f).toInt64)
theorem own_fill_len (v : Int64) (xs : List Int64) : ∀ i, (own_fill v xs i).length = xs.length
  | 0 => rfl
  | i + 1 => by rw [own_fill, List.length_set, own_fill_len v xs i]
theorem own_upd_len (v : Int64) (xs : List Int64) : ∀ i, (own_upd v xs i).length = xs.length
  | 0 => rfl
  | i + 1 => by rw [own_upd, List.length_set, own_upd_len v xs i]
theorem own_getDJ (xs : List Int64) (i : Nat) : (xs.map Value.long).getD i (.long 0) = .long (xs.getD i 0) := by
  induction xs generalizing i with
  | nil => rfl
  | cons x t ih => cases i with
    | zero => rfl
    | succ i => simpa using ih i
theorem own_set_same (xs : List Int64) (i : Nat) : xs.set i (xs.getD i 0) = xs := by
  induction xs generalizing i with
  | nil => rfl
  | cons x t ih => cases i with
    | zero => rfl
    | succ i => simpa using ih i
theorem own_and3 (x : Int32) : (x &&& (3 : Int32)) = (0 : Int32) ∨ (x &&& (3 : Int32)) = (1 : Int32) ∨ (x &&& (3 : Int32)) = (2 : Int32) ∨ (x &&& (3 : Int32)) = (3 : Int32) := by
  have h := c_mask x 3 2 (by decide) (by decide)
  have h4 : ∀ k : Int32, (x &&& (3 : Int32)).toInt = k.toInt → (x &&& (3 : Int32)) = k := fun k q => Int32.toInt_inj.mp q
  have c : (x &&& (3 : Int32)).toInt = 0 ∨ (x &&& (3 : Int32)).toInt = 1 ∨ (x &&& (3 : Int32)).toInt = 2 ∨ (x &&& (3 : Int32)).toInt = 3 := by omega
  rcases c with c | c | c | c
  · exact Or.inl (h4 0 c)
  · exact Or.inr (Or.inl (h4 1 c))
  · exact Or.inr (Or.inr (Or.inl (h4 2 c)))
  · exact Or.inr (Or.inr (Or.inr (h4 3 c)))
theorem own_bit (x : Int32) : ∃ b : Nat, b < 64 ∧ (x &&& (63 : Int32)) = b.toInt32 := by
  have h := c_mask x 63 6 (by decide) (by decide)
  refine ⟨((x &&& (63 : Int32)).toInt).toNat, by omega, ?_⟩
  rw [← Int32.toInt_inj, own_nat (by omega)]
  omega
theorem own_bvnat {n : Nat} (h : n < 2147483648) : n.toInt32.toBitVec.toNat = n := by
  show (BitVec.ofNat 32 n).toNat = n
  rw [BitVec.toNat_ofNat]; omega
theorem own_rem64 {i : Nat} (h : i < 192) : (i.toInt32 % (64 : Int32)).toBitVec.toNat % 64 = i % 64 := by
  have h2 := (c_irem i.toInt32 64 64 rfl).1 (by rw [own_nat (by omega)]; omega)
  rw [own_nat (by omega)] at h2
  have h3 : i.toInt32 % (64 : Int32) = (i % 64).toInt32 := by
    rw [← Int32.toInt_inj, h2, own_nat (by omega)]; omega
  rw [h3, own_bvnat (by omega)]; omega
theorem own_shl (x : Int64) {i : Nat} (h : i < 192) : (x <<< ((i.toInt32 % (64 : Int32)) &&& 0x3f).toInt64).toBitVec = x.toBitVec <<< (i % 64) := by
  have q := sm64 (i.toInt32 % (64 : Int32)) (i % 64) (own_rem64 h)
  show x.toBitVec <<< (((i.toInt32 % (64 : Int32)) &&& 0x3f).toInt64.toBitVec.smod 64) = _
  rw [BitVec.shiftLeft_eq', q.1, smod64 _ q.2]
theorem own_ushr (x : Int64) {b : Nat} (h : b < 64) : ((x.toUInt64 >>> (b.toInt32 &&& 0x3f).toInt64.toUInt64).toInt64).toBitVec = x.toBitVec >>> b := by
  have q := sm64 b.toInt32 b (by rw [own_bvnat (by omega)]; omega)
  show x.toBitVec >>> ((b.toInt32 &&& 0x3f).toInt64.toBitVec % 64) = _
  rw [BitVec.ushiftRight_eq', BitVec.toNat_umod, q.1, BitVec.toNat_ofNat]
  congr 1
  show b % 2 ^ 64 % 64 = b
  omega
theorem own_one (x : Int64) : (x &&& 1).toBitVec = x.toBitVec &&& 1#64 := rfl
theorem own_one_bit (v : BitVec 64) (k : Nat) : (v &&& 1#64).getLsbD k = (decide (k = 0) && v.getLsbD 0) := by
  rw [BitVec.getLsbD_and, BitVec.getLsbD_one]
  by_cases hk : k = 0
  · subst hk; simp
  · simp [hk]
def own_b (xs : List Int64) (j : Nat) : Bool := (xs.getD j 0).toBitVec.getLsbD 0
theorem own_fp_bit (xs : List Int64) (b : Nat) (hb : b < 64) : ∀ n, n ≤ 192 → (own_fp xs n).toBitVec.getLsbD b = ((decide (b < n) && own_b xs b) ^^ (decide (b + 64 < n) && own_b xs (b + 64)) ^^ (decide (b + 128 < n) && own_b xs (b + 128)))
  | 0, _ => by simp [own_fp]
  | n + 1, h => by
    have ih := own_fp_bit xs b hb n (by omega)
    have e : (own_fp xs (n + 1)).toBitVec = (own_fp xs n).toBitVec ^^^ (((xs.getD n 0) &&& 1) <<< ((n.toInt32 % (64 : Int32)) &&& 0x3f).toInt64).toBitVec := rfl
    rw [e, BitVec.getLsbD_xor, ih, own_shl _ (by omega), BitVec.getLsbD_shiftLeft, own_one, own_one_bit]
    have hlt : n % 64 < 64 := Nat.mod_lt _ (by decide)
    by_cases c1 : n = b
    · subst c1
      have : n % 64 = n := by omega
      simp [this, hb, own_b, show ¬ (n + 64 < n) by omega, show ¬ (n + 64 < n + 1) by omega, show ¬ (n + 128 < n) by omega, show ¬ (n + 128 < n + 1) by omega]
    · by_cases c2 : n = b + 64
      · subst c2
        have : (b + 64) % 64 = b := by omega
        simp [this, hb, own_b, show (b < b + 64) by omega, show (b < b + 64 + 1) by omega, show ¬ (b + 128 < b + 64) by omega, show ¬ (b + 128 < b + 64 + 1) by omega]
      · by_cases c3 : n = b + 128
        · subst c3
          have : (b + 128) % 64 = b := by omega
          simp [this, hb, own_b, show (b < b + 128) by omega, show (b < b + 128 + 1) by omega, show (b + 64 < b + 128) by omega, show (b + 64 < b + 128 + 1) by omega]
        · have hne : ¬ (b = n % 64) := by omega
          have z : (decide (b < 64) && (!decide (b < n % 64) && (decide (b - n % 64 = 0) && (xs.getD n 0).toBitVec.getLsbD 0))) = false := by
            by_cases hl : b < n % 64
            · simp [hl]
            · have : ¬ (b - n % 64 = 0) := by omega
              simp [this]
          have e1 : decide (b < n + 1) = decide (b < n) := by simp only [decide_eq_decide]; omega
          have e2 : decide (b + 64 < n + 1) = decide (b + 64 < n) := by simp only [decide_eq_decide]; omega
          have e3 : decide (b + 128 < n + 1) = decide (b + 128 < n) := by simp only [decide_eq_decide]; omega
          rw [e1, e2, e3]
          simp only [Bool.and_assoc] at z ⊢
          rw [z]; simp
theorem own_bits (xs : List Int64) (b : Nat) (hb : b < 64) (bt : Int32) (hbt : bt = b.toInt32) (m1 m2 m3 : Int64) (h1 : xs.getD b 0 = m1) (h2 : xs.getD (b + 64) 0 = m2) (h3 : xs.getD (b + 128) 0 = m3) :
    ((((own_fp xs 192).toUInt64 >>> (bt &&& 0x3f).toInt64.toUInt64).toInt64) &&& (1 : Int64)) = ((m1 ^^^ m2) ^^^ m3) &&& (1 : Int64) := by
  have H := own_fp_bit xs b hb 192 (Nat.le_refl _)
  generalize own_fp xs 192 = A at *
  subst hbt
  apply Int64.toBitVec_inj.mp
  rw [own_one, own_one, own_ushr A hb]
  apply BitVec.eq_of_getLsbD_eq
  intro k hk
  rw [own_one_bit, own_one_bit, BitVec.getLsbD_ushiftRight]
  by_cases hk0 : k = 0
  · subst hk0
    have e : ((m1 ^^^ m2) ^^^ m3).toBitVec = (m1.toBitVec ^^^ m2.toBitVec) ^^^ m3.toBitVec := rfl
    have e1 : own_b xs b = m1.toBitVec.getLsbD 0 := by unfold own_b; rw [h1]
    have e2 : own_b xs (b + 64) = m2.toBitVec.getLsbD 0 := by unfold own_b; rw [h2]
    have e3 : own_b xs (b + 128) = m3.toBitVec.getLsbD 0 := by unfold own_b; rw [h3]
    rw [e, BitVec.getLsbD_xor, BitVec.getLsbD_xor, Nat.add_zero, H, e1, e2, e3]
    simp [show b < 192 by omega, show b + 64 < 192 by omega, show b + 128 < 192 by omega]
  · simp [hk0]
theorem own_flip (x : Int64) : x + (-9223372036854775808 : Int64) = x ^^^ (-9223372036854775808 : Int64) := by
  apply Int64.toBitVec_inj.mp
  apply BitVec.eq_of_toNat_eq
  show (x.toBitVec + (-9223372036854775808 : Int64).toBitVec).toNat = (x.toBitVec ^^^ (-9223372036854775808 : Int64).toBitVec).toNat
  have hm : (-9223372036854775808 : Int64).toBitVec.toNat = 2 ^ 63 := by decide
  rw [BitVec.toNat_add, BitVec.toNat_xor, hm]
  have hl := x.toBitVec.isLt
  generalize x.toBitVec.toNat = n at *
  have h1 : (n ^^^ 2 ^ 63) / 2 ^ 63 = n / 2 ^ 63 ^^^ 2 ^ 63 / 2 ^ 63 := Nat.xor_div_two_pow
  have h2 : (n ^^^ 2 ^ 63) % 2 ^ 63 = n % 2 ^ 63 ^^^ 2 ^ 63 % 2 ^ 63 := Nat.xor_mod_two_pow
  have h3 : (2 : Nat) ^ 63 / 2 ^ 63 = 1 := by decide
  have h4 : (2 : Nat) ^ 63 % 2 ^ 63 = 0 := by decide
  rw [h3] at h1
  rw [h4, Nat.xor_zero] at h2
  have h5 : n / 2 ^ 63 = 0 ∨ n / 2 ^ 63 = 1 := by omega
  generalize n ^^^ 2 ^ 63 = m at *
  rcases h5 with h5 | h5 <;> rw [h5] at h1
  · rw [Nat.zero_xor] at h1; omega
  · rw [Nat.xor_self] at h1; omega
theorem own_cu_lt (v w : Int64) : own_cu v w < (0 : Int32) ↔ (v + (-9223372036854775808 : Int64)) < (w + (-9223372036854775808 : Int64)) := by
  unfold own_cu own_cmp
  rw [← lw_lt]
  by_cases h : lcmpW (v + (-9223372036854775808 : Int64)) (w + (-9223372036854775808 : Int64)) < (0 : Int32)
  · rw [if_pos h]; exact ⟨fun _ => h, fun _ => by decide⟩
  · rw [if_neg h]
    refine ⟨fun q => ?_, fun q => absurd q h⟩
    split at q
    · exact absurd q (by decide)
    · exact absurd q (by decide)
theorem own_addM {v w : Int64} (h : v + (-9223372036854775808 : Int64) = w + (-9223372036854775808 : Int64)) : v = w := by
  exact (Int64.add_left_inj _).mp h
theorem own_xlt (v w : Int64) : lcmpW (v ^^^ (-9223372036854775808 : Int64)) (w ^^^ (-9223372036854775808 : Int64)) < (0 : Int32) ↔ (v + (-9223372036854775808 : Int64)) < (w + (-9223372036854775808 : Int64)) := by
  rw [own_flip v, own_flip w]; exact lw_lt _ _
theorem own_pick_umin (v w : Int64) : own_pick w v = own_umin v w := by
  unfold own_pick own_umin
  by_cases h : own_cu w v < (0 : Int32)
  · rw [if_pos h]
    have h' := (own_cu_lt w v).mp h
    have : ¬ (lcmpW (v ^^^ (-9223372036854775808 : Int64)) (w ^^^ (-9223372036854775808 : Int64)) < (0 : Int32)) := by
      rw [own_xlt]
      rw [Int64.lt_iff_toInt_lt] at h' ⊢; omega
    rw [if_neg this]
  · rw [if_neg h]
    have h' : ¬ (w + (-9223372036854775808 : Int64)) < (v + (-9223372036854775808 : Int64)) := fun q => h ((own_cu_lt w v).mpr q)
    by_cases g : lcmpW (v ^^^ (-9223372036854775808 : Int64)) (w ^^^ (-9223372036854775808 : Int64)) < (0 : Int32)
    · rw [if_pos g]
    · rw [if_neg g]
      rw [own_xlt] at g
      apply own_addM
      rw [← Int64.toInt_inj]
      rw [Int64.lt_iff_toInt_lt] at h' g; omega
theorem own_pick_neg (v : Int64) : own_pick v (-1) = v := by
  unfold own_pick
  by_cases h : own_cu v (-1) < (0 : Int32)
  · rw [if_pos h]
  · rw [if_neg h]
    have h' : ¬ (v + (-9223372036854775808 : Int64)) < ((-1 : Int64) + (-9223372036854775808 : Int64)) := fun q => h ((own_cu_lt v (-1)).mpr q)
    apply own_addM
    rw [← Int64.toInt_inj]
    have e : ((-1 : Int64) + (-9223372036854775808 : Int64)).toInt = 9223372036854775807 := by decide
    have r := rng64 (v + (-9223372036854775808 : Int64))
    rw [Int64.lt_iff_toInt_lt, e] at h'
    rw [e]; omega
theorem own_fill_get (v : Int64) (xs : List Int64) (j : Nat) : ∀ n, n ≤ xs.length → (own_fill v xs n).getD j 0 = if j < n then v else xs.getD j 0
  | 0, _ => by simp [own_fill]
  | n + 1, h => by
    have ih := own_fill_get v xs j n (by omega)
    have hl := own_fill_len v xs n
    rw [own_fill]
    by_cases e : j = n
    · subst e
      rw [if_pos (by omega), List.getD_eq_getElem?_getD, List.getElem?_set_self (by omega), Option.getD_some]
    · rw [List.getD_eq_getElem?_getD, List.getElem?_set_ne (Ne.symm e), ← List.getD_eq_getElem?_getD, ih]
      by_cases q : j < n
      · rw [if_pos q, if_pos (by omega)]
      · rw [if_neg q, if_neg (by omega)]
theorem own_upd_get (h : Int64) (xs : List Int64) (j : Nat) : ∀ n, n ≤ xs.length → (own_upd h xs n).getD j 0 = if j < n then own_pick (own_mix (own_st h (j + 1))) (xs.getD j 0) else xs.getD j 0
  | 0, _ => by simp [own_upd]
  | n + 1, hl' => by
    have ih := own_upd_get h xs j n (by omega)
    have hl := own_upd_len h xs n
    rw [own_upd]
    by_cases e : j = n
    · subst e
      rw [if_neg (by omega)] at ih
      rw [if_pos (by omega), List.getD_eq_getElem?_getD, List.getElem?_set_self (by omega), ih, Option.getD_some]
    · rw [List.getD_eq_getElem?_getD, List.getElem?_set_ne (Ne.symm e), ← List.getD_eq_getElem?_getD, ih]
      by_cases q : j < n
      · rw [if_pos q, if_pos (by omega)]
      · rw [if_neg q, if_neg (by omega)]
theorem own_st_eq (h : Int64) : ∀ n, own_st h n = h + (Int64.ofNat n * (-7046029254386353131 : Int64))
  | 0 => by
    have e0 : Int64.ofNat 0 = 0 := rfl
    rw [e0, Int64.zero_mul, Int64.add_zero]; rfl
  | n + 1 => by
    have e1 : Int64.ofNat 1 = 1 := rfl
    show own_st h n + (-7046029254386353131 : Int64) = _
    rw [own_st_eq h n, Int64.ofNat_add, Int64.add_mul, e1, Int64.one_mul, Int64.add_assoc]
theorem own_idx {b : Nat} (k : Nat) {kk bt : Int32} (hb : b < 64) (hk : k ≤ 200) (hbt : bt = b.toInt32) (hkk : kk = k.toInt32) : (bt + kk).toInt64 = Int64.ofNat (b + k) := by
  subst hbt hkk
  rw [← Int64.toInt_inj, c_i2l]
  have a1 := c_iadd b.toInt32 k.toInt32
  rw [own_nat (by omega), own_nat (by omega)] at a1
  have r := rng32 (b.toInt32 + k.toInt32)
  have e : (Int64.ofNat (b + k)).toInt = ((b + k : Nat) : Int) := Int64.toInt_ofNat_of_lt (by omega)
  rw [e]; omega
theorem own_value_eq (h : Int64) {b : Nat} (k : Nat) {kk bt : Int32} (hb : b < 64) (hk : k ≤ 199) (hbt : bt = b.toInt32) (hkk : kk = (k + 1).toInt32) : own_value h (bt + kk) = own_mix (own_st h (b + k + 1)) := by
  unfold own_value
  rw [own_idx (k + 1) hb (by omega) hbt hkk, own_st_eq, Nat.add_assoc]
def own_x0 : List Int64 := own_fill (-1 : Int64) (List.replicate 192 (0 : Int64)) 192
theorem own_x0_len : own_x0.length = 192 := by unfold own_x0; rw [own_fill_len, List.length_replicate]
theorem own_x0_get {j : Nat} (h : j < 192) : own_x0.getD j 0 = -1 := by
  unfold own_x0
  rw [own_fill_get _ _ _ _ (by rw [List.length_replicate]; omega), if_pos h]
theorem own_g1 (a : Int64) {j : Nat} (h : j < 192) : (own_upd a own_x0 192).getD j 0 = own_mix (own_st a (j + 1)) := by
  rw [own_upd_get _ _ _ _ (by rw [own_x0_len]; omega), if_pos h, own_x0_get h, own_pick_neg]
theorem own_g2 (a b : Int64) {j : Nat} (h : j < 192) : (own_upd b (own_upd a own_x0 192) 192).getD j 0 = own_umin (own_mix (own_st a (j + 1))) (own_mix (own_st b (j + 1))) := by
  rw [own_upd_get _ _ _ _ (by rw [own_upd_len, own_x0_len]; omega), if_pos h, own_g1 a h, own_pick_umin]
theorem own_g3 (a b c : Int64) {j : Nat} (h : j < 192) : (own_upd c (own_upd b (own_upd a own_x0 192) 192) 192).getD j 0 = own_umin (own_umin (own_mix (own_st a (j + 1))) (own_mix (own_st b (j + 1)))) (own_mix (own_st c (j + 1))) := by
  rw [own_upd_get _ _ _ _ (by rw [own_upd_len, own_upd_len, own_x0_len]; omega), if_pos h, own_g2 a b h, own_pick_umin]
theorem own_law0 (a b c : Int64) {n : Nat} {bt : Int32} (hb : n < 64) (hbt : bt = n.toInt32) :
    ((((if (1 : Int32) = (0 : Int32) then own_fp own_x0 192 else (0 : Int64)).toUInt64 >>> (bt &&& 0x3f).toInt64.toUInt64).toInt64) &&& (1 : Int64)) = (0 : Int64) := by
  rw [if_neg (by decide)]
  subst hbt
  apply Int64.toBitVec_inj.mp
  rw [own_one, own_ushr _ hb]
  show ((0#64 >>> n) &&& 1#64) = 0#64
  simp
theorem own_min1 (a b c : Int64) (j : Int32) : own_min a b c (1 : Int32) j = own_value a j := by unfold own_min; rw [if_pos (by decide), if_pos (by decide)]
theorem own_min2 (a b c : Int64) (j : Int32) : own_min a b c (2 : Int32) j = own_umin (own_value a j) (own_value b j) := by unfold own_min; rw [if_pos (by decide : (2 : Int32) < (3 : Int32)), if_neg (by decide : ¬ (2 : Int32) < (2 : Int32))]
theorem own_min3 (a b c : Int64) (j : Int32) : own_min a b c (3 : Int32) j = own_umin (own_umin (own_value a j) (own_value b j)) (own_value c j) := by unfold own_min; rw [if_neg (by decide), if_neg (by decide)]
theorem own_law1 (a b c : Int64) {n : Nat} {bt : Int32} (hb : n < 64) (hbt : bt = n.toInt32) :
    ((((if (0 : Int32) = (0 : Int32) then own_fp (own_upd a own_x0 192) 192 else (0 : Int64)).toUInt64 >>> (bt &&& 0x3f).toInt64.toUInt64).toInt64) &&& (1 : Int64)) = (((own_min a b c (1 : Int32) (bt + (1 : Int32))) ^^^ (own_min a b c (1 : Int32) (bt + (65 : Int32)))) ^^^ (own_min a b c (1 : Int32) (bt + (129 : Int32)))) &&& (1 : Int64) := by
  rw [if_pos rfl]
  refine own_bits _ n hb bt hbt _ _ _ ?_ ?_ ?_
  · rw [own_g1 a (by omega), own_min1, own_value_eq a 0 (kk := 1) hb (by omega) hbt (by decide)]
  · rw [own_g1 a (by omega), own_min1, own_value_eq a 64 (kk := 65) hb (by omega) hbt (by decide)]
  · rw [own_g1 a (by omega), own_min1, own_value_eq a 128 (kk := 129) hb (by omega) hbt (by decide)]
theorem own_law2 (a b c : Int64) {n : Nat} {bt : Int32} (hb : n < 64) (hbt : bt = n.toInt32) :
    ((((if (0 : Int32) = (0 : Int32) then own_fp (own_upd b (own_upd a own_x0 192) 192) 192 else (0 : Int64)).toUInt64 >>> (bt &&& 0x3f).toInt64.toUInt64).toInt64) &&& (1 : Int64)) = (((own_min a b c (2 : Int32) (bt + (1 : Int32))) ^^^ (own_min a b c (2 : Int32) (bt + (65 : Int32)))) ^^^ (own_min a b c (2 : Int32) (bt + (129 : Int32)))) &&& (1 : Int64) := by
  rw [if_pos rfl]
  refine own_bits _ n hb bt hbt _ _ _ ?_ ?_ ?_
  · rw [own_g2 a b (by omega), own_min2, own_value_eq a 0 (kk := 1) hb (by omega) hbt (by decide), own_value_eq b 0 (kk := 1) hb (by omega) hbt (by decide)]
  · rw [own_g2 a b (by omega), own_min2, own_value_eq a 64 (kk := 65) hb (by omega) hbt (by decide), own_value_eq b 64 (kk := 65) hb (by omega) hbt (by decide)]
  · rw [own_g2 a b (by omega), own_min2, own_value_eq a 128 (kk := 129) hb (by omega) hbt (by decide), own_value_eq b 128 (kk := 129) hb (by omega) hbt (by decide)]
theorem own_law3 (a b c : Int64) {n : Nat} {bt : Int32} (hb : n < 64) (hbt : bt = n.toInt32) :
    ((((if (0 : Int32) = (0 : Int32) then own_fp (own_upd c (own_upd b (own_upd a own_x0 192) 192) 192) 192 else (0 : Int64)).toUInt64 >>> (bt &&& 0x3f).toInt64.toUInt64).toInt64) &&& (1 : Int64)) = (((own_min a b c (3 : Int32) (bt + (1 : Int32))) ^^^ (own_min a b c (3 : Int32) (bt + (65 : Int32)))) ^^^ (own_min a b c (3 : Int32) (bt + (129 : Int32)))) &&& (1 : Int64) := by
  rw [if_pos rfl]
  refine own_bits _ n hb bt hbt _ _ _ ?_ ?_ ?_
  · rw [own_g3 a b c (by omega), own_min3, own_value_eq a 0 (kk := 1) hb (by omega) hbt (by decide), own_value_eq b 0 (kk := 1) hb (by omega) hbt (by decide), own_value_eq c 0 (kk := 1) hb (by omega) hbt (by decide)]
  · rw [own_g3 a b c (by omega), own_min3, own_value_eq a 64 (kk := 65) hb (by omega) hbt (by decide), own_value_eq b 64 (kk := 65) hb (by omega) hbt (by decide), own_value_eq c 64 (kk := 65) hb (by omega) hbt (by decide)]
  · rw [own_g3 a b c (by omega), own_min3, own_value_eq a 128 (kk := 129) hb (by omega) hbt (by decide), own_value_eq b 128 (kk := 129) hb (by omega) hbt (by decide), own_value_eq c 128 (kk := 129) hb (by omega) hbt (by decide)]
theorem own_pn0 : plainName "com/example/criba/criba/model/MinhashAccumulator" = true := by first | (simp [plainName, overriddenIn]; done) | decide +kernel
theorem d5_0 : decode prog_27_method_4_code 0 = .ok (.lload_n 0, 1) := by decide +kernel
theorem d5_1 : decode prog_27_method_4_code 1 = .ok (.lstore_n 2, 1) := by decide +kernel
theorem d5_2 : decode prog_27_method_4_code 2 = .ok (.lload_n 2, 1) := by decide +kernel
theorem d5_3 : decode prog_27_method_4_code 3 = .ok (.lload_n 2, 1) := by decide +kernel
theorem d5_4 : decode prog_27_method_4_code 4 = .ok (.bipush 30, 2) := by decide +kernel
theorem d5_6 : decode prog_27_method_4_code 6 = .ok (.lushr, 1) := by decide +kernel
theorem d5_7 : decode prog_27_method_4_code 7 = .ok (.lxor, 1) := by decide +kernel
theorem d5_8 : decode prog_27_method_4_code 8 = .ok (.ldc2_w 37, 3) := by decide +kernel
theorem d5_11 : decode prog_27_method_4_code 11 = .ok (.lmul, 1) := by decide +kernel
theorem d5_12 : decode prog_27_method_4_code 12 = .ok (.lstore_n 2, 1) := by decide +kernel
theorem d5_13 : decode prog_27_method_4_code 13 = .ok (.lload_n 2, 1) := by decide +kernel
theorem d5_14 : decode prog_27_method_4_code 14 = .ok (.lload_n 2, 1) := by decide +kernel
theorem d5_15 : decode prog_27_method_4_code 15 = .ok (.bipush 27, 2) := by decide +kernel
theorem d5_17 : decode prog_27_method_4_code 17 = .ok (.lushr, 1) := by decide +kernel
theorem d5_18 : decode prog_27_method_4_code 18 = .ok (.lxor, 1) := by decide +kernel
theorem d5_19 : decode prog_27_method_4_code 19 = .ok (.ldc2_w 39, 3) := by decide +kernel
theorem d5_22 : decode prog_27_method_4_code 22 = .ok (.lmul, 1) := by decide +kernel
theorem d5_23 : decode prog_27_method_4_code 23 = .ok (.lstore_n 2, 1) := by decide +kernel
theorem d5_24 : decode prog_27_method_4_code 24 = .ok (.lload_n 2, 1) := by decide +kernel
theorem d5_25 : decode prog_27_method_4_code 25 = .ok (.lload_n 2, 1) := by decide +kernel
theorem d5_26 : decode prog_27_method_4_code 26 = .ok (.bipush 31, 2) := by decide +kernel
theorem d5_28 : decode prog_27_method_4_code 28 = .ok (.lushr, 1) := by decide +kernel
theorem d5_29 : decode prog_27_method_4_code 29 = .ok (.lxor, 1) := by decide +kernel
theorem d5_30 : decode prog_27_method_4_code 30 = .ok (.lreturn, 1) := by decide +kernel
theorem ef_5 (m : MethodId) (x0 : Int64) : entryFrame m #[(.long x0)] 4 = mkF m 0 #[.val (.long x0), .second, .unset, .unset] [] := by first | (simp [entryFrame, mkF, argsToLocals, Value.category]; done) | rfl
def Q5 (Z : State) (qx : Int64) (h0 : Heap) (n0 : Nat) (v : Option Value) (h : Heap) (L : List Loc) : Prop := v = some (.long (own_mix qx)) ∧ Fr n0 L ∧ h = h0
set_option maxRecDepth 65536 in
set_option maxHeartbeats 40000000 in
theorem rm5 (l : Launch) (Z : State) (a0 : Array Value) (hw : ∀ d ∈ tables_1, d.before a0 Z = true) (ws : List Jvm.Cond) (qx : Int64) (h0 : Heap) (n0 : Nat) (Z0 : n0 ≤ h0.size) :
    MetFree l (⟨"com/example/criba/criba/model/MinhashAccumulator", "mix", "(J)J"⟩ : MethodName) (head1 (Jvm.Cond.code (⟨"com/example/criba/criba/model/MinhashAccumulator", "mix", "(J)J"⟩ : MethodName) prog_27_method_4_code 4 (some .long) :: ws) ({ frames := 0, cells := 0, slots := 0, locals := 0 } : Room)) (fun a U => a = #[(.long qx)] ∧ Z.Warmed39 U.vm ∧ U.heap = h0) (fun _ _ _ _ _ => True) (fun _ U o U' => ∃ v L, o = .returned v ∧ Q5 Z qx h0 n0 v U'.heap L ∧ FrameEnd U o U' L ({ frames := 0, cells := 0, slots := 0, locals := 0 } : Room).cells ({ frames := 0, cells := 0, slots := 0, locals := 0 } : Room).slots) := by
  refine MetFree.of_bodySF (plainFor_of_name own_pn0) hisR ?_
  intro p e s m args below meth c s₁ Bd hml0 hP hK
  obtain ⟨rfl, hZ, hh⟩ := hP
  have hx := Bd.exec
  have hby := Bd.bytes
  have hml : c.maxLocals = 4 := hml0
  have hown : s.vm.findClass "com/example/criba/criba/model/MinhashAccumulator" = some m.cls := findClass_of_methodNamed Bd.named
  have hnm := (name_of_methodNamed Bd.named Bd.method).1
  have X0 : Stand p l e ({ frames := 0, cells := 0, slots := 0, locals := 0 } : Room) s m #[(.long qx)] below meth c s₁ [] 0 0 := Stand.of_body Bd
  have e0 : s₁.heap = h0 := by rw [← hh, Bd.state]; rfl
  have N0 := Fr.nil n0
  have K0 : Keep h0 h0 [] := Keep.refl _ _
  suffices GO : ∀ P : Outcome → State → Prop, (∀ o U', (∃ v L, o = .returned v ∧ Q5 Z qx h0 n0 v U'.heap L ∧ FrameEnd s o U' L ({ frames := 0, cells := 0, slots := 0, locals := 0 } : Room).cells ({ frames := 0, cells := 0, slots := 0, locals := 0 } : Room).slots) → P o U') → Go p.tables e below P s₁ (mkF m 0 #[.val (.long qx), .second, .unset, .unset] []) by
    obtain ⟨s2, o, st, r⟩ := GO _ (fun _ _ q => q)
    exact ⟨s2, o, castTop (ef_5 m qx) st, r⟩
  clear hh
  intro P hP
  show Go p.tables e below P s₁ (mkF m 0 #[.val (.long qx), .second, .unset, .unset] [])
  refine Go.via (fun t k => XS.lloadN X0.here hx rfl (hb hby d5_0) rfl k) ?_
  show Go p.tables e below P s₁ (mkF m 1 #[.val (.long qx), .second, .unset, .unset] [(.long qx)])
  refine Go.via (fun t k => XS.lstoreN X0.here hx rfl (hb hby d5_1) rfl (l' := #[.val (.long qx), .second, .val (.long qx), .second]) rfl k) ?_
  show Go p.tables e below P s₁ (mkF m 2 #[.val (.long qx), .second, .val (.long qx), .second] [])
  refine Go.via (fun t k => XS.lloadN X0.here hx rfl (hb hby d5_2) rfl k) ?_
  show Go p.tables e below P s₁ (mkF m 3 #[.val (.long qx), .second, .val (.long qx), .second] [(.long qx)])
  refine Go.via (fun t k => XS.lloadN X0.here hx rfl (hb hby d5_3) rfl k) ?_
  show Go p.tables e below P s₁ (mkF m 4 #[.val (.long qx), .second, .val (.long qx), .second] [(.long qx), (.long qx)])
  refine Go.via (fun t k => XS.bipush X0.here hx rfl (hb hby d5_4) k) ?_
  show Go p.tables e below P s₁ (mkF m 6 #[.val (.long qx), .second, .val (.long qx), .second] [(.int (30 : Int32)), (.long qx), (.long qx)])
  refine Go.via (fun t k => XS.lushr X0.here hx rfl (hb hby d5_6) rfl k) ?_
  show Go p.tables e below P s₁ (mkF m 7 #[.val (.long qx), .second, .val (.long qx), .second] [(.long ((qx.toUInt64 >>> ((30 : Int32) &&& 0x3f).toInt64.toUInt64).toInt64)), (.long qx)])
  refine Go.via (fun t k => XS.lxor X0.here hx rfl (hb hby d5_7) rfl k) ?_
  show Go p.tables e below P s₁ (mkF m 8 #[.val (.long qx), .second, .val (.long qx), .second] [(.long (qx ^^^ ((qx.toUInt64 >>> ((30 : Int32) &&& 0x3f).toInt64.toUInt64).toInt64)))])
  refine Go.via (fun t k => X0.ldc2Long hx hown (mvT hZ (hw _ (List.mem_of_getElem? (i := 28) rfl))) (g := (mkF m 8 #[.val (.long qx), .second, .val (.long qx), .second] [(.long (qx ^^^ ((qx.toUInt64 >>> ((30 : Int32) &&& 0x3f).toInt64.toUInt64).toInt64)))])) rfl (hb hby d5_8) t k) ?_
  show Go p.tables e below P s₁ (mkF m 11 #[.val (.long qx), .second, .val (.long qx), .second] [(.long (-4658895280553007687 : Int64)), (.long (qx ^^^ ((qx.toUInt64 >>> ((30 : Int32) &&& 0x3f).toInt64.toUInt64).toInt64)))])
  refine Go.via (fun t k => XS.lmul X0.here hx rfl (hb hby d5_11) rfl k) ?_
  show Go p.tables e below P s₁ (mkF m 12 #[.val (.long qx), .second, .val (.long qx), .second] [(.long ((qx ^^^ ((qx.toUInt64 >>> ((30 : Int32) &&& 0x3f).toInt64.toUInt64).toInt64)) * (-4658895280553007687 : Int64)))])
  refine Go.via (fun t k => XS.lstoreN X0.here hx rfl (hb hby d5_12) rfl (l' := #[.val (.long qx), .second, .val (.long ((qx ^^^ ((qx.toUInt64 >>> ((30 : Int32) &&& 0x3f).toInt64.toUInt64).toInt64)) * (-4658895280553007687 : Int64))), .second]) rfl k) ?_
  show Go p.tables e below P s₁ (mkF m 13 #[.val (.long qx), .second, .val (.long ((qx ^^^ ((qx.toUInt64 >>> ((30 : Int32) &&& 0x3f).toInt64.toUInt64).toInt64)) * (-4658895280553007687 : Int64))), .second] [])
  refine Go.via (fun t k => XS.lloadN X0.here hx rfl (hb hby d5_13) rfl k) ?_
  show Go p.tables e below P s₁ (mkF m 14 #[.val (.long qx), .second, .val (.long ((qx ^^^ ((qx.toUInt64 >>> ((30 : Int32) &&& 0x3f).toInt64.toUInt64).toInt64)) * (-4658895280553007687 : Int64))), .second] [(.long ((qx ^^^ ((qx.toUInt64 >>> ((30 : Int32) &&& 0x3f).toInt64.toUInt64).toInt64)) * (-4658895280553007687 : Int64)))])
  refine Go.via (fun t k => XS.lloadN X0.here hx rfl (hb hby d5_14) rfl k) ?_
  show Go p.tables e below P s₁ (mkF m 15 #[.val (.long qx), .second, .val (.long ((qx ^^^ ((qx.toUInt64 >>> ((30 : Int32) &&& 0x3f).toInt64.toUInt64).toInt64)) * (-4658895280553007687 : Int64))), .second] [(.long ((qx ^^^ ((qx.toUInt64 >>> ((30 : Int32) &&& 0x3f).toInt64.toUInt64).toInt64)) * (-4658895280553007687 : Int64))), (.long ((qx ^^^ ((qx.toUInt64 >>> ((30 : Int32) &&& 0x3f).toInt64.toUInt64).toInt64)) * (-4658895280553007687 : Int64)))])
  refine Go.via (fun t k => XS.bipush X0.here hx rfl (hb hby d5_15) k) ?_
  show Go p.tables e below P s₁ (mkF m 17 #[.val (.long qx), .second, .val (.long ((qx ^^^ ((qx.toUInt64 >>> ((30 : Int32) &&& 0x3f).toInt64.toUInt64).toInt64)) * (-4658895280553007687 : Int64))), .second] [(.int (27 : Int32)), (.long ((qx ^^^ ((qx.toUInt64 >>> ((30 : Int32) &&& 0x3f).toInt64.toUInt64).toInt64)) * (-4658895280553007687 : Int64))), (.long ((qx ^^^ ((qx.toUInt64 >>> ((30 : Int32) &&& 0x3f).toInt64.toUInt64).toInt64)) * (-4658895280553007687 : Int64)))])
  refine Go.via (fun t k => XS.lushr X0.here hx rfl (hb hby d5_17) rfl k) ?_
  show Go p.tables e below P s₁ (mkF m 18 #[.val (.long qx), .second, .val (.long ((qx ^^^ ((qx.toUInt64 >>> ((30 : Int32) &&& 0x3f).toInt64.toUInt64).toInt64)) * (-4658895280553007687 : Int64))), .second] [(.long ((((qx ^^^ ((qx.toUInt64 >>> ((30 : Int32) &&& 0x3f).toInt64.toUInt64).toInt64)) * (-4658895280553007687 : Int64)).toUInt64 >>> ((27 : Int32) &&& 0x3f).toInt64.toUInt64).toInt64)), (.long ((qx ^^^ ((qx.toUInt64 >>> ((30 : Int32) &&& 0x3f).toInt64.toUInt64).toInt64)) * (-4658895280553007687 : Int64)))])
  refine Go.via (fun t k => XS.lxor X0.here hx rfl (hb hby d5_18) rfl k) ?_
  show Go p.tables e below P s₁ (mkF m 19 #[.val (.long qx), .second, .val (.long ((qx ^^^ ((qx.toUInt64 >>> ((30 : Int32) &&& 0x3f).toInt64.toUInt64).toInt64)) * (-4658895280553007687 : Int64))), .second] [(.long (((qx ^^^ ((qx.toUInt64 >>> ((30 : Int32) &&& 0x3f).toInt64.toUInt64).toInt64)) * (-4658895280553007687 : Int64)) ^^^ ((((qx ^^^ ((qx.toUInt64 >>> ((30 : Int32) &&& 0x3f).toInt64.toUInt64).toInt64)) * (-4658895280553007687 : Int64)).toUInt64 >>> ((27 : Int32) &&& 0x3f).toInt64.toUInt64).toInt64)))])
  refine Go.via (fun t k => X0.ldc2Long hx hown (mvT hZ (hw _ (List.mem_of_getElem? (i := 29) rfl))) (g := (mkF m 19 #[.val (.long qx), .second, .val (.long ((qx ^^^ ((qx.toUInt64 >>> ((30 : Int32) &&& 0x3f).toInt64.toUInt64).toInt64)) * (-4658895280553007687 : Int64))), .second] [(.long (((qx ^^^ ((qx.toUInt64 >>> ((30 : Int32) &&& 0x3f).toInt64.toUInt64).toInt64)) * (-4658895280553007687 : Int64)) ^^^ ((((qx ^^^ ((qx.toUInt64 >>> ((30 : Int32) &&& 0x3f).toInt64.toUInt64).toInt64)) * (-4658895280553007687 : Int64)).toUInt64 >>> ((27 : Int32) &&& 0x3f).toInt64.toUInt64).toInt64)))])) rfl (hb hby d5_19) t k) ?_
  show Go p.tables e below P s₁ (mkF m 22 #[.val (.long qx), .second, .val (.long ((qx ^^^ ((qx.toUInt64 >>> ((30 : Int32) &&& 0x3f).toInt64.toUInt64).toInt64)) * (-4658895280553007687 : Int64))), .second] [(.long (-7723592293110705685 : Int64)), (.long (((qx ^^^ ((qx.toUInt64 >>> ((30 : Int32) &&& 0x3f).toInt64.toUInt64).toInt64)) * (-4658895280553007687 : Int64)) ^^^ ((((qx ^^^ ((qx.toUInt64 >>> ((30 : Int32) &&& 0x3f).toInt64.toUInt64).toInt64)) * (-4658895280553007687 : Int64)).toUInt64 >>> ((27 : Int32) &&& 0x3f).toInt64.toUInt64).toInt64)))])
  refine Go.via (fun t k => XS.lmul X0.here hx rfl (hb hby d5_22) rfl k) ?_
  show Go p.tables e below P s₁ (mkF m 23 #[.val (.long qx), .second, .val (.long ((qx ^^^ ((qx.toUInt64 >>> ((30 : Int32) &&& 0x3f).toInt64.toUInt64).toInt64)) * (-4658895280553007687 : Int64))), .second] [(.long ((((qx ^^^ ((qx.toUInt64 >>> ((30 : Int32) &&& 0x3f).toInt64.toUInt64).toInt64)) * (-4658895280553007687 : Int64)) ^^^ ((((qx ^^^ ((qx.toUInt64 >>> ((30 : Int32) &&& 0x3f).toInt64.toUInt64).toInt64)) * (-4658895280553007687 : Int64)).toUInt64 >>> ((27 : Int32) &&& 0x3f).toInt64.toUInt64).toInt64)) * (-7723592293110705685 : Int64)))])
  refine Go.via (fun t k => XS.lstoreN X0.here hx rfl (hb hby d5_23) rfl (l' := #[.val (.long qx), .second, .val (.long ((((qx ^^^ ((qx.toUInt64 >>> ((30 : Int32) &&& 0x3f).toInt64.toUInt64).toInt64)) * (-4658895280553007687 : Int64)) ^^^ ((((qx ^^^ ((qx.toUInt64 >>> ((30 : Int32) &&& 0x3f).toInt64.toUInt64).toInt64)) * (-4658895280553007687 : Int64)).toUInt64 >>> ((27 : Int32) &&& 0x3f).toInt64.toUInt64).toInt64)) * (-7723592293110705685 : Int64))), .second]) rfl k) ?_
  show Go p.tables e below P s₁ (mkF m 24 #[.val (.long qx), .second, .val (.long ((((qx ^^^ ((qx.toUInt64 >>> ((30 : Int32) &&& 0x3f).toInt64.toUInt64).toInt64)) * (-4658895280553007687 : Int64)) ^^^ ((((qx ^^^ ((qx.toUInt64 >>> ((30 : Int32) &&& 0x3f).toInt64.toUInt64).toInt64)) * (-4658895280553007687 : Int64)).toUInt64 >>> ((27 : Int32) &&& 0x3f).toInt64.toUInt64).toInt64)) * (-7723592293110705685 : Int64))), .second] [])
  refine Go.via (fun t k => XS.lloadN X0.here hx rfl (hb hby d5_24) rfl k) ?_
  show Go p.tables e below P s₁ (mkF m 25 #[.val (.long qx), .second, .val (.long ((((qx ^^^ ((qx.toUInt64 >>> ((30 : Int32) &&& 0x3f).toInt64.toUInt64).toInt64)) * (-4658895280553007687 : Int64)) ^^^ ((((qx ^^^ ((qx.toUInt64 >>> ((30 : Int32) &&& 0x3f).toInt64.toUInt64).toInt64)) * (-4658895280553007687 : Int64)).toUInt64 >>> ((27 : Int32) &&& 0x3f).toInt64.toUInt64).toInt64)) * (-7723592293110705685 : Int64))), .second] [(.long ((((qx ^^^ ((qx.toUInt64 >>> ((30 : Int32) &&& 0x3f).toInt64.toUInt64).toInt64)) * (-4658895280553007687 : Int64)) ^^^ ((((qx ^^^ ((qx.toUInt64 >>> ((30 : Int32) &&& 0x3f).toInt64.toUInt64).toInt64)) * (-4658895280553007687 : Int64)).toUInt64 >>> ((27 : Int32) &&& 0x3f).toInt64.toUInt64).toInt64)) * (-7723592293110705685 : Int64)))])
  refine Go.via (fun t k => XS.lloadN X0.here hx rfl (hb hby d5_25) rfl k) ?_
  show Go p.tables e below P s₁ (mkF m 26 #[.val (.long qx), .second, .val (.long ((((qx ^^^ ((qx.toUInt64 >>> ((30 : Int32) &&& 0x3f).toInt64.toUInt64).toInt64)) * (-4658895280553007687 : Int64)) ^^^ ((((qx ^^^ ((qx.toUInt64 >>> ((30 : Int32) &&& 0x3f).toInt64.toUInt64).toInt64)) * (-4658895280553007687 : Int64)).toUInt64 >>> ((27 : Int32) &&& 0x3f).toInt64.toUInt64).toInt64)) * (-7723592293110705685 : Int64))), .second] [(.long ((((qx ^^^ ((qx.toUInt64 >>> ((30 : Int32) &&& 0x3f).toInt64.toUInt64).toInt64)) * (-4658895280553007687 : Int64)) ^^^ ((((qx ^^^ ((qx.toUInt64 >>> ((30 : Int32) &&& 0x3f).toInt64.toUInt64).toInt64)) * (-4658895280553007687 : Int64)).toUInt64 >>> ((27 : Int32) &&& 0x3f).toInt64.toUInt64).toInt64)) * (-7723592293110705685 : Int64))), (.long ((((qx ^^^ ((qx.toUInt64 >>> ((30 : Int32) &&& 0x3f).toInt64.toUInt64).toInt64)) * (-4658895280553007687 : Int64)) ^^^ ((((qx ^^^ ((qx.toUInt64 >>> ((30 : Int32) &&& 0x3f).toInt64.toUInt64).toInt64)) * (-4658895280553007687 : Int64)).toUInt64 >>> ((27 : Int32) &&& 0x3f).toInt64.toUInt64).toInt64)) * (-7723592293110705685 : Int64)))])
  refine Go.via (fun t k => XS.bipush X0.here hx rfl (hb hby d5_26) k) ?_
  show Go p.tables e below P s₁ (mkF m 28 #[.val (.long qx), .second, .val (.long ((((qx ^^^ ((qx.toUInt64 >>> ((30 : Int32) &&& 0x3f).toInt64.toUInt64).toInt64)) * (-4658895280553007687 : Int64)) ^^^ ((((qx ^^^ ((qx.toUInt64 >>> ((30 : Int32) &&& 0x3f).toInt64.toUInt64).toInt64)) * (-4658895280553007687 : Int64)).toUInt64 >>> ((27 : Int32) &&& 0x3f).toInt64.toUInt64).toInt64)) * (-7723592293110705685 : Int64))), .second] [(.int (31 : Int32)), (.long ((((qx ^^^ ((qx.toUInt64 >>> ((30 : Int32) &&& 0x3f).toInt64.toUInt64).toInt64)) * (-4658895280553007687 : Int64)) ^^^ ((((qx ^^^ ((qx.toUInt64 >>> ((30 : Int32) &&& 0x3f).toInt64.toUInt64).toInt64)) * (-4658895280553007687 : Int64)).toUInt64 >>> ((27 : Int32) &&& 0x3f).toInt64.toUInt64).toInt64)) * (-7723592293110705685 : Int64))), (.long ((((qx ^^^ ((qx.toUInt64 >>> ((30 : Int32) &&& 0x3f).toInt64.toUInt64).toInt64)) * (-4658895280553007687 : Int64)) ^^^ ((((qx ^^^ ((qx.toUInt64 >>> ((30 : Int32) &&& 0x3f).toInt64.toUInt64).toInt64)) * (-4658895280553007687 : Int64)).toUInt64 >>> ((27 : Int32) &&& 0x3f).toInt64.toUInt64).toInt64)) * (-7723592293110705685 : Int64)))])
  refine Go.via (fun t k => XS.lushr X0.here hx rfl (hb hby d5_28) rfl k) ?_
  show Go p.tables e below P s₁ (mkF m 29 #[.val (.long qx), .second, .val (.long ((((qx ^^^ ((qx.toUInt64 >>> ((30 : Int32) &&& 0x3f).toInt64.toUInt64).toInt64)) * (-4658895280553007687 : Int64)) ^^^ ((((qx ^^^ ((qx.toUInt64 >>> ((30 : Int32) &&& 0x3f).toInt64.toUInt64).toInt64)) * (-4658895280553007687 : Int64)).toUInt64 >>> ((27 : Int32) &&& 0x3f).toInt64.toUInt64).toInt64)) * (-7723592293110705685 : Int64))), .second] [(.long ((((((qx ^^^ ((qx.toUInt64 >>> ((30 : Int32) &&& 0x3f).toInt64.toUInt64).toInt64)) * (-4658895280553007687 : Int64)) ^^^ ((((qx ^^^ ((qx.toUInt64 >>> ((30 : Int32) &&& 0x3f).toInt64.toUInt64).toInt64)) * (-4658895280553007687 : Int64)).toUInt64 >>> ((27 : Int32) &&& 0x3f).toInt64.toUInt64).toInt64)) * (-7723592293110705685 : Int64)).toUInt64 >>> ((31 : Int32) &&& 0x3f).toInt64.toUInt64).toInt64)), (.long ((((qx ^^^ ((qx.toUInt64 >>> ((30 : Int32) &&& 0x3f).toInt64.toUInt64).toInt64)) * (-4658895280553007687 : Int64)) ^^^ ((((qx ^^^ ((qx.toUInt64 >>> ((30 : Int32) &&& 0x3f).toInt64.toUInt64).toInt64)) * (-4658895280553007687 : Int64)).toUInt64 >>> ((27 : Int32) &&& 0x3f).toInt64.toUInt64).toInt64)) * (-7723592293110705685 : Int64)))])
  refine Go.via (fun t k => XS.lxor X0.here hx rfl (hb hby d5_29) rfl k) ?_
  show Go p.tables e below P s₁ (mkF m 30 #[.val (.long qx), .second, .val (.long ((((qx ^^^ ((qx.toUInt64 >>> ((30 : Int32) &&& 0x3f).toInt64.toUInt64).toInt64)) * (-4658895280553007687 : Int64)) ^^^ ((((qx ^^^ ((qx.toUInt64 >>> ((30 : Int32) &&& 0x3f).toInt64.toUInt64).toInt64)) * (-4658895280553007687 : Int64)).toUInt64 >>> ((27 : Int32) &&& 0x3f).toInt64.toUInt64).toInt64)) * (-7723592293110705685 : Int64))), .second] [(.long (((((qx ^^^ ((qx.toUInt64 >>> ((30 : Int32) &&& 0x3f).toInt64.toUInt64).toInt64)) * (-4658895280553007687 : Int64)) ^^^ ((((qx ^^^ ((qx.toUInt64 >>> ((30 : Int32) &&& 0x3f).toInt64.toUInt64).toInt64)) * (-4658895280553007687 : Int64)).toUInt64 >>> ((27 : Int32) &&& 0x3f).toInt64.toUInt64).toInt64)) * (-7723592293110705685 : Int64)) ^^^ ((((((qx ^^^ ((qx.toUInt64 >>> ((30 : Int32) &&& 0x3f).toInt64.toUInt64).toInt64)) * (-4658895280553007687 : Int64)) ^^^ ((((qx ^^^ ((qx.toUInt64 >>> ((30 : Int32) &&& 0x3f).toInt64.toUInt64).toInt64)) * (-4658895280553007687 : Int64)).toUInt64 >>> ((27 : Int32) &&& 0x3f).toInt64.toUInt64).toInt64)) * (-7723592293110705685 : Int64)).toUInt64 >>> ((31 : Int32) &&& 0x3f).toInt64.toUInt64).toInt64)))])
  obtain ⟨fs, hr, hrun, hended, hW, hsame⟩ := X0.leave (v := some (.long (own_mix qx))) (fun h => by rw [Bd.returns] at h; cases h)
  refine ⟨_, _, retJ X0 hx Bd.returns (hb hby d5_30) hr, hrun, hended, hP _ _ ⟨_, _, rfl, ?_, ⟨_, rfl⟩, hW, hsame.mono (by decide) (by decide)⟩⟩
  show Q5 Z qx h0 n0 _ s₁.heap _
  rw [e0]
  exact ⟨rfl, N0, rfl⟩
theorem own_pn1 : plainName "com/example/criba/criba/model/MinhashAccumulatorFingerprintPinLaw" = true := by first | (simp [plainName, overriddenIn]; done) | decide +kernel
theorem d11_0 : decode method_2_code 0 = .ok (.lload_n 0, 1) := by decide +kernel
theorem d11_1 : decode method_2_code 1 = .ok (.lstore_n 2, 1) := by decide +kernel
theorem d11_2 : decode method_2_code 2 = .ok (.lload_n 2, 1) := by decide +kernel
theorem d11_3 : decode method_2_code 3 = .ok (.lload_n 2, 1) := by decide +kernel
theorem d11_4 : decode method_2_code 4 = .ok (.bipush 30, 2) := by decide +kernel
theorem d11_6 : decode method_2_code 6 = .ok (.lushr, 1) := by decide +kernel
theorem d11_7 : decode method_2_code 7 = .ok (.lxor, 1) := by decide +kernel
theorem d11_8 : decode method_2_code 8 = .ok (.ldc2_w 7, 3) := by decide +kernel
theorem d11_11 : decode method_2_code 11 = .ok (.lmul, 1) := by decide +kernel
theorem d11_12 : decode method_2_code 12 = .ok (.lstore_n 2, 1) := by decide +kernel
theorem d11_13 : decode method_2_code 13 = .ok (.lload_n 2, 1) := by decide +kernel
theorem d11_14 : decode method_2_code 14 = .ok (.lload_n 2, 1) := by decide +kernel
theorem d11_15 : decode method_2_code 15 = .ok (.bipush 27, 2) := by decide +kernel
theorem d11_17 : decode method_2_code 17 = .ok (.lushr, 1) := by decide +kernel
theorem d11_18 : decode method_2_code 18 = .ok (.lxor, 1) := by decide +kernel
theorem d11_19 : decode method_2_code 19 = .ok (.ldc2_w 9, 3) := by decide +kernel
theorem d11_22 : decode method_2_code 22 = .ok (.lmul, 1) := by decide +kernel
theorem d11_23 : decode method_2_code 23 = .ok (.lstore_n 2, 1) := by decide +kernel
theorem d11_24 : decode method_2_code 24 = .ok (.lload_n 2, 1) := by decide +kernel
theorem d11_25 : decode method_2_code 25 = .ok (.lload_n 2, 1) := by decide +kernel
theorem d11_26 : decode method_2_code 26 = .ok (.bipush 31, 2) := by decide +kernel
theorem d11_28 : decode method_2_code 28 = .ok (.lushr, 1) := by decide +kernel
theorem d11_29 : decode method_2_code 29 = .ok (.lxor, 1) := by decide +kernel
theorem d11_30 : decode method_2_code 30 = .ok (.lreturn, 1) := by decide +kernel
theorem ef_11 (m : MethodId) (x0 : Int64) : entryFrame m #[(.long x0)] 4 = mkF m 0 #[.val (.long x0), .second, .unset, .unset] [] := by first | (simp [entryFrame, mkF, argsToLocals, Value.category]; done) | rfl
def Q11 (Z : State) (qx : Int64) (h0 : Heap) (n0 : Nat) (v : Option Value) (h : Heap) (L : List Loc) : Prop := v = some (.long (own_mix qx)) ∧ Fr n0 L ∧ h = h0
set_option maxRecDepth 65536 in
set_option maxHeartbeats 40000000 in
theorem rm11 (l : Launch) (Z : State) (a0 : Array Value) (hw : ∀ d ∈ tables_1, d.before a0 Z = true) (ws : List Jvm.Cond) (qx : Int64) (h0 : Heap) (n0 : Nat) (Z0 : n0 ≤ h0.size) :
    MetFree l (⟨"com/example/criba/criba/model/MinhashAccumulatorFingerprintPinLaw", "mix", "(J)J"⟩ : MethodName) (head1 (Jvm.Cond.code (⟨"com/example/criba/criba/model/MinhashAccumulatorFingerprintPinLaw", "mix", "(J)J"⟩ : MethodName) method_2_code 4 (some .long) :: ws) ({ frames := 0, cells := 0, slots := 0, locals := 0 } : Room)) (fun a U => a = #[(.long qx)] ∧ Z.Warmed39 U.vm ∧ U.heap = h0) (fun _ _ _ _ _ => True) (fun _ U o U' => ∃ v L, o = .returned v ∧ Q11 Z qx h0 n0 v U'.heap L ∧ FrameEnd U o U' L ({ frames := 0, cells := 0, slots := 0, locals := 0 } : Room).cells ({ frames := 0, cells := 0, slots := 0, locals := 0 } : Room).slots) := by
  refine MetFree.of_bodySF (plainFor_of_name own_pn1) hisR ?_
  intro p e s m args below meth c s₁ Bd hml0 hP hK
  obtain ⟨rfl, hZ, hh⟩ := hP
  have hx := Bd.exec
  have hby := Bd.bytes
  have hml : c.maxLocals = 4 := hml0
  have hown : s.vm.findClass "com/example/criba/criba/model/MinhashAccumulatorFingerprintPinLaw" = some m.cls := findClass_of_methodNamed Bd.named
  have hnm := (name_of_methodNamed Bd.named Bd.method).1
  have X0 : Stand p l e ({ frames := 0, cells := 0, slots := 0, locals := 0 } : Room) s m #[(.long qx)] below meth c s₁ [] 0 0 := Stand.of_body Bd
  have e0 : s₁.heap = h0 := by rw [← hh, Bd.state]; rfl
  have N0 := Fr.nil n0
  have K0 : Keep h0 h0 [] := Keep.refl _ _
  suffices GO : ∀ P : Outcome → State → Prop, (∀ o U', (∃ v L, o = .returned v ∧ Q11 Z qx h0 n0 v U'.heap L ∧ FrameEnd s o U' L ({ frames := 0, cells := 0, slots := 0, locals := 0 } : Room).cells ({ frames := 0, cells := 0, slots := 0, locals := 0 } : Room).slots) → P o U') → Go p.tables e below P s₁ (mkF m 0 #[.val (.long qx), .second, .unset, .unset] []) by
    obtain ⟨s2, o, st, r⟩ := GO _ (fun _ _ q => q)
    exact ⟨s2, o, castTop (ef_11 m qx) st, r⟩
  clear hh
  intro P hP
  show Go p.tables e below P s₁ (mkF m 0 #[.val (.long qx), .second, .unset, .unset] [])
  refine Go.via (fun t k => XS.lloadN X0.here hx rfl (hb hby d11_0) rfl k) ?_
  show Go p.tables e below P s₁ (mkF m 1 #[.val (.long qx), .second, .unset, .unset] [(.long qx)])
  refine Go.via (fun t k => XS.lstoreN X0.here hx rfl (hb hby d11_1) rfl (l' := #[.val (.long qx), .second, .val (.long qx), .second]) rfl k) ?_
  show Go p.tables e below P s₁ (mkF m 2 #[.val (.long qx), .second, .val (.long qx), .second] [])
  refine Go.via (fun t k => XS.lloadN X0.here hx rfl (hb hby d11_2) rfl k) ?_
  show Go p.tables e below P s₁ (mkF m 3 #[.val (.long qx), .second, .val (.long qx), .second] [(.long qx)])
  refine Go.via (fun t k => XS.lloadN X0.here hx rfl (hb hby d11_3) rfl k) ?_
  show Go p.tables e below P s₁ (mkF m 4 #[.val (.long qx), .second, .val (.long qx), .second] [(.long qx), (.long qx)])
  refine Go.via (fun t k => XS.bipush X0.here hx rfl (hb hby d11_4) k) ?_
  show Go p.tables e below P s₁ (mkF m 6 #[.val (.long qx), .second, .val (.long qx), .second] [(.int (30 : Int32)), (.long qx), (.long qx)])
  refine Go.via (fun t k => XS.lushr X0.here hx rfl (hb hby d11_6) rfl k) ?_
  show Go p.tables e below P s₁ (mkF m 7 #[.val (.long qx), .second, .val (.long qx), .second] [(.long ((qx.toUInt64 >>> ((30 : Int32) &&& 0x3f).toInt64.toUInt64).toInt64)), (.long qx)])
  refine Go.via (fun t k => XS.lxor X0.here hx rfl (hb hby d11_7) rfl k) ?_
  show Go p.tables e below P s₁ (mkF m 8 #[.val (.long qx), .second, .val (.long qx), .second] [(.long (qx ^^^ ((qx.toUInt64 >>> ((30 : Int32) &&& 0x3f).toInt64.toUInt64).toInt64)))])
  refine Go.via (fun t k => X0.ldc2Long hx hown (mvT hZ (hw _ (List.mem_of_getElem? (i := 54) rfl))) (g := (mkF m 8 #[.val (.long qx), .second, .val (.long qx), .second] [(.long (qx ^^^ ((qx.toUInt64 >>> ((30 : Int32) &&& 0x3f).toInt64.toUInt64).toInt64)))])) rfl (hb hby d11_8) t k) ?_
  show Go p.tables e below P s₁ (mkF m 11 #[.val (.long qx), .second, .val (.long qx), .second] [(.long (-4658895280553007687 : Int64)), (.long (qx ^^^ ((qx.toUInt64 >>> ((30 : Int32) &&& 0x3f).toInt64.toUInt64).toInt64)))])
  refine Go.via (fun t k => XS.lmul X0.here hx rfl (hb hby d11_11) rfl k) ?_
  show Go p.tables e below P s₁ (mkF m 12 #[.val (.long qx), .second, .val (.long qx), .second] [(.long ((qx ^^^ ((qx.toUInt64 >>> ((30 : Int32) &&& 0x3f).toInt64.toUInt64).toInt64)) * (-4658895280553007687 : Int64)))])
  refine Go.via (fun t k => XS.lstoreN X0.here hx rfl (hb hby d11_12) rfl (l' := #[.val (.long qx), .second, .val (.long ((qx ^^^ ((qx.toUInt64 >>> ((30 : Int32) &&& 0x3f).toInt64.toUInt64).toInt64)) * (-4658895280553007687 : Int64))), .second]) rfl k) ?_
  show Go p.tables e below P s₁ (mkF m 13 #[.val (.long qx), .second, .val (.long ((qx ^^^ ((qx.toUInt64 >>> ((30 : Int32) &&& 0x3f).toInt64.toUInt64).toInt64)) * (-4658895280553007687 : Int64))), .second] [])
  refine Go.via (fun t k => XS.lloadN X0.here hx rfl (hb hby d11_13) rfl k) ?_
  show Go p.tables e below P s₁ (mkF m 14 #[.val (.long qx), .second, .val (.long ((qx ^^^ ((qx.toUInt64 >>> ((30 : Int32) &&& 0x3f).toInt64.toUInt64).toInt64)) * (-4658895280553007687 : Int64))), .second] [(.long ((qx ^^^ ((qx.toUInt64 >>> ((30 : Int32) &&& 0x3f).toInt64.toUInt64).toInt64)) * (-4658895280553007687 : Int64)))])
  refine Go.via (fun t k => XS.lloadN X0.here hx rfl (hb hby d11_14) rfl k) ?_
  show Go p.tables e below P s₁ (mkF m 15 #[.val (.long qx), .second, .val (.long ((qx ^^^ ((qx.toUInt64 >>> ((30 : Int32) &&& 0x3f).toInt64.toUInt64).toInt64)) * (-4658895280553007687 : Int64))), .second] [(.long ((qx ^^^ ((qx.toUInt64 >>> ((30 : Int32) &&& 0x3f).toInt64.toUInt64).toInt64)) * (-4658895280553007687 : Int64))), (.long ((qx ^^^ ((qx.toUInt64 >>> ((30 : Int32) &&& 0x3f).toInt64.toUInt64).toInt64)) * (-4658895280553007687 : Int64)))])
  refine Go.via (fun t k => XS.bipush X0.here hx rfl (hb hby d11_15) k) ?_
  show Go p.tables e below P s₁ (mkF m 17 #[.val (.long qx), .second, .val (.long ((qx ^^^ ((qx.toUInt64 >>> ((30 : Int32) &&& 0x3f).toInt64.toUInt64).toInt64)) * (-4658895280553007687 : Int64))), .second] [(.int (27 : Int32)), (.long ((qx ^^^ ((qx.toUInt64 >>> ((30 : Int32) &&& 0x3f).toInt64.toUInt64).toInt64)) * (-4658895280553007687 : Int64))), (.long ((qx ^^^ ((qx.toUInt64 >>> ((30 : Int32) &&& 0x3f).toInt64.toUInt64).toInt64)) * (-4658895280553007687 : Int64)))])
  refine Go.via (fun t k => XS.lushr X0.here hx rfl (hb hby d11_17) rfl k) ?_
  show Go p.tables e below P s₁ (mkF m 18 #[.val (.long qx), .second, .val (.long ((qx ^^^ ((qx.toUInt64 >>> ((30 : Int32) &&& 0x3f).toInt64.toUInt64).toInt64)) * (-4658895280553007687 : Int64))), .second] [(.long ((((qx ^^^ ((qx.toUInt64 >>> ((30 : Int32) &&& 0x3f).toInt64.toUInt64).toInt64)) * (-4658895280553007687 : Int64)).toUInt64 >>> ((27 : Int32) &&& 0x3f).toInt64.toUInt64).toInt64)), (.long ((qx ^^^ ((qx.toUInt64 >>> ((30 : Int32) &&& 0x3f).toInt64.toUInt64).toInt64)) * (-4658895280553007687 : Int64)))])
  refine Go.via (fun t k => XS.lxor X0.here hx rfl (hb hby d11_18) rfl k) ?_
  show Go p.tables e below P s₁ (mkF m 19 #[.val (.long qx), .second, .val (.long ((qx ^^^ ((qx.toUInt64 >>> ((30 : Int32) &&& 0x3f).toInt64.toUInt64).toInt64)) * (-4658895280553007687 : Int64))), .second] [(.long (((qx ^^^ ((qx.toUInt64 >>> ((30 : Int32) &&& 0x3f).toInt64.toUInt64).toInt64)) * (-4658895280553007687 : Int64)) ^^^ ((((qx ^^^ ((qx.toUInt64 >>> ((30 : Int32) &&& 0x3f).toInt64.toUInt64).toInt64)) * (-4658895280553007687 : Int64)).toUInt64 >>> ((27 : Int32) &&& 0x3f).toInt64.toUInt64).toInt64)))])
  refine Go.via (fun t k => X0.ldc2Long hx hown (mvT hZ (hw _ (List.mem_of_getElem? (i := 55) rfl))) (g := (mkF m 19 #[.val (.long qx), .second, .val (.long ((qx ^^^ ((qx.toUInt64 >>> ((30 : Int32) &&& 0x3f).toInt64.toUInt64).toInt64)) * (-4658895280553007687 : Int64))), .second] [(.long (((qx ^^^ ((qx.toUInt64 >>> ((30 : Int32) &&& 0x3f).toInt64.toUInt64).toInt64)) * (-4658895280553007687 : Int64)) ^^^ ((((qx ^^^ ((qx.toUInt64 >>> ((30 : Int32) &&& 0x3f).toInt64.toUInt64).toInt64)) * (-4658895280553007687 : Int64)).toUInt64 >>> ((27 : Int32) &&& 0x3f).toInt64.toUInt64).toInt64)))])) rfl (hb hby d11_19) t k) ?_
  show Go p.tables e below P s₁ (mkF m 22 #[.val (.long qx), .second, .val (.long ((qx ^^^ ((qx.toUInt64 >>> ((30 : Int32) &&& 0x3f).toInt64.toUInt64).toInt64)) * (-4658895280553007687 : Int64))), .second] [(.long (-7723592293110705685 : Int64)), (.long (((qx ^^^ ((qx.toUInt64 >>> ((30 : Int32) &&& 0x3f).toInt64.toUInt64).toInt64)) * (-4658895280553007687 : Int64)) ^^^ ((((qx ^^^ ((qx.toUInt64 >>> ((30 : Int32) &&& 0x3f).toInt64.toUInt64).toInt64)) * (-4658895280553007687 : Int64)).toUInt64 >>> ((27 : Int32) &&& 0x3f).toInt64.toUInt64).toInt64)))])
  refine Go.via (fun t k => XS.lmul X0.here hx rfl (hb hby d11_22) rfl k) ?_
  show Go p.tables e below P s₁ (mkF m 23 #[.val (.long qx), .second, .val (.long ((qx ^^^ ((qx.toUInt64 >>> ((30 : Int32) &&& 0x3f).toInt64.toUInt64).toInt64)) * (-4658895280553007687 : Int64))), .second] [(.long ((((qx ^^^ ((qx.toUInt64 >>> ((30 : Int32) &&& 0x3f).toInt64.toUInt64).toInt64)) * (-4658895280553007687 : Int64)) ^^^ ((((qx ^^^ ((qx.toUInt64 >>> ((30 : Int32) &&& 0x3f).toInt64.toUInt64).toInt64)) * (-4658895280553007687 : Int64)).toUInt64 >>> ((27 : Int32) &&& 0x3f).toInt64.toUInt64).toInt64)) * (-7723592293110705685 : Int64)))])
  refine Go.via (fun t k => XS.lstoreN X0.here hx rfl (hb hby d11_23) rfl (l' := #[.val (.long qx), .second, .val (.long ((((qx ^^^ ((qx.toUInt64 >>> ((30 : Int32) &&& 0x3f).toInt64.toUInt64).toInt64)) * (-4658895280553007687 : Int64)) ^^^ ((((qx ^^^ ((qx.toUInt64 >>> ((30 : Int32) &&& 0x3f).toInt64.toUInt64).toInt64)) * (-4658895280553007687 : Int64)).toUInt64 >>> ((27 : Int32) &&& 0x3f).toInt64.toUInt64).toInt64)) * (-7723592293110705685 : Int64))), .second]) rfl k) ?_
  show Go p.tables e below P s₁ (mkF m 24 #[.val (.long qx), .second, .val (.long ((((qx ^^^ ((qx.toUInt64 >>> ((30 : Int32) &&& 0x3f).toInt64.toUInt64).toInt64)) * (-4658895280553007687 : Int64)) ^^^ ((((qx ^^^ ((qx.toUInt64 >>> ((30 : Int32) &&& 0x3f).toInt64.toUInt64).toInt64)) * (-4658895280553007687 : Int64)).toUInt64 >>> ((27 : Int32) &&& 0x3f).toInt64.toUInt64).toInt64)) * (-7723592293110705685 : Int64))), .second] [])
  refine Go.via (fun t k => XS.lloadN X0.here hx rfl (hb hby d11_24) rfl k) ?_
  show Go p.tables e below P s₁ (mkF m 25 #[.val (.long qx), .second, .val (.long ((((qx ^^^ ((qx.toUInt64 >>> ((30 : Int32) &&& 0x3f).toInt64.toUInt64).toInt64)) * (-4658895280553007687 : Int64)) ^^^ ((((qx ^^^ ((qx.toUInt64 >>> ((30 : Int32) &&& 0x3f).toInt64.toUInt64).toInt64)) * (-4658895280553007687 : Int64)).toUInt64 >>> ((27 : Int32) &&& 0x3f).toInt64.toUInt64).toInt64)) * (-7723592293110705685 : Int64))), .second] [(.long ((((qx ^^^ ((qx.toUInt64 >>> ((30 : Int32) &&& 0x3f).toInt64.toUInt64).toInt64)) * (-4658895280553007687 : Int64)) ^^^ ((((qx ^^^ ((qx.toUInt64 >>> ((30 : Int32) &&& 0x3f).toInt64.toUInt64).toInt64)) * (-4658895280553007687 : Int64)).toUInt64 >>> ((27 : Int32) &&& 0x3f).toInt64.toUInt64).toInt64)) * (-7723592293110705685 : Int64)))])
  refine Go.via (fun t k => XS.lloadN X0.here hx rfl (hb hby d11_25) rfl k) ?_
  show Go p.tables e below P s₁ (mkF m 26 #[.val (.long qx), .second, .val (.long ((((qx ^^^ ((qx.toUInt64 >>> ((30 : Int32) &&& 0x3f).toInt64.toUInt64).toInt64)) * (-4658895280553007687 : Int64)) ^^^ ((((qx ^^^ ((qx.toUInt64 >>> ((30 : Int32) &&& 0x3f).toInt64.toUInt64).toInt64)) * (-4658895280553007687 : Int64)).toUInt64 >>> ((27 : Int32) &&& 0x3f).toInt64.toUInt64).toInt64)) * (-7723592293110705685 : Int64))), .second] [(.long ((((qx ^^^ ((qx.toUInt64 >>> ((30 : Int32) &&& 0x3f).toInt64.toUInt64).toInt64)) * (-4658895280553007687 : Int64)) ^^^ ((((qx ^^^ ((qx.toUInt64 >>> ((30 : Int32) &&& 0x3f).toInt64.toUInt64).toInt64)) * (-4658895280553007687 : Int64)).toUInt64 >>> ((27 : Int32) &&& 0x3f).toInt64.toUInt64).toInt64)) * (-7723592293110705685 : Int64))), (.long ((((qx ^^^ ((qx.toUInt64 >>> ((30 : Int32) &&& 0x3f).toInt64.toUInt64).toInt64)) * (-4658895280553007687 : Int64)) ^^^ ((((qx ^^^ ((qx.toUInt64 >>> ((30 : Int32) &&& 0x3f).toInt64.toUInt64).toInt64)) * (-4658895280553007687 : Int64)).toUInt64 >>> ((27 : Int32) &&& 0x3f).toInt64.toUInt64).toInt64)) * (-7723592293110705685 : Int64)))])
  refine Go.via (fun t k => XS.bipush X0.here hx rfl (hb hby d11_26) k) ?_
  show Go p.tables e below P s₁ (mkF m 28 #[.val (.long qx), .second, .val (.long ((((qx ^^^ ((qx.toUInt64 >>> ((30 : Int32) &&& 0x3f).toInt64.toUInt64).toInt64)) * (-4658895280553007687 : Int64)) ^^^ ((((qx ^^^ ((qx.toUInt64 >>> ((30 : Int32) &&& 0x3f).toInt64.toUInt64).toInt64)) * (-4658895280553007687 : Int64)).toUInt64 >>> ((27 : Int32) &&& 0x3f).toInt64.toUInt64).toInt64)) * (-7723592293110705685 : Int64))), .second] [(.int (31 : Int32)), (.long ((((qx ^^^ ((qx.toUInt64 >>> ((30 : Int32) &&& 0x3f).toInt64.toUInt64).toInt64)) * (-4658895280553007687 : Int64)) ^^^ ((((qx ^^^ ((qx.toUInt64 >>> ((30 : Int32) &&& 0x3f).toInt64.toUInt64).toInt64)) * (-4658895280553007687 : Int64)).toUInt64 >>> ((27 : Int32) &&& 0x3f).toInt64.toUInt64).toInt64)) * (-7723592293110705685 : Int64))), (.long ((((qx ^^^ ((qx.toUInt64 >>> ((30 : Int32) &&& 0x3f).toInt64.toUInt64).toInt64)) * (-4658895280553007687 : Int64)) ^^^ ((((qx ^^^ ((qx.toUInt64 >>> ((30 : Int32) &&& 0x3f).toInt64.toUInt64).toInt64)) * (-4658895280553007687 : Int64)).toUInt64 >>> ((27 : Int32) &&& 0x3f).toInt64.toUInt64).toInt64)) * (-7723592293110705685 : Int64)))])
  refine Go.via (fun t k => XS.lushr X0.here hx rfl (hb hby d11_28) rfl k) ?_
  show Go p.tables e below P s₁ (mkF m 29 #[.val (.long qx), .second, .val (.long ((((qx ^^^ ((qx.toUInt64 >>> ((30 : Int32) &&& 0x3f).toInt64.toUInt64).toInt64)) * (-4658895280553007687 : Int64)) ^^^ ((((qx ^^^ ((qx.toUInt64 >>> ((30 : Int32) &&& 0x3f).toInt64.toUInt64).toInt64)) * (-4658895280553007687 : Int64)).toUInt64 >>> ((27 : Int32) &&& 0x3f).toInt64.toUInt64).toInt64)) * (-7723592293110705685 : Int64))), .second] [(.long ((((((qx ^^^ ((qx.toUInt64 >>> ((30 : Int32) &&& 0x3f).toInt64.toUInt64).toInt64)) * (-4658895280553007687 : Int64)) ^^^ ((((qx ^^^ ((qx.toUInt64 >>> ((30 : Int32) &&& 0x3f).toInt64.toUInt64).toInt64)) * (-4658895280553007687 : Int64)).toUInt64 >>> ((27 : Int32) &&& 0x3f).toInt64.toUInt64).toInt64)) * (-7723592293110705685 : Int64)).toUInt64 >>> ((31 : Int32) &&& 0x3f).toInt64.toUInt64).toInt64)), (.long ((((qx ^^^ ((qx.toUInt64 >>> ((30 : Int32) &&& 0x3f).toInt64.toUInt64).toInt64)) * (-4658895280553007687 : Int64)) ^^^ ((((qx ^^^ ((qx.toUInt64 >>> ((30 : Int32) &&& 0x3f).toInt64.toUInt64).toInt64)) * (-4658895280553007687 : Int64)).toUInt64 >>> ((27 : Int32) &&& 0x3f).toInt64.toUInt64).toInt64)) * (-7723592293110705685 : Int64)))])
  refine Go.via (fun t k => XS.lxor X0.here hx rfl (hb hby d11_29) rfl k) ?_
  show Go p.tables e below P s₁ (mkF m 30 #[.val (.long qx), .second, .val (.long ((((qx ^^^ ((qx.toUInt64 >>> ((30 : Int32) &&& 0x3f).toInt64.toUInt64).toInt64)) * (-4658895280553007687 : Int64)) ^^^ ((((qx ^^^ ((qx.toUInt64 >>> ((30 : Int32) &&& 0x3f).toInt64.toUInt64).toInt64)) * (-4658895280553007687 : Int64)).toUInt64 >>> ((27 : Int32) &&& 0x3f).toInt64.toUInt64).toInt64)) * (-7723592293110705685 : Int64))), .second] [(.long (((((qx ^^^ ((qx.toUInt64 >>> ((30 : Int32) &&& 0x3f).toInt64.toUInt64).toInt64)) * (-4658895280553007687 : Int64)) ^^^ ((((qx ^^^ ((qx.toUInt64 >>> ((30 : Int32) &&& 0x3f).toInt64.toUInt64).toInt64)) * (-4658895280553007687 : Int64)).toUInt64 >>> ((27 : Int32) &&& 0x3f).toInt64.toUInt64).toInt64)) * (-7723592293110705685 : Int64)) ^^^ ((((((qx ^^^ ((qx.toUInt64 >>> ((30 : Int32) &&& 0x3f).toInt64.toUInt64).toInt64)) * (-4658895280553007687 : Int64)) ^^^ ((((qx ^^^ ((qx.toUInt64 >>> ((30 : Int32) &&& 0x3f).toInt64.toUInt64).toInt64)) * (-4658895280553007687 : Int64)).toUInt64 >>> ((27 : Int32) &&& 0x3f).toInt64.toUInt64).toInt64)) * (-7723592293110705685 : Int64)).toUInt64 >>> ((31 : Int32) &&& 0x3f).toInt64.toUInt64).toInt64)))])
  obtain ⟨fs, hr, hrun, hended, hW, hsame⟩ := X0.leave (v := some (.long (own_mix qx))) (fun h => by rw [Bd.returns] at h; cases h)
  refine ⟨_, _, retJ X0 hx Bd.returns (hb hby d11_30) hr, hrun, hended, hP _ _ ⟨_, _, rfl, ?_, ⟨_, rfl⟩, hW, hsame.mono (by decide) (by decide)⟩⟩
  show Q11 Z qx h0 n0 _ s₁.heap _
  rw [e0]
  exact ⟨rfl, N0, rfl⟩
theorem own_pn2 : plainName "java/lang/Long" = true := by first | (simp [plainName, overriddenIn]; done) | decide +kernel
theorem d7_0 : decode jdk_35_method_42_code 0 = .ok (.lload_n 0, 1) := by decide +kernel
theorem d7_1 : decode jdk_35_method_42_code 1 = .ok (.lload_n 2, 1) := by decide +kernel
theorem d7_2 : decode jdk_35_method_42_code 2 = .ok (.lcmp, 1) := by decide +kernel
theorem d7_3 : decode jdk_35_method_42_code 3 = .ok (.ifCond .ge 7, 3) := by decide +kernel
theorem d7_6 : decode jdk_35_method_42_code 6 = .ok (.iconst (-1), 1) := by decide +kernel
theorem d7_7 : decode jdk_35_method_42_code 7 = .ok (.goto 14, 3) := by decide +kernel
theorem d7_10 : decode jdk_35_method_42_code 10 = .ok (.lload_n 0, 1) := by decide +kernel
theorem d7_11 : decode jdk_35_method_42_code 11 = .ok (.lload_n 2, 1) := by decide +kernel
theorem d7_12 : decode jdk_35_method_42_code 12 = .ok (.lcmp, 1) := by decide +kernel
theorem d7_13 : decode jdk_35_method_42_code 13 = .ok (.ifCond .ne 7, 3) := by decide +kernel
theorem d7_16 : decode jdk_35_method_42_code 16 = .ok (.iconst 0, 1) := by decide +kernel
theorem d7_17 : decode jdk_35_method_42_code 17 = .ok (.goto 4, 3) := by decide +kernel
theorem d7_20 : decode jdk_35_method_42_code 20 = .ok (.iconst 1, 1) := by decide +kernel
theorem d7_21 : decode jdk_35_method_42_code 21 = .ok (.ireturn, 1) := by decide +kernel
theorem ef_7 (m : MethodId) (x0 : Int64) (x1 : Int64) : entryFrame m #[(.long x0), (.long x1)] 4 = mkF m 0 #[.val (.long x0), .second, .val (.long x1), .second] [] := by first | (simp [entryFrame, mkF, argsToLocals, Value.category]; done) | rfl
def Q7 (Z : State) (qx : Int64) (qy : Int64) (h0 : Heap) (n0 : Nat) (v : Option Value) (h : Heap) (L : List Loc) : Prop := v = some (.int (own_cmp qx qy)) ∧ Fr n0 L ∧ h = h0
set_option maxRecDepth 65536 in
set_option maxHeartbeats 40000000 in
theorem rm7 (l : Launch) (Z : State) (a0 : Array Value) (hw : ∀ d ∈ tables_1, d.before a0 Z = true) (ws : List Jvm.Cond) (qx : Int64) (qy : Int64) (h0 : Heap) (n0 : Nat) (Z0 : n0 ≤ h0.size) :
    MetFree l (⟨"java/lang/Long", "compare", "(JJ)I"⟩ : MethodName) (head1 (Jvm.Cond.code (⟨"java/lang/Long", "compare", "(JJ)I"⟩ : MethodName) jdk_35_method_42_code 4 (some .int) :: ws) ({ frames := 0, cells := 0, slots := 0, locals := 0 } : Room)) (fun a U => a = #[(.long qx), (.long qy)] ∧ Z.Warmed39 U.vm ∧ U.heap = h0) (fun _ _ _ _ _ => True) (fun _ U o U' => ∃ v L, o = .returned v ∧ Q7 Z qx qy h0 n0 v U'.heap L ∧ FrameEnd U o U' L ({ frames := 0, cells := 0, slots := 0, locals := 0 } : Room).cells ({ frames := 0, cells := 0, slots := 0, locals := 0 } : Room).slots) := by
  refine MetFree.of_bodySF (plainFor_of_name own_pn2) hisR ?_
  intro p e s m args below meth c s₁ Bd hml0 hP hK
  obtain ⟨rfl, hZ, hh⟩ := hP
  have hx := Bd.exec
  have hby := Bd.bytes
  have hml : c.maxLocals = 4 := hml0
  have hown : s.vm.findClass "java/lang/Long" = some m.cls := findClass_of_methodNamed Bd.named
  have hnm := (name_of_methodNamed Bd.named Bd.method).1
  have X0 : Stand p l e ({ frames := 0, cells := 0, slots := 0, locals := 0 } : Room) s m #[(.long qx), (.long qy)] below meth c s₁ [] 0 0 := Stand.of_body Bd
  have e0 : s₁.heap = h0 := by rw [← hh, Bd.state]; rfl
  have N0 := Fr.nil n0
  have K0 : Keep h0 h0 [] := Keep.refl _ _
  suffices GO : ∀ P : Outcome → State → Prop, (∀ o U', (∃ v L, o = .returned v ∧ Q7 Z qx qy h0 n0 v U'.heap L ∧ FrameEnd s o U' L ({ frames := 0, cells := 0, slots := 0, locals := 0 } : Room).cells ({ frames := 0, cells := 0, slots := 0, locals := 0 } : Room).slots) → P o U') → Go p.tables e below P s₁ (mkF m 0 #[.val (.long qx), .second, .val (.long qy), .second] []) by
    obtain ⟨s2, o, st, r⟩ := GO _ (fun _ _ q => q)
    exact ⟨s2, o, castTop (ef_7 m qx qy) st, r⟩
  clear hh
  intro P hP
  show Go p.tables e below P s₁ (mkF m 0 #[.val (.long qx), .second, .val (.long qy), .second] [])
  refine Go.via (fun t k => XS.lloadN X0.here hx rfl (hb hby d7_0) rfl k) ?_
  show Go p.tables e below P s₁ (mkF m 1 #[.val (.long qx), .second, .val (.long qy), .second] [(.long qx)])
  refine Go.via (fun t k => XS.lloadN X0.here hx rfl (hb hby d7_1) rfl k) ?_
  show Go p.tables e below P s₁ (mkF m 2 #[.val (.long qx), .second, .val (.long qy), .second] [(.long qy), (.long qx)])
  refine Go.via (fun t k => XS.lcmp X0.here hx rfl (hb hby d7_2) rfl k) ?_
  show Go p.tables e below P s₁ (mkF m 3 #[.val (.long qx), .second, .val (.long qy), .second] [(.int (lcmpW qx qy))])
  have J2 : ∀ (T2 : State) (locs2 : List Loc) (v2_0 : Int32), Stand p l e ({ frames := 0, cells := 0, slots := 0, locals := 0 } : Room) s m #[(.long qx), (.long qy)] below meth c T2 locs2 0 0 → T2.heap = h0 → Fr n0 locs2 → v2_0 = (if (lcmpW qx qy) < (0 : Int32) then (-1 : Int32) else (if (lcmpW qx qy) = (0 : Int32) then (0 : Int32) else (1 : Int32))) → Go p.tables e below P T2 (mkF m 21 #[.val (.long qx), .second, .val (.long qy), .second] [(.int v2_0)]) := by
    intro T2 locs2 v2_0 X2 e2 N2 hv2_0
    show Go p.tables e below P T2 (mkF m 21 #[.val (.long qx), .second, .val (.long qy), .second] [(.int v2_0)])
    obtain ⟨fs, hr, hrun, hended, hW, hsame⟩ := X2.leave (v := some (.int (own_cmp qx qy))) (fun h => by rw [Bd.returns] at h; cases h)
    refine ⟨_, _, (by have q := retI X2 hx Bd.returns (hb hby d7_21) (z := v2_0) (rest := []) (pc := 21) (Ls := #[.val (.long qx), .second, .val (.long qy), .second]) (by rw [(show v2_0 = own_cmp qx qy from hv2_0)]; exact hr); exact q), hrun, hended, hP _ _ ⟨_, _, rfl, ?_, ⟨_, rfl⟩, hW, hsame.mono (by decide) (by decide)⟩⟩
    show Q7 Z qx qy h0 n0 _ T2.heap _
    rw [e2]
    exact ⟨rfl, N2, rfl⟩
  by_cases hc1 : (lcmpW qx qy) < (0 : Int32)
  · refine Go.via (fun t k => XS.ifNo X0.here hx rfl (hb hby d7_3) rfl ((if0 _ _).trans (tlt hc1).2.1) k) ?_
    show Go p.tables e below P s₁ (mkF m 6 #[.val (.long qx), .second, .val (.long qy), .second] [])
    refine Go.via (fun t k => XS.iconst X0.here hx rfl (hb hby d7_6) k) ?_
    show Go p.tables e below P s₁ (mkF m 7 #[.val (.long qx), .second, .val (.long qy), .second] [(.int (-1 : Int32))])
    refine Go.via (fun t k => XS.goto X0.here hx rfl (pc0 := 7) (pc' := 21) rfl (hb hby d7_7) (by decide) (by decide) k) ?_
    exact J2 s₁ _ (-1 : Int32) X0 e0 N0 (if_pos hc1).symm
  · refine Go.via (fun t k => XS.ifYes X0.here hx rfl (pc0 := 3) (pc' := 10) rfl (hb hby d7_3) rfl ((if0 _ _).trans (flt hc1).2.1) (by decide) (by decide) k) ?_
    show Go p.tables e below P s₁ (mkF m 10 #[.val (.long qx), .second, .val (.long qy), .second] [])
    refine Go.via (fun t k => XS.lloadN X0.here hx rfl (hb hby d7_10) rfl k) ?_
    show Go p.tables e below P s₁ (mkF m 11 #[.val (.long qx), .second, .val (.long qy), .second] [(.long qx)])
    refine Go.via (fun t k => XS.lloadN X0.here hx rfl (hb hby d7_11) rfl k) ?_
    show Go p.tables e below P s₁ (mkF m 12 #[.val (.long qx), .second, .val (.long qy), .second] [(.long qy), (.long qx)])
    refine Go.via (fun t k => XS.lcmp X0.here hx rfl (hb hby d7_12) rfl k) ?_
    show Go p.tables e below P s₁ (mkF m 13 #[.val (.long qx), .second, .val (.long qy), .second] [(.int (lcmpW qx qy))])
    by_cases hc4 : (lcmpW qx qy) = (0 : Int32)
    · refine Go.via (fun t k => XS.ifNo X0.here hx rfl (hb hby d7_13) rfl ((if0 _ _).trans (teq hc4).2) k) ?_
      show Go p.tables e below P s₁ (mkF m 16 #[.val (.long qx), .second, .val (.long qy), .second] [])
      refine Go.via (fun t k => XS.iconst X0.here hx rfl (hb hby d7_16) k) ?_
      show Go p.tables e below P s₁ (mkF m 17 #[.val (.long qx), .second, .val (.long qy), .second] [(.int (0 : Int32))])
      refine Go.via (fun t k => XS.goto X0.here hx rfl (pc0 := 17) (pc' := 21) rfl (hb hby d7_17) (by decide) (by decide) k) ?_
      exact J2 s₁ _ (0 : Int32) X0 e0 N0 (Eq.trans (if_neg hc1) (if_pos hc4)).symm
    · refine Go.via (fun t k => XS.ifYes X0.here hx rfl (pc0 := 13) (pc' := 20) rfl (hb hby d7_13) rfl ((if0 _ _).trans (feq hc4).2) (by decide) (by decide) k) ?_
      show Go p.tables e below P s₁ (mkF m 20 #[.val (.long qx), .second, .val (.long qy), .second] [])
      refine Go.via (fun t k => XS.iconst X0.here hx rfl (hb hby d7_20) k) ?_
      exact J2 s₁ _ (1 : Int32) X0 e0 N0 (Eq.trans (if_neg hc1) (if_neg hc4)).symm
theorem own_pd0 : parseMethodDescriptor "(JJ)I" = some ⟨[.long, .long], some .int⟩ := by decide +kernel
theorem d6_0 : decode jdk_35_method_43_code 0 = .ok (.lload_n 0, 1) := by decide +kernel
theorem d6_1 : decode jdk_35_method_43_code 1 = .ok (.ldc2_w 168, 3) := by decide +kernel
theorem d6_4 : decode jdk_35_method_43_code 4 = .ok (.ladd, 1) := by decide +kernel
theorem d6_5 : decode jdk_35_method_43_code 5 = .ok (.lload_n 2, 1) := by decide +kernel
theorem d6_6 : decode jdk_35_method_43_code 6 = .ok (.ldc2_w 168, 3) := by decide +kernel
theorem d6_9 : decode jdk_35_method_43_code 9 = .ok (.ladd, 1) := by decide +kernel
theorem d6_10 : decode jdk_35_method_43_code 10 = .ok (.invokestatic 302, 3) := by decide +kernel
theorem d6_13 : decode jdk_35_method_43_code 13 = .ok (.ireturn, 1) := by decide +kernel
theorem ef_6 (m : MethodId) (x0 : Int64) (x1 : Int64) : entryFrame m #[(.long x0), (.long x1)] 4 = mkF m 0 #[.val (.long x0), .second, .val (.long x1), .second] [] := by first | (simp [entryFrame, mkF, argsToLocals, Value.category]; done) | rfl
def Q6 (Z : State) (qx : Int64) (qy : Int64) (h0 : Heap) (n0 : Nat) (v : Option Value) (h : Heap) (L : List Loc) : Prop := v = some (.int (own_cu qx qy)) ∧ Fr n0 L ∧ h = h0
set_option maxRecDepth 65536 in
set_option maxHeartbeats 40000000 in
theorem rm6 (l : Launch) (Z : State) (a0 : Array Value) (hw : ∀ d ∈ tables_1, d.before a0 Z = true) (ws : List Jvm.Cond) (qx : Int64) (qy : Int64) (h0 : Heap) (n0 : Nat) (Z0 : n0 ≤ h0.size) :
    MetFree l (⟨"java/lang/Long", "compareUnsigned", "(JJ)I"⟩ : MethodName) (head1 (Jvm.Cond.code (⟨"java/lang/Long", "compareUnsigned", "(JJ)I"⟩ : MethodName) jdk_35_method_43_code 4 (some .int) :: ws) ({ frames := 1, cells := 0, slots := 0, locals := 15 } : Room)) (fun a U => a = #[(.long qx), (.long qy)] ∧ Z.Warmed39 U.vm ∧ U.heap = h0) (fun _ _ _ _ _ => True) (fun _ U o U' => ∃ v L, o = .returned v ∧ Q6 Z qx qy h0 n0 v U'.heap L ∧ FrameEnd U o U' L ({ frames := 1, cells := 0, slots := 0, locals := 15 } : Room).cells ({ frames := 1, cells := 0, slots := 0, locals := 15 } : Room).slots) := by
  refine MetFree.of_bodySF (plainFor_of_name own_pn2) hisR ?_
  intro p e s m args below meth c s₁ Bd hml0 hP hK
  obtain ⟨rfl, hZ, hh⟩ := hP
  have hx := Bd.exec
  have hby := Bd.bytes
  have hml : c.maxLocals = 4 := hml0
  have hown : s.vm.findClass "java/lang/Long" = some m.cls := findClass_of_methodNamed Bd.named
  have hnm := (name_of_methodNamed Bd.named Bd.method).1
  have X0 : Stand p l e ({ frames := 1, cells := 0, slots := 0, locals := 15 } : Room) s m #[(.long qx), (.long qy)] below meth c s₁ [] 0 0 := Stand.of_body Bd
  have e0 : s₁.heap = h0 := by rw [← hh, Bd.state]; rfl
  have N0 := Fr.nil n0
  have K0 : Keep h0 h0 [] := Keep.refl _ _
  suffices GO : ∀ P : Outcome → State → Prop, (∀ o U', (∃ v L, o = .returned v ∧ Q6 Z qx qy h0 n0 v U'.heap L ∧ FrameEnd s o U' L ({ frames := 1, cells := 0, slots := 0, locals := 15 } : Room).cells ({ frames := 1, cells := 0, slots := 0, locals := 15 } : Room).slots) → P o U') → Go p.tables e below P s₁ (mkF m 0 #[.val (.long qx), .second, .val (.long qy), .second] []) by
    obtain ⟨s2, o, st, r⟩ := GO _ (fun _ _ q => q)
    exact ⟨s2, o, castTop (ef_6 m qx qy) st, r⟩
  clear hh
  intro P hP
  show Go p.tables e below P s₁ (mkF m 0 #[.val (.long qx), .second, .val (.long qy), .second] [])
  refine Go.via (fun t k => XS.lloadN X0.here hx rfl (hb hby d6_0) rfl k) ?_
  show Go p.tables e below P s₁ (mkF m 1 #[.val (.long qx), .second, .val (.long qy), .second] [(.long qx)])
  refine Go.via (fun t k => X0.ldc2Long hx hown (mvT hZ (hw _ (List.mem_of_getElem? (i := 34) rfl))) (g := (mkF m 1 #[.val (.long qx), .second, .val (.long qy), .second] [(.long qx)])) rfl (hb hby d6_1) t k) ?_
  show Go p.tables e below P s₁ (mkF m 4 #[.val (.long qx), .second, .val (.long qy), .second] [(.long (-9223372036854775808 : Int64)), (.long qx)])
  refine Go.via (fun t k => XS.ladd X0.here hx rfl (hb hby d6_4) rfl k) ?_
  show Go p.tables e below P s₁ (mkF m 5 #[.val (.long qx), .second, .val (.long qy), .second] [(.long (qx + (-9223372036854775808 : Int64)))])
  refine Go.via (fun t k => XS.lloadN X0.here hx rfl (hb hby d6_5) rfl k) ?_
  show Go p.tables e below P s₁ (mkF m 6 #[.val (.long qx), .second, .val (.long qy), .second] [(.long qy), (.long (qx + (-9223372036854775808 : Int64)))])
  refine Go.via (fun t k => X0.ldc2Long hx hown (mvT hZ (hw _ (List.mem_of_getElem? (i := 34) rfl))) (g := (mkF m 6 #[.val (.long qx), .second, .val (.long qy), .second] [(.long qy), (.long (qx + (-9223372036854775808 : Int64)))])) rfl (hb hby d6_6) t k) ?_
  show Go p.tables e below P s₁ (mkF m 9 #[.val (.long qx), .second, .val (.long qy), .second] [(.long (-9223372036854775808 : Int64)), (.long qy), (.long (qx + (-9223372036854775808 : Int64)))])
  refine Go.via (fun t k => XS.ladd X0.here hx rfl (hb hby d6_9) rfl k) ?_
  show Go p.tables e below P s₁ (mkF m 10 #[.val (.long qx), .second, .val (.long qy), .second] [(.long (qy + (-9223372036854775808 : Int64))), (.long (qx + (-9223372036854775808 : Int64)))])
  obtain ⟨_, _, ⟨T1, L1, k1, n1⟩, -, X1, ⟨Lc1, hQ1, l1, y1, z1⟩, st1⟩ := Jvm.LawKit.callS X0 hx (y := (⟨"java/lang/Long", "compare", "(JJ)I"⟩ : MethodName)) hown (mvT hZ (hw _ (List.mem_of_getElem? (i := 35) rfl))) (mvT hZ (hw _ (List.mem_of_getElem? (i := 36) rfl))) (mvT hZ (hw _ (List.mem_of_getElem? (i := 32) rfl))) (mvT hZ (hw _ (List.mem_of_getElem? (i := 37) rfl))) (by decide) (backOf (W := 0) (rm7 l Z a0 hw [] (qx + (-9223372036854775808 : Int64)) (qy + (-9223372036854775808 : Int64)) h0 n0 Z0 ) hZ (hw _ (List.mem_of_getElem? (i := 37) rfl)) (hw _ (List.mem_of_getElem? (i := 32) rfl)) (by decide) (by decide)) (g := (mkF m 10 #[.val (.long qx), .second, .val (.long qy), .second] [(.long (qy + (-9223372036854775808 : Int64))), (.long (qx + (-9223372036854775808 : Int64)))])) rfl (by rw [hml]; rfl) (argsL := [(.long (qx + (-9223372036854775808 : Int64))), (.long (qy + (-9223372036854775808 : Int64)))]) (rest := []) (lenOf own_pd0 rfl) rfl (by show 2 * 0 + _ ≤ _; exact Nat.le_of_eq rfl) (hb hby d6_10) (fun _ _ => ⟨rfl, e0, (by decide : 0 + 0 ≤ _), (by decide : 0 + 0 ≤ _)⟩)
  dsimp only [Pt.U, Pt.locs, Pt.cells, Pt.slots] at X1 l1 y1 z1 st1 hQ1
  subst l1 y1 z1
  obtain ⟨rfl, Nq1, hh1⟩ := hQ1
  obtain ⟨lc1, Xh1, N1⟩ := own_hide X1 (Fr.app N0 Nq1)
  clear X1
  refine Go.via st1 ?_
  show Go p.tables e below P T1 (mkF m 13 #[.val (.long qx), .second, .val (.long qy), .second] [(.int (own_cmp (qx + (-9223372036854775808 : Int64)) (qy + (-9223372036854775808 : Int64))))])
  obtain ⟨fs, hr, hrun, hended, hW, hsame⟩ := Xh1.leave (v := some (.int (own_cu qx qy))) (fun h => by rw [Bd.returns] at h; cases h)
  refine ⟨_, _, retI Xh1 hx Bd.returns (hb hby d6_13) hr, hrun, hended, hP _ _ ⟨_, _, rfl, ?_, ⟨_, rfl⟩, hW, hsame.mono (by decide) (by decide)⟩⟩
  show Q6 Z qx qy h0 n0 _ T1.heap _
  rw [hh1]
  exact ⟨rfl, N1, rfl⟩
theorem own_pn3 : plainName "java/util/Arrays" = true := by first | (simp [plainName, overriddenIn]; done) | decide +kernel
theorem d3_0 : decode jdk_65_method_101_code 0 = .ok (.iconst 0, 1) := by decide +kernel
theorem d3_1 : decode jdk_65_method_101_code 1 = .ok (.istore_n 3, 1) := by decide +kernel
theorem d3_2 : decode jdk_65_method_101_code 2 = .ok (.aload_n 0, 1) := by decide +kernel
theorem d3_3 : decode jdk_65_method_101_code 3 = .ok (.arraylength, 1) := by decide +kernel
theorem d3_4 : decode jdk_65_method_101_code 4 = .ok (.istore 4, 2) := by decide +kernel
theorem d3_6 : decode jdk_65_method_101_code 6 = .ok (.iload_n 3, 1) := by decide +kernel
theorem d3_7 : decode jdk_65_method_101_code 7 = .ok (.iload 4, 2) := by decide +kernel
theorem d3_9 : decode jdk_65_method_101_code 9 = .ok (.if_icmp .ge 13, 3) := by decide +kernel
theorem d3_12 : decode jdk_65_method_101_code 12 = .ok (.aload_n 0, 1) := by decide +kernel
theorem d3_13 : decode jdk_65_method_101_code 13 = .ok (.iload_n 3, 1) := by decide +kernel
theorem d3_14 : decode jdk_65_method_101_code 14 = .ok (.lload_n 1, 1) := by decide +kernel
theorem d3_15 : decode jdk_65_method_101_code 15 = .ok (.lastore, 1) := by decide +kernel
theorem d3_16 : decode jdk_65_method_101_code 16 = .ok (.iinc 3 1, 3) := by decide +kernel
theorem d3_19 : decode jdk_65_method_101_code 19 = .ok (.goto (-13), 3) := by decide +kernel
theorem d3_22 : decode jdk_65_method_101_code 22 = .ok (.return_, 1) := by decide +kernel
theorem ef_3 (m : MethodId) (x0 : Addr) (x1 : Int64) : entryFrame m #[(.ref x0), (.long x1)] 5 = mkF m 0 #[.val (.ref x0), .val (.long x1), .second, .unset, .unset] [] := by first | (simp [entryFrame, mkF, argsToLocals, Value.category]; done) | rfl
def Q3 (Z : State) (ob : Addr) (lv : Int64) (kk : ClassId) (xs : List Int64) (h0 : Heap) (n0 : Nat) (v : Option Value) (h : Heap) (L : List Loc) : Prop := v = none ∧ Fr n0 L ∧ Keep h0 h [ob] ∧ Arv Z h ob kk .long (192 : Int32) ((own_fill lv xs 192).map Value.long) (.long (0 : Int64))
set_option maxRecDepth 65536 in
set_option maxHeartbeats 40000000 in
theorem rm3 (l : Launch) (Z : State) (a0 : Array Value) (hw : ∀ d ∈ tables_1, d.before a0 Z = true) (ws : List Jvm.Cond) (ob : Addr) (lv : Int64) (kk : ClassId) (xs : List Int64) (h0 : Heap) (n0 : Nat) (Z0 : n0 ≤ h0.size) (P0 : Arv Z h0 ob kk .long (192 : Int32) (xs.map Value.long) (.long (0 : Int64))) (hxl : xs.length = 192) (gb : n0 ≤ ob) :
    MetFree l (⟨"java/util/Arrays", "fill", "([JJ)V"⟩ : MethodName) (head1 (Jvm.Cond.code (⟨"java/util/Arrays", "fill", "([JJ)V"⟩ : MethodName) jdk_65_method_101_code 5 none :: ws) ({ frames := 0, cells := 0, slots := 0, locals := 0 } : Room)) (fun a U => a = #[(.ref ob), (.long lv)] ∧ Z.Warmed39 U.vm ∧ U.heap = h0) (fun _ _ _ _ _ => True) (fun _ U o U' => ∃ v L, o = .returned v ∧ Q3 Z ob lv kk xs h0 n0 v U'.heap L ∧ FrameEnd U o U' L ({ frames := 0, cells := 0, slots := 0, locals := 0 } : Room).cells ({ frames := 0, cells := 0, slots := 0, locals := 0 } : Room).slots) := by
  refine MetFree.of_bodySF (plainFor_of_name own_pn3) hisR ?_
  intro p e s m args below meth c s₁ Bd hml0 hP hK
  obtain ⟨rfl, hZ, hh⟩ := hP
  have hx := Bd.exec
  have hby := Bd.bytes
  have hml : c.maxLocals = 5 := hml0
  have hown : s.vm.findClass "java/util/Arrays" = some m.cls := findClass_of_methodNamed Bd.named
  have hnm := (name_of_methodNamed Bd.named Bd.method).1
  have X0 : Stand p l e ({ frames := 0, cells := 0, slots := 0, locals := 0 } : Room) s m #[(.ref ob), (.long lv)] below meth c s₁ [] 0 0 := Stand.of_body Bd
  have e0 : s₁.heap = h0 := by rw [← hh, Bd.state]; rfl
  have N0 := Fr.nil n0
  have K0 : Keep h0 h0 [ob] := Keep.refl _ _
  suffices GO : ∀ P : Outcome → State → Prop, (∀ o U', (∃ v L, o = .returned v ∧ Q3 Z ob lv kk xs h0 n0 v U'.heap L ∧ FrameEnd s o U' L ({ frames := 0, cells := 0, slots := 0, locals := 0 } : Room).cells ({ frames := 0, cells := 0, slots := 0, locals := 0 } : Room).slots) → P o U') → Go p.tables e below P s₁ (mkF m 0 #[.val (.ref ob), .val (.long lv), .second, .unset, .unset] []) by
    obtain ⟨s2, o, st, r⟩ := GO _ (fun _ _ q => q)
    exact ⟨s2, o, castTop (ef_3 m ob lv) st, r⟩
  clear hh
  intro P hP
  show Go p.tables e below P s₁ (mkF m 0 #[.val (.ref ob), .val (.long lv), .second, .unset, .unset] [])
  refine Go.via (fun t k => XS.iconst X0.here hx rfl (hb hby d3_0) k) ?_
  show Go p.tables e below P s₁ (mkF m 1 #[.val (.ref ob), .val (.long lv), .second, .unset, .unset] [(.int (0 : Int32))])
  refine Go.via (fun t k => XS.istoreN X0.here hx rfl (hb hby d3_1) rfl (l' := #[.val (.ref ob), .val (.long lv), .second, .val (.int (0 : Int32)), .unset]) rfl k) ?_
  show Go p.tables e below P s₁ (mkF m 2 #[.val (.ref ob), .val (.long lv), .second, .val (.int (0 : Int32)), .unset] [])
  refine Go.via (fun t k => XS.aloadN X0.here hx rfl (hb hby d3_2) rfl rfl k) ?_
  show Go p.tables e below P s₁ (mkF m 3 #[.val (.ref ob), .val (.long lv), .second, .val (.int (0 : Int32)), .unset] [(.ref ob)])
  obtain ⟨c1, A1, -, S1, N1, -, -⟩ := id P0
  refine Go.via (fun t k => X0.arraylength hx (by rw [e0]; exact A1.1) (State.isArrayOf_alike hZ.alike A1.2.1) (g := (mkF m 3 #[.val (.ref ob), .val (.long lv), .second, .val (.int (0 : Int32)), .unset] [(.ref ob)])) rfl rfl (hb hby d3_3) t (by rw [len_of S1 N1]; exact k)) ?_
  show Go p.tables e below P s₁ (mkF m 4 #[.val (.ref ob), .val (.long lv), .second, .val (.int (0 : Int32)), .unset] [(.int (192 : Int32))])
  refine Go.via (fun t k => XS.istore X0.here hx rfl (hb hby d3_4) rfl (l' := #[.val (.ref ob), .val (.long lv), .second, .val (.int (0 : Int32)), .val (.int (192 : Int32))]) rfl k) ?_
  have LP2 : ∀ (k2 : Nat) (T2 : State) (locs2 : List Loc) (hp2 : Heap) (i : Nat) (x3 : Int32), Stand p l e ({ frames := 0, cells := 0, slots := 0, locals := 0 } : Room) s m #[(.ref ob), (.long lv)] below meth c T2 locs2 0 0 → T2.heap = hp2 → Fr n0 locs2 → n0 ≤ hp2.size → Keep h0 hp2 [ob] → Arv Z hp2 ob kk .long (192 : Int32) ((own_fill lv xs i).map Value.long) (.long (0 : Int64)) → i ≤ 192 → x3 = i.toInt32 → 192 - i < k2 → Go p.tables e below P T2 (mkF m 6 #[.val (.ref ob), .val (.long lv), .second, .val (.int x3), .val (.int (192 : Int32))] []) := by
    intro k2
    induction k2 with
    | zero => intro T2 locs2 hp2 i x3 X2 e2 N2 Z2 K2 F2_0 hi hx3 hk; exact absurd hk (Nat.not_lt_zero _)
    | succ k2 ih2 =>
      intro T2 locs2 hp2 i x3 X2 e2 N2 Z2 K2 F2_0 hi hx3 hk
      show Go p.tables e below P T2 (mkF m 6 #[.val (.ref ob), .val (.long lv), .second, .val (.int x3), .val (.int (192 : Int32))] [])
      refine Go.via (fun t k => XS.iloadN X2.here hx rfl (hb hby d3_6) rfl k) ?_
      show Go p.tables e below P T2 (mkF m 7 #[.val (.ref ob), .val (.long lv), .second, .val (.int x3), .val (.int (192 : Int32))] [(.int x3)])
      refine Go.via (fun t k => XS.iload X2.here hx rfl (hb hby d3_7) rfl k) ?_
      show Go p.tables e below P T2 (mkF m 9 #[.val (.ref ob), .val (.long lv), .second, .val (.int x3), .val (.int (192 : Int32))] [(.int (192 : Int32)), (.int x3)])
      by_cases hc3 : x3 < (192 : Int32)
      · refine Go.via (fun t k => XS.icmpNo X2.here hx rfl (hb hby d3_9) rfl (tlt hc3).2.1 k) ?_
        show Go p.tables e below P T2 (mkF m 12 #[.val (.ref ob), .val (.long lv), .second, .val (.int x3), .val (.int (192 : Int32))] [])
        have hlt : i < 192 := (own_ltN (n := 192) (by omega) (by omega)).mp (by rw [← hx3]; exact hc3)
        refine Go.via (fun t k => XS.aloadN X2.here hx rfl (hb hby d3_12) rfl rfl k) ?_
        show Go p.tables e below P T2 (mkF m 13 #[.val (.ref ob), .val (.long lv), .second, .val (.int x3), .val (.int (192 : Int32))] [(.ref ob)])
        refine Go.via (fun t k => XS.iloadN X2.here hx rfl (hb hby d3_13) rfl k) ?_
        show Go p.tables e below P T2 (mkF m 14 #[.val (.ref ob), .val (.long lv), .second, .val (.int x3), .val (.int (192 : Int32))] [(.int x3), (.ref ob)])
        refine Go.via (fun t k => XS.lloadN X2.here hx rfl (hb hby d3_14) rfl k) ?_
        show Go p.tables e below P T2 (mkF m 15 #[.val (.ref ob), .val (.long lv), .second, .val (.int x3), .val (.int (192 : Int32))] [(.long lv), (.int x3), (.ref ob)])
        obtain ⟨c4, A4, q4, S4, N4, H4, G4⟩ := id F2_0
        have hin4 : ¬ (x3 < 0 ∨ c4.slots.size ≤ (x3).toNatClampNeg) := inb_of S4 ⟨by rw [hx3]; exact own_nneg (by omega), by rw [hx3]; exact (own_ltN (n := 192) (by omega) (by omega)).mpr hlt⟩
        obtain ⟨T4, h4, X4, e4, W4, st4⟩ := stJ X2 hx hZ e2 A4 (j := x3) hin4 (g := (mkF m 15 #[.val (.ref ob), .val (.long lv), .second, .val (.int x3), .val (.int (192 : Int32))] [(.long lv), (.int x3), (.ref ob)])) rfl rfl (hb hby d3_15)
        refine Go.via st4 ?_
        have Z5 : n0 ≤ h4.size := Nat.le_trans Z2 (Nat.le_of_eq W4.size.symm)
        have K6 : Keep h0 h4 [ob] := K2.wr W4 (Or.inl (List.mem_of_getElem? (i := 0) rfl))
        obtain ⟨lc4, Xh4, N7⟩ := own_hide X4 (Fr.snoc X4 N2 gb)
        clear X4
        have V4 : Arv Z h4 ob kk .long (192 : Int32) (((own_fill lv xs i).map Value.long).set i (.long lv)) (.long (0 : Int64)) := Arv.set A4 q4 S4 N4 H4 G4 rfl W4 i (by rw [hx3, own_clamp (by omega)]) (by rw [List.length_map, own_fill_len, hxl]; exact hlt)
        show Go p.tables e below P T4 (mkF m 16 #[.val (.ref ob), .val (.long lv), .second, .val (.int x3), .val (.int (192 : Int32))] [])
        refine Go.via (fun t k => XS.iinc Xh4.here hx rfl (hb hby d3_16) rfl (l' := #[.val (.ref ob), .val (.long lv), .second, .val (.int (x3 + (1 : Int32))), .val (.int (192 : Int32))]) rfl k) ?_
        show Go p.tables e below P T4 (mkF m 19 #[.val (.ref ob), .val (.long lv), .second, .val (.int (x3 + (1 : Int32))), .val (.int (192 : Int32))] [])
        refine Go.via (fun t k => XS.goto Xh4.here hx rfl (pc0 := 19) (pc' := 6) rfl (hb hby d3_19) (by decide) (by decide) k) ?_
        have hV : Arv Z h4 ob kk .long (192 : Int32) ((own_fill lv xs (i + 1)).map Value.long) (.long (0 : Int64)) := by
          rw [own_fill, List.map_set]; exact V4
        exact ih2 T4 _ h4 (i + 1) (x3 + (1 : Int32)) Xh4 e4 N7 Z5 K6 hV hlt (by rw [hx3]; exact own_succ i) (by omega)
      · refine Go.via (fun t k => XS.icmpYes X2.here hx rfl (pc0 := 9) (pc' := 22) rfl (hb hby d3_9) rfl (flt hc3).2.1 (by decide) (by decide) k) ?_
        show Go p.tables e below P T2 (mkF m 22 #[.val (.ref ob), .val (.long lv), .second, .val (.int x3), .val (.int (192 : Int32))] [])
        have hge : i = 192 := (by have q : ¬ i < 192 := fun q => hc3 (by rw [hx3]; exact (own_ltN (n := 192) (by omega) (by omega)).mpr q); omega)
        subst hge
        obtain ⟨fs, hr, hrun, hended, hW, hsame⟩ := X2.leave (v := none) (fun _ => rfl)
        refine ⟨_, _, X2.returnOut hx Bd.returns (hb hby d3_22) hr, hrun, hended, hP _ _ ⟨_, _, rfl, ?_, ⟨_, rfl⟩, hW, hsame.mono (by decide) (by decide)⟩⟩
        show Q3 Z ob lv kk xs h0 n0 _ T2.heap _
        rw [e2]
        exact ⟨rfl, N2, K2, F2_0⟩
  exact LP2 _ s₁ _ h0 0 (0 : Int32) X0 e0 N0 Z0 K0 P0 (Nat.zero_le _) rfl (Nat.lt_succ_self _)
theorem own_pd1 : parseMethodDescriptor "([JJ)V" = some ⟨[(.array .long), .long], none⟩ := by decide +kernel
theorem d1_0 : decode prog_27_method_1_code 0 = .ok (.aload_n 0, 1) := by decide +kernel
theorem d1_1 : decode prog_27_method_1_code 1 = .ok (.invokespecial 3, 3) := by decide +kernel
theorem d1_4 : decode prog_27_method_1_code 4 = .ok (.aload_n 0, 1) := by decide +kernel
theorem d1_5 : decode prog_27_method_1_code 5 = .ok (.sipush 192, 3) := by decide +kernel
theorem d1_8 : decode prog_27_method_1_code 8 = .ok (.newarray .long, 2) := by decide +kernel
theorem d1_10 : decode prog_27_method_1_code 10 = .ok (.putfield 11, 3) := by decide +kernel
theorem d1_13 : decode prog_27_method_1_code 13 = .ok (.aload_n 0, 1) := by decide +kernel
theorem d1_14 : decode prog_27_method_1_code 14 = .ok (.iconst 1, 1) := by decide +kernel
theorem d1_15 : decode prog_27_method_1_code 15 = .ok (.putfield 15, 3) := by decide +kernel
theorem d1_18 : decode prog_27_method_1_code 18 = .ok (.aload_n 0, 1) := by decide +kernel
theorem d1_19 : decode prog_27_method_1_code 19 = .ok (.getfield 11, 3) := by decide +kernel
theorem d1_22 : decode prog_27_method_1_code 22 = .ok (.ldc2_w 19, 3) := by decide +kernel
theorem d1_25 : decode prog_27_method_1_code 25 = .ok (.invokestatic 21, 3) := by decide +kernel
theorem d1_28 : decode prog_27_method_1_code 28 = .ok (.return_, 1) := by decide +kernel
theorem ef_1 (m : MethodId) (x0 : Addr) : entryFrame m #[(.ref x0)] 1 = mkF m 0 #[.val (.ref x0)] [] := by first | (simp [entryFrame, mkF, argsToLocals, Value.category]; done) | rfl
def Q1 (Z : State) (oa : Addr) (h0 : Heap) (n0 : Nat) (v : Option Value) (h : Heap) (L : List Loc) : Prop := ∃ (om : Addr) (kk : ClassId), v = none ∧ Fr n0 L ∧ Keep h0 h [oa] ∧ h0.size ≤ om ∧ Exa Z h oa "com/example/criba/criba/model/MinhashAccumulator" ∧ Fld Z h oa "com/example/criba/criba/model/MinhashAccumulator" "minima" "[J" (.ref om) ∧ Fld Z h oa "com/example/criba/criba/model/MinhashAccumulator" "empty" "Z" (.int (1 : Int32)) ∧ Arv Z h om kk .long (192 : Int32) (own_x0.map Value.long) (.long (0 : Int64)) ∧ (oa ≠ om)
set_option maxRecDepth 65536 in
set_option maxHeartbeats 40000000 in
theorem rm1 (l : Launch) (Z : State) (a0 : Array Value) (hw : ∀ d ∈ tables_1, d.before a0 Z = true) (ws : List Jvm.Cond) (oa : Addr) (h0 : Heap) (n0 : Nat) (Z0 : n0 ≤ h0.size) (P0 : Exa Z h0 oa "com/example/criba/criba/model/MinhashAccumulator") (P1 : Fld Z h0 oa "com/example/criba/criba/model/MinhashAccumulator" "minima" "[J" .null) (P2 : Fld Z h0 oa "com/example/criba/criba/model/MinhashAccumulator" "empty" "Z" (.int (0 : Int32))) (ga : n0 ≤ oa) :
    MetFree l (⟨"com/example/criba/criba/model/MinhashAccumulator", "<init>", "()V"⟩ : MethodName) (head1 (Jvm.Cond.code (⟨"com/example/criba/criba/model/MinhashAccumulator", "<init>", "()V"⟩ : MethodName) prog_27_method_1_code 1 none :: ws) ({ frames := 1, cells := 1, slots := 192, locals := 16 } : Room)) (fun a U => a = #[(.ref oa)] ∧ Z.Warmed39 U.vm ∧ U.heap = h0) (fun _ _ _ _ _ => True) (fun _ U o U' => ∃ v L, o = .returned v ∧ Q1 Z oa h0 n0 v U'.heap L ∧ FrameEnd U o U' L ({ frames := 1, cells := 1, slots := 192, locals := 16 } : Room).cells ({ frames := 1, cells := 1, slots := 192, locals := 16 } : Room).slots) := by
  refine MetFree.of_bodySF (plainFor_of_name own_pn0) hisR ?_
  intro p e s m args below meth c s₁ Bd hml0 hP hK
  obtain ⟨rfl, hZ, hh⟩ := hP
  have hx := Bd.exec
  have hby := Bd.bytes
  have hml : c.maxLocals = 1 := hml0
  have hown : s.vm.findClass "com/example/criba/criba/model/MinhashAccumulator" = some m.cls := findClass_of_methodNamed Bd.named
  have hnm := (name_of_methodNamed Bd.named Bd.method).1
  have X0 : Stand p l e ({ frames := 1, cells := 1, slots := 192, locals := 16 } : Room) s m #[(.ref oa)] below meth c s₁ [] 0 0 := Stand.of_body Bd
  have e0 : s₁.heap = h0 := by rw [← hh, Bd.state]; rfl
  have N0 := Fr.nil n0
  have K0 : Keep h0 h0 [oa] := Keep.refl _ _
  suffices GO : ∀ P : Outcome → State → Prop, (∀ o U', (∃ v L, o = .returned v ∧ Q1 Z oa h0 n0 v U'.heap L ∧ FrameEnd s o U' L ({ frames := 1, cells := 1, slots := 192, locals := 16 } : Room).cells ({ frames := 1, cells := 1, slots := 192, locals := 16 } : Room).slots) → P o U') → Go p.tables e below P s₁ (mkF m 0 #[.val (.ref oa)] []) by
    obtain ⟨s2, o, st, r⟩ := GO _ (fun _ _ q => q)
    exact ⟨s2, o, castTop (ef_1 m oa) st, r⟩
  clear hh
  intro P hP
  show Go p.tables e below P s₁ (mkF m 0 #[.val (.ref oa)] [])
  refine Go.via (fun t k => XS.aloadN X0.here hx rfl (hb hby d1_0) rfl rfl k) ?_
  show Go p.tables e below P s₁ (mkF m 1 #[.val (.ref oa)] [(.ref oa)])
  obtain ⟨T1, X1, e1, st1⟩ := initO X0 hx hZ hown (hw _ (List.mem_of_getElem? (i := 6) rfl)) (hw _ (List.mem_of_getElem? (i := 7) rfl)) (hw _ (List.mem_of_getElem? (i := 8) rfl)) e0 (g := (mkF m 1 #[.val (.ref oa)] [(.ref oa)])) rfl (by rw [hml]; rfl) rfl (hb hby d1_1) (by decide) (W := 0) (by show 2 * 0 + _ ≤ _; exact Nat.le_of_eq rfl) (by decide)
  refine Go.via st1 ?_
  show Go p.tables e below P T1 (mkF m 4 #[.val (.ref oa)] [])
  refine Go.via (fun t k => XS.aloadN X1.here hx rfl (hb hby d1_4) rfl rfl k) ?_
  show Go p.tables e below P T1 (mkF m 5 #[.val (.ref oa)] [(.ref oa)])
  refine Go.via (fun t k => XS.sipush X1.here hx rfl (hb hby d1_5) k) ?_
  show Go p.tables e below P T1 (mkF m 8 #[.val (.ref oa)] [(.int (192 : Int32)), (.ref oa)])
  obtain ⟨T2, h2, k2, X2, e2, E2, A2, st2⟩ := newP X1 hx hZ (hw _ (List.mem_of_getElem? (i := 9) rfl)) e1 (g := (mkF m 8 #[.val (.ref oa)] [(.int (192 : Int32)), (.ref oa)])) rfl (hb hby d1_8) rfl (by decide) (cap := 192) (by decide) (by decide) (by decide) (by decide)
  obtain ⟨b2, g2⟩ : ∃ z, z = h0.size := ⟨_, rfl⟩
  rw [← g2] at A2 st2
  refine Go.via st2 ?_
  have ne3 : oa ≠ b2 := Nat.ne_of_lt (Nat.lt_of_lt_of_le P0.lt (Nat.le_of_eq g2.symm))
  have g4 : n0 ≤ b2 := Nat.le_trans Z0 (Nat.le_of_eq g2.symm)
  have sz5 : h0.size ≤ b2 := Nat.le_trans K0.1 (Nat.le_of_eq g2.symm)
  have Z6 : n0 ≤ h2.size := Nat.le_trans Z0 E2.1
  have K7 : Keep h0 h2 [oa] := K0.ext E2
  have V2 : Arv Z h2 b2 k2 .long (192 : Int32) (List.replicate 192 (.long (0 : Int64))) (.long (0 : Int64)) := (Arv.new A2 (by decide)).pad (pad_rep [] (.long (0 : Int64)) 192)
  show Go p.tables e below P T2 (mkF m 10 #[.val (.ref oa)] [(.ref b2), (.ref oa)])
  have F8 : Exa Z h2 oa "com/example/criba/criba/model/MinhashAccumulator" := (P0.ext E2)
  have F9 : Fld Z h2 oa "com/example/criba/criba/model/MinhashAccumulator" "minima" "[J" .null := (P1.ext E2)
  have F10 : Fld Z h2 oa "com/example/criba/criba/model/MinhashAccumulator" "empty" "Z" (.int (0 : Int32)) := (P2.ext E2)
  obtain ⟨T11, h11, X11, e11, W11, st11⟩ := putF X2 hx hZ hown (host := "") (Or.inl (hw _ (List.mem_of_getElem? (i := 10) rfl))) Via.refl e2 F9 F8 (Or.inr ⟨(hw _ (List.mem_of_getElem? (i := 11) rfl)), rfl, hnm⟩) (hw _ (List.mem_of_getElem? (i := 1) rfl)) (ty := (.array .long)) (by decide) rfl rfl (g := (mkF m 10 #[.val (.ref oa)] [(.ref b2), (.ref oa)])) rfl rfl (hb hby d1_10)
  refine Go.via st11 ?_
  have Z12 : n0 ≤ h11.size := Nat.le_trans Z6 (Nat.le_of_eq W11.size.symm)
  have K13 : Keep h0 h11 [oa] := K7.wr W11 (Or.inl (List.mem_of_getElem? (i := 0) rfl))
  obtain ⟨lc11, Xh11, N14⟩ := own_hide X11 (Fr.snoc X11 N0 ga)
  clear X11
  have Fw11 := F9.same W11
  show Go p.tables e below P T11 (mkF m 13 #[.val (.ref oa)] [])
  refine Go.via (fun t k => XS.aloadN Xh11.here hx rfl (hb hby d1_13) rfl rfl k) ?_
  show Go p.tables e below P T11 (mkF m 14 #[.val (.ref oa)] [(.ref oa)])
  refine Go.via (fun t k => XS.iconst Xh11.here hx rfl (hb hby d1_14) k) ?_
  show Go p.tables e below P T11 (mkF m 15 #[.val (.ref oa)] [(.int (1 : Int32)), (.ref oa)])
  have F15 : Exa Z h11 oa "com/example/criba/criba/model/MinhashAccumulator" := (F8.wr W11)
  have F16 : Fld Z h11 oa "com/example/criba/criba/model/MinhashAccumulator" "empty" "Z" (.int (0 : Int32)) := (F10.other W11 (Or.inr (slot_ne (Or.inl (hw _ (List.mem_of_getElem? (i := 13) rfl))) (Or.inr (hw _ (List.mem_of_getElem? (i := 11) rfl))) (by decide) (t := .boolean) (t' := (.array .long)) (by decide) (by decide))))
  have F17 : Arv Z h11 b2 k2 .long (192 : Int32) (List.replicate 192 (.long (0 : Int64))) (.long (0 : Int64)) := (V2.other W11 (Ne.symm ne3))
  obtain ⟨T18, h18, X18, e18, W18, st18⟩ := putF Xh11 hx hZ hown (host := "") (Or.inl (hw _ (List.mem_of_getElem? (i := 12) rfl))) Via.refl e11 F16 F15 (Or.inl (hw _ (List.mem_of_getElem? (i := 13) rfl))) (hw _ (List.mem_of_getElem? (i := 1) rfl)) (ty := .boolean) (by decide) rfl rfl (g := (mkF m 15 #[.val (.ref oa)] [(.int (1 : Int32)), (.ref oa)])) rfl rfl (hb hby d1_15)
  refine Go.via st18 ?_
  have Z19 : n0 ≤ h18.size := Nat.le_trans Z12 (Nat.le_of_eq W18.size.symm)
  have K20 : Keep h0 h18 [oa] := K13.wr W18 (Or.inl (List.mem_of_getElem? (i := 0) rfl))
  obtain ⟨lc18, Xh18, N21⟩ := own_hide X18 (Fr.snoc X18 N14 ga)
  clear X18
  have Fw18 := F16.same W18
  show Go p.tables e below P T18 (mkF m 18 #[.val (.ref oa)] [])
  refine Go.via (fun t k => XS.aloadN Xh18.here hx rfl (hb hby d1_18) rfl rfl k) ?_
  show Go p.tables e below P T18 (mkF m 19 #[.val (.ref oa)] [(.ref oa)])
  have F22 : Fld Z h18 oa "com/example/criba/criba/model/MinhashAccumulator" "minima" "[J" (.ref b2) := (Fw11.other W18 (Or.inr (slot_ne (Or.inr (hw _ (List.mem_of_getElem? (i := 11) rfl))) (Or.inl (hw _ (List.mem_of_getElem? (i := 13) rfl))) (by decide) (t := (.array .long)) (t' := .boolean) (by decide) (by decide))))
  obtain ⟨T23, X23, e23, st23⟩ := getF Xh18 hx hZ hown (host := "") (Or.inl (hw _ (List.mem_of_getElem? (i := 10) rfl))) Via.refl e18 F22 (g := (mkF m 19 #[.val (.ref oa)] [(.ref oa)])) rfl rfl (hb hby d1_19)
  refine Go.via st23 ?_
  show Go p.tables e below P T23 (mkF m 22 #[.val (.ref oa)] [(.ref b2)])
  refine Go.via (fun t k => X23.ldc2Long hx hown (mvT hZ (hw _ (List.mem_of_getElem? (i := 14) rfl))) (g := (mkF m 22 #[.val (.ref oa)] [(.ref b2)])) rfl (hb hby d1_22) t k) ?_
  show Go p.tables e below P T23 (mkF m 25 #[.val (.ref oa)] [(.long (-1 : Int64)), (.ref b2)])
  have F24 : Exa Z h18 oa "com/example/criba/criba/model/MinhashAccumulator" := (F15.wr W18)
  obtain ⟨_, _, ⟨T25, L25, k25, n25⟩, -, X25, ⟨Lc25, hQ25, l25, y25, z25⟩, st25⟩ := Jvm.LawKit.callS X23 hx (y := (⟨"java/util/Arrays", "fill", "([JJ)V"⟩ : MethodName)) hown (mvT hZ (hw _ (List.mem_of_getElem? (i := 15) rfl))) (mvT hZ (hw _ (List.mem_of_getElem? (i := 16) rfl))) (mvT hZ (hw _ (List.mem_of_getElem? (i := 17) rfl))) (mvT hZ (hw _ (List.mem_of_getElem? (i := 18) rfl))) (by decide) (backOf (W := 0) (rm3 l Z a0 hw [] b2 (-1 : Int64) k2 (List.replicate 192 (0 : Int64)) h18 n0 Z19 (by rw [List.map_replicate]; exact (F17.other W18 (Ne.symm ne3))) (List.length_replicate) g4) hZ (hw _ (List.mem_of_getElem? (i := 18) rfl)) (hw _ (List.mem_of_getElem? (i := 17) rfl)) (by decide) (by decide)) (g := (mkF m 25 #[.val (.ref oa)] [(.long (-1 : Int64)), (.ref b2)])) rfl (by rw [hml]; rfl) (argsL := [(.ref b2), (.long (-1 : Int64))]) (rest := []) (lenOf own_pd1 rfl) rfl (by show 2 * 0 + _ ≤ _; exact Nat.le_of_eq rfl) (hb hby d1_25) (fun _ _ => ⟨rfl, e23, (by decide : 1 + 0 ≤ _), (by decide : 192 + 0 ≤ _)⟩)
  dsimp only [Pt.U, Pt.locs, Pt.cells, Pt.slots] at X25 l25 y25 z25 st25 hQ25
  subst l25 y25 z25
  obtain ⟨rfl, Nq25, K25, u25_0⟩ := hQ25
  obtain ⟨lc25, Xh25, N25⟩ := own_hide X25 (Fr.app N21 Nq25)
  clear X25
  refine Go.via st25 ?_
  have Z26 : n0 ≤ T25.heap.size := Nat.le_trans Z19 K25.1
  have K27 : Keep h0 T25.heap [oa] := K20.trans K25 (own_allC (Or.inr sz5) own_all0)
  show Go p.tables e below P T25 (mkF m 28 #[.val (.ref oa)] [])
  obtain ⟨fs, hr, hrun, hended, hW, hsame⟩ := Xh25.leave (v := none) (fun _ => rfl)
  have F29 : Exa Z T25.heap oa "com/example/criba/criba/model/MinhashAccumulator" := (F24.keep K25)
  have F30 : Fld Z T25.heap oa "com/example/criba/criba/model/MinhashAccumulator" "minima" "[J" (.ref b2) := (F22.keep K25 (own_ninC ne3 own_nin0))
  have F31 : Fld Z T25.heap oa "com/example/criba/criba/model/MinhashAccumulator" "empty" "Z" (.int (1 : Int32)) := (Fw18.keep K25 (own_ninC ne3 own_nin0))
  refine ⟨_, _, Xh25.returnOut hx Bd.returns (hb hby d1_28) hr, hrun, hended, hP _ _ ⟨_, _, rfl, ?_, ⟨_, rfl⟩, hW, hsame.mono (by decide) (by decide)⟩⟩
  show Q1 Z oa h0 n0 _ T25.heap _
  exact ⟨b2, k2, rfl, N25, K27, sz5, F29, F30, F31, u25_0, ne3⟩
theorem own_pd2 : parseMethodDescriptor "(J)J" = some ⟨[.long], some .long⟩ := by decide +kernel
theorem d4_0 : decode prog_27_method_2_code 0 = .ok (.lload_n 1, 1) := by decide +kernel
theorem d4_1 : decode prog_27_method_2_code 1 = .ok (.lstore_n 3, 1) := by decide +kernel
theorem d4_2 : decode prog_27_method_2_code 2 = .ok (.iconst 0, 1) := by decide +kernel
theorem d4_3 : decode prog_27_method_2_code 3 = .ok (.istore 5, 2) := by decide +kernel
theorem d4_5 : decode prog_27_method_2_code 5 = .ok (.iload 5, 2) := by decide +kernel
theorem d4_7 : decode prog_27_method_2_code 7 = .ok (.sipush 192, 3) := by decide +kernel
theorem d4_10 : decode prog_27_method_2_code 10 = .ok (.if_icmp .ge 45, 3) := by decide +kernel
theorem d4_13 : decode prog_27_method_2_code 13 = .ok (.lload_n 3, 1) := by decide +kernel
theorem d4_14 : decode prog_27_method_2_code 14 = .ok (.ldc2_w 27, 3) := by decide +kernel
theorem d4_17 : decode prog_27_method_2_code 17 = .ok (.ladd, 1) := by decide +kernel
theorem d4_18 : decode prog_27_method_2_code 18 = .ok (.lstore_n 3, 1) := by decide +kernel
theorem d4_19 : decode prog_27_method_2_code 19 = .ok (.lload_n 3, 1) := by decide +kernel
theorem d4_20 : decode prog_27_method_2_code 20 = .ok (.invokestatic 29, 3) := by decide +kernel
theorem d4_23 : decode prog_27_method_2_code 23 = .ok (.lstore 6, 2) := by decide +kernel
theorem d4_25 : decode prog_27_method_2_code 25 = .ok (.lload 6, 2) := by decide +kernel
theorem d4_27 : decode prog_27_method_2_code 27 = .ok (.aload_n 0, 1) := by decide +kernel
theorem d4_28 : decode prog_27_method_2_code 28 = .ok (.getfield 11, 3) := by decide +kernel
theorem d4_31 : decode prog_27_method_2_code 31 = .ok (.iload 5, 2) := by decide +kernel
theorem d4_33 : decode prog_27_method_2_code 33 = .ok (.laload, 1) := by decide +kernel
theorem d4_34 : decode prog_27_method_2_code 34 = .ok (.invokestatic 33, 3) := by decide +kernel
theorem d4_37 : decode prog_27_method_2_code 37 = .ok (.ifCond .ge 12, 3) := by decide +kernel
theorem d4_40 : decode prog_27_method_2_code 40 = .ok (.aload_n 0, 1) := by decide +kernel
theorem d4_41 : decode prog_27_method_2_code 41 = .ok (.getfield 11, 3) := by decide +kernel
theorem d4_44 : decode prog_27_method_2_code 44 = .ok (.iload 5, 2) := by decide +kernel
theorem d4_46 : decode prog_27_method_2_code 46 = .ok (.lload 6, 2) := by decide +kernel
theorem d4_48 : decode prog_27_method_2_code 48 = .ok (.lastore, 1) := by decide +kernel
theorem d4_49 : decode prog_27_method_2_code 49 = .ok (.iinc 5 1, 3) := by decide +kernel
theorem d4_52 : decode prog_27_method_2_code 52 = .ok (.goto (-47), 3) := by decide +kernel
theorem d4_55 : decode prog_27_method_2_code 55 = .ok (.aload_n 0, 1) := by decide +kernel
theorem d4_56 : decode prog_27_method_2_code 56 = .ok (.iconst 0, 1) := by decide +kernel
theorem d4_57 : decode prog_27_method_2_code 57 = .ok (.putfield 15, 3) := by decide +kernel
theorem d4_60 : decode prog_27_method_2_code 60 = .ok (.return_, 1) := by decide +kernel
theorem ef_4 (m : MethodId) (x0 : Addr) (x1 : Int64) : entryFrame m #[(.ref x0), (.long x1)] 8 = mkF m 0 #[.val (.ref x0), .val (.long x1), .second, .unset, .unset, .unset, .unset, .unset] [] := by first | (simp [entryFrame, mkF, argsToLocals, Value.category]; done) | rfl
def Q4 (Z : State) (oa : Addr) (hv : Int64) (om : Addr) (kk : ClassId) (ef : Int32) (xs : List Int64) (h0 : Heap) (n0 : Nat) (v : Option Value) (h : Heap) (L : List Loc) : Prop := v = none ∧ Fr n0 L ∧ Keep h0 h [oa, om] ∧ Exa Z h oa "com/example/criba/criba/model/MinhashAccumulator" ∧ Fld Z h oa "com/example/criba/criba/model/MinhashAccumulator" "minima" "[J" (.ref om) ∧ Fld Z h oa "com/example/criba/criba/model/MinhashAccumulator" "empty" "Z" (.int (0 : Int32)) ∧ Arv Z h om kk .long (192 : Int32) ((own_upd hv xs 192).map Value.long) (.long (0 : Int64))
set_option maxRecDepth 65536 in
set_option maxHeartbeats 40000000 in
theorem rm4 (l : Launch) (Z : State) (a0 : Array Value) (hw : ∀ d ∈ tables_1, d.before a0 Z = true) (ws : List Jvm.Cond) (oa : Addr) (hv : Int64) (om : Addr) (kk : ClassId) (ef : Int32) (xs : List Int64) (h0 : Heap) (n0 : Nat) (Z0 : n0 ≤ h0.size) (P0 : Exa Z h0 oa "com/example/criba/criba/model/MinhashAccumulator") (P1 : Fld Z h0 oa "com/example/criba/criba/model/MinhashAccumulator" "minima" "[J" (.ref om)) (P2 : Fld Z h0 oa "com/example/criba/criba/model/MinhashAccumulator" "empty" "Z" (.int ef)) (P3 : Arv Z h0 om kk .long (192 : Int32) (xs.map Value.long) (.long (0 : Int64))) (hxl : xs.length = 192) (ga : n0 ≤ oa) (gm : n0 ≤ om) (hne : oa ≠ om) :
    MetFree l (⟨"com/example/criba/criba/model/MinhashAccumulator", "add", "(J)V"⟩ : MethodName) (head1 (Jvm.Cond.code (⟨"com/example/criba/criba/model/MinhashAccumulator", "add", "(J)V"⟩ : MethodName) prog_27_method_2_code 8 none :: ws) ({ frames := 2, cells := 0, slots := 0, locals := 30 } : Room)) (fun a U => a = #[(.ref oa), (.long hv)] ∧ Z.Warmed39 U.vm ∧ U.heap = h0) (fun _ _ _ _ _ => True) (fun _ U o U' => ∃ v L, o = .returned v ∧ Q4 Z oa hv om kk ef xs h0 n0 v U'.heap L ∧ FrameEnd U o U' L ({ frames := 2, cells := 0, slots := 0, locals := 30 } : Room).cells ({ frames := 2, cells := 0, slots := 0, locals := 30 } : Room).slots) := by
  refine MetFree.of_bodySF (plainFor_of_name own_pn0) hisR ?_
  intro p e s m args below meth c s₁ Bd hml0 hP hK
  obtain ⟨rfl, hZ, hh⟩ := hP
  have hx := Bd.exec
  have hby := Bd.bytes
  have hml : c.maxLocals = 8 := hml0
  have hown : s.vm.findClass "com/example/criba/criba/model/MinhashAccumulator" = some m.cls := findClass_of_methodNamed Bd.named
  have hnm := (name_of_methodNamed Bd.named Bd.method).1
  have X0 : Stand p l e ({ frames := 2, cells := 0, slots := 0, locals := 30 } : Room) s m #[(.ref oa), (.long hv)] below meth c s₁ [] 0 0 := Stand.of_body Bd
  have e0 : s₁.heap = h0 := by rw [← hh, Bd.state]; rfl
  have N0 := Fr.nil n0
  have K0 : Keep h0 h0 [oa, om] := Keep.refl _ _
  suffices GO : ∀ P : Outcome → State → Prop, (∀ o U', (∃ v L, o = .returned v ∧ Q4 Z oa hv om kk ef xs h0 n0 v U'.heap L ∧ FrameEnd s o U' L ({ frames := 2, cells := 0, slots := 0, locals := 30 } : Room).cells ({ frames := 2, cells := 0, slots := 0, locals := 30 } : Room).slots) → P o U') → Go p.tables e below P s₁ (mkF m 0 #[.val (.ref oa), .val (.long hv), .second, .unset, .unset, .unset, .unset, .unset] []) by
    obtain ⟨s2, o, st, r⟩ := GO _ (fun _ _ q => q)
    exact ⟨s2, o, castTop (ef_4 m oa hv) st, r⟩
  clear hh
  intro P hP
  show Go p.tables e below P s₁ (mkF m 0 #[.val (.ref oa), .val (.long hv), .second, .unset, .unset, .unset, .unset, .unset] [])
  refine Go.via (fun t k => XS.lloadN X0.here hx rfl (hb hby d4_0) rfl k) ?_
  show Go p.tables e below P s₁ (mkF m 1 #[.val (.ref oa), .val (.long hv), .second, .unset, .unset, .unset, .unset, .unset] [(.long hv)])
  refine Go.via (fun t k => XS.lstoreN X0.here hx rfl (hb hby d4_1) rfl (l' := #[.val (.ref oa), .val (.long hv), .second, .val (.long hv), .second, .unset, .unset, .unset]) rfl k) ?_
  show Go p.tables e below P s₁ (mkF m 2 #[.val (.ref oa), .val (.long hv), .second, .val (.long hv), .second, .unset, .unset, .unset] [])
  refine Go.via (fun t k => XS.iconst X0.here hx rfl (hb hby d4_2) k) ?_
  show Go p.tables e below P s₁ (mkF m 3 #[.val (.ref oa), .val (.long hv), .second, .val (.long hv), .second, .unset, .unset, .unset] [(.int (0 : Int32))])
  refine Go.via (fun t k => XS.istore X0.here hx rfl (hb hby d4_3) rfl (l' := #[.val (.ref oa), .val (.long hv), .second, .val (.long hv), .second, .val (.int (0 : Int32)), .unset, .unset]) rfl k) ?_
  have LP1 : ∀ (k1 : Nat) (T1 : State) (locs1 : List Loc) (hp1 : Heap) (i : Nat) (s3 : Int64) (x5 : Int32) (s1_6 : Slot) (s1_7 : Slot), Stand p l e ({ frames := 2, cells := 0, slots := 0, locals := 30 } : Room) s m #[(.ref oa), (.long hv)] below meth c T1 locs1 0 0 → T1.heap = hp1 → Fr n0 locs1 → n0 ≤ hp1.size → Keep h0 hp1 [oa, om] → Exa Z hp1 oa "com/example/criba/criba/model/MinhashAccumulator" → Fld Z hp1 oa "com/example/criba/criba/model/MinhashAccumulator" "minima" "[J" (.ref om) → Fld Z hp1 oa "com/example/criba/criba/model/MinhashAccumulator" "empty" "Z" (.int ef) → Arv Z hp1 om kk .long (192 : Int32) ((own_upd hv xs i).map Value.long) (.long (0 : Int64)) → i ≤ 192 → s3 = own_st hv i → x5 = i.toInt32 → ((s1_6 = .unset ∧ s1_7 = .unset) ∨ ∃ w, s1_6 = .val (.long w) ∧ s1_7 = .second) → 192 - i < k1 → Go p.tables e below P T1 (mkF m 5 #[.val (.ref oa), .val (.long hv), .second, .val (.long s3), .second, .val (.int x5), s1_6, s1_7] []) := by
    intro k1
    induction k1 with
    | zero => intro T1 locs1 hp1 i s3 x5 s1_6 s1_7 X1 e1 N1 Z1 K1 F1_0 F1_1 F1_2 F1_3 hi hs3 hx5 hos1_6 hk; exact absurd hk (Nat.not_lt_zero _)
    | succ k1 ih1 =>
      intro T1 locs1 hp1 i s3 x5 s1_6 s1_7 X1 e1 N1 Z1 K1 F1_0 F1_1 F1_2 F1_3 hi hs3 hx5 hos1_6 hk
      show Go p.tables e below P T1 (mkF m 5 #[.val (.ref oa), .val (.long hv), .second, .val (.long s3), .second, .val (.int x5), s1_6, s1_7] [])
      refine Go.via (fun t k => XS.iload X1.here hx rfl (hb hby d4_5) rfl k) ?_
      show Go p.tables e below P T1 (mkF m 7 #[.val (.ref oa), .val (.long hv), .second, .val (.long s3), .second, .val (.int x5), s1_6, s1_7] [(.int x5)])
      refine Go.via (fun t k => XS.sipush X1.here hx rfl (hb hby d4_7) k) ?_
      show Go p.tables e below P T1 (mkF m 10 #[.val (.ref oa), .val (.long hv), .second, .val (.long s3), .second, .val (.int x5), s1_6, s1_7] [(.int (192 : Int32)), (.int x5)])
      by_cases hc2 : x5 < (192 : Int32)
      · refine Go.via (fun t k => XS.icmpNo X1.here hx rfl (hb hby d4_10) rfl (tlt hc2).2.1 k) ?_
        show Go p.tables e below P T1 (mkF m 13 #[.val (.ref oa), .val (.long hv), .second, .val (.long s3), .second, .val (.int x5), s1_6, s1_7] [])
        have hlt : i < 192 := (own_ltN (n := 192) (by omega) (by omega)).mp (by rw [← hx5]; exact hc2)
        refine Go.via (fun t k => XS.lloadN X1.here hx rfl (hb hby d4_13) rfl k) ?_
        show Go p.tables e below P T1 (mkF m 14 #[.val (.ref oa), .val (.long hv), .second, .val (.long s3), .second, .val (.int x5), s1_6, s1_7] [(.long s3)])
        refine Go.via (fun t k => X1.ldc2Long hx hown (mvT hZ (hw _ (List.mem_of_getElem? (i := 24) rfl))) (g := (mkF m 14 #[.val (.ref oa), .val (.long hv), .second, .val (.long s3), .second, .val (.int x5), s1_6, s1_7] [(.long s3)])) rfl (hb hby d4_14) t k) ?_
        show Go p.tables e below P T1 (mkF m 17 #[.val (.ref oa), .val (.long hv), .second, .val (.long s3), .second, .val (.int x5), s1_6, s1_7] [(.long (-7046029254386353131 : Int64)), (.long s3)])
        refine Go.via (fun t k => XS.ladd X1.here hx rfl (hb hby d4_17) rfl k) ?_
        show Go p.tables e below P T1 (mkF m 18 #[.val (.ref oa), .val (.long hv), .second, .val (.long s3), .second, .val (.int x5), s1_6, s1_7] [(.long (s3 + (-7046029254386353131 : Int64)))])
        refine Go.via (fun t k => XS.lstoreN X1.here hx rfl (hb hby d4_18) rfl (l' := #[.val (.ref oa), .val (.long hv), .second, .val (.long (s3 + (-7046029254386353131 : Int64))), .second, .val (.int x5), s1_6, s1_7]) rfl k) ?_
        show Go p.tables e below P T1 (mkF m 19 #[.val (.ref oa), .val (.long hv), .second, .val (.long (s3 + (-7046029254386353131 : Int64))), .second, .val (.int x5), s1_6, s1_7] [])
        have hs4 : s3 + (-7046029254386353131 : Int64) = own_st hv (i + 1) := by rw [hs3]; rfl
        rw [hs4]
        refine Go.via (fun t k => XS.lloadN X1.here hx rfl (hb hby d4_19) rfl k) ?_
        show Go p.tables e below P T1 (mkF m 20 #[.val (.ref oa), .val (.long hv), .second, .val (.long (own_st hv (i + 1))), .second, .val (.int x5), s1_6, s1_7] [(.long (own_st hv (i + 1)))])
        obtain ⟨_, _, ⟨T3, L3, k3, n3⟩, -, X3, ⟨Lc3, hQ3, l3, y3, z3⟩, st3⟩ := Jvm.LawKit.callS X1 hx (y := (⟨"com/example/criba/criba/model/MinhashAccumulator", "mix", "(J)J"⟩ : MethodName)) hown (mvT hZ (hw _ (List.mem_of_getElem? (i := 25) rfl))) (mvT hZ (hw _ (List.mem_of_getElem? (i := 26) rfl))) (mvT hZ (hw _ (List.mem_of_getElem? (i := 2) rfl))) (mvT hZ (hw _ (List.mem_of_getElem? (i := 27) rfl))) (by decide) (backOf (W := 0) (rm5 l Z a0 hw [] (own_st hv (i + 1)) hp1 n0 Z1 ) hZ (hw _ (List.mem_of_getElem? (i := 27) rfl)) (hw _ (List.mem_of_getElem? (i := 2) rfl)) (by decide) (by decide)) (g := (mkF m 20 #[.val (.ref oa), .val (.long hv), .second, .val (.long (own_st hv (i + 1))), .second, .val (.int x5), s1_6, s1_7] [(.long (own_st hv (i + 1)))])) rfl (by rw [hml]; rfl) (argsL := [(.long (own_st hv (i + 1)))]) (rest := []) (lenOf own_pd2 rfl) rfl (by show 2 * 0 + _ ≤ _; exact Nat.le_of_eq rfl) (hb hby d4_20) (fun _ _ => ⟨rfl, e1, (by decide : 0 + 0 ≤ _), (by decide : 0 + 0 ≤ _)⟩)
        dsimp only [Pt.U, Pt.locs, Pt.cells, Pt.slots] at X3 l3 y3 z3 st3 hQ3
        subst l3 y3 z3
        obtain ⟨rfl, Nq3, hh3⟩ := hQ3
        obtain ⟨lc3, Xh3, N3⟩ := own_hide X3 (Fr.app N1 Nq3)
        clear X3
        refine Go.via st3 ?_
        show Go p.tables e below P T3 (mkF m 23 #[.val (.ref oa), .val (.long hv), .second, .val (.long (own_st hv (i + 1))), .second, .val (.int x5), s1_6, s1_7] [(.long (own_mix (own_st hv (i + 1))))])
        refine Go.via (fun t k => XS.lstore Xh3.here hx rfl (hb hby d4_23) rfl (by rcases hos1_6 with ⟨q6, q7⟩ | ⟨w, q6, q7⟩ <;> subst q6 q7 <;> rfl) k) ?_
        show Go p.tables e below P T3 (mkF m 25 #[.val (.ref oa), .val (.long hv), .second, .val (.long (own_st hv (i + 1))), .second, .val (.int x5), .val (.long (own_mix (own_st hv (i + 1)))), .second] [])
        refine Go.via (fun t k => XS.lload Xh3.here hx rfl (hb hby d4_25) rfl k) ?_
        show Go p.tables e below P T3 (mkF m 27 #[.val (.ref oa), .val (.long hv), .second, .val (.long (own_st hv (i + 1))), .second, .val (.int x5), .val (.long (own_mix (own_st hv (i + 1)))), .second] [(.long (own_mix (own_st hv (i + 1))))])
        refine Go.via (fun t k => XS.aloadN Xh3.here hx rfl (hb hby d4_27) rfl rfl k) ?_
        show Go p.tables e below P T3 (mkF m 28 #[.val (.ref oa), .val (.long hv), .second, .val (.long (own_st hv (i + 1))), .second, .val (.int x5), .val (.long (own_mix (own_st hv (i + 1)))), .second] [(.ref oa), (.long (own_mix (own_st hv (i + 1))))])
        obtain ⟨T4, X4, e4, st4⟩ := getF Xh3 hx hZ hown (host := "") (Or.inl (hw _ (List.mem_of_getElem? (i := 10) rfl))) Via.refl hh3 F1_1 (g := (mkF m 28 #[.val (.ref oa), .val (.long hv), .second, .val (.long (own_st hv (i + 1))), .second, .val (.int x5), .val (.long (own_mix (own_st hv (i + 1)))), .second] [(.ref oa), (.long (own_mix (own_st hv (i + 1))))])) rfl rfl (hb hby d4_28)
        refine Go.via st4 ?_
        show Go p.tables e below P T4 (mkF m 31 #[.val (.ref oa), .val (.long hv), .second, .val (.long (own_st hv (i + 1))), .second, .val (.int x5), .val (.long (own_mix (own_st hv (i + 1)))), .second] [(.ref om), (.long (own_mix (own_st hv (i + 1))))])
        refine Go.via (fun t k => XS.iload X4.here hx rfl (hb hby d4_31) rfl k) ?_
        show Go p.tables e below P T4 (mkF m 33 #[.val (.ref oa), .val (.long hv), .second, .val (.long (own_st hv (i + 1))), .second, .val (.int x5), .val (.long (own_mix (own_st hv (i + 1)))), .second] [(.int x5), (.ref om), (.long (own_mix (own_st hv (i + 1))))])
        obtain ⟨c5, A5, q5, S5, N5, H5, G5⟩ := id F1_3
        have hin5 : ¬ (x5 < 0 ∨ c5.slots.size ≤ (x5).toNatClampNeg) := inb_of S5 ⟨by rw [hx5]; exact own_nneg (by omega), by rw [hx5]; exact (own_ltN (n := 192) (by omega) (by omega)).mpr hlt⟩
        have hat5 : c5.slots[(x5).toNatClampNeg]? = some (.long ((own_upd hv xs i).getD i 0)) := (H5 _ (Nat.lt_of_not_le fun q => hin5 (Or.inr q))).trans (congrArg some (by rw [hx5, own_clamp (by omega)]; exact own_getDJ _ i))
        refine Go.via (fun t k => X4.laload hx (j := x5) (v := (.long ((own_upd hv xs i).getD i 0))) (by rw [e4]; exact A5.1) (State.isArrayOf_alike hZ.alike A5.2.1) A5.2.2 hin5 hat5 (g := (mkF m 33 #[.val (.ref oa), .val (.long hv), .second, .val (.long (own_st hv (i + 1))), .second, .val (.int x5), .val (.long (own_mix (own_st hv (i + 1)))), .second] [(.int x5), (.ref om), (.long (own_mix (own_st hv (i + 1))))])) rfl rfl (hb hby d4_33) t k) ?_
        show Go p.tables e below P T4 (mkF m 34 #[.val (.ref oa), .val (.long hv), .second, .val (.long (own_st hv (i + 1))), .second, .val (.int x5), .val (.long (own_mix (own_st hv (i + 1)))), .second] [(.long ((own_upd hv xs i).getD i 0)), (.long (own_mix (own_st hv (i + 1))))])
        obtain ⟨_, _, ⟨T6, L6, k6, n6⟩, -, X6, ⟨Lc6, hQ6, l6, y6, z6⟩, st6⟩ := Jvm.LawKit.callS X4 hx (y := (⟨"java/lang/Long", "compareUnsigned", "(JJ)I"⟩ : MethodName)) hown (mvT hZ (hw _ (List.mem_of_getElem? (i := 30) rfl))) (mvT hZ (hw _ (List.mem_of_getElem? (i := 31) rfl))) (mvT hZ (hw _ (List.mem_of_getElem? (i := 32) rfl))) (mvT hZ (hw _ (List.mem_of_getElem? (i := 33) rfl))) (by decide) (backOf (W := 0) (rm6 l Z a0 hw [] (own_mix (own_st hv (i + 1))) ((own_upd hv xs i).getD i 0) hp1 n0 Z1 ) hZ (hw _ (List.mem_of_getElem? (i := 33) rfl)) (hw _ (List.mem_of_getElem? (i := 32) rfl)) (by decide) (by decide)) (g := (mkF m 34 #[.val (.ref oa), .val (.long hv), .second, .val (.long (own_st hv (i + 1))), .second, .val (.int x5), .val (.long (own_mix (own_st hv (i + 1)))), .second] [(.long ((own_upd hv xs i).getD i 0)), (.long (own_mix (own_st hv (i + 1))))])) rfl (by rw [hml]; rfl) (argsL := [(.long (own_mix (own_st hv (i + 1)))), (.long ((own_upd hv xs i).getD i 0))]) (rest := []) (lenOf own_pd0 rfl) rfl (by show 2 * 0 + _ ≤ _; exact Nat.le_of_eq rfl) (hb hby d4_34) (fun _ _ => ⟨rfl, e4, (by decide : 0 + 0 ≤ _), (by decide : 0 + 0 ≤ _)⟩)
        dsimp only [Pt.U, Pt.locs, Pt.cells, Pt.slots] at X6 l6 y6 z6 st6 hQ6
        subst l6 y6 z6
        obtain ⟨rfl, Nq6, hh6⟩ := hQ6
        obtain ⟨lc6, Xh6, N6⟩ := own_hide X6 (Fr.app N3 Nq6)
        clear X6
        refine Go.via st6 ?_
        show Go p.tables e below P T6 (mkF m 37 #[.val (.ref oa), .val (.long hv), .second, .val (.long (own_st hv (i + 1))), .second, .val (.int x5), .val (.long (own_mix (own_st hv (i + 1)))), .second] [(.int (own_cu (own_mix (own_st hv (i + 1))) ((own_upd hv xs i).getD i 0)))])
        by_cases hc7 : (own_cu (own_mix (own_st hv (i + 1))) ((own_upd hv xs i).getD i 0)) < (0 : Int32)
        · refine Go.via (fun t k => XS.ifNo Xh6.here hx rfl (hb hby d4_37) rfl ((if0 _ _).trans (tlt hc7).2.1) k) ?_
          show Go p.tables e below P T6 (mkF m 40 #[.val (.ref oa), .val (.long hv), .second, .val (.long (own_st hv (i + 1))), .second, .val (.int x5), .val (.long (own_mix (own_st hv (i + 1)))), .second] [])
          refine Go.via (fun t k => XS.aloadN Xh6.here hx rfl (hb hby d4_40) rfl rfl k) ?_
          show Go p.tables e below P T6 (mkF m 41 #[.val (.ref oa), .val (.long hv), .second, .val (.long (own_st hv (i + 1))), .second, .val (.int x5), .val (.long (own_mix (own_st hv (i + 1)))), .second] [(.ref oa)])
          obtain ⟨T8, X8, e8, st8⟩ := getF Xh6 hx hZ hown (host := "") (Or.inl (hw _ (List.mem_of_getElem? (i := 10) rfl))) Via.refl hh6 F1_1 (g := (mkF m 41 #[.val (.ref oa), .val (.long hv), .second, .val (.long (own_st hv (i + 1))), .second, .val (.int x5), .val (.long (own_mix (own_st hv (i + 1)))), .second] [(.ref oa)])) rfl rfl (hb hby d4_41)
          refine Go.via st8 ?_
          show Go p.tables e below P T8 (mkF m 44 #[.val (.ref oa), .val (.long hv), .second, .val (.long (own_st hv (i + 1))), .second, .val (.int x5), .val (.long (own_mix (own_st hv (i + 1)))), .second] [(.ref om)])
          refine Go.via (fun t k => XS.iload X8.here hx rfl (hb hby d4_44) rfl k) ?_
          show Go p.tables e below P T8 (mkF m 46 #[.val (.ref oa), .val (.long hv), .second, .val (.long (own_st hv (i + 1))), .second, .val (.int x5), .val (.long (own_mix (own_st hv (i + 1)))), .second] [(.int x5), (.ref om)])
          refine Go.via (fun t k => XS.lload X8.here hx rfl (hb hby d4_46) rfl k) ?_
          show Go p.tables e below P T8 (mkF m 48 #[.val (.ref oa), .val (.long hv), .second, .val (.long (own_st hv (i + 1))), .second, .val (.int x5), .val (.long (own_mix (own_st hv (i + 1)))), .second] [(.long (own_mix (own_st hv (i + 1)))), (.int x5), (.ref om)])
          obtain ⟨c9, A9, q9, S9, N9, H9, G9⟩ := id F1_3
          have hin9 : ¬ (x5 < 0 ∨ c9.slots.size ≤ (x5).toNatClampNeg) := inb_of S9 ⟨by rw [hx5]; exact own_nneg (by omega), by rw [hx5]; exact (own_ltN (n := 192) (by omega) (by omega)).mpr hlt⟩
          obtain ⟨T9, h9, X9, e9, W9, st9⟩ := stJ X8 hx hZ e8 A9 (j := x5) hin9 (g := (mkF m 48 #[.val (.ref oa), .val (.long hv), .second, .val (.long (own_st hv (i + 1))), .second, .val (.int x5), .val (.long (own_mix (own_st hv (i + 1)))), .second] [(.long (own_mix (own_st hv (i + 1)))), (.int x5), (.ref om)])) rfl rfl (hb hby d4_48)
          refine Go.via st9 ?_
          have Z10 : n0 ≤ h9.size := Nat.le_trans Z1 (Nat.le_of_eq W9.size.symm)
          have K11 : Keep h0 h9 [oa, om] := K1.wr W9 (Or.inl (List.mem_of_getElem? (i := 1) rfl))
          obtain ⟨lc9, Xh9, N12⟩ := own_hide X9 (Fr.snoc X9 N6 gm)
          clear X9
          have V9 : Arv Z h9 om kk .long (192 : Int32) (((own_upd hv xs i).map Value.long).set i (.long (own_mix (own_st hv (i + 1))))) (.long (0 : Int64)) := Arv.set A9 q9 S9 N9 H9 G9 rfl W9 i (by rw [hx5, own_clamp (by omega)]) (by rw [List.length_map, own_upd_len, hxl]; exact hlt)
          show Go p.tables e below P T9 (mkF m 49 #[.val (.ref oa), .val (.long hv), .second, .val (.long (own_st hv (i + 1))), .second, .val (.int x5), .val (.long (own_mix (own_st hv (i + 1)))), .second] [])
          refine Go.via (fun t k => XS.iinc Xh9.here hx rfl (hb hby d4_49) rfl (l' := #[.val (.ref oa), .val (.long hv), .second, .val (.long (own_st hv (i + 1))), .second, .val (.int (x5 + (1 : Int32))), .val (.long (own_mix (own_st hv (i + 1)))), .second]) rfl k) ?_
          show Go p.tables e below P T9 (mkF m 52 #[.val (.ref oa), .val (.long hv), .second, .val (.long (own_st hv (i + 1))), .second, .val (.int (x5 + (1 : Int32))), .val (.long (own_mix (own_st hv (i + 1)))), .second] [])
          refine Go.via (fun t k => XS.goto Xh9.here hx rfl (pc0 := 52) (pc' := 5) rfl (hb hby d4_52) (by decide) (by decide) k) ?_
          have hV : Arv Z h9 om kk .long (192 : Int32) ((own_upd hv xs (i + 1)).map Value.long) (.long (0 : Int64)) := by
            rw [own_upd, own_pick, if_pos hc7, List.map_set]
            exact V9
          have F13 : Exa Z h9 oa "com/example/criba/criba/model/MinhashAccumulator" := (F1_0.wr W9)
          have F14 : Fld Z h9 oa "com/example/criba/criba/model/MinhashAccumulator" "minima" "[J" (.ref om) := (F1_1.other W9 (Or.inl hne))
          have F15 : Fld Z h9 oa "com/example/criba/criba/model/MinhashAccumulator" "empty" "Z" (.int ef) := (F1_2.other W9 (Or.inl hne))
          exact ih1 T9 _ h9 (i + 1) (own_st hv (i + 1)) (x5 + (1 : Int32)) (.val (.long (own_mix (own_st hv (i + 1))))) .second Xh9 e9 N12 Z10 K11 F13 F14 F15 hV hlt rfl (by rw [hx5]; exact own_succ i) (Or.inr ⟨_, rfl, rfl⟩) (by omega)
        · refine Go.via (fun t k => XS.ifYes Xh6.here hx rfl (pc0 := 37) (pc' := 49) rfl (hb hby d4_37) rfl ((if0 _ _).trans (flt hc7).2.1) (by decide) (by decide) k) ?_
          show Go p.tables e below P T6 (mkF m 49 #[.val (.ref oa), .val (.long hv), .second, .val (.long (own_st hv (i + 1))), .second, .val (.int x5), .val (.long (own_mix (own_st hv (i + 1)))), .second] [])
          refine Go.via (fun t k => XS.iinc Xh6.here hx rfl (hb hby d4_49) rfl (l' := #[.val (.ref oa), .val (.long hv), .second, .val (.long (own_st hv (i + 1))), .second, .val (.int (x5 + (1 : Int32))), .val (.long (own_mix (own_st hv (i + 1)))), .second]) rfl k) ?_
          show Go p.tables e below P T6 (mkF m 52 #[.val (.ref oa), .val (.long hv), .second, .val (.long (own_st hv (i + 1))), .second, .val (.int (x5 + (1 : Int32))), .val (.long (own_mix (own_st hv (i + 1)))), .second] [])
          refine Go.via (fun t k => XS.goto Xh6.here hx rfl (pc0 := 52) (pc' := 5) rfl (hb hby d4_52) (by decide) (by decide) k) ?_
          have hV : Arv Z hp1 om kk .long (192 : Int32) ((own_upd hv xs (i + 1)).map Value.long) (.long (0 : Int64)) := by
            rw [own_upd, own_pick, if_neg hc7, own_set_same]
            exact F1_3
          exact ih1 T6 _ hp1 (i + 1) (own_st hv (i + 1)) (x5 + (1 : Int32)) (.val (.long (own_mix (own_st hv (i + 1))))) .second Xh6 hh6 N6 Z1 K1 F1_0 F1_1 F1_2 hV hlt rfl (by rw [hx5]; exact own_succ i) (Or.inr ⟨_, rfl, rfl⟩) (by omega)
      · refine Go.via (fun t k => XS.icmpYes X1.here hx rfl (pc0 := 10) (pc' := 55) rfl (hb hby d4_10) rfl (flt hc2).2.1 (by decide) (by decide) k) ?_
        show Go p.tables e below P T1 (mkF m 55 #[.val (.ref oa), .val (.long hv), .second, .val (.long s3), .second, .val (.int x5), s1_6, s1_7] [])
        have hge : i = 192 := (by have q : ¬ i < 192 := fun q => hc2 (by rw [hx5]; exact (own_ltN (n := 192) (by omega) (by omega)).mpr q); omega)
        refine Go.via (fun t k => XS.aloadN X1.here hx rfl (hb hby d4_55) rfl rfl k) ?_
        show Go p.tables e below P T1 (mkF m 56 #[.val (.ref oa), .val (.long hv), .second, .val (.long s3), .second, .val (.int x5), s1_6, s1_7] [(.ref oa)])
        refine Go.via (fun t k => XS.iconst X1.here hx rfl (hb hby d4_56) k) ?_
        show Go p.tables e below P T1 (mkF m 57 #[.val (.ref oa), .val (.long hv), .second, .val (.long s3), .second, .val (.int x5), s1_6, s1_7] [(.int (0 : Int32)), (.ref oa)])
        obtain ⟨T16, h16, X16, e16, W16, st16⟩ := putF X1 hx hZ hown (host := "") (Or.inl (hw _ (List.mem_of_getElem? (i := 12) rfl))) Via.refl e1 F1_2 F1_0 (Or.inl (hw _ (List.mem_of_getElem? (i := 13) rfl))) (hw _ (List.mem_of_getElem? (i := 1) rfl)) (ty := .boolean) (by decide) rfl rfl (g := (mkF m 57 #[.val (.ref oa), .val (.long hv), .second, .val (.long s3), .second, .val (.int x5), s1_6, s1_7] [(.int (0 : Int32)), (.ref oa)])) rfl rfl (hb hby d4_57)
        refine Go.via st16 ?_
        have Z17 : n0 ≤ h16.size := Nat.le_trans Z1 (Nat.le_of_eq W16.size.symm)
        have K18 : Keep h0 h16 [oa, om] := K1.wr W16 (Or.inl (List.mem_of_getElem? (i := 0) rfl))
        obtain ⟨lc16, Xh16, N19⟩ := own_hide X16 (Fr.snoc X16 N1 ga)
        clear X16
        have Fw16 := F1_2.same W16
        show Go p.tables e below P T16 (mkF m 60 #[.val (.ref oa), .val (.long hv), .second, .val (.long s3), .second, .val (.int x5), s1_6, s1_7] [])
        have F21 : Arv Z h16 om kk .long (192 : Int32) ((own_upd hv xs i).map Value.long) (.long (0 : Int64)) := (F1_3.other W16 (Ne.symm hne))
        obtain ⟨fs, hr, hrun, hended, hW, hsame⟩ := Xh16.leave (v := none) (fun _ => rfl)
        have F22 : Exa Z h16 oa "com/example/criba/criba/model/MinhashAccumulator" := (F1_0.wr W16)
        have F23 : Fld Z h16 oa "com/example/criba/criba/model/MinhashAccumulator" "minima" "[J" (.ref om) := (F1_1.other W16 (Or.inr (slot_ne (Or.inr (hw _ (List.mem_of_getElem? (i := 11) rfl))) (Or.inl (hw _ (List.mem_of_getElem? (i := 13) rfl))) (by decide) (t := (.array .long)) (t' := .boolean) (by decide) (by decide))))
        refine ⟨_, _, Xh16.returnOut hx Bd.returns (hb hby d4_60) hr, hrun, hended, hP _ _ ⟨_, _, rfl, ?_, ⟨_, rfl⟩, hW, hsame.mono (by decide) (by decide)⟩⟩
        show Q4 Z oa hv om kk ef xs h0 n0 _ T16.heap _
        rw [e16]
        exact ⟨rfl, N19, K18, F22, F23, Fw16, (hge ▸ F21)⟩
  exact LP1 _ s₁ _ h0 0 hv (0 : Int32) .unset .unset X0 e0 N0 Z0 K0 P0 P1 P2 P3 (Nat.zero_le _) rfl rfl (Or.inl ⟨rfl, rfl⟩) (Nat.lt_succ_self _)
theorem d8_0 : decode prog_27_method_3_code 0 = .ok (.lconst 0, 1) := by decide +kernel
theorem d8_1 : decode prog_27_method_3_code 1 = .ok (.lstore_n 1, 1) := by decide +kernel
theorem d8_2 : decode prog_27_method_3_code 2 = .ok (.aload_n 0, 1) := by decide +kernel
theorem d8_3 : decode prog_27_method_3_code 3 = .ok (.getfield 15, 3) := by decide +kernel
theorem d8_6 : decode prog_27_method_3_code 6 = .ok (.ifCond .ne 34, 3) := by decide +kernel
theorem d8_9 : decode prog_27_method_3_code 9 = .ok (.iconst 0, 1) := by decide +kernel
theorem d8_10 : decode prog_27_method_3_code 10 = .ok (.istore_n 3, 1) := by decide +kernel
theorem d8_11 : decode prog_27_method_3_code 11 = .ok (.iload_n 3, 1) := by decide +kernel
theorem d8_12 : decode prog_27_method_3_code 12 = .ok (.sipush 192, 3) := by decide +kernel
theorem d8_15 : decode prog_27_method_3_code 15 = .ok (.if_icmp .ge 25, 3) := by decide +kernel
theorem d8_18 : decode prog_27_method_3_code 18 = .ok (.lload_n 1, 1) := by decide +kernel
theorem d8_19 : decode prog_27_method_3_code 19 = .ok (.aload_n 0, 1) := by decide +kernel
theorem d8_20 : decode prog_27_method_3_code 20 = .ok (.getfield 11, 3) := by decide +kernel
theorem d8_23 : decode prog_27_method_3_code 23 = .ok (.iload_n 3, 1) := by decide +kernel
theorem d8_24 : decode prog_27_method_3_code 24 = .ok (.laload, 1) := by decide +kernel
theorem d8_25 : decode prog_27_method_3_code 25 = .ok (.lconst 1, 1) := by decide +kernel
theorem d8_26 : decode prog_27_method_3_code 26 = .ok (.land, 1) := by decide +kernel
theorem d8_27 : decode prog_27_method_3_code 27 = .ok (.iload_n 3, 1) := by decide +kernel
theorem d8_28 : decode prog_27_method_3_code 28 = .ok (.bipush 64, 2) := by decide +kernel
theorem d8_30 : decode prog_27_method_3_code 30 = .ok (.irem, 1) := by decide +kernel
theorem d8_31 : decode prog_27_method_3_code 31 = .ok (.lshl, 1) := by decide +kernel
theorem d8_32 : decode prog_27_method_3_code 32 = .ok (.lxor, 1) := by decide +kernel
theorem d8_33 : decode prog_27_method_3_code 33 = .ok (.lstore_n 1, 1) := by decide +kernel
theorem d8_34 : decode prog_27_method_3_code 34 = .ok (.iinc 3 1, 3) := by decide +kernel
theorem d8_37 : decode prog_27_method_3_code 37 = .ok (.goto (-26), 3) := by decide +kernel
theorem d8_40 : decode prog_27_method_3_code 40 = .ok (.lload_n 1, 1) := by decide +kernel
theorem d8_41 : decode prog_27_method_3_code 41 = .ok (.lreturn, 1) := by decide +kernel
theorem ef_8 (m : MethodId) (x0 : Addr) : entryFrame m #[(.ref x0)] 4 = mkF m 0 #[.val (.ref x0), .unset, .unset, .unset] [] := by first | (simp [entryFrame, mkF, argsToLocals, Value.category]; done) | rfl
def Q8 (Z : State) (oa : Addr) (om : Addr) (kk : ClassId) (ee : Int32) (xs : List Int64) (h0 : Heap) (n0 : Nat) (v : Option Value) (h : Heap) (L : List Loc) : Prop := v = some (.long (if ee = (0 : Int32) then own_fp xs 192 else (0 : Int64))) ∧ Fr n0 L ∧ h = h0
set_option maxRecDepth 65536 in
set_option maxHeartbeats 40000000 in
theorem rm8 (l : Launch) (Z : State) (a0 : Array Value) (hw : ∀ d ∈ tables_1, d.before a0 Z = true) (ws : List Jvm.Cond) (oa : Addr) (om : Addr) (kk : ClassId) (ee : Int32) (xs : List Int64) (h0 : Heap) (n0 : Nat) (Z0 : n0 ≤ h0.size) (P0 : Fld Z h0 oa "com/example/criba/criba/model/MinhashAccumulator" "minima" "[J" (.ref om)) (P1 : Fld Z h0 oa "com/example/criba/criba/model/MinhashAccumulator" "empty" "Z" (.int ee)) (P2 : Arv Z h0 om kk .long (192 : Int32) (xs.map Value.long) (.long (0 : Int64))) :
    MetFree l (⟨"com/example/criba/criba/model/MinhashAccumulator", "fingerprint", "()J"⟩ : MethodName) (head1 (Jvm.Cond.code (⟨"com/example/criba/criba/model/MinhashAccumulator", "fingerprint", "()J"⟩ : MethodName) prog_27_method_3_code 4 (some .long) :: ws) ({ frames := 0, cells := 0, slots := 0, locals := 0 } : Room)) (fun a U => a = #[(.ref oa)] ∧ Z.Warmed39 U.vm ∧ U.heap = h0) (fun _ _ _ _ _ => True) (fun _ U o U' => ∃ v L, o = .returned v ∧ Q8 Z oa om kk ee xs h0 n0 v U'.heap L ∧ FrameEnd U o U' L ({ frames := 0, cells := 0, slots := 0, locals := 0 } : Room).cells ({ frames := 0, cells := 0, slots := 0, locals := 0 } : Room).slots) := by
  refine MetFree.of_bodySF (plainFor_of_name own_pn0) hisR ?_
  intro p e s m args below meth c s₁ Bd hml0 hP hK
  obtain ⟨rfl, hZ, hh⟩ := hP
  have hx := Bd.exec
  have hby := Bd.bytes
  have hml : c.maxLocals = 4 := hml0
  have hown : s.vm.findClass "com/example/criba/criba/model/MinhashAccumulator" = some m.cls := findClass_of_methodNamed Bd.named
  have hnm := (name_of_methodNamed Bd.named Bd.method).1
  have X0 : Stand p l e ({ frames := 0, cells := 0, slots := 0, locals := 0 } : Room) s m #[(.ref oa)] below meth c s₁ [] 0 0 := Stand.of_body Bd
  have e0 : s₁.heap = h0 := by rw [← hh, Bd.state]; rfl
  have N0 := Fr.nil n0
  have K0 : Keep h0 h0 [] := Keep.refl _ _
  suffices GO : ∀ P : Outcome → State → Prop, (∀ o U', (∃ v L, o = .returned v ∧ Q8 Z oa om kk ee xs h0 n0 v U'.heap L ∧ FrameEnd s o U' L ({ frames := 0, cells := 0, slots := 0, locals := 0 } : Room).cells ({ frames := 0, cells := 0, slots := 0, locals := 0 } : Room).slots) → P o U') → Go p.tables e below P s₁ (mkF m 0 #[.val (.ref oa), .unset, .unset, .unset] []) by
    obtain ⟨s2, o, st, r⟩ := GO _ (fun _ _ q => q)
    exact ⟨s2, o, castTop (ef_8 m oa) st, r⟩
  clear hh
  intro P hP
  show Go p.tables e below P s₁ (mkF m 0 #[.val (.ref oa), .unset, .unset, .unset] [])
  refine Go.via (fun t k => XS.lconst X0.here hx rfl (hb hby d8_0) k) ?_
  show Go p.tables e below P s₁ (mkF m 1 #[.val (.ref oa), .unset, .unset, .unset] [(.long (0 : Int64))])
  refine Go.via (fun t k => XS.lstoreN X0.here hx rfl (hb hby d8_1) rfl (l' := #[.val (.ref oa), .val (.long (0 : Int64)), .second, .unset]) rfl k) ?_
  show Go p.tables e below P s₁ (mkF m 2 #[.val (.ref oa), .val (.long (0 : Int64)), .second, .unset] [])
  refine Go.via (fun t k => XS.aloadN X0.here hx rfl (hb hby d8_2) rfl rfl k) ?_
  show Go p.tables e below P s₁ (mkF m 3 #[.val (.ref oa), .val (.long (0 : Int64)), .second, .unset] [(.ref oa)])
  obtain ⟨T1, X1, e1, st1⟩ := getF X0 hx hZ hown (host := "") (Or.inl (hw _ (List.mem_of_getElem? (i := 12) rfl))) Via.refl e0 P1 (g := (mkF m 3 #[.val (.ref oa), .val (.long (0 : Int64)), .second, .unset] [(.ref oa)])) rfl rfl (hb hby d8_3)
  refine Go.via st1 ?_
  show Go p.tables e below P T1 (mkF m 6 #[.val (.ref oa), .val (.long (0 : Int64)), .second, .unset] [(.int ee)])
  by_cases hc2 : ee = (0 : Int32)
  · refine Go.via (fun t k => XS.ifNo X1.here hx rfl (hb hby d8_6) rfl ((if0 _ _).trans (teq hc2).2) k) ?_
    show Go p.tables e below P T1 (mkF m 9 #[.val (.ref oa), .val (.long (0 : Int64)), .second, .unset] [])
    refine Go.via (fun t k => XS.iconst X1.here hx rfl (hb hby d8_9) k) ?_
    show Go p.tables e below P T1 (mkF m 10 #[.val (.ref oa), .val (.long (0 : Int64)), .second, .unset] [(.int (0 : Int32))])
    refine Go.via (fun t k => XS.istoreN X1.here hx rfl (hb hby d8_10) rfl (l' := #[.val (.ref oa), .val (.long (0 : Int64)), .second, .val (.int (0 : Int32))]) rfl k) ?_
    have LP3 : ∀ (k3 : Nat) (T3 : State) (locs3 : List Loc) (i : Nat) (a1 : Int64) (x3 : Int32), Stand p l e ({ frames := 0, cells := 0, slots := 0, locals := 0 } : Room) s m #[(.ref oa)] below meth c T3 locs3 0 0 → T3.heap = h0 → Fr n0 locs3 → i ≤ 192 → a1 = own_fp xs i → x3 = i.toInt32 → 192 - i < k3 → Go p.tables e below P T3 (mkF m 11 #[.val (.ref oa), .val (.long a1), .second, .val (.int x3)] []) := by
      intro k3
      induction k3 with
      | zero => intro T3 locs3 i a1 x3 X3 e3 N3 hi ha1 hx3 hk; exact absurd hk (Nat.not_lt_zero _)
      | succ k3 ih3 =>
        intro T3 locs3 i a1 x3 X3 e3 N3 hi ha1 hx3 hk
        show Go p.tables e below P T3 (mkF m 11 #[.val (.ref oa), .val (.long a1), .second, .val (.int x3)] [])
        refine Go.via (fun t k => XS.iloadN X3.here hx rfl (hb hby d8_11) rfl k) ?_
        show Go p.tables e below P T3 (mkF m 12 #[.val (.ref oa), .val (.long a1), .second, .val (.int x3)] [(.int x3)])
        refine Go.via (fun t k => XS.sipush X3.here hx rfl (hb hby d8_12) k) ?_
        show Go p.tables e below P T3 (mkF m 15 #[.val (.ref oa), .val (.long a1), .second, .val (.int x3)] [(.int (192 : Int32)), (.int x3)])
        by_cases hc4 : x3 < (192 : Int32)
        · refine Go.via (fun t k => XS.icmpNo X3.here hx rfl (hb hby d8_15) rfl (tlt hc4).2.1 k) ?_
          show Go p.tables e below P T3 (mkF m 18 #[.val (.ref oa), .val (.long a1), .second, .val (.int x3)] [])
          have hlt : i < 192 := (own_ltN (n := 192) (by omega) (by omega)).mp (by rw [← hx3]; exact hc4)
          refine Go.via (fun t k => XS.lloadN X3.here hx rfl (hb hby d8_18) rfl k) ?_
          show Go p.tables e below P T3 (mkF m 19 #[.val (.ref oa), .val (.long a1), .second, .val (.int x3)] [(.long a1)])
          refine Go.via (fun t k => XS.aloadN X3.here hx rfl (hb hby d8_19) rfl rfl k) ?_
          show Go p.tables e below P T3 (mkF m 20 #[.val (.ref oa), .val (.long a1), .second, .val (.int x3)] [(.ref oa), (.long a1)])
          obtain ⟨T5, X5, e5, st5⟩ := getF X3 hx hZ hown (host := "") (Or.inl (hw _ (List.mem_of_getElem? (i := 10) rfl))) Via.refl e3 P0 (g := (mkF m 20 #[.val (.ref oa), .val (.long a1), .second, .val (.int x3)] [(.ref oa), (.long a1)])) rfl rfl (hb hby d8_20)
          refine Go.via st5 ?_
          show Go p.tables e below P T5 (mkF m 23 #[.val (.ref oa), .val (.long a1), .second, .val (.int x3)] [(.ref om), (.long a1)])
          refine Go.via (fun t k => XS.iloadN X5.here hx rfl (hb hby d8_23) rfl k) ?_
          show Go p.tables e below P T5 (mkF m 24 #[.val (.ref oa), .val (.long a1), .second, .val (.int x3)] [(.int x3), (.ref om), (.long a1)])
          obtain ⟨c6, A6, q6, S6, N6, H6, G6⟩ := id P2
          have hin6 : ¬ (x3 < 0 ∨ c6.slots.size ≤ (x3).toNatClampNeg) := inb_of S6 ⟨by rw [hx3]; exact own_nneg (by omega), by rw [hx3]; exact (own_ltN (n := 192) (by omega) (by omega)).mpr hlt⟩
          have hat6 : c6.slots[(x3).toNatClampNeg]? = some (.long (xs.getD i 0)) := (H6 _ (Nat.lt_of_not_le fun q => hin6 (Or.inr q))).trans (congrArg some (by rw [hx3, own_clamp (by omega)]; exact own_getDJ _ i))
          refine Go.via (fun t k => X5.laload hx (j := x3) (v := (.long (xs.getD i 0))) (by rw [e5]; exact A6.1) (State.isArrayOf_alike hZ.alike A6.2.1) A6.2.2 hin6 hat6 (g := (mkF m 24 #[.val (.ref oa), .val (.long a1), .second, .val (.int x3)] [(.int x3), (.ref om), (.long a1)])) rfl rfl (hb hby d8_24) t k) ?_
          show Go p.tables e below P T5 (mkF m 25 #[.val (.ref oa), .val (.long a1), .second, .val (.int x3)] [(.long (xs.getD i 0)), (.long a1)])
          refine Go.via (fun t k => XS.lconst X5.here hx rfl (hb hby d8_25) k) ?_
          show Go p.tables e below P T5 (mkF m 26 #[.val (.ref oa), .val (.long a1), .second, .val (.int x3)] [(.long (1 : Int64)), (.long (xs.getD i 0)), (.long a1)])
          refine Go.via (fun t k => XS.land X5.here hx rfl (hb hby d8_26) rfl k) ?_
          show Go p.tables e below P T5 (mkF m 27 #[.val (.ref oa), .val (.long a1), .second, .val (.int x3)] [(.long ((xs.getD i 0) &&& (1 : Int64))), (.long a1)])
          refine Go.via (fun t k => XS.iloadN X5.here hx rfl (hb hby d8_27) rfl k) ?_
          show Go p.tables e below P T5 (mkF m 28 #[.val (.ref oa), .val (.long a1), .second, .val (.int x3)] [(.int x3), (.long ((xs.getD i 0) &&& (1 : Int64))), (.long a1)])
          refine Go.via (fun t k => XS.bipush X5.here hx rfl (hb hby d8_28) k) ?_
          show Go p.tables e below P T5 (mkF m 30 #[.val (.ref oa), .val (.long a1), .second, .val (.int x3)] [(.int (64 : Int32)), (.int x3), (.long ((xs.getD i 0) &&& (1 : Int64))), (.long a1)])
          refine Go.via (fun t k => iremM X5 hx rfl (hb hby d8_30) rfl (by decide) k) ?_
          show Go p.tables e below P T5 (mkF m 31 #[.val (.ref oa), .val (.long a1), .second, .val (.int x3)] [(.int (x3 % (64 : Int32))), (.long ((xs.getD i 0) &&& (1 : Int64))), (.long a1)])
          refine Go.via (fun t k => XS.lshl X5.here hx rfl (hb hby d8_31) rfl k) ?_
          show Go p.tables e below P T5 (mkF m 32 #[.val (.ref oa), .val (.long a1), .second, .val (.int x3)] [(.long (((xs.getD i 0) &&& (1 : Int64)) <<< ((x3 % (64 : Int32)) &&& 0x3f).toInt64)), (.long a1)])
          refine Go.via (fun t k => XS.lxor X5.here hx rfl (hb hby d8_32) rfl k) ?_
          show Go p.tables e below P T5 (mkF m 33 #[.val (.ref oa), .val (.long a1), .second, .val (.int x3)] [(.long (a1 ^^^ (((xs.getD i 0) &&& (1 : Int64)) <<< ((x3 % (64 : Int32)) &&& 0x3f).toInt64)))])
          refine Go.via (fun t k => XS.lstoreN X5.here hx rfl (hb hby d8_33) rfl (l' := #[.val (.ref oa), .val (.long (a1 ^^^ (((xs.getD i 0) &&& (1 : Int64)) <<< ((x3 % (64 : Int32)) &&& 0x3f).toInt64))), .second, .val (.int x3)]) rfl k) ?_
          show Go p.tables e below P T5 (mkF m 34 #[.val (.ref oa), .val (.long (a1 ^^^ (((xs.getD i 0) &&& (1 : Int64)) <<< ((x3 % (64 : Int32)) &&& 0x3f).toInt64))), .second, .val (.int x3)] [])
          refine Go.via (fun t k => XS.iinc X5.here hx rfl (hb hby d8_34) rfl (l' := #[.val (.ref oa), .val (.long (a1 ^^^ (((xs.getD i 0) &&& (1 : Int64)) <<< ((x3 % (64 : Int32)) &&& 0x3f).toInt64))), .second, .val (.int (x3 + (1 : Int32)))]) rfl k) ?_
          show Go p.tables e below P T5 (mkF m 37 #[.val (.ref oa), .val (.long (a1 ^^^ (((xs.getD i 0) &&& (1 : Int64)) <<< ((x3 % (64 : Int32)) &&& 0x3f).toInt64))), .second, .val (.int (x3 + (1 : Int32)))] [])
          refine Go.via (fun t k => XS.goto X5.here hx rfl (pc0 := 37) (pc' := 11) rfl (hb hby d8_37) (by decide) (by decide) k) ?_
          exact ih3 T5 _ (i + 1) (a1 ^^^ (((xs.getD i 0) &&& (1 : Int64)) <<< ((x3 % (64 : Int32)) &&& 0x3f).toInt64)) (x3 + (1 : Int32)) X5 e5 N3 hlt (by rw [ha1, hx3]; rfl) (by rw [hx3]; exact own_succ i) (by omega)
        · refine Go.via (fun t k => XS.icmpYes X3.here hx rfl (pc0 := 15) (pc' := 40) rfl (hb hby d8_15) rfl (flt hc4).2.1 (by decide) (by decide) k) ?_
          show Go p.tables e below P T3 (mkF m 40 #[.val (.ref oa), .val (.long a1), .second, .val (.int x3)] [])
          refine Go.via (fun t k => XS.lloadN X3.here hx rfl (hb hby d8_40) rfl k) ?_
          show Go p.tables e below P T3 (mkF m 41 #[.val (.ref oa), .val (.long a1), .second, .val (.int x3)] [(.long a1)])
          have hge : i = 192 := (by have q : ¬ i < 192 := fun q => hc4 (by rw [hx3]; exact (own_ltN (n := 192) (by omega) (by omega)).mpr q); omega)
          obtain ⟨fs, hr, hrun, hended, hW, hsame⟩ := X3.leave (v := some (.long (if ee = (0 : Int32) then own_fp xs 192 else (0 : Int64)))) (fun h => by rw [Bd.returns] at h; cases h)
          refine ⟨_, _, (by have q := retJ X3 hx Bd.returns (hb hby d8_41) (z := a1) (rest := []) (pc := 41) (Ls := #[.val (.ref oa), .val (.long a1), .second, .val (.int x3)]) (by rw [(show a1 = (if ee = (0 : Int32) then own_fp xs 192 else (0 : Int64)) from by rw [if_pos hc2, ha1, hge])]; exact hr); exact q), hrun, hended, hP _ _ ⟨_, _, rfl, ?_, ⟨_, rfl⟩, hW, hsame.mono (by decide) (by decide)⟩⟩
          show Q8 Z oa om kk ee xs h0 n0 _ T3.heap _
          rw [e3]
          exact ⟨rfl, N3, rfl⟩
    exact LP3 _ T1 _ 0 (0 : Int64) (0 : Int32) X1 e1 N0 (Nat.zero_le _) rfl rfl (Nat.lt_succ_self _)
  · refine Go.via (fun t k => XS.ifYes X1.here hx rfl (pc0 := 6) (pc' := 40) rfl (hb hby d8_6) rfl ((if0 _ _).trans (feq hc2).2) (by decide) (by decide) k) ?_
    show Go p.tables e below P T1 (mkF m 40 #[.val (.ref oa), .val (.long (0 : Int64)), .second, .unset] [])
    refine Go.via (fun t k => XS.lloadN X1.here hx rfl (hb hby d8_40) rfl k) ?_
    show Go p.tables e below P T1 (mkF m 41 #[.val (.ref oa), .val (.long (0 : Int64)), .second, .unset] [(.long (0 : Int64))])
    obtain ⟨fs, hr, hrun, hended, hW, hsame⟩ := X1.leave (v := some (.long (if ee = (0 : Int32) then own_fp xs 192 else (0 : Int64)))) (fun h => by rw [Bd.returns] at h; cases h)
    refine ⟨_, _, (by have q := retJ X1 hx Bd.returns (hb hby d8_41) (z := (0 : Int64)) (rest := []) (pc := 41) (Ls := #[.val (.ref oa), .val (.long (0 : Int64)), .second, .unset]) (by rw [(show (0 : Int64) = (if ee = (0 : Int32) then own_fp xs 192 else (0 : Int64)) from (if_neg hc2).symm)]; exact hr); exact q), hrun, hended, hP _ _ ⟨_, _, rfl, ?_, ⟨_, rfl⟩, hW, hsame.mono (by decide) (by decide)⟩⟩
    show Q8 Z oa om kk ee xs h0 n0 _ T1.heap _
    rw [e1]
    exact ⟨rfl, N0, rfl⟩
theorem d10_0 : decode method_3_code 0 = .ok (.lload_n 0, 1) := by decide +kernel
theorem d10_1 : decode method_3_code 1 = .ok (.iload_n 2, 1) := by decide +kernel
theorem d10_2 : decode method_3_code 2 = .ok (.i2l, 1) := by decide +kernel
theorem d10_3 : decode method_3_code 3 = .ok (.ldc2_w 11, 3) := by decide +kernel
theorem d10_6 : decode method_3_code 6 = .ok (.lmul, 1) := by decide +kernel
theorem d10_7 : decode method_3_code 7 = .ok (.ladd, 1) := by decide +kernel
theorem d10_8 : decode method_3_code 8 = .ok (.invokestatic 13, 3) := by decide +kernel
theorem d10_11 : decode method_3_code 11 = .ok (.lreturn, 1) := by decide +kernel
theorem ef_10 (m : MethodId) (x0 : Int64) (x1 : Int32) : entryFrame m #[(.long x0), (.int x1)] 3 = mkF m 0 #[.val (.long x0), .second, .val (.int x1)] [] := by first | (simp [entryFrame, mkF, argsToLocals, Value.category]; done) | rfl
def Q10 (Z : State) (qh : Int64) (pj : Int32) (h0 : Heap) (n0 : Nat) (v : Option Value) (h : Heap) (L : List Loc) : Prop := v = some (.long (own_value qh pj)) ∧ Fr n0 L ∧ h = h0
set_option maxRecDepth 65536 in
set_option maxHeartbeats 40000000 in
theorem rm10 (l : Launch) (Z : State) (a0 : Array Value) (hw : ∀ d ∈ tables_1, d.before a0 Z = true) (ws : List Jvm.Cond) (qh : Int64) (pj : Int32) (h0 : Heap) (n0 : Nat) (Z0 : n0 ≤ h0.size) :
    MetFree l (⟨"com/example/criba/criba/model/MinhashAccumulatorFingerprintPinLaw", "value", "(JI)J"⟩ : MethodName) (head1 (Jvm.Cond.code (⟨"com/example/criba/criba/model/MinhashAccumulatorFingerprintPinLaw", "value", "(JI)J"⟩ : MethodName) method_3_code 3 (some .long) :: ws) ({ frames := 1, cells := 0, slots := 0, locals := 15 } : Room)) (fun a U => a = #[(.long qh), (.int pj)] ∧ Z.Warmed39 U.vm ∧ U.heap = h0) (fun _ _ _ _ _ => True) (fun _ U o U' => ∃ v L, o = .returned v ∧ Q10 Z qh pj h0 n0 v U'.heap L ∧ FrameEnd U o U' L ({ frames := 1, cells := 0, slots := 0, locals := 15 } : Room).cells ({ frames := 1, cells := 0, slots := 0, locals := 15 } : Room).slots) := by
  refine MetFree.of_bodySF (plainFor_of_name own_pn1) hisR ?_
  intro p e s m args below meth c s₁ Bd hml0 hP hK
  obtain ⟨rfl, hZ, hh⟩ := hP
  have hx := Bd.exec
  have hby := Bd.bytes
  have hml : c.maxLocals = 3 := hml0
  have hown : s.vm.findClass "com/example/criba/criba/model/MinhashAccumulatorFingerprintPinLaw" = some m.cls := findClass_of_methodNamed Bd.named
  have hnm := (name_of_methodNamed Bd.named Bd.method).1
  have X0 : Stand p l e ({ frames := 1, cells := 0, slots := 0, locals := 15 } : Room) s m #[(.long qh), (.int pj)] below meth c s₁ [] 0 0 := Stand.of_body Bd
  have e0 : s₁.heap = h0 := by rw [← hh, Bd.state]; rfl
  have N0 := Fr.nil n0
  have K0 : Keep h0 h0 [] := Keep.refl _ _
  suffices GO : ∀ P : Outcome → State → Prop, (∀ o U', (∃ v L, o = .returned v ∧ Q10 Z qh pj h0 n0 v U'.heap L ∧ FrameEnd s o U' L ({ frames := 1, cells := 0, slots := 0, locals := 15 } : Room).cells ({ frames := 1, cells := 0, slots := 0, locals := 15 } : Room).slots) → P o U') → Go p.tables e below P s₁ (mkF m 0 #[.val (.long qh), .second, .val (.int pj)] []) by
    obtain ⟨s2, o, st, r⟩ := GO _ (fun _ _ q => q)
    exact ⟨s2, o, castTop (ef_10 m qh pj) st, r⟩
  clear hh
  intro P hP
  show Go p.tables e below P s₁ (mkF m 0 #[.val (.long qh), .second, .val (.int pj)] [])
  refine Go.via (fun t k => XS.lloadN X0.here hx rfl (hb hby d10_0) rfl k) ?_
  show Go p.tables e below P s₁ (mkF m 1 #[.val (.long qh), .second, .val (.int pj)] [(.long qh)])
  refine Go.via (fun t k => XS.iloadN X0.here hx rfl (hb hby d10_1) rfl k) ?_
  show Go p.tables e below P s₁ (mkF m 2 #[.val (.long qh), .second, .val (.int pj)] [(.int pj), (.long qh)])
  refine Go.via (fun t k => XS.i2l X0.here hx rfl (hb hby d10_2) rfl k) ?_
  show Go p.tables e below P s₁ (mkF m 3 #[.val (.long qh), .second, .val (.int pj)] [(.long (pj.toInt64)), (.long qh)])
  refine Go.via (fun t k => X0.ldc2Long hx hown (mvT hZ (hw _ (List.mem_of_getElem? (i := 50) rfl))) (g := (mkF m 3 #[.val (.long qh), .second, .val (.int pj)] [(.long (pj.toInt64)), (.long qh)])) rfl (hb hby d10_3) t k) ?_
  show Go p.tables e below P s₁ (mkF m 6 #[.val (.long qh), .second, .val (.int pj)] [(.long (-7046029254386353131 : Int64)), (.long (pj.toInt64)), (.long qh)])
  refine Go.via (fun t k => XS.lmul X0.here hx rfl (hb hby d10_6) rfl k) ?_
  show Go p.tables e below P s₁ (mkF m 7 #[.val (.long qh), .second, .val (.int pj)] [(.long ((pj.toInt64) * (-7046029254386353131 : Int64))), (.long qh)])
  refine Go.via (fun t k => XS.ladd X0.here hx rfl (hb hby d10_7) rfl k) ?_
  show Go p.tables e below P s₁ (mkF m 8 #[.val (.long qh), .second, .val (.int pj)] [(.long (qh + ((pj.toInt64) * (-7046029254386353131 : Int64))))])
  obtain ⟨_, _, ⟨T1, L1, k1, n1⟩, -, X1, ⟨Lc1, hQ1, l1, y1, z1⟩, st1⟩ := Jvm.LawKit.callS X0 hx (y := (⟨"com/example/criba/criba/model/MinhashAccumulatorFingerprintPinLaw", "mix", "(J)J"⟩ : MethodName)) hown (mvT hZ (hw _ (List.mem_of_getElem? (i := 51) rfl))) (mvT hZ (hw _ (List.mem_of_getElem? (i := 52) rfl))) (mvT hZ (hw _ (List.mem_of_getElem? (i := 45) rfl))) (mvT hZ (hw _ (List.mem_of_getElem? (i := 53) rfl))) (by decide) (backOf (W := 0) (rm11 l Z a0 hw [] (qh + ((pj.toInt64) * (-7046029254386353131 : Int64))) h0 n0 Z0 ) hZ (hw _ (List.mem_of_getElem? (i := 53) rfl)) (hw _ (List.mem_of_getElem? (i := 45) rfl)) (by decide) (by decide)) (g := (mkF m 8 #[.val (.long qh), .second, .val (.int pj)] [(.long (qh + ((pj.toInt64) * (-7046029254386353131 : Int64))))])) rfl (by rw [hml]; rfl) (argsL := [(.long (qh + ((pj.toInt64) * (-7046029254386353131 : Int64))))]) (rest := []) (lenOf own_pd2 rfl) rfl (by show 2 * 0 + _ ≤ _; exact Nat.le_of_eq rfl) (hb hby d10_8) (fun _ _ => ⟨rfl, e0, (by decide : 0 + 0 ≤ _), (by decide : 0 + 0 ≤ _)⟩)
  dsimp only [Pt.U, Pt.locs, Pt.cells, Pt.slots] at X1 l1 y1 z1 st1 hQ1
  subst l1 y1 z1
  obtain ⟨rfl, Nq1, hh1⟩ := hQ1
  obtain ⟨lc1, Xh1, N1⟩ := own_hide X1 (Fr.app N0 Nq1)
  clear X1
  refine Go.via st1 ?_
  show Go p.tables e below P T1 (mkF m 11 #[.val (.long qh), .second, .val (.int pj)] [(.long (own_mix (qh + ((pj.toInt64) * (-7046029254386353131 : Int64)))))])
  obtain ⟨fs, hr, hrun, hended, hW, hsame⟩ := Xh1.leave (v := some (.long (own_value qh pj))) (fun h => by rw [Bd.returns] at h; cases h)
  refine ⟨_, _, retJ Xh1 hx Bd.returns (hb hby d10_11) hr, hrun, hended, hP _ _ ⟨_, _, rfl, ?_, ⟨_, rfl⟩, hW, hsame.mono (by decide) (by decide)⟩⟩
  show Q10 Z qh pj h0 n0 _ T1.heap _
  rw [hh1]
  exact ⟨rfl, N1, rfl⟩
theorem d12_0 : decode method_4_code 0 = .ok (.lload_n 0, 1) := by decide +kernel
theorem d12_1 : decode method_4_code 1 = .ok (.ldc2_w 21, 3) := by decide +kernel
theorem d12_4 : decode method_4_code 4 = .ok (.lxor, 1) := by decide +kernel
theorem d12_5 : decode method_4_code 5 = .ok (.lload_n 2, 1) := by decide +kernel
theorem d12_6 : decode method_4_code 6 = .ok (.ldc2_w 21, 3) := by decide +kernel
theorem d12_9 : decode method_4_code 9 = .ok (.lxor, 1) := by decide +kernel
theorem d12_10 : decode method_4_code 10 = .ok (.lcmp, 1) := by decide +kernel
theorem d12_11 : decode method_4_code 11 = .ok (.ifCond .ge 5, 3) := by decide +kernel
theorem d12_14 : decode method_4_code 14 = .ok (.lload_n 0, 1) := by decide +kernel
theorem d12_15 : decode method_4_code 15 = .ok (.lreturn, 1) := by decide +kernel
theorem d12_16 : decode method_4_code 16 = .ok (.lload_n 2, 1) := by decide +kernel
theorem d12_17 : decode method_4_code 17 = .ok (.lreturn, 1) := by decide +kernel
theorem ef_12 (m : MethodId) (x0 : Int64) (x1 : Int64) : entryFrame m #[(.long x0), (.long x1)] 4 = mkF m 0 #[.val (.long x0), .second, .val (.long x1), .second] [] := by first | (simp [entryFrame, mkF, argsToLocals, Value.category]; done) | rfl
def Q12 (Z : State) (qx : Int64) (qy : Int64) (h0 : Heap) (n0 : Nat) (v : Option Value) (h : Heap) (L : List Loc) : Prop := v = some (.long (own_umin qx qy)) ∧ Fr n0 L ∧ h = h0
set_option maxRecDepth 65536 in
set_option maxHeartbeats 40000000 in
theorem rm12 (l : Launch) (Z : State) (a0 : Array Value) (hw : ∀ d ∈ tables_1, d.before a0 Z = true) (ws : List Jvm.Cond) (qx : Int64) (qy : Int64) (h0 : Heap) (n0 : Nat) (Z0 : n0 ≤ h0.size) :
    MetFree l (⟨"com/example/criba/criba/model/MinhashAccumulatorFingerprintPinLaw", "umin", "(JJ)J"⟩ : MethodName) (head1 (Jvm.Cond.code (⟨"com/example/criba/criba/model/MinhashAccumulatorFingerprintPinLaw", "umin", "(JJ)J"⟩ : MethodName) method_4_code 4 (some .long) :: ws) ({ frames := 0, cells := 0, slots := 0, locals := 0 } : Room)) (fun a U => a = #[(.long qx), (.long qy)] ∧ Z.Warmed39 U.vm ∧ U.heap = h0) (fun _ _ _ _ _ => True) (fun _ U o U' => ∃ v L, o = .returned v ∧ Q12 Z qx qy h0 n0 v U'.heap L ∧ FrameEnd U o U' L ({ frames := 0, cells := 0, slots := 0, locals := 0 } : Room).cells ({ frames := 0, cells := 0, slots := 0, locals := 0 } : Room).slots) := by
  refine MetFree.of_bodySF (plainFor_of_name own_pn1) hisR ?_
  intro p e s m args below meth c s₁ Bd hml0 hP hK
  obtain ⟨rfl, hZ, hh⟩ := hP
  have hx := Bd.exec
  have hby := Bd.bytes
  have hml : c.maxLocals = 4 := hml0
  have hown : s.vm.findClass "com/example/criba/criba/model/MinhashAccumulatorFingerprintPinLaw" = some m.cls := findClass_of_methodNamed Bd.named
  have hnm := (name_of_methodNamed Bd.named Bd.method).1
  have X0 : Stand p l e ({ frames := 0, cells := 0, slots := 0, locals := 0 } : Room) s m #[(.long qx), (.long qy)] below meth c s₁ [] 0 0 := Stand.of_body Bd
  have e0 : s₁.heap = h0 := by rw [← hh, Bd.state]; rfl
  have N0 := Fr.nil n0
  have K0 : Keep h0 h0 [] := Keep.refl _ _
  suffices GO : ∀ P : Outcome → State → Prop, (∀ o U', (∃ v L, o = .returned v ∧ Q12 Z qx qy h0 n0 v U'.heap L ∧ FrameEnd s o U' L ({ frames := 0, cells := 0, slots := 0, locals := 0 } : Room).cells ({ frames := 0, cells := 0, slots := 0, locals := 0 } : Room).slots) → P o U') → Go p.tables e below P s₁ (mkF m 0 #[.val (.long qx), .second, .val (.long qy), .second] []) by
    obtain ⟨s2, o, st, r⟩ := GO _ (fun _ _ q => q)
    exact ⟨s2, o, castTop (ef_12 m qx qy) st, r⟩
  clear hh
  intro P hP
  show Go p.tables e below P s₁ (mkF m 0 #[.val (.long qx), .second, .val (.long qy), .second] [])
  refine Go.via (fun t k => XS.lloadN X0.here hx rfl (hb hby d12_0) rfl k) ?_
  show Go p.tables e below P s₁ (mkF m 1 #[.val (.long qx), .second, .val (.long qy), .second] [(.long qx)])
  refine Go.via (fun t k => X0.ldc2Long hx hown (mvT hZ (hw _ (List.mem_of_getElem? (i := 59) rfl))) (g := (mkF m 1 #[.val (.long qx), .second, .val (.long qy), .second] [(.long qx)])) rfl (hb hby d12_1) t k) ?_
  show Go p.tables e below P s₁ (mkF m 4 #[.val (.long qx), .second, .val (.long qy), .second] [(.long (-9223372036854775808 : Int64)), (.long qx)])
  refine Go.via (fun t k => XS.lxor X0.here hx rfl (hb hby d12_4) rfl k) ?_
  show Go p.tables e below P s₁ (mkF m 5 #[.val (.long qx), .second, .val (.long qy), .second] [(.long (qx ^^^ (-9223372036854775808 : Int64)))])
  refine Go.via (fun t k => XS.lloadN X0.here hx rfl (hb hby d12_5) rfl k) ?_
  show Go p.tables e below P s₁ (mkF m 6 #[.val (.long qx), .second, .val (.long qy), .second] [(.long qy), (.long (qx ^^^ (-9223372036854775808 : Int64)))])
  refine Go.via (fun t k => X0.ldc2Long hx hown (mvT hZ (hw _ (List.mem_of_getElem? (i := 59) rfl))) (g := (mkF m 6 #[.val (.long qx), .second, .val (.long qy), .second] [(.long qy), (.long (qx ^^^ (-9223372036854775808 : Int64)))])) rfl (hb hby d12_6) t k) ?_
  show Go p.tables e below P s₁ (mkF m 9 #[.val (.long qx), .second, .val (.long qy), .second] [(.long (-9223372036854775808 : Int64)), (.long qy), (.long (qx ^^^ (-9223372036854775808 : Int64)))])
  refine Go.via (fun t k => XS.lxor X0.here hx rfl (hb hby d12_9) rfl k) ?_
  show Go p.tables e below P s₁ (mkF m 10 #[.val (.long qx), .second, .val (.long qy), .second] [(.long (qy ^^^ (-9223372036854775808 : Int64))), (.long (qx ^^^ (-9223372036854775808 : Int64)))])
  refine Go.via (fun t k => XS.lcmp X0.here hx rfl (hb hby d12_10) rfl k) ?_
  show Go p.tables e below P s₁ (mkF m 11 #[.val (.long qx), .second, .val (.long qy), .second] [(.int (lcmpW (qx ^^^ (-9223372036854775808 : Int64)) (qy ^^^ (-9223372036854775808 : Int64))))])
  by_cases hc1 : (lcmpW (qx ^^^ (-9223372036854775808 : Int64)) (qy ^^^ (-9223372036854775808 : Int64))) < (0 : Int32)
  · refine Go.via (fun t k => XS.ifNo X0.here hx rfl (hb hby d12_11) rfl ((if0 _ _).trans (tlt hc1).2.1) k) ?_
    show Go p.tables e below P s₁ (mkF m 14 #[.val (.long qx), .second, .val (.long qy), .second] [])
    refine Go.via (fun t k => XS.lloadN X0.here hx rfl (hb hby d12_14) rfl k) ?_
    show Go p.tables e below P s₁ (mkF m 15 #[.val (.long qx), .second, .val (.long qy), .second] [(.long qx)])
    obtain ⟨fs, hr, hrun, hended, hW, hsame⟩ := X0.leave (v := some (.long (own_umin qx qy))) (fun h => by rw [Bd.returns] at h; cases h)
    refine ⟨_, _, (by have q := retJ X0 hx Bd.returns (hb hby d12_15) (z := qx) (rest := []) (pc := 15) (Ls := #[.val (.long qx), .second, .val (.long qy), .second]) (by rw [(show qx = own_umin qx qy from (if_pos hc1).symm)]; exact hr); exact q), hrun, hended, hP _ _ ⟨_, _, rfl, ?_, ⟨_, rfl⟩, hW, hsame.mono (by decide) (by decide)⟩⟩
    show Q12 Z qx qy h0 n0 _ s₁.heap _
    rw [e0]
    exact ⟨rfl, N0, rfl⟩
  · refine Go.via (fun t k => XS.ifYes X0.here hx rfl (pc0 := 11) (pc' := 16) rfl (hb hby d12_11) rfl ((if0 _ _).trans (flt hc1).2.1) (by decide) (by decide) k) ?_
    show Go p.tables e below P s₁ (mkF m 16 #[.val (.long qx), .second, .val (.long qy), .second] [])
    refine Go.via (fun t k => XS.lloadN X0.here hx rfl (hb hby d12_16) rfl k) ?_
    show Go p.tables e below P s₁ (mkF m 17 #[.val (.long qx), .second, .val (.long qy), .second] [(.long qy)])
    obtain ⟨fs, hr, hrun, hended, hW, hsame⟩ := X0.leave (v := some (.long (own_umin qx qy))) (fun h => by rw [Bd.returns] at h; cases h)
    refine ⟨_, _, (by have q := retJ X0 hx Bd.returns (hb hby d12_17) (z := qy) (rest := []) (pc := 17) (Ls := #[.val (.long qx), .second, .val (.long qy), .second]) (by rw [(show qy = own_umin qx qy from (if_neg hc1).symm)]; exact hr); exact q), hrun, hended, hP _ _ ⟨_, _, rfl, ?_, ⟨_, rfl⟩, hW, hsame.mono (by decide) (by decide)⟩⟩
    show Q12 Z qx qy h0 n0 _ s₁.heap _
    rw [e0]
    exact ⟨rfl, N0, rfl⟩
theorem own_pd3 : parseMethodDescriptor "(JI)J" = some ⟨[.long, .int], some .long⟩ := by decide +kernel
theorem own_pd4 : parseMethodDescriptor "(JJ)J" = some ⟨[.long, .long], some .long⟩ := by decide +kernel
theorem d9_0 : decode method_5_code 0 = .ok (.lload_n 0, 1) := by decide +kernel
theorem d9_1 : decode method_5_code 1 = .ok (.iload 7, 2) := by decide +kernel
theorem d9_3 : decode method_5_code 3 = .ok (.invokestatic 23, 3) := by decide +kernel
theorem d9_6 : decode method_5_code 6 = .ok (.lstore 8, 2) := by decide +kernel
theorem d9_8 : decode method_5_code 8 = .ok (.iload 6, 2) := by decide +kernel
theorem d9_10 : decode method_5_code 10 = .ok (.iconst 2, 1) := by decide +kernel
theorem d9_11 : decode method_5_code 11 = .ok (.if_icmp .lt 16, 3) := by decide +kernel
theorem d9_14 : decode method_5_code 14 = .ok (.lload 8, 2) := by decide +kernel
theorem d9_16 : decode method_5_code 16 = .ok (.lload_n 2, 1) := by decide +kernel
theorem d9_17 : decode method_5_code 17 = .ok (.iload 7, 2) := by decide +kernel
theorem d9_19 : decode method_5_code 19 = .ok (.invokestatic 23, 3) := by decide +kernel
theorem d9_22 : decode method_5_code 22 = .ok (.invokestatic 27, 3) := by decide +kernel
theorem d9_25 : decode method_5_code 25 = .ok (.lstore 8, 2) := by decide +kernel
theorem d9_27 : decode method_5_code 27 = .ok (.iload 6, 2) := by decide +kernel
theorem d9_29 : decode method_5_code 29 = .ok (.iconst 3, 1) := by decide +kernel
theorem d9_30 : decode method_5_code 30 = .ok (.if_icmp .lt 17, 3) := by decide +kernel
theorem d9_33 : decode method_5_code 33 = .ok (.lload 8, 2) := by decide +kernel
theorem d9_35 : decode method_5_code 35 = .ok (.lload 4, 2) := by decide +kernel
theorem d9_37 : decode method_5_code 37 = .ok (.iload 7, 2) := by decide +kernel
theorem d9_39 : decode method_5_code 39 = .ok (.invokestatic 23, 3) := by decide +kernel
theorem d9_42 : decode method_5_code 42 = .ok (.invokestatic 27, 3) := by decide +kernel
theorem d9_45 : decode method_5_code 45 = .ok (.lstore 8, 2) := by decide +kernel
theorem d9_47 : decode method_5_code 47 = .ok (.lload 8, 2) := by decide +kernel
theorem d9_49 : decode method_5_code 49 = .ok (.lreturn, 1) := by decide +kernel
theorem ef_9 (m : MethodId) (x0 : Int64) (x1 : Int64) (x2 : Int64) (x3 : Int32) (x4 : Int32) : entryFrame m #[(.long x0), (.long x1), (.long x2), (.int x3), (.int x4)] 10 = mkF m 0 #[.val (.long x0), .second, .val (.long x1), .second, .val (.long x2), .second, .val (.int x3), .val (.int x4), .unset, .unset] [] := by first | (simp [entryFrame, mkF, argsToLocals, Value.category]; done) | rfl
def Q9 (Z : State) (qa : Int64) (qb : Int64) (qc : Int64) (pn : Int32) (pj : Int32) (h0 : Heap) (n0 : Nat) (v : Option Value) (h : Heap) (L : List Loc) : Prop := v = some (.long (own_min qa qb qc pn pj)) ∧ Fr n0 L ∧ h = h0
set_option maxRecDepth 65536 in
set_option maxHeartbeats 40000000 in
theorem rm9 (l : Launch) (Z : State) (a0 : Array Value) (hw : ∀ d ∈ tables_1, d.before a0 Z = true) (ws : List Jvm.Cond) (qa : Int64) (qb : Int64) (qc : Int64) (pn : Int32) (pj : Int32) (h0 : Heap) (n0 : Nat) (Z0 : n0 ≤ h0.size) :
    MetFree l (⟨"com/example/criba/criba/model/MinhashAccumulatorFingerprintPinLaw", "minimum", "(JJJII)J"⟩ : MethodName) (head1 (Jvm.Cond.code (⟨"com/example/criba/criba/model/MinhashAccumulatorFingerprintPinLaw", "minimum", "(JJJII)J"⟩ : MethodName) method_5_code 10 (some .long) :: ws) ({ frames := 2, cells := 0, slots := 0, locals := 31 } : Room)) (fun a U => a = #[(.long qa), (.long qb), (.long qc), (.int pn), (.int pj)] ∧ Z.Warmed39 U.vm ∧ U.heap = h0) (fun _ _ _ _ _ => True) (fun _ U o U' => ∃ v L, o = .returned v ∧ Q9 Z qa qb qc pn pj h0 n0 v U'.heap L ∧ FrameEnd U o U' L ({ frames := 2, cells := 0, slots := 0, locals := 31 } : Room).cells ({ frames := 2, cells := 0, slots := 0, locals := 31 } : Room).slots) := by
  refine MetFree.of_bodySF (plainFor_of_name own_pn1) hisR ?_
  intro p e s m args below meth c s₁ Bd hml0 hP hK
  obtain ⟨rfl, hZ, hh⟩ := hP
  have hx := Bd.exec
  have hby := Bd.bytes
  have hml : c.maxLocals = 10 := hml0
  have hown : s.vm.findClass "com/example/criba/criba/model/MinhashAccumulatorFingerprintPinLaw" = some m.cls := findClass_of_methodNamed Bd.named
  have hnm := (name_of_methodNamed Bd.named Bd.method).1
  have X0 : Stand p l e ({ frames := 2, cells := 0, slots := 0, locals := 31 } : Room) s m #[(.long qa), (.long qb), (.long qc), (.int pn), (.int pj)] below meth c s₁ [] 0 0 := Stand.of_body Bd
  have e0 : s₁.heap = h0 := by rw [← hh, Bd.state]; rfl
  have N0 := Fr.nil n0
  have K0 : Keep h0 h0 [] := Keep.refl _ _
  suffices GO : ∀ P : Outcome → State → Prop, (∀ o U', (∃ v L, o = .returned v ∧ Q9 Z qa qb qc pn pj h0 n0 v U'.heap L ∧ FrameEnd s o U' L ({ frames := 2, cells := 0, slots := 0, locals := 31 } : Room).cells ({ frames := 2, cells := 0, slots := 0, locals := 31 } : Room).slots) → P o U') → Go p.tables e below P s₁ (mkF m 0 #[.val (.long qa), .second, .val (.long qb), .second, .val (.long qc), .second, .val (.int pn), .val (.int pj), .unset, .unset] []) by
    obtain ⟨s2, o, st, r⟩ := GO _ (fun _ _ q => q)
    exact ⟨s2, o, castTop (ef_9 m qa qb qc pn pj) st, r⟩
  clear hh
  intro P hP
  show Go p.tables e below P s₁ (mkF m 0 #[.val (.long qa), .second, .val (.long qb), .second, .val (.long qc), .second, .val (.int pn), .val (.int pj), .unset, .unset] [])
  refine Go.via (fun t k => XS.lloadN X0.here hx rfl (hb hby d9_0) rfl k) ?_
  show Go p.tables e below P s₁ (mkF m 1 #[.val (.long qa), .second, .val (.long qb), .second, .val (.long qc), .second, .val (.int pn), .val (.int pj), .unset, .unset] [(.long qa)])
  refine Go.via (fun t k => XS.iload X0.here hx rfl (hb hby d9_1) rfl k) ?_
  show Go p.tables e below P s₁ (mkF m 3 #[.val (.long qa), .second, .val (.long qb), .second, .val (.long qc), .second, .val (.int pn), .val (.int pj), .unset, .unset] [(.int pj), (.long qa)])
  obtain ⟨_, _, ⟨T1, L1, k1, n1⟩, -, X1, ⟨Lc1, hQ1, l1, y1, z1⟩, st1⟩ := Jvm.LawKit.callS X0 hx (y := (⟨"com/example/criba/criba/model/MinhashAccumulatorFingerprintPinLaw", "value", "(JI)J"⟩ : MethodName)) hown (mvT hZ (hw _ (List.mem_of_getElem? (i := 47) rfl))) (mvT hZ (hw _ (List.mem_of_getElem? (i := 48) rfl))) (mvT hZ (hw _ (List.mem_of_getElem? (i := 45) rfl))) (mvT hZ (hw _ (List.mem_of_getElem? (i := 49) rfl))) (by decide) (backOf (W := 0) (rm10 l Z a0 hw [] qa pj h0 n0 Z0 ) hZ (hw _ (List.mem_of_getElem? (i := 49) rfl)) (hw _ (List.mem_of_getElem? (i := 45) rfl)) (by decide) (by decide)) (g := (mkF m 3 #[.val (.long qa), .second, .val (.long qb), .second, .val (.long qc), .second, .val (.int pn), .val (.int pj), .unset, .unset] [(.int pj), (.long qa)])) rfl (by rw [hml]; rfl) (argsL := [(.long qa), (.int pj)]) (rest := []) (lenOf own_pd3 rfl) rfl (by show 2 * 0 + _ ≤ _; exact Nat.le_of_eq rfl) (hb hby d9_3) (fun _ _ => ⟨rfl, e0, (by decide : 0 + 0 ≤ _), (by decide : 0 + 0 ≤ _)⟩)
  dsimp only [Pt.U, Pt.locs, Pt.cells, Pt.slots] at X1 l1 y1 z1 st1 hQ1
  subst l1 y1 z1
  obtain ⟨rfl, Nq1, hh1⟩ := hQ1
  obtain ⟨lc1, Xh1, N1⟩ := own_hide X1 (Fr.app N0 Nq1)
  clear X1
  refine Go.via st1 ?_
  show Go p.tables e below P T1 (mkF m 6 #[.val (.long qa), .second, .val (.long qb), .second, .val (.long qc), .second, .val (.int pn), .val (.int pj), .unset, .unset] [(.long (own_value qa pj))])
  refine Go.via (fun t k => XS.lstore Xh1.here hx rfl (hb hby d9_6) rfl (l' := #[.val (.long qa), .second, .val (.long qb), .second, .val (.long qc), .second, .val (.int pn), .val (.int pj), .val (.long (own_value qa pj)), .second]) rfl k) ?_
  show Go p.tables e below P T1 (mkF m 8 #[.val (.long qa), .second, .val (.long qb), .second, .val (.long qc), .second, .val (.int pn), .val (.int pj), .val (.long (own_value qa pj)), .second] [])
  refine Go.via (fun t k => XS.iload Xh1.here hx rfl (hb hby d9_8) rfl k) ?_
  show Go p.tables e below P T1 (mkF m 10 #[.val (.long qa), .second, .val (.long qb), .second, .val (.long qc), .second, .val (.int pn), .val (.int pj), .val (.long (own_value qa pj)), .second] [(.int pn)])
  refine Go.via (fun t k => XS.iconst Xh1.here hx rfl (hb hby d9_10) k) ?_
  show Go p.tables e below P T1 (mkF m 11 #[.val (.long qa), .second, .val (.long qb), .second, .val (.long qc), .second, .val (.int pn), .val (.int pj), .val (.long (own_value qa pj)), .second] [(.int (2 : Int32)), (.int pn)])
  have J3 : ∀ (T3 : State) (locs3 : List Loc) (v3_0 : Int64), Stand p l e ({ frames := 2, cells := 0, slots := 0, locals := 31 } : Room) s m #[(.long qa), (.long qb), (.long qc), (.int pn), (.int pj)] below meth c T3 locs3 0 0 → T3.heap = h0 → Fr n0 locs3 → v3_0 = (if pn < (2 : Int32) then (own_value qa pj) else (own_umin (own_value qa pj) (own_value qb pj))) → Go p.tables e below P T3 (mkF m 27 #[.val (.long qa), .second, .val (.long qb), .second, .val (.long qc), .second, .val (.int pn), .val (.int pj), .val (.long v3_0), .second] []) := by
    intro T3 locs3 v3_0 X3 e3 N3 hv3_0
    show Go p.tables e below P T3 (mkF m 27 #[.val (.long qa), .second, .val (.long qb), .second, .val (.long qc), .second, .val (.int pn), .val (.int pj), .val (.long v3_0), .second] [])
    refine Go.via (fun t k => XS.iload X3.here hx rfl (hb hby d9_27) rfl k) ?_
    show Go p.tables e below P T3 (mkF m 29 #[.val (.long qa), .second, .val (.long qb), .second, .val (.long qc), .second, .val (.int pn), .val (.int pj), .val (.long v3_0), .second] [(.int pn)])
    refine Go.via (fun t k => XS.iconst X3.here hx rfl (hb hby d9_29) k) ?_
    show Go p.tables e below P T3 (mkF m 30 #[.val (.long qa), .second, .val (.long qb), .second, .val (.long qc), .second, .val (.int pn), .val (.int pj), .val (.long v3_0), .second] [(.int (3 : Int32)), (.int pn)])
    have J5 : ∀ (T5 : State) (locs5 : List Loc) (v5_0 : Int64), Stand p l e ({ frames := 2, cells := 0, slots := 0, locals := 31 } : Room) s m #[(.long qa), (.long qb), (.long qc), (.int pn), (.int pj)] below meth c T5 locs5 0 0 → T5.heap = h0 → Fr n0 locs5 → v5_0 = (if pn < (3 : Int32) then v3_0 else (own_umin v3_0 (own_value qc pj))) → Go p.tables e below P T5 (mkF m 47 #[.val (.long qa), .second, .val (.long qb), .second, .val (.long qc), .second, .val (.int pn), .val (.int pj), .val (.long v5_0), .second] []) := by
      intro T5 locs5 v5_0 X5 e5 N5 hv5_0
      show Go p.tables e below P T5 (mkF m 47 #[.val (.long qa), .second, .val (.long qb), .second, .val (.long qc), .second, .val (.int pn), .val (.int pj), .val (.long v5_0), .second] [])
      refine Go.via (fun t k => XS.lload X5.here hx rfl (hb hby d9_47) rfl k) ?_
      show Go p.tables e below P T5 (mkF m 49 #[.val (.long qa), .second, .val (.long qb), .second, .val (.long qc), .second, .val (.int pn), .val (.int pj), .val (.long v5_0), .second] [(.long v5_0)])
      obtain ⟨fs, hr, hrun, hended, hW, hsame⟩ := X5.leave (v := some (.long (own_min qa qb qc pn pj))) (fun h => by rw [Bd.returns] at h; cases h)
      refine ⟨_, _, (by have q := retJ X5 hx Bd.returns (hb hby d9_49) (z := v5_0) (rest := []) (pc := 49) (Ls := #[.val (.long qa), .second, .val (.long qb), .second, .val (.long qc), .second, .val (.int pn), .val (.int pj), .val (.long v5_0), .second]) (by rw [(show v5_0 = own_min qa qb qc pn pj by rw [hv5_0, hv3_0]; rfl)]; exact hr); exact q), hrun, hended, hP _ _ ⟨_, _, rfl, ?_, ⟨_, rfl⟩, hW, hsame.mono (by decide) (by decide)⟩⟩
      show Q9 Z qa qb qc pn pj h0 n0 _ T5.heap _
      rw [e5]
      exact ⟨rfl, N5, rfl⟩
    by_cases hc4 : pn < (3 : Int32)
    · refine Go.via (fun t k => XS.icmpYes X3.here hx rfl (pc0 := 30) (pc' := 47) rfl (hb hby d9_30) rfl (tlt hc4).1 (by decide) (by decide) k) ?_
      exact J5 T3 _ v3_0 X3 e3 N3 (if_pos hc4).symm
    · refine Go.via (fun t k => XS.icmpNo X3.here hx rfl (hb hby d9_30) rfl (flt hc4).1 k) ?_
      show Go p.tables e below P T3 (mkF m 33 #[.val (.long qa), .second, .val (.long qb), .second, .val (.long qc), .second, .val (.int pn), .val (.int pj), .val (.long v3_0), .second] [])
      refine Go.via (fun t k => XS.lload X3.here hx rfl (hb hby d9_33) rfl k) ?_
      show Go p.tables e below P T3 (mkF m 35 #[.val (.long qa), .second, .val (.long qb), .second, .val (.long qc), .second, .val (.int pn), .val (.int pj), .val (.long v3_0), .second] [(.long v3_0)])
      refine Go.via (fun t k => XS.lload X3.here hx rfl (hb hby d9_35) rfl k) ?_
      show Go p.tables e below P T3 (mkF m 37 #[.val (.long qa), .second, .val (.long qb), .second, .val (.long qc), .second, .val (.int pn), .val (.int pj), .val (.long v3_0), .second] [(.long qc), (.long v3_0)])
      refine Go.via (fun t k => XS.iload X3.here hx rfl (hb hby d9_37) rfl k) ?_
      show Go p.tables e below P T3 (mkF m 39 #[.val (.long qa), .second, .val (.long qb), .second, .val (.long qc), .second, .val (.int pn), .val (.int pj), .val (.long v3_0), .second] [(.int pj), (.long qc), (.long v3_0)])
      obtain ⟨_, _, ⟨T7, L7, k7, n7⟩, -, X7, ⟨Lc7, hQ7, l7, y7, z7⟩, st7⟩ := Jvm.LawKit.callS X3 hx (y := (⟨"com/example/criba/criba/model/MinhashAccumulatorFingerprintPinLaw", "value", "(JI)J"⟩ : MethodName)) hown (mvT hZ (hw _ (List.mem_of_getElem? (i := 47) rfl))) (mvT hZ (hw _ (List.mem_of_getElem? (i := 48) rfl))) (mvT hZ (hw _ (List.mem_of_getElem? (i := 45) rfl))) (mvT hZ (hw _ (List.mem_of_getElem? (i := 49) rfl))) (by decide) (backOf (W := 2) (rm10 l Z a0 hw [] qc pj h0 n0 Z0 ) hZ (hw _ (List.mem_of_getElem? (i := 49) rfl)) (hw _ (List.mem_of_getElem? (i := 45) rfl)) (by decide) (by decide)) (g := (mkF m 39 #[.val (.long qa), .second, .val (.long qb), .second, .val (.long qc), .second, .val (.int pn), .val (.int pj), .val (.long v3_0), .second] [(.int pj), (.long qc), (.long v3_0)])) rfl (by rw [hml]; rfl) (argsL := [(.long qc), (.int pj)]) (rest := [(.long v3_0)]) (lenOf own_pd3 rfl) rfl (by show 2 * 0 + _ ≤ _; exact Nat.le_of_eq rfl) (hb hby d9_39) (fun _ _ => ⟨rfl, e3, (by decide : 0 + 0 ≤ _), (by decide : 0 + 0 ≤ _)⟩)
      dsimp only [Pt.U, Pt.locs, Pt.cells, Pt.slots] at X7 l7 y7 z7 st7 hQ7
      subst l7 y7 z7
      obtain ⟨rfl, Nq7, hh7⟩ := hQ7
      obtain ⟨lc7, Xh7, N7⟩ := own_hide X7 (Fr.app N3 Nq7)
      clear X7
      refine Go.via st7 ?_
      show Go p.tables e below P T7 (mkF m 42 #[.val (.long qa), .second, .val (.long qb), .second, .val (.long qc), .second, .val (.int pn), .val (.int pj), .val (.long v3_0), .second] [(.long (own_value qc pj)), (.long v3_0)])
      obtain ⟨_, _, ⟨T8, L8, k8, n8⟩, -, X8, ⟨Lc8, hQ8, l8, y8, z8⟩, st8⟩ := Jvm.LawKit.callS Xh7 hx (y := (⟨"com/example/criba/criba/model/MinhashAccumulatorFingerprintPinLaw", "umin", "(JJ)J"⟩ : MethodName)) hown (mvT hZ (hw _ (List.mem_of_getElem? (i := 56) rfl))) (mvT hZ (hw _ (List.mem_of_getElem? (i := 57) rfl))) (mvT hZ (hw _ (List.mem_of_getElem? (i := 45) rfl))) (mvT hZ (hw _ (List.mem_of_getElem? (i := 58) rfl))) (by decide) (backOf (W := 0) (rm12 l Z a0 hw [] v3_0 (own_value qc pj) h0 n0 Z0 ) hZ (hw _ (List.mem_of_getElem? (i := 58) rfl)) (hw _ (List.mem_of_getElem? (i := 45) rfl)) (by decide) (by decide)) (g := (mkF m 42 #[.val (.long qa), .second, .val (.long qb), .second, .val (.long qc), .second, .val (.int pn), .val (.int pj), .val (.long v3_0), .second] [(.long (own_value qc pj)), (.long v3_0)])) rfl (by rw [hml]; rfl) (argsL := [(.long v3_0), (.long (own_value qc pj))]) (rest := []) (lenOf own_pd4 rfl) rfl (by show 2 * 0 + _ ≤ _; exact Nat.le_of_eq rfl) (hb hby d9_42) (fun _ _ => ⟨rfl, hh7, (by decide : 0 + 0 ≤ _), (by decide : 0 + 0 ≤ _)⟩)
      dsimp only [Pt.U, Pt.locs, Pt.cells, Pt.slots] at X8 l8 y8 z8 st8 hQ8
      subst l8 y8 z8
      obtain ⟨rfl, Nq8, hh8⟩ := hQ8
      obtain ⟨lc8, Xh8, N8⟩ := own_hide X8 (Fr.app N7 Nq8)
      clear X8
      refine Go.via st8 ?_
      show Go p.tables e below P T8 (mkF m 45 #[.val (.long qa), .second, .val (.long qb), .second, .val (.long qc), .second, .val (.int pn), .val (.int pj), .val (.long v3_0), .second] [(.long (own_umin v3_0 (own_value qc pj)))])
      refine Go.via (fun t k => XS.lstore Xh8.here hx rfl (hb hby d9_45) rfl (l' := #[.val (.long qa), .second, .val (.long qb), .second, .val (.long qc), .second, .val (.int pn), .val (.int pj), .val (.long (own_umin v3_0 (own_value qc pj))), .second]) rfl k) ?_
      exact J5 T8 _ (own_umin v3_0 (own_value qc pj)) Xh8 hh8 N8 (if_neg hc4).symm
  by_cases hc2 : pn < (2 : Int32)
  · refine Go.via (fun t k => XS.icmpYes Xh1.here hx rfl (pc0 := 11) (pc' := 27) rfl (hb hby d9_11) rfl (tlt hc2).1 (by decide) (by decide) k) ?_
    exact J3 T1 _ (own_value qa pj) Xh1 hh1 N1 (if_pos hc2).symm
  · refine Go.via (fun t k => XS.icmpNo Xh1.here hx rfl (hb hby d9_11) rfl (flt hc2).1 k) ?_
    show Go p.tables e below P T1 (mkF m 14 #[.val (.long qa), .second, .val (.long qb), .second, .val (.long qc), .second, .val (.int pn), .val (.int pj), .val (.long (own_value qa pj)), .second] [])
    refine Go.via (fun t k => XS.lload Xh1.here hx rfl (hb hby d9_14) rfl k) ?_
    show Go p.tables e below P T1 (mkF m 16 #[.val (.long qa), .second, .val (.long qb), .second, .val (.long qc), .second, .val (.int pn), .val (.int pj), .val (.long (own_value qa pj)), .second] [(.long (own_value qa pj))])
    refine Go.via (fun t k => XS.lloadN Xh1.here hx rfl (hb hby d9_16) rfl k) ?_
    show Go p.tables e below P T1 (mkF m 17 #[.val (.long qa), .second, .val (.long qb), .second, .val (.long qc), .second, .val (.int pn), .val (.int pj), .val (.long (own_value qa pj)), .second] [(.long qb), (.long (own_value qa pj))])
    refine Go.via (fun t k => XS.iload Xh1.here hx rfl (hb hby d9_17) rfl k) ?_
    show Go p.tables e below P T1 (mkF m 19 #[.val (.long qa), .second, .val (.long qb), .second, .val (.long qc), .second, .val (.int pn), .val (.int pj), .val (.long (own_value qa pj)), .second] [(.int pj), (.long qb), (.long (own_value qa pj))])
    obtain ⟨_, _, ⟨T9, L9, k9, n9⟩, -, X9, ⟨Lc9, hQ9, l9, y9, z9⟩, st9⟩ := Jvm.LawKit.callS Xh1 hx (y := (⟨"com/example/criba/criba/model/MinhashAccumulatorFingerprintPinLaw", "value", "(JI)J"⟩ : MethodName)) hown (mvT hZ (hw _ (List.mem_of_getElem? (i := 47) rfl))) (mvT hZ (hw _ (List.mem_of_getElem? (i := 48) rfl))) (mvT hZ (hw _ (List.mem_of_getElem? (i := 45) rfl))) (mvT hZ (hw _ (List.mem_of_getElem? (i := 49) rfl))) (by decide) (backOf (W := 2) (rm10 l Z a0 hw [] qb pj h0 n0 Z0 ) hZ (hw _ (List.mem_of_getElem? (i := 49) rfl)) (hw _ (List.mem_of_getElem? (i := 45) rfl)) (by decide) (by decide)) (g := (mkF m 19 #[.val (.long qa), .second, .val (.long qb), .second, .val (.long qc), .second, .val (.int pn), .val (.int pj), .val (.long (own_value qa pj)), .second] [(.int pj), (.long qb), (.long (own_value qa pj))])) rfl (by rw [hml]; rfl) (argsL := [(.long qb), (.int pj)]) (rest := [(.long (own_value qa pj))]) (lenOf own_pd3 rfl) rfl (by show 2 * 0 + _ ≤ _; exact Nat.le_of_eq rfl) (hb hby d9_19) (fun _ _ => ⟨rfl, hh1, (by decide : 0 + 0 ≤ _), (by decide : 0 + 0 ≤ _)⟩)
    dsimp only [Pt.U, Pt.locs, Pt.cells, Pt.slots] at X9 l9 y9 z9 st9 hQ9
    subst l9 y9 z9
    obtain ⟨rfl, Nq9, hh9⟩ := hQ9
    obtain ⟨lc9, Xh9, N9⟩ := own_hide X9 (Fr.app N1 Nq9)
    clear X9
    refine Go.via st9 ?_
    show Go p.tables e below P T9 (mkF m 22 #[.val (.long qa), .second, .val (.long qb), .second, .val (.long qc), .second, .val (.int pn), .val (.int pj), .val (.long (own_value qa pj)), .second] [(.long (own_value qb pj)), (.long (own_value qa pj))])
    obtain ⟨_, _, ⟨T10, L10, k10, n10⟩, -, X10, ⟨Lc10, hQ10, l10, y10, z10⟩, st10⟩ := Jvm.LawKit.callS Xh9 hx (y := (⟨"com/example/criba/criba/model/MinhashAccumulatorFingerprintPinLaw", "umin", "(JJ)J"⟩ : MethodName)) hown (mvT hZ (hw _ (List.mem_of_getElem? (i := 56) rfl))) (mvT hZ (hw _ (List.mem_of_getElem? (i := 57) rfl))) (mvT hZ (hw _ (List.mem_of_getElem? (i := 45) rfl))) (mvT hZ (hw _ (List.mem_of_getElem? (i := 58) rfl))) (by decide) (backOf (W := 0) (rm12 l Z a0 hw [] (own_value qa pj) (own_value qb pj) h0 n0 Z0 ) hZ (hw _ (List.mem_of_getElem? (i := 58) rfl)) (hw _ (List.mem_of_getElem? (i := 45) rfl)) (by decide) (by decide)) (g := (mkF m 22 #[.val (.long qa), .second, .val (.long qb), .second, .val (.long qc), .second, .val (.int pn), .val (.int pj), .val (.long (own_value qa pj)), .second] [(.long (own_value qb pj)), (.long (own_value qa pj))])) rfl (by rw [hml]; rfl) (argsL := [(.long (own_value qa pj)), (.long (own_value qb pj))]) (rest := []) (lenOf own_pd4 rfl) rfl (by show 2 * 0 + _ ≤ _; exact Nat.le_of_eq rfl) (hb hby d9_22) (fun _ _ => ⟨rfl, hh9, (by decide : 0 + 0 ≤ _), (by decide : 0 + 0 ≤ _)⟩)
    dsimp only [Pt.U, Pt.locs, Pt.cells, Pt.slots] at X10 l10 y10 z10 st10 hQ10
    subst l10 y10 z10
    obtain ⟨rfl, Nq10, hh10⟩ := hQ10
    obtain ⟨lc10, Xh10, N10⟩ := own_hide X10 (Fr.app N9 Nq10)
    clear X10
    refine Go.via st10 ?_
    show Go p.tables e below P T10 (mkF m 25 #[.val (.long qa), .second, .val (.long qb), .second, .val (.long qc), .second, .val (.int pn), .val (.int pj), .val (.long (own_value qa pj)), .second] [(.long (own_umin (own_value qa pj) (own_value qb pj)))])
    refine Go.via (fun t k => XS.lstore Xh10.here hx rfl (hb hby d9_25) rfl (l' := #[.val (.long qa), .second, .val (.long qb), .second, .val (.long qc), .second, .val (.int pn), .val (.int pj), .val (.long (own_umin (own_value qa pj) (own_value qb pj))), .second]) rfl k) ?_
    exact J3 T10 _ (own_umin (own_value qa pj) (own_value qb pj)) Xh10 hh10 N10 (if_neg hc2).symm
theorem own_pd5 : parseMethodDescriptor "()V" = some ⟨[], none⟩ := by decide +kernel
theorem own_pd6 : parseMethodDescriptor "()J" = some ⟨[], some .long⟩ := by decide +kernel
theorem own_pd7 : parseMethodDescriptor "(J)V" = some ⟨[.long], none⟩ := by decide +kernel
theorem own_pd8 : parseMethodDescriptor "(JJJII)J" = some ⟨[.long, .long, .long, .int, .int], some .long⟩ := by decide +kernel
theorem ef_0 (m : MethodId) (x0 : Int64) (x1 : Int64) (x2 : Int64) (x3 : Int32) (x4 : Int32) : entryFrame m #[(.long x0), (.long x1), (.long x2), (.int x3), (.int x4)] maxLocals = mkF m 0 #[.val (.long x0), .second, .val (.long x1), .second, .val (.long x2), .second, .val (.int x3), .val (.int x4), .unset, .unset, .unset, .unset, .unset, .unset, .unset, .unset, .unset, .unset, .unset] [] := by first | (simp [entryFrame, mkF, argsToLocals, Value.category, maxLocals]; done) | rfl
def Q0 (Z : State) (qa : Int64) (qb : Int64) (qc : Int64) (pi : Int32) (pm : Int32) (h0 : Heap) (n0 : Nat) (v : Option Value) (h : Heap) (L : List Loc) : Prop := v = some (.int (1 : Int32)) ∧ Fr n0 L
set_option maxRecDepth 65536 in
set_option maxHeartbeats 40000000 in
theorem rm0 (l : Launch) (Z : State) (a0 : Array Value) (hw : ∀ d ∈ tables_1, d.before a0 Z = true) (ws : List Jvm.Cond) (qa : Int64) (qb : Int64) (qc : Int64) (pi : Int32) (pm : Int32) (h0 : Heap) (n0 : Nat) (Z0 : n0 ≤ h0.size) :
    MetFree l x (head1 (Jvm.Cond.code x code maxLocals ret :: ws) room_1) (fun a U => a = #[(.long qa), (.long qb), (.long qc), (.int pi), (.int pm)] ∧ Z.Warmed39 U.vm ∧ U.heap = h0) (fun _ _ _ _ _ => True) (fun _ U o U' => ∃ v L, o = .returned v ∧ Q0 Z qa qb qc pi pm h0 n0 v U'.heap L ∧ FrameEnd U o U' L room_1.cells room_1.slots) := by
  refine MetFree.of_bodySF (plainFor_of_name own_pn1) hisR ?_
  intro p e s m args below meth c s₁ Bd hml0 hP hK
  obtain ⟨rfl, hZ, hh⟩ := hP
  have hx := Bd.exec
  have hby := Bd.bytes
  have hml : c.maxLocals = 19 := hml0
  have hown : s.vm.findClass "com/example/criba/criba/model/MinhashAccumulatorFingerprintPinLaw" = some m.cls := findClass_of_methodNamed Bd.named
  have hnm := (name_of_methodNamed Bd.named Bd.method).1
  have X0 : Stand p l e room_1 s m #[(.long qa), (.long qb), (.long qc), (.int pi), (.int pm)] below meth c s₁ [] 0 0 := Stand.of_body Bd
  have e0 : s₁.heap = h0 := by rw [← hh, Bd.state]; rfl
  have N0 := Fr.nil n0
  have K0 : Keep h0 h0 [] := Keep.refl _ _
  suffices GO : ∀ P : Outcome → State → Prop, (∀ o U', (∃ v L, o = .returned v ∧ Q0 Z qa qb qc pi pm h0 n0 v U'.heap L ∧ FrameEnd s o U' L room_1.cells room_1.slots) → P o U') → Go p.tables e below P s₁ (mkF m 0 #[.val (.long qa), .second, .val (.long qb), .second, .val (.long qc), .second, .val (.int pi), .val (.int pm), .unset, .unset, .unset, .unset, .unset, .unset, .unset, .unset, .unset, .unset, .unset] []) by
    obtain ⟨s2, o, st, r⟩ := GO _ (fun _ _ q => q)
    exact ⟨s2, o, castTop (ef_0 m qa qb qc pi pm) st, r⟩
  clear hh
  intro P hP
  show Go p.tables e below P s₁ (mkF m 0 #[.val (.long qa), .second, .val (.long qb), .second, .val (.long qc), .second, .val (.int pi), .val (.int pm), .unset, .unset, .unset, .unset, .unset, .unset, .unset, .unset, .unset, .unset, .unset] [])
  refine Go.via (fun t k => XS.iload X0.here hx rfl (hb hby at_0) rfl k) ?_
  show Go p.tables e below P s₁ (mkF m 2 #[.val (.long qa), .second, .val (.long qb), .second, .val (.long qc), .second, .val (.int pi), .val (.int pm), .unset, .unset, .unset, .unset, .unset, .unset, .unset, .unset, .unset, .unset, .unset] [(.int pm)])
  refine Go.via (fun t k => XS.iconst X0.here hx rfl (hb hby at_2) k) ?_
  show Go p.tables e below P s₁ (mkF m 3 #[.val (.long qa), .second, .val (.long qb), .second, .val (.long qc), .second, .val (.int pi), .val (.int pm), .unset, .unset, .unset, .unset, .unset, .unset, .unset, .unset, .unset, .unset, .unset] [(.int (3 : Int32)), (.int pm)])
  refine Go.via (fun t k => XS.iand X0.here hx rfl (hb hby at_3) rfl k) ?_
  show Go p.tables e below P s₁ (mkF m 4 #[.val (.long qa), .second, .val (.long qb), .second, .val (.long qc), .second, .val (.int pi), .val (.int pm), .unset, .unset, .unset, .unset, .unset, .unset, .unset, .unset, .unset, .unset, .unset] [(.int (pm &&& (3 : Int32)))])
  refine Go.via (fun t k => XS.istore X0.here hx rfl (hb hby at_4) rfl (l' := #[.val (.long qa), .second, .val (.long qb), .second, .val (.long qc), .second, .val (.int pi), .val (.int pm), .val (.int (pm &&& (3 : Int32))), .unset, .unset, .unset, .unset, .unset, .unset, .unset, .unset, .unset, .unset]) rfl k) ?_
  show Go p.tables e below P s₁ (mkF m 6 #[.val (.long qa), .second, .val (.long qb), .second, .val (.long qc), .second, .val (.int pi), .val (.int pm), .val (.int (pm &&& (3 : Int32))), .unset, .unset, .unset, .unset, .unset, .unset, .unset, .unset, .unset, .unset] [])
  refine Go.via (fun t k => XS.iload X0.here hx rfl (hb hby at_6) rfl k) ?_
  show Go p.tables e below P s₁ (mkF m 8 #[.val (.long qa), .second, .val (.long qb), .second, .val (.long qc), .second, .val (.int pi), .val (.int pm), .val (.int (pm &&& (3 : Int32))), .unset, .unset, .unset, .unset, .unset, .unset, .unset, .unset, .unset, .unset] [(.int pi)])
  refine Go.via (fun t k => XS.bipush X0.here hx rfl (hb hby at_8) k) ?_
  show Go p.tables e below P s₁ (mkF m 10 #[.val (.long qa), .second, .val (.long qb), .second, .val (.long qc), .second, .val (.int pi), .val (.int pm), .val (.int (pm &&& (3 : Int32))), .unset, .unset, .unset, .unset, .unset, .unset, .unset, .unset, .unset, .unset] [(.int (63 : Int32)), (.int pi)])
  refine Go.via (fun t k => XS.iand X0.here hx rfl (hb hby at_10) rfl k) ?_
  show Go p.tables e below P s₁ (mkF m 11 #[.val (.long qa), .second, .val (.long qb), .second, .val (.long qc), .second, .val (.int pi), .val (.int pm), .val (.int (pm &&& (3 : Int32))), .unset, .unset, .unset, .unset, .unset, .unset, .unset, .unset, .unset, .unset] [(.int (pi &&& (63 : Int32)))])
  refine Go.via (fun t k => XS.istore X0.here hx rfl (hb hby at_11) rfl (l' := #[.val (.long qa), .second, .val (.long qb), .second, .val (.long qc), .second, .val (.int pi), .val (.int pm), .val (.int (pm &&& (3 : Int32))), .val (.int (pi &&& (63 : Int32))), .unset, .unset, .unset, .unset, .unset, .unset, .unset, .unset, .unset]) rfl k) ?_
  show Go p.tables e below P s₁ (mkF m 13 #[.val (.long qa), .second, .val (.long qb), .second, .val (.long qc), .second, .val (.int pi), .val (.int pm), .val (.int (pm &&& (3 : Int32))), .val (.int (pi &&& (63 : Int32))), .unset, .unset, .unset, .unset, .unset, .unset, .unset, .unset, .unset] [])
  refine Go.via (fun t k => XS.iload X0.here hx rfl (hb hby at_13) rfl k) ?_
  show Go p.tables e below P s₁ (mkF m 15 #[.val (.long qa), .second, .val (.long qb), .second, .val (.long qc), .second, .val (.int pi), .val (.int pm), .val (.int (pm &&& (3 : Int32))), .val (.int (pi &&& (63 : Int32))), .unset, .unset, .unset, .unset, .unset, .unset, .unset, .unset, .unset] [(.int pm)])
  refine Go.via (fun t k => XS.iconst X0.here hx rfl (hb hby at_15) k) ?_
  show Go p.tables e below P s₁ (mkF m 16 #[.val (.long qa), .second, .val (.long qb), .second, .val (.long qc), .second, .val (.int pi), .val (.int pm), .val (.int (pm &&& (3 : Int32))), .val (.int (pi &&& (63 : Int32))), .unset, .unset, .unset, .unset, .unset, .unset, .unset, .unset, .unset] [(.int (2 : Int32)), (.int pm)])
  refine Go.via (fun t k => XS.iushr X0.here hx rfl (hb hby at_16) rfl k) ?_
  show Go p.tables e below P s₁ (mkF m 17 #[.val (.long qa), .second, .val (.long qb), .second, .val (.long qc), .second, .val (.int pi), .val (.int pm), .val (.int (pm &&& (3 : Int32))), .val (.int (pi &&& (63 : Int32))), .unset, .unset, .unset, .unset, .unset, .unset, .unset, .unset, .unset] [(.int ((pm.toUInt32 >>> ((2 : Int32) &&& 31).toUInt32).toInt32))])
  refine Go.via (fun t k => XS.iconst X0.here hx rfl (hb hby at_17) k) ?_
  show Go p.tables e below P s₁ (mkF m 18 #[.val (.long qa), .second, .val (.long qb), .second, .val (.long qc), .second, .val (.int pi), .val (.int pm), .val (.int (pm &&& (3 : Int32))), .val (.int (pi &&& (63 : Int32))), .unset, .unset, .unset, .unset, .unset, .unset, .unset, .unset, .unset] [(.int (1 : Int32)), (.int ((pm.toUInt32 >>> ((2 : Int32) &&& 31).toUInt32).toInt32))])
  refine Go.via (fun t k => XS.iand X0.here hx rfl (hb hby at_18) rfl k) ?_
  show Go p.tables e below P s₁ (mkF m 19 #[.val (.long qa), .second, .val (.long qb), .second, .val (.long qc), .second, .val (.int pi), .val (.int pm), .val (.int (pm &&& (3 : Int32))), .val (.int (pi &&& (63 : Int32))), .unset, .unset, .unset, .unset, .unset, .unset, .unset, .unset, .unset] [(.int (((pm.toUInt32 >>> ((2 : Int32) &&& 31).toUInt32).toInt32) &&& (1 : Int32)))])
  have J2 : ∀ (T2 : State) (locs2 : List Loc) (v2_0 : Int64), Stand p l e room_1 s m #[(.long qa), (.long qb), (.long qc), (.int pi), (.int pm)] below meth c T2 locs2 0 0 → T2.heap = h0 → Fr n0 locs2 → v2_0 = (if (((pm.toUInt32 >>> ((2 : Int32) &&& 31).toUInt32).toInt32) &&& (1 : Int32)) = (0 : Int32) then qb else qa) → Go p.tables e below P T2 (mkF m 27 #[.val (.long qa), .second, .val (.long qb), .second, .val (.long qc), .second, .val (.int pi), .val (.int pm), .val (.int (pm &&& (3 : Int32))), .val (.int (pi &&& (63 : Int32))), .unset, .unset, .unset, .unset, .unset, .unset, .unset, .unset, .unset] [(.long v2_0)]) := by
    intro T2 locs2 v2_0 X2 e2 N2 hv2_0
    show Go p.tables e below P T2 (mkF m 27 #[.val (.long qa), .second, .val (.long qb), .second, .val (.long qc), .second, .val (.int pi), .val (.int pm), .val (.int (pm &&& (3 : Int32))), .val (.int (pi &&& (63 : Int32))), .unset, .unset, .unset, .unset, .unset, .unset, .unset, .unset, .unset] [(.long v2_0)])
    refine Go.via (fun t k => XS.lstore X2.here hx rfl (hb hby at_27) rfl (l' := #[.val (.long qa), .second, .val (.long qb), .second, .val (.long qc), .second, .val (.int pi), .val (.int pm), .val (.int (pm &&& (3 : Int32))), .val (.int (pi &&& (63 : Int32))), .val (.long v2_0), .second, .unset, .unset, .unset, .unset, .unset, .unset, .unset]) rfl k) ?_
    show Go p.tables e below P T2 (mkF m 29 #[.val (.long qa), .second, .val (.long qb), .second, .val (.long qc), .second, .val (.int pi), .val (.int pm), .val (.int (pm &&& (3 : Int32))), .val (.int (pi &&& (63 : Int32))), .val (.long v2_0), .second, .unset, .unset, .unset, .unset, .unset, .unset, .unset] [])
    refine Go.via (fun t k => XS.iload X2.here hx rfl (hb hby at_29) rfl k) ?_
    show Go p.tables e below P T2 (mkF m 31 #[.val (.long qa), .second, .val (.long qb), .second, .val (.long qc), .second, .val (.int pi), .val (.int pm), .val (.int (pm &&& (3 : Int32))), .val (.int (pi &&& (63 : Int32))), .val (.long v2_0), .second, .unset, .unset, .unset, .unset, .unset, .unset, .unset] [(.int pm)])
    refine Go.via (fun t k => XS.iconst X2.here hx rfl (hb hby at_31) k) ?_
    show Go p.tables e below P T2 (mkF m 32 #[.val (.long qa), .second, .val (.long qb), .second, .val (.long qc), .second, .val (.int pi), .val (.int pm), .val (.int (pm &&& (3 : Int32))), .val (.int (pi &&& (63 : Int32))), .val (.long v2_0), .second, .unset, .unset, .unset, .unset, .unset, .unset, .unset] [(.int (3 : Int32)), (.int pm)])
    refine Go.via (fun t k => XS.iushr X2.here hx rfl (hb hby at_32) rfl k) ?_
    show Go p.tables e below P T2 (mkF m 33 #[.val (.long qa), .second, .val (.long qb), .second, .val (.long qc), .second, .val (.int pi), .val (.int pm), .val (.int (pm &&& (3 : Int32))), .val (.int (pi &&& (63 : Int32))), .val (.long v2_0), .second, .unset, .unset, .unset, .unset, .unset, .unset, .unset] [(.int ((pm.toUInt32 >>> ((3 : Int32) &&& 31).toUInt32).toInt32))])
    refine Go.via (fun t k => XS.iconst X2.here hx rfl (hb hby at_33) k) ?_
    show Go p.tables e below P T2 (mkF m 34 #[.val (.long qa), .second, .val (.long qb), .second, .val (.long qc), .second, .val (.int pi), .val (.int pm), .val (.int (pm &&& (3 : Int32))), .val (.int (pi &&& (63 : Int32))), .val (.long v2_0), .second, .unset, .unset, .unset, .unset, .unset, .unset, .unset] [(.int (1 : Int32)), (.int ((pm.toUInt32 >>> ((3 : Int32) &&& 31).toUInt32).toInt32))])
    refine Go.via (fun t k => XS.iand X2.here hx rfl (hb hby at_34) rfl k) ?_
    show Go p.tables e below P T2 (mkF m 35 #[.val (.long qa), .second, .val (.long qb), .second, .val (.long qc), .second, .val (.int pi), .val (.int pm), .val (.int (pm &&& (3 : Int32))), .val (.int (pi &&& (63 : Int32))), .val (.long v2_0), .second, .unset, .unset, .unset, .unset, .unset, .unset, .unset] [(.int (((pm.toUInt32 >>> ((3 : Int32) &&& 31).toUInt32).toInt32) &&& (1 : Int32)))])
    have J4 : ∀ (T4 : State) (locs4 : List Loc) (v4_0 : Int64), Stand p l e room_1 s m #[(.long qa), (.long qb), (.long qc), (.int pi), (.int pm)] below meth c T4 locs4 0 0 → T4.heap = h0 → Fr n0 locs4 → v4_0 = (if (((pm.toUInt32 >>> ((3 : Int32) &&& 31).toUInt32).toInt32) &&& (1 : Int32)) = (0 : Int32) then qc else v2_0) → Go p.tables e below P T4 (mkF m 45 #[.val (.long qa), .second, .val (.long qb), .second, .val (.long qc), .second, .val (.int pi), .val (.int pm), .val (.int (pm &&& (3 : Int32))), .val (.int (pi &&& (63 : Int32))), .val (.long v2_0), .second, .unset, .unset, .unset, .unset, .unset, .unset, .unset] [(.long v4_0)]) := by
      intro T4 locs4 v4_0 X4 e4 N4 hv4_0
      show Go p.tables e below P T4 (mkF m 45 #[.val (.long qa), .second, .val (.long qb), .second, .val (.long qc), .second, .val (.int pi), .val (.int pm), .val (.int (pm &&& (3 : Int32))), .val (.int (pi &&& (63 : Int32))), .val (.long v2_0), .second, .unset, .unset, .unset, .unset, .unset, .unset, .unset] [(.long v4_0)])
      refine Go.via (fun t k => XS.lstore X4.here hx rfl (hb hby at_45) rfl (l' := #[.val (.long qa), .second, .val (.long qb), .second, .val (.long qc), .second, .val (.int pi), .val (.int pm), .val (.int (pm &&& (3 : Int32))), .val (.int (pi &&& (63 : Int32))), .val (.long v2_0), .second, .val (.long v4_0), .second, .unset, .unset, .unset, .unset, .unset]) rfl k) ?_
      show Go p.tables e below P T4 (mkF m 47 #[.val (.long qa), .second, .val (.long qb), .second, .val (.long qc), .second, .val (.int pi), .val (.int pm), .val (.int (pm &&& (3 : Int32))), .val (.int (pi &&& (63 : Int32))), .val (.long v2_0), .second, .val (.long v4_0), .second, .unset, .unset, .unset, .unset, .unset] [])
      obtain ⟨bt, hbt⟩ : ∃ z, z = (pi &&& (63 : Int32)) := ⟨_, rfl⟩
      rw [← hbt]
      obtain ⟨nn, hnn⟩ : ∃ z, z = (pm &&& (3 : Int32)) := ⟨_, rfl⟩
      rw [← hnn]
      have hor := own_and3 pm
      rw [← hnn] at hor
      obtain ⟨b, hb64, hbt'⟩ := own_bit pi
      rw [← hbt] at hbt'
      rcases hor with c0 | c1 | c2 | c3
      · rw [c0]
        show Go p.tables e below P T4 (mkF m 47 #[.val (.long qa), .second, .val (.long qb), .second, .val (.long qc), .second, .val (.int pi), .val (.int pm), .val (.int (0 : Int32)), .val (.int bt), .val (.long v2_0), .second, .val (.long v4_0), .second, .unset, .unset, .unset, .unset, .unset] [])
        obtain ⟨T5, h5, X5, e5, E5, A5, D5, -, st5⟩ := newO X4 hx hZ hown (hw _ (List.mem_of_getElem? (i := 0) rfl)) (hw _ (List.mem_of_getElem? (i := 1) rfl)) (hw _ (List.mem_of_getElem? (i := 2) rfl)) e4 (g := (mkF m 47 #[.val (.long qa), .second, .val (.long qb), .second, .val (.long qc), .second, .val (.int pi), .val (.int pm), .val (.int (0 : Int32)), .val (.int bt), .val (.long v2_0), .second, .val (.long v4_0), .second, .unset, .unset, .unset, .unset, .unset] [])) rfl (hb hby at_47) (by decide) (by decide)
        obtain ⟨b5, g5⟩ : ∃ z, z = h0.size := ⟨_, rfl⟩
        rw [← g5] at A5 D5 st5
        refine Go.via st5 ?_
        have g6 : n0 ≤ b5 := Nat.le_trans Z0 (Nat.le_of_eq g5.symm)
        have sz7 : h0.size ≤ b5 := Nat.le_trans K0.1 (Nat.le_of_eq g5.symm)
        have Z8 : n0 ≤ h5.size := Nat.le_trans Z0 E5.1
        have K9 : Keep h0 h5 [] := K0.ext E5
        show Go p.tables e below P T5 (mkF m 50 #[.val (.long qa), .second, .val (.long qb), .second, .val (.long qc), .second, .val (.int pi), .val (.int pm), .val (.int (0 : Int32)), .val (.int bt), .val (.long v2_0), .second, .val (.long v4_0), .second, .unset, .unset, .unset, .unset, .unset] [(.ref b5)])
        refine Go.via (fun t k => XS.dup X5.here hx rfl (hb hby at_50) rfl rfl k) ?_
        show Go p.tables e below P T5 (mkF m 51 #[.val (.long qa), .second, .val (.long qb), .second, .val (.long qc), .second, .val (.int pi), .val (.int pm), .val (.int (0 : Int32)), .val (.int bt), .val (.long v2_0), .second, .val (.long v4_0), .second, .unset, .unset, .unset, .unset, .unset] [(.ref b5), (.ref b5)])
        obtain ⟨_, _, ⟨T10, L10, k10, n10⟩, -, X10, ⟨Lc10, hQ10, l10, y10, z10⟩, st10⟩ := X5.specialBack hx (y := (⟨"com/example/criba/criba/model/MinhashAccumulator", "<init>", "()V"⟩ : MethodName)) rfl hown (mvT hZ (hw _ (List.mem_of_getElem? (i := 3) rfl))) (mvT hZ (hw _ (List.mem_of_getElem? (i := 4) rfl))) (mvT hZ (hw _ (List.mem_of_getElem? (i := 5) rfl))) (by decide) (backOf (W := 1) (rm1 l Z a0 hw [] b5 h5 n0 Z8 A5 (D5 (Or.inr (hw _ (List.mem_of_getElem? (i := 11) rfl))) (ty := (.array .long)) (by decide) : Fld Z h5 b5 "com/example/criba/criba/model/MinhashAccumulator" "minima" "[J" .null) (D5 (Or.inl (hw _ (List.mem_of_getElem? (i := 13) rfl))) (ty := .boolean) (by decide) : Fld Z h5 b5 "com/example/criba/criba/model/MinhashAccumulator" "empty" "Z" (.int (0 : Int32))) g6) hZ (hw _ (List.mem_of_getElem? (i := 5) rfl)) (hw _ (List.mem_of_getElem? (i := 2) rfl)) (by decide) (by decide)) (g := (mkF m 51 #[.val (.long qa), .second, .val (.long qb), .second, .val (.long qc), .second, .val (.int pi), .val (.int pm), .val (.int (0 : Int32)), .val (.int bt), .val (.long v2_0), .second, .val (.long v4_0), .second, .unset, .unset, .unset, .unset, .unset] [(.ref b5), (.ref b5)])) rfl (by rw [hml]; rfl) (Steps.refl _) (a := b5) (argsL := []) (rest := [(.ref b5)]) (lenOf own_pd5 rfl) rfl (by show 2 * 0 + _ ≤ _; exact Nat.le_of_eq rfl) (hb hby at_51) (fun _ _ => ⟨rfl, e5, (by decide : 1 + 1 ≤ _), (by decide : 2 + 192 ≤ _)⟩)
        dsimp only [Pt.U, Pt.locs, Pt.cells, Pt.slots] at X10 l10 y10 z10 st10 hQ10
        subst l10 y10 z10
        obtain ⟨om_10, kk_10, rfl, Nq10, K10, fr10_om, u10_0, u10_1, u10_2, u10_3, u10_4⟩ := hQ10
        obtain ⟨lc10, Xh10, N10⟩ := own_hide X10 (Fr.app N4 Nq10)
        clear X10
        refine Go.hop st10 ?_
        have ne11 : b5 ≠ om_10 := Nat.ne_of_lt (Nat.lt_of_lt_of_le A5.lt fr10_om)
        have g12 : n0 ≤ om_10 := Nat.le_trans Z8 fr10_om
        have sz13 : h0.size ≤ om_10 := Nat.le_trans K9.1 fr10_om
        have Z14 : n0 ≤ T10.heap.size := Nat.le_trans Z8 K10.1
        have K15 : Keep h0 T10.heap [] := K9.trans K10 (own_allC (Or.inr sz7) own_all0)
        show Go p.tables e below P T10 (mkF m 54 #[.val (.long qa), .second, .val (.long qb), .second, .val (.long qc), .second, .val (.int pi), .val (.int pm), .val (.int (0 : Int32)), .val (.int bt), .val (.long v2_0), .second, .val (.long v4_0), .second, .unset, .unset, .unset, .unset, .unset] [(.ref b5)])
        refine Go.via (fun t k => XS.astore Xh10.here hx rfl (hb hby at_54) rfl rfl (l' := #[.val (.long qa), .second, .val (.long qb), .second, .val (.long qc), .second, .val (.int pi), .val (.int pm), .val (.int (0 : Int32)), .val (.int bt), .val (.long v2_0), .second, .val (.long v4_0), .second, .val (.ref b5), .unset, .unset, .unset, .unset]) rfl k) ?_
        show Go p.tables e below P T10 (mkF m 56 #[.val (.long qa), .second, .val (.long qb), .second, .val (.long qc), .second, .val (.int pi), .val (.int pm), .val (.int (0 : Int32)), .val (.int bt), .val (.long v2_0), .second, .val (.long v4_0), .second, .val (.ref b5), .unset, .unset, .unset, .unset] [])
        refine Go.via (fun t k => XS.iload Xh10.here hx rfl (hb hby at_56) rfl k) ?_
        show Go p.tables e below P T10 (mkF m 58 #[.val (.long qa), .second, .val (.long qb), .second, .val (.long qc), .second, .val (.int pi), .val (.int pm), .val (.int (0 : Int32)), .val (.int bt), .val (.long v2_0), .second, .val (.long v4_0), .second, .val (.ref b5), .unset, .unset, .unset, .unset] [(.int (0 : Int32))])
        refine Go.via (fun t k => XS.iconst Xh10.here hx rfl (hb hby at_58) k) ?_
        show Go p.tables e below P T10 (mkF m 59 #[.val (.long qa), .second, .val (.long qb), .second, .val (.long qc), .second, .val (.int pi), .val (.int pm), .val (.int (0 : Int32)), .val (.int bt), .val (.long v2_0), .second, .val (.long v4_0), .second, .val (.ref b5), .unset, .unset, .unset, .unset] [(.int (1 : Int32)), (.int (0 : Int32))])
        refine Go.via (fun t k => XS.icmpYes Xh10.here hx rfl (pc0 := 59) (pc' := 68) rfl (hb hby at_59) rfl (tlt (by decide : (0 : Int32) < (1 : Int32))).1 (by decide) (by decide) k) ?_
        show Go p.tables e below P T10 (mkF m 68 #[.val (.long qa), .second, .val (.long qb), .second, .val (.long qc), .second, .val (.int pi), .val (.int pm), .val (.int (0 : Int32)), .val (.int bt), .val (.long v2_0), .second, .val (.long v4_0), .second, .val (.ref b5), .unset, .unset, .unset, .unset] [])
        refine Go.via (fun t k => XS.iload Xh10.here hx rfl (hb hby at_68) rfl k) ?_
        show Go p.tables e below P T10 (mkF m 70 #[.val (.long qa), .second, .val (.long qb), .second, .val (.long qc), .second, .val (.int pi), .val (.int pm), .val (.int (0 : Int32)), .val (.int bt), .val (.long v2_0), .second, .val (.long v4_0), .second, .val (.ref b5), .unset, .unset, .unset, .unset] [(.int (0 : Int32))])
        refine Go.via (fun t k => XS.iconst Xh10.here hx rfl (hb hby at_70) k) ?_
        show Go p.tables e below P T10 (mkF m 71 #[.val (.long qa), .second, .val (.long qb), .second, .val (.long qc), .second, .val (.int pi), .val (.int pm), .val (.int (0 : Int32)), .val (.int bt), .val (.long v2_0), .second, .val (.long v4_0), .second, .val (.ref b5), .unset, .unset, .unset, .unset] [(.int (2 : Int32)), (.int (0 : Int32))])
        refine Go.via (fun t k => XS.icmpYes Xh10.here hx rfl (pc0 := 71) (pc' := 81) rfl (hb hby at_71) rfl (tlt (by decide : (0 : Int32) < (2 : Int32))).1 (by decide) (by decide) k) ?_
        show Go p.tables e below P T10 (mkF m 81 #[.val (.long qa), .second, .val (.long qb), .second, .val (.long qc), .second, .val (.int pi), .val (.int pm), .val (.int (0 : Int32)), .val (.int bt), .val (.long v2_0), .second, .val (.long v4_0), .second, .val (.ref b5), .unset, .unset, .unset, .unset] [])
        refine Go.via (fun t k => XS.iload Xh10.here hx rfl (hb hby at_81) rfl k) ?_
        show Go p.tables e below P T10 (mkF m 83 #[.val (.long qa), .second, .val (.long qb), .second, .val (.long qc), .second, .val (.int pi), .val (.int pm), .val (.int (0 : Int32)), .val (.int bt), .val (.long v2_0), .second, .val (.long v4_0), .second, .val (.ref b5), .unset, .unset, .unset, .unset] [(.int (0 : Int32))])
        refine Go.via (fun t k => XS.iconst Xh10.here hx rfl (hb hby at_83) k) ?_
        show Go p.tables e below P T10 (mkF m 84 #[.val (.long qa), .second, .val (.long qb), .second, .val (.long qc), .second, .val (.int pi), .val (.int pm), .val (.int (0 : Int32)), .val (.int bt), .val (.long v2_0), .second, .val (.long v4_0), .second, .val (.ref b5), .unset, .unset, .unset, .unset] [(.int (3 : Int32)), (.int (0 : Int32))])
        refine Go.via (fun t k => XS.icmpYes Xh10.here hx rfl (pc0 := 84) (pc' := 94) rfl (hb hby at_84) rfl (tlt (by decide : (0 : Int32) < (3 : Int32))).1 (by decide) (by decide) k) ?_
        show Go p.tables e below P T10 (mkF m 94 #[.val (.long qa), .second, .val (.long qb), .second, .val (.long qc), .second, .val (.int pi), .val (.int pm), .val (.int (0 : Int32)), .val (.int bt), .val (.long v2_0), .second, .val (.long v4_0), .second, .val (.ref b5), .unset, .unset, .unset, .unset] [])
        refine Go.via (fun t k => XS.aload Xh10.here hx rfl (hb hby at_94) rfl rfl k) ?_
        show Go p.tables e below P T10 (mkF m 96 #[.val (.long qa), .second, .val (.long qb), .second, .val (.long qc), .second, .val (.int pi), .val (.int pm), .val (.int (0 : Int32)), .val (.int bt), .val (.long v2_0), .second, .val (.long v4_0), .second, .val (.ref b5), .unset, .unset, .unset, .unset] [(.ref b5)])
        obtain ⟨cq16, kq16, q16a, q16b, q16c⟩ := isOf hZ rfl u10_0
        obtain ⟨_, _, ⟨T16, L16, k16, n16⟩, -, X16, ⟨Lc16, hQ16, l16, y16, z16⟩, st16⟩ := Xh10.virtualBack hx (y := (⟨"com/example/criba/criba/model/MinhashAccumulator", "fingerprint", "()J"⟩ : MethodName)) (z := (⟨"com/example/criba/criba/model/MinhashAccumulator", "fingerprint", "()J"⟩ : MethodName)) hown (mvT hZ (hw _ (List.mem_of_getElem? (i := 38) rfl))) (mvT hZ (hw _ (List.mem_of_getElem? (i := 39) rfl))) (notFace_of_selects (args := #[]) (mvT hZ (hw _ (List.mem_of_getElem? (i := 41) rfl)))) (mvT hZ (hw _ (List.mem_of_getElem? (i := 41) rfl))) (mvT hZ (hw _ (List.mem_of_getElem? (i := 40) rfl))) (by decide) (backOf (W := 0) (rm8 l Z a0 hw [] b5 om_10 kk_10 (1 : Int32) own_x0 T10.heap n0 Z14 u10_1 u10_2 u10_3) hZ (hw _ (List.mem_of_getElem? (i := 42) rfl)) (hw _ (List.mem_of_getElem? (i := 2) rfl)) (by decide) (by decide)) q16a q16c (g := (mkF m 96 #[.val (.long qa), .second, .val (.long qb), .second, .val (.long qc), .second, .val (.int pi), .val (.int pm), .val (.int (0 : Int32)), .val (.int bt), .val (.long v2_0), .second, .val (.long v4_0), .second, .val (.ref b5), .unset, .unset, .unset, .unset] [(.ref b5)])) rfl (by rw [hml]; rfl) (Steps.refl _) (argsL := []) (rest := []) (lenOf own_pd6 rfl) rfl (by show 2 * 0 + _ ≤ _; exact Nat.le_of_eq rfl) (hb hby at_96) (fun _ _ => ⟨rfl, rfl, (by decide : 2 + 0 ≤ _), (by decide : 194 + 0 ≤ _)⟩)
        dsimp only [Pt.U, Pt.locs, Pt.cells, Pt.slots] at X16 l16 y16 z16 st16 hQ16
        subst l16 y16 z16
        obtain ⟨rfl, Nq16, hh16⟩ := hQ16
        obtain ⟨lc16, Xh16, N16⟩ := own_hide X16 (Fr.app N10 Nq16)
        clear X16
        refine Go.hop st16 ?_
        show Go p.tables e below P T16 (mkF m 99 #[.val (.long qa), .second, .val (.long qb), .second, .val (.long qc), .second, .val (.int pi), .val (.int pm), .val (.int (0 : Int32)), .val (.int bt), .val (.long v2_0), .second, .val (.long v4_0), .second, .val (.ref b5), .unset, .unset, .unset, .unset] [(.long (if (1 : Int32) = (0 : Int32) then own_fp own_x0 192 else (0 : Int64)))])
        refine Go.via (fun t k => XS.lstore Xh16.here hx rfl (hb hby at_99) rfl (l' := #[.val (.long qa), .second, .val (.long qb), .second, .val (.long qc), .second, .val (.int pi), .val (.int pm), .val (.int (0 : Int32)), .val (.int bt), .val (.long v2_0), .second, .val (.long v4_0), .second, .val (.ref b5), .val (.long (if (1 : Int32) = (0 : Int32) then own_fp own_x0 192 else (0 : Int64))), .second, .unset, .unset]) rfl k) ?_
        show Go p.tables e below P T16 (mkF m 101 #[.val (.long qa), .second, .val (.long qb), .second, .val (.long qc), .second, .val (.int pi), .val (.int pm), .val (.int (0 : Int32)), .val (.int bt), .val (.long v2_0), .second, .val (.long v4_0), .second, .val (.ref b5), .val (.long (if (1 : Int32) = (0 : Int32) then own_fp own_x0 192 else (0 : Int64))), .second, .unset, .unset] [])
        refine Go.via (fun t k => XS.iload Xh16.here hx rfl (hb hby at_101) rfl k) ?_
        show Go p.tables e below P T16 (mkF m 103 #[.val (.long qa), .second, .val (.long qb), .second, .val (.long qc), .second, .val (.int pi), .val (.int pm), .val (.int (0 : Int32)), .val (.int bt), .val (.long v2_0), .second, .val (.long v4_0), .second, .val (.ref b5), .val (.long (if (1 : Int32) = (0 : Int32) then own_fp own_x0 192 else (0 : Int64))), .second, .unset, .unset] [(.int (0 : Int32))])
        refine Go.via (fun t k => XS.ifNo Xh16.here hx rfl (hb hby at_103) rfl ((if0 _ _).trans (teq (rfl : (0 : Int32) = (0 : Int32))).2) k) ?_
        show Go p.tables e below P T16 (mkF m 106 #[.val (.long qa), .second, .val (.long qb), .second, .val (.long qc), .second, .val (.int pi), .val (.int pm), .val (.int (0 : Int32)), .val (.int bt), .val (.long v2_0), .second, .val (.long v4_0), .second, .val (.ref b5), .val (.long (if (1 : Int32) = (0 : Int32) then own_fp own_x0 192 else (0 : Int64))), .second, .unset, .unset] [])
        refine Go.via (fun t k => XS.lconst Xh16.here hx rfl (hb hby at_106) k) ?_
        show Go p.tables e below P T16 (mkF m 107 #[.val (.long qa), .second, .val (.long qb), .second, .val (.long qc), .second, .val (.int pi), .val (.int pm), .val (.int (0 : Int32)), .val (.int bt), .val (.long v2_0), .second, .val (.long v4_0), .second, .val (.ref b5), .val (.long (if (1 : Int32) = (0 : Int32) then own_fp own_x0 192 else (0 : Int64))), .second, .unset, .unset] [(.long (0 : Int64))])
        refine Go.via (fun t k => XS.lstore Xh16.here hx rfl (hb hby at_107) rfl (l' := #[.val (.long qa), .second, .val (.long qb), .second, .val (.long qc), .second, .val (.int pi), .val (.int pm), .val (.int (0 : Int32)), .val (.int bt), .val (.long v2_0), .second, .val (.long v4_0), .second, .val (.ref b5), .val (.long (if (1 : Int32) = (0 : Int32) then own_fp own_x0 192 else (0 : Int64))), .second, .val (.long (0 : Int64)), .second]) rfl k) ?_
        show Go p.tables e below P T16 (mkF m 109 #[.val (.long qa), .second, .val (.long qb), .second, .val (.long qc), .second, .val (.int pi), .val (.int pm), .val (.int (0 : Int32)), .val (.int bt), .val (.long v2_0), .second, .val (.long v4_0), .second, .val (.ref b5), .val (.long (if (1 : Int32) = (0 : Int32) then own_fp own_x0 192 else (0 : Int64))), .second, .val (.long (0 : Int64)), .second] [])
        refine Go.via (fun t k => XS.goto Xh16.here hx rfl (pc0 := 109) (pc' := 163) rfl (hb hby at_109) (by decide) (by decide) k) ?_
        show Go p.tables e below P T16 (mkF m 163 #[.val (.long qa), .second, .val (.long qb), .second, .val (.long qc), .second, .val (.int pi), .val (.int pm), .val (.int (0 : Int32)), .val (.int bt), .val (.long v2_0), .second, .val (.long v4_0), .second, .val (.ref b5), .val (.long (if (1 : Int32) = (0 : Int32) then own_fp own_x0 192 else (0 : Int64))), .second, .val (.long (0 : Int64)), .second] [])
        refine Go.via (fun t k => XS.lload Xh16.here hx rfl (hb hby at_163) rfl k) ?_
        show Go p.tables e below P T16 (mkF m 165 #[.val (.long qa), .second, .val (.long qb), .second, .val (.long qc), .second, .val (.int pi), .val (.int pm), .val (.int (0 : Int32)), .val (.int bt), .val (.long v2_0), .second, .val (.long v4_0), .second, .val (.ref b5), .val (.long (if (1 : Int32) = (0 : Int32) then own_fp own_x0 192 else (0 : Int64))), .second, .val (.long (0 : Int64)), .second] [(.long (if (1 : Int32) = (0 : Int32) then own_fp own_x0 192 else (0 : Int64)))])
        refine Go.via (fun t k => XS.iload Xh16.here hx rfl (hb hby at_165) rfl k) ?_
        show Go p.tables e below P T16 (mkF m 167 #[.val (.long qa), .second, .val (.long qb), .second, .val (.long qc), .second, .val (.int pi), .val (.int pm), .val (.int (0 : Int32)), .val (.int bt), .val (.long v2_0), .second, .val (.long v4_0), .second, .val (.ref b5), .val (.long (if (1 : Int32) = (0 : Int32) then own_fp own_x0 192 else (0 : Int64))), .second, .val (.long (0 : Int64)), .second] [(.int bt), (.long (if (1 : Int32) = (0 : Int32) then own_fp own_x0 192 else (0 : Int64)))])
        refine Go.via (fun t k => XS.lushr Xh16.here hx rfl (hb hby at_167) rfl k) ?_
        show Go p.tables e below P T16 (mkF m 168 #[.val (.long qa), .second, .val (.long qb), .second, .val (.long qc), .second, .val (.int pi), .val (.int pm), .val (.int (0 : Int32)), .val (.int bt), .val (.long v2_0), .second, .val (.long v4_0), .second, .val (.ref b5), .val (.long (if (1 : Int32) = (0 : Int32) then own_fp own_x0 192 else (0 : Int64))), .second, .val (.long (0 : Int64)), .second] [(.long (((if (1 : Int32) = (0 : Int32) then own_fp own_x0 192 else (0 : Int64)).toUInt64 >>> (bt &&& 0x3f).toInt64.toUInt64).toInt64))])
        refine Go.via (fun t k => XS.lconst Xh16.here hx rfl (hb hby at_168) k) ?_
        show Go p.tables e below P T16 (mkF m 169 #[.val (.long qa), .second, .val (.long qb), .second, .val (.long qc), .second, .val (.int pi), .val (.int pm), .val (.int (0 : Int32)), .val (.int bt), .val (.long v2_0), .second, .val (.long v4_0), .second, .val (.ref b5), .val (.long (if (1 : Int32) = (0 : Int32) then own_fp own_x0 192 else (0 : Int64))), .second, .val (.long (0 : Int64)), .second] [(.long (1 : Int64)), (.long (((if (1 : Int32) = (0 : Int32) then own_fp own_x0 192 else (0 : Int64)).toUInt64 >>> (bt &&& 0x3f).toInt64.toUInt64).toInt64))])
        refine Go.via (fun t k => XS.land Xh16.here hx rfl (hb hby at_169) rfl k) ?_
        show Go p.tables e below P T16 (mkF m 170 #[.val (.long qa), .second, .val (.long qb), .second, .val (.long qc), .second, .val (.int pi), .val (.int pm), .val (.int (0 : Int32)), .val (.int bt), .val (.long v2_0), .second, .val (.long v4_0), .second, .val (.ref b5), .val (.long (if (1 : Int32) = (0 : Int32) then own_fp own_x0 192 else (0 : Int64))), .second, .val (.long (0 : Int64)), .second] [(.long ((((if (1 : Int32) = (0 : Int32) then own_fp own_x0 192 else (0 : Int64)).toUInt64 >>> (bt &&& 0x3f).toInt64.toUInt64).toInt64) &&& (1 : Int64)))])
        refine Go.via (fun t k => XS.lload Xh16.here hx rfl (hb hby at_170) rfl k) ?_
        show Go p.tables e below P T16 (mkF m 172 #[.val (.long qa), .second, .val (.long qb), .second, .val (.long qc), .second, .val (.int pi), .val (.int pm), .val (.int (0 : Int32)), .val (.int bt), .val (.long v2_0), .second, .val (.long v4_0), .second, .val (.ref b5), .val (.long (if (1 : Int32) = (0 : Int32) then own_fp own_x0 192 else (0 : Int64))), .second, .val (.long (0 : Int64)), .second] [(.long (0 : Int64)), (.long ((((if (1 : Int32) = (0 : Int32) then own_fp own_x0 192 else (0 : Int64)).toUInt64 >>> (bt &&& 0x3f).toInt64.toUInt64).toInt64) &&& (1 : Int64)))])
        refine Go.via (fun t k => XS.lcmp Xh16.here hx rfl (hb hby at_172) rfl k) ?_
        show Go p.tables e below P T16 (mkF m 173 #[.val (.long qa), .second, .val (.long qb), .second, .val (.long qc), .second, .val (.int pi), .val (.int pm), .val (.int (0 : Int32)), .val (.int bt), .val (.long v2_0), .second, .val (.long v4_0), .second, .val (.ref b5), .val (.long (if (1 : Int32) = (0 : Int32) then own_fp own_x0 192 else (0 : Int64))), .second, .val (.long (0 : Int64)), .second] [(.int (lcmpW ((((if (1 : Int32) = (0 : Int32) then own_fp own_x0 192 else (0 : Int64)).toUInt64 >>> (bt &&& 0x3f).toInt64.toUInt64).toInt64) &&& (1 : Int64)) (0 : Int64)))])
        refine Go.via (fun t k => XS.ifNo Xh16.here hx rfl (hb hby at_173) rfl ((if0 _ _).trans (teq ((lw_eq _ _).mpr (own_law0 qa v2_0 v4_0 hb64 hbt'))).2) k) ?_
        show Go p.tables e below P T16 (mkF m 176 #[.val (.long qa), .second, .val (.long qb), .second, .val (.long qc), .second, .val (.int pi), .val (.int pm), .val (.int (0 : Int32)), .val (.int bt), .val (.long v2_0), .second, .val (.long v4_0), .second, .val (.ref b5), .val (.long (if (1 : Int32) = (0 : Int32) then own_fp own_x0 192 else (0 : Int64))), .second, .val (.long (0 : Int64)), .second] [])
        refine Go.via (fun t k => XS.iconst Xh16.here hx rfl (hb hby at_176) k) ?_
        show Go p.tables e below P T16 (mkF m 177 #[.val (.long qa), .second, .val (.long qb), .second, .val (.long qc), .second, .val (.int pi), .val (.int pm), .val (.int (0 : Int32)), .val (.int bt), .val (.long v2_0), .second, .val (.long v4_0), .second, .val (.ref b5), .val (.long (if (1 : Int32) = (0 : Int32) then own_fp own_x0 192 else (0 : Int64))), .second, .val (.long (0 : Int64)), .second] [(.int (1 : Int32))])
        refine Go.via (fun t k => XS.goto Xh16.here hx rfl (pc0 := 177) (pc' := 181) rfl (hb hby at_177) (by decide) (by decide) k) ?_
        show Go p.tables e below P T16 (mkF m 181 #[.val (.long qa), .second, .val (.long qb), .second, .val (.long qc), .second, .val (.int pi), .val (.int pm), .val (.int (0 : Int32)), .val (.int bt), .val (.long v2_0), .second, .val (.long v4_0), .second, .val (.ref b5), .val (.long (if (1 : Int32) = (0 : Int32) then own_fp own_x0 192 else (0 : Int64))), .second, .val (.long (0 : Int64)), .second] [(.int (1 : Int32))])
        obtain ⟨fs, hr, hrun, hended, hW, hsame⟩ := Xh16.leave (v := some (.int (1 : Int32))) (fun h => by rw [Bd.returns] at h; cases h)
        refine ⟨_, _, retZ Xh16 hx (t := .boolean) Bd.returns (by simp) (hb hby at_181) rfl hr, hrun, hended, hP _ _ ⟨_, _, rfl, ?_, ⟨_, rfl⟩, hW, hsame.mono (by decide) (by decide)⟩⟩
        show Q0 Z qa qb qc pi pm h0 n0 _ T16.heap _
        rw [hh16]
        exact ⟨rfl, N16⟩
      · rw [c1]
        show Go p.tables e below P T4 (mkF m 47 #[.val (.long qa), .second, .val (.long qb), .second, .val (.long qc), .second, .val (.int pi), .val (.int pm), .val (.int (1 : Int32)), .val (.int bt), .val (.long v2_0), .second, .val (.long v4_0), .second, .unset, .unset, .unset, .unset, .unset] [])
        obtain ⟨T18, h18, X18, e18, E18, A18, D18, -, st18⟩ := newO X4 hx hZ hown (hw _ (List.mem_of_getElem? (i := 0) rfl)) (hw _ (List.mem_of_getElem? (i := 1) rfl)) (hw _ (List.mem_of_getElem? (i := 2) rfl)) e4 (g := (mkF m 47 #[.val (.long qa), .second, .val (.long qb), .second, .val (.long qc), .second, .val (.int pi), .val (.int pm), .val (.int (1 : Int32)), .val (.int bt), .val (.long v2_0), .second, .val (.long v4_0), .second, .unset, .unset, .unset, .unset, .unset] [])) rfl (hb hby at_47) (by decide) (by decide)
        obtain ⟨b18, g18⟩ : ∃ z, z = h0.size := ⟨_, rfl⟩
        rw [← g18] at A18 D18 st18
        refine Go.via st18 ?_
        have g19 : n0 ≤ b18 := Nat.le_trans Z0 (Nat.le_of_eq g18.symm)
        have sz20 : h0.size ≤ b18 := Nat.le_trans K0.1 (Nat.le_of_eq g18.symm)
        have Z21 : n0 ≤ h18.size := Nat.le_trans Z0 E18.1
        have K22 : Keep h0 h18 [] := K0.ext E18
        show Go p.tables e below P T18 (mkF m 50 #[.val (.long qa), .second, .val (.long qb), .second, .val (.long qc), .second, .val (.int pi), .val (.int pm), .val (.int (1 : Int32)), .val (.int bt), .val (.long v2_0), .second, .val (.long v4_0), .second, .unset, .unset, .unset, .unset, .unset] [(.ref b18)])
        refine Go.via (fun t k => XS.dup X18.here hx rfl (hb hby at_50) rfl rfl k) ?_
        show Go p.tables e below P T18 (mkF m 51 #[.val (.long qa), .second, .val (.long qb), .second, .val (.long qc), .second, .val (.int pi), .val (.int pm), .val (.int (1 : Int32)), .val (.int bt), .val (.long v2_0), .second, .val (.long v4_0), .second, .unset, .unset, .unset, .unset, .unset] [(.ref b18), (.ref b18)])
        obtain ⟨_, _, ⟨T23, L23, k23, n23⟩, -, X23, ⟨Lc23, hQ23, l23, y23, z23⟩, st23⟩ := X18.specialBack hx (y := (⟨"com/example/criba/criba/model/MinhashAccumulator", "<init>", "()V"⟩ : MethodName)) rfl hown (mvT hZ (hw _ (List.mem_of_getElem? (i := 3) rfl))) (mvT hZ (hw _ (List.mem_of_getElem? (i := 4) rfl))) (mvT hZ (hw _ (List.mem_of_getElem? (i := 5) rfl))) (by decide) (backOf (W := 1) (rm1 l Z a0 hw [] b18 h18 n0 Z21 A18 (D18 (Or.inr (hw _ (List.mem_of_getElem? (i := 11) rfl))) (ty := (.array .long)) (by decide) : Fld Z h18 b18 "com/example/criba/criba/model/MinhashAccumulator" "minima" "[J" .null) (D18 (Or.inl (hw _ (List.mem_of_getElem? (i := 13) rfl))) (ty := .boolean) (by decide) : Fld Z h18 b18 "com/example/criba/criba/model/MinhashAccumulator" "empty" "Z" (.int (0 : Int32))) g19) hZ (hw _ (List.mem_of_getElem? (i := 5) rfl)) (hw _ (List.mem_of_getElem? (i := 2) rfl)) (by decide) (by decide)) (g := (mkF m 51 #[.val (.long qa), .second, .val (.long qb), .second, .val (.long qc), .second, .val (.int pi), .val (.int pm), .val (.int (1 : Int32)), .val (.int bt), .val (.long v2_0), .second, .val (.long v4_0), .second, .unset, .unset, .unset, .unset, .unset] [(.ref b18), (.ref b18)])) rfl (by rw [hml]; rfl) (Steps.refl _) (a := b18) (argsL := []) (rest := [(.ref b18)]) (lenOf own_pd5 rfl) rfl (by show 2 * 0 + _ ≤ _; exact Nat.le_of_eq rfl) (hb hby at_51) (fun _ _ => ⟨rfl, e18, (by decide : 1 + 1 ≤ _), (by decide : 2 + 192 ≤ _)⟩)
        dsimp only [Pt.U, Pt.locs, Pt.cells, Pt.slots] at X23 l23 y23 z23 st23 hQ23
        subst l23 y23 z23
        obtain ⟨om_23, kk_23, rfl, Nq23, K23, fr23_om, u23_0, u23_1, u23_2, u23_3, u23_4⟩ := hQ23
        obtain ⟨lc23, Xh23, N23⟩ := own_hide X23 (Fr.app N4 Nq23)
        clear X23
        refine Go.hop st23 ?_
        have ne24 : b18 ≠ om_23 := Nat.ne_of_lt (Nat.lt_of_lt_of_le A18.lt fr23_om)
        have g25 : n0 ≤ om_23 := Nat.le_trans Z21 fr23_om
        have sz26 : h0.size ≤ om_23 := Nat.le_trans K22.1 fr23_om
        have Z27 : n0 ≤ T23.heap.size := Nat.le_trans Z21 K23.1
        have K28 : Keep h0 T23.heap [] := K22.trans K23 (own_allC (Or.inr sz20) own_all0)
        show Go p.tables e below P T23 (mkF m 54 #[.val (.long qa), .second, .val (.long qb), .second, .val (.long qc), .second, .val (.int pi), .val (.int pm), .val (.int (1 : Int32)), .val (.int bt), .val (.long v2_0), .second, .val (.long v4_0), .second, .unset, .unset, .unset, .unset, .unset] [(.ref b18)])
        refine Go.via (fun t k => XS.astore Xh23.here hx rfl (hb hby at_54) rfl rfl (l' := #[.val (.long qa), .second, .val (.long qb), .second, .val (.long qc), .second, .val (.int pi), .val (.int pm), .val (.int (1 : Int32)), .val (.int bt), .val (.long v2_0), .second, .val (.long v4_0), .second, .val (.ref b18), .unset, .unset, .unset, .unset]) rfl k) ?_
        show Go p.tables e below P T23 (mkF m 56 #[.val (.long qa), .second, .val (.long qb), .second, .val (.long qc), .second, .val (.int pi), .val (.int pm), .val (.int (1 : Int32)), .val (.int bt), .val (.long v2_0), .second, .val (.long v4_0), .second, .val (.ref b18), .unset, .unset, .unset, .unset] [])
        refine Go.via (fun t k => XS.iload Xh23.here hx rfl (hb hby at_56) rfl k) ?_
        show Go p.tables e below P T23 (mkF m 58 #[.val (.long qa), .second, .val (.long qb), .second, .val (.long qc), .second, .val (.int pi), .val (.int pm), .val (.int (1 : Int32)), .val (.int bt), .val (.long v2_0), .second, .val (.long v4_0), .second, .val (.ref b18), .unset, .unset, .unset, .unset] [(.int (1 : Int32))])
        refine Go.via (fun t k => XS.iconst Xh23.here hx rfl (hb hby at_58) k) ?_
        show Go p.tables e below P T23 (mkF m 59 #[.val (.long qa), .second, .val (.long qb), .second, .val (.long qc), .second, .val (.int pi), .val (.int pm), .val (.int (1 : Int32)), .val (.int bt), .val (.long v2_0), .second, .val (.long v4_0), .second, .val (.ref b18), .unset, .unset, .unset, .unset] [(.int (1 : Int32)), (.int (1 : Int32))])
        refine Go.via (fun t k => XS.icmpNo Xh23.here hx rfl (hb hby at_59) rfl (flt (by decide : ¬ ((1 : Int32) < (1 : Int32)))).1 k) ?_
        show Go p.tables e below P T23 (mkF m 62 #[.val (.long qa), .second, .val (.long qb), .second, .val (.long qc), .second, .val (.int pi), .val (.int pm), .val (.int (1 : Int32)), .val (.int bt), .val (.long v2_0), .second, .val (.long v4_0), .second, .val (.ref b18), .unset, .unset, .unset, .unset] [])
        refine Go.via (fun t k => XS.aload Xh23.here hx rfl (hb hby at_62) rfl rfl k) ?_
        show Go p.tables e below P T23 (mkF m 64 #[.val (.long qa), .second, .val (.long qb), .second, .val (.long qc), .second, .val (.int pi), .val (.int pm), .val (.int (1 : Int32)), .val (.int bt), .val (.long v2_0), .second, .val (.long v4_0), .second, .val (.ref b18), .unset, .unset, .unset, .unset] [(.ref b18)])
        refine Go.via (fun t k => XS.lloadN Xh23.here hx rfl (hb hby at_64) rfl k) ?_
        show Go p.tables e below P T23 (mkF m 65 #[.val (.long qa), .second, .val (.long qb), .second, .val (.long qc), .second, .val (.int pi), .val (.int pm), .val (.int (1 : Int32)), .val (.int bt), .val (.long v2_0), .second, .val (.long v4_0), .second, .val (.ref b18), .unset, .unset, .unset, .unset] [(.long qa), (.ref b18)])
        obtain ⟨cq29, kq29, q29a, q29b, q29c⟩ := isOf hZ rfl u23_0
        obtain ⟨_, _, ⟨T29, L29, k29, n29⟩, -, X29, ⟨Lc29, hQ29, l29, y29, z29⟩, st29⟩ := Xh23.virtualBack hx (y := (⟨"com/example/criba/criba/model/MinhashAccumulator", "add", "(J)V"⟩ : MethodName)) (z := (⟨"com/example/criba/criba/model/MinhashAccumulator", "add", "(J)V"⟩ : MethodName)) hown (mvT hZ (hw _ (List.mem_of_getElem? (i := 19) rfl))) (mvT hZ (hw _ (List.mem_of_getElem? (i := 20) rfl))) (notFace_of_selects (args := #[]) (mvT hZ (hw _ (List.mem_of_getElem? (i := 22) rfl)))) (mvT hZ (hw _ (List.mem_of_getElem? (i := 22) rfl))) (mvT hZ (hw _ (List.mem_of_getElem? (i := 21) rfl))) (by decide) (backOf (W := 0) (rm4 l Z a0 hw [] b18 qa om_23 kk_23 (1 : Int32) own_x0 T23.heap n0 Z27 u23_0 u23_1 u23_2 u23_3 (by simp only [own_upd_len, own_x0_len]) g19 g25 ne24) hZ (hw _ (List.mem_of_getElem? (i := 23) rfl)) (hw _ (List.mem_of_getElem? (i := 2) rfl)) (by decide) (by decide)) q29a q29c (g := (mkF m 65 #[.val (.long qa), .second, .val (.long qb), .second, .val (.long qc), .second, .val (.int pi), .val (.int pm), .val (.int (1 : Int32)), .val (.int bt), .val (.long v2_0), .second, .val (.long v4_0), .second, .val (.ref b18), .unset, .unset, .unset, .unset] [(.long qa), (.ref b18)])) rfl (by rw [hml]; rfl) (Steps.refl _) (argsL := [(.long qa)]) (rest := []) (lenOf own_pd7 rfl) rfl (by show 2 * 0 + _ ≤ _; exact Nat.le_of_eq rfl) (hb hby at_65) (fun _ _ => ⟨rfl, rfl, (by decide : 2 + 0 ≤ _), (by decide : 194 + 0 ≤ _)⟩)
        dsimp only [Pt.U, Pt.locs, Pt.cells, Pt.slots] at X29 l29 y29 z29 st29 hQ29
        subst l29 y29 z29
        obtain ⟨rfl, Nq29, K29, u29_0, u29_1, u29_2, u29_3⟩ := hQ29
        obtain ⟨lc29, Xh29, N29⟩ := own_hide X29 (Fr.app N23 Nq29)
        clear X29
        refine Go.hop st29 ?_
        have Z30 : n0 ≤ T29.heap.size := Nat.le_trans Z27 K29.1
        have K31 : Keep h0 T29.heap [] := K28.trans K29 (own_allC (Or.inr sz20) (own_allC (Or.inr sz26) own_all0))
        show Go p.tables e below P T29 (mkF m 68 #[.val (.long qa), .second, .val (.long qb), .second, .val (.long qc), .second, .val (.int pi), .val (.int pm), .val (.int (1 : Int32)), .val (.int bt), .val (.long v2_0), .second, .val (.long v4_0), .second, .val (.ref b18), .unset, .unset, .unset, .unset] [])
        refine Go.via (fun t k => XS.iload Xh29.here hx rfl (hb hby at_68) rfl k) ?_
        show Go p.tables e below P T29 (mkF m 70 #[.val (.long qa), .second, .val (.long qb), .second, .val (.long qc), .second, .val (.int pi), .val (.int pm), .val (.int (1 : Int32)), .val (.int bt), .val (.long v2_0), .second, .val (.long v4_0), .second, .val (.ref b18), .unset, .unset, .unset, .unset] [(.int (1 : Int32))])
        refine Go.via (fun t k => XS.iconst Xh29.here hx rfl (hb hby at_70) k) ?_
        show Go p.tables e below P T29 (mkF m 71 #[.val (.long qa), .second, .val (.long qb), .second, .val (.long qc), .second, .val (.int pi), .val (.int pm), .val (.int (1 : Int32)), .val (.int bt), .val (.long v2_0), .second, .val (.long v4_0), .second, .val (.ref b18), .unset, .unset, .unset, .unset] [(.int (2 : Int32)), (.int (1 : Int32))])
        refine Go.via (fun t k => XS.icmpYes Xh29.here hx rfl (pc0 := 71) (pc' := 81) rfl (hb hby at_71) rfl (tlt (by decide : (1 : Int32) < (2 : Int32))).1 (by decide) (by decide) k) ?_
        show Go p.tables e below P T29 (mkF m 81 #[.val (.long qa), .second, .val (.long qb), .second, .val (.long qc), .second, .val (.int pi), .val (.int pm), .val (.int (1 : Int32)), .val (.int bt), .val (.long v2_0), .second, .val (.long v4_0), .second, .val (.ref b18), .unset, .unset, .unset, .unset] [])
        refine Go.via (fun t k => XS.iload Xh29.here hx rfl (hb hby at_81) rfl k) ?_
        show Go p.tables e below P T29 (mkF m 83 #[.val (.long qa), .second, .val (.long qb), .second, .val (.long qc), .second, .val (.int pi), .val (.int pm), .val (.int (1 : Int32)), .val (.int bt), .val (.long v2_0), .second, .val (.long v4_0), .second, .val (.ref b18), .unset, .unset, .unset, .unset] [(.int (1 : Int32))])
        refine Go.via (fun t k => XS.iconst Xh29.here hx rfl (hb hby at_83) k) ?_
        show Go p.tables e below P T29 (mkF m 84 #[.val (.long qa), .second, .val (.long qb), .second, .val (.long qc), .second, .val (.int pi), .val (.int pm), .val (.int (1 : Int32)), .val (.int bt), .val (.long v2_0), .second, .val (.long v4_0), .second, .val (.ref b18), .unset, .unset, .unset, .unset] [(.int (3 : Int32)), (.int (1 : Int32))])
        refine Go.via (fun t k => XS.icmpYes Xh29.here hx rfl (pc0 := 84) (pc' := 94) rfl (hb hby at_84) rfl (tlt (by decide : (1 : Int32) < (3 : Int32))).1 (by decide) (by decide) k) ?_
        show Go p.tables e below P T29 (mkF m 94 #[.val (.long qa), .second, .val (.long qb), .second, .val (.long qc), .second, .val (.int pi), .val (.int pm), .val (.int (1 : Int32)), .val (.int bt), .val (.long v2_0), .second, .val (.long v4_0), .second, .val (.ref b18), .unset, .unset, .unset, .unset] [])
        refine Go.via (fun t k => XS.aload Xh29.here hx rfl (hb hby at_94) rfl rfl k) ?_
        show Go p.tables e below P T29 (mkF m 96 #[.val (.long qa), .second, .val (.long qb), .second, .val (.long qc), .second, .val (.int pi), .val (.int pm), .val (.int (1 : Int32)), .val (.int bt), .val (.long v2_0), .second, .val (.long v4_0), .second, .val (.ref b18), .unset, .unset, .unset, .unset] [(.ref b18)])
        obtain ⟨cq32, kq32, q32a, q32b, q32c⟩ := isOf hZ rfl u29_0
        obtain ⟨_, _, ⟨T32, L32, k32, n32⟩, -, X32, ⟨Lc32, hQ32, l32, y32, z32⟩, st32⟩ := Xh29.virtualBack hx (y := (⟨"com/example/criba/criba/model/MinhashAccumulator", "fingerprint", "()J"⟩ : MethodName)) (z := (⟨"com/example/criba/criba/model/MinhashAccumulator", "fingerprint", "()J"⟩ : MethodName)) hown (mvT hZ (hw _ (List.mem_of_getElem? (i := 38) rfl))) (mvT hZ (hw _ (List.mem_of_getElem? (i := 39) rfl))) (notFace_of_selects (args := #[]) (mvT hZ (hw _ (List.mem_of_getElem? (i := 41) rfl)))) (mvT hZ (hw _ (List.mem_of_getElem? (i := 41) rfl))) (mvT hZ (hw _ (List.mem_of_getElem? (i := 40) rfl))) (by decide) (backOf (W := 0) (rm8 l Z a0 hw [] b18 om_23 kk_23 (0 : Int32) (own_upd qa own_x0 192) T29.heap n0 Z30 u29_1 u29_2 u29_3) hZ (hw _ (List.mem_of_getElem? (i := 42) rfl)) (hw _ (List.mem_of_getElem? (i := 2) rfl)) (by decide) (by decide)) q32a q32c (g := (mkF m 96 #[.val (.long qa), .second, .val (.long qb), .second, .val (.long qc), .second, .val (.int pi), .val (.int pm), .val (.int (1 : Int32)), .val (.int bt), .val (.long v2_0), .second, .val (.long v4_0), .second, .val (.ref b18), .unset, .unset, .unset, .unset] [(.ref b18)])) rfl (by rw [hml]; rfl) (Steps.refl _) (argsL := []) (rest := []) (lenOf own_pd6 rfl) rfl (by show 2 * 0 + _ ≤ _; exact Nat.le_of_eq rfl) (hb hby at_96) (fun _ _ => ⟨rfl, rfl, (by decide : 2 + 0 ≤ _), (by decide : 194 + 0 ≤ _)⟩)
        dsimp only [Pt.U, Pt.locs, Pt.cells, Pt.slots] at X32 l32 y32 z32 st32 hQ32
        subst l32 y32 z32
        obtain ⟨rfl, Nq32, hh32⟩ := hQ32
        obtain ⟨lc32, Xh32, N32⟩ := own_hide X32 (Fr.app N29 Nq32)
        clear X32
        refine Go.hop st32 ?_
        show Go p.tables e below P T32 (mkF m 99 #[.val (.long qa), .second, .val (.long qb), .second, .val (.long qc), .second, .val (.int pi), .val (.int pm), .val (.int (1 : Int32)), .val (.int bt), .val (.long v2_0), .second, .val (.long v4_0), .second, .val (.ref b18), .unset, .unset, .unset, .unset] [(.long (if (0 : Int32) = (0 : Int32) then own_fp (own_upd qa own_x0 192) 192 else (0 : Int64)))])
        refine Go.via (fun t k => XS.lstore Xh32.here hx rfl (hb hby at_99) rfl (l' := #[.val (.long qa), .second, .val (.long qb), .second, .val (.long qc), .second, .val (.int pi), .val (.int pm), .val (.int (1 : Int32)), .val (.int bt), .val (.long v2_0), .second, .val (.long v4_0), .second, .val (.ref b18), .val (.long (if (0 : Int32) = (0 : Int32) then own_fp (own_upd qa own_x0 192) 192 else (0 : Int64))), .second, .unset, .unset]) rfl k) ?_
        show Go p.tables e below P T32 (mkF m 101 #[.val (.long qa), .second, .val (.long qb), .second, .val (.long qc), .second, .val (.int pi), .val (.int pm), .val (.int (1 : Int32)), .val (.int bt), .val (.long v2_0), .second, .val (.long v4_0), .second, .val (.ref b18), .val (.long (if (0 : Int32) = (0 : Int32) then own_fp (own_upd qa own_x0 192) 192 else (0 : Int64))), .second, .unset, .unset] [])
        refine Go.via (fun t k => XS.iload Xh32.here hx rfl (hb hby at_101) rfl k) ?_
        show Go p.tables e below P T32 (mkF m 103 #[.val (.long qa), .second, .val (.long qb), .second, .val (.long qc), .second, .val (.int pi), .val (.int pm), .val (.int (1 : Int32)), .val (.int bt), .val (.long v2_0), .second, .val (.long v4_0), .second, .val (.ref b18), .val (.long (if (0 : Int32) = (0 : Int32) then own_fp (own_upd qa own_x0 192) 192 else (0 : Int64))), .second, .unset, .unset] [(.int (1 : Int32))])
        refine Go.via (fun t k => XS.ifYes Xh32.here hx rfl (pc0 := 103) (pc' := 112) rfl (hb hby at_103) rfl ((if0 _ _).trans (feq (by decide : ¬ ((1 : Int32) = (0 : Int32)))).2) (by decide) (by decide) k) ?_
        show Go p.tables e below P T32 (mkF m 112 #[.val (.long qa), .second, .val (.long qb), .second, .val (.long qc), .second, .val (.int pi), .val (.int pm), .val (.int (1 : Int32)), .val (.int bt), .val (.long v2_0), .second, .val (.long v4_0), .second, .val (.ref b18), .val (.long (if (0 : Int32) = (0 : Int32) then own_fp (own_upd qa own_x0 192) 192 else (0 : Int64))), .second, .unset, .unset] [])
        refine Go.via (fun t k => XS.lloadN Xh32.here hx rfl (hb hby at_112) rfl k) ?_
        show Go p.tables e below P T32 (mkF m 113 #[.val (.long qa), .second, .val (.long qb), .second, .val (.long qc), .second, .val (.int pi), .val (.int pm), .val (.int (1 : Int32)), .val (.int bt), .val (.long v2_0), .second, .val (.long v4_0), .second, .val (.ref b18), .val (.long (if (0 : Int32) = (0 : Int32) then own_fp (own_upd qa own_x0 192) 192 else (0 : Int64))), .second, .unset, .unset] [(.long qa)])
        refine Go.via (fun t k => XS.lload Xh32.here hx rfl (hb hby at_113) rfl k) ?_
        show Go p.tables e below P T32 (mkF m 115 #[.val (.long qa), .second, .val (.long qb), .second, .val (.long qc), .second, .val (.int pi), .val (.int pm), .val (.int (1 : Int32)), .val (.int bt), .val (.long v2_0), .second, .val (.long v4_0), .second, .val (.ref b18), .val (.long (if (0 : Int32) = (0 : Int32) then own_fp (own_upd qa own_x0 192) 192 else (0 : Int64))), .second, .unset, .unset] [(.long v2_0), (.long qa)])
        refine Go.via (fun t k => XS.lload Xh32.here hx rfl (hb hby at_115) rfl k) ?_
        show Go p.tables e below P T32 (mkF m 117 #[.val (.long qa), .second, .val (.long qb), .second, .val (.long qc), .second, .val (.int pi), .val (.int pm), .val (.int (1 : Int32)), .val (.int bt), .val (.long v2_0), .second, .val (.long v4_0), .second, .val (.ref b18), .val (.long (if (0 : Int32) = (0 : Int32) then own_fp (own_upd qa own_x0 192) 192 else (0 : Int64))), .second, .unset, .unset] [(.long v4_0), (.long v2_0), (.long qa)])
        refine Go.via (fun t k => XS.iload Xh32.here hx rfl (hb hby at_117) rfl k) ?_
        show Go p.tables e below P T32 (mkF m 119 #[.val (.long qa), .second, .val (.long qb), .second, .val (.long qc), .second, .val (.int pi), .val (.int pm), .val (.int (1 : Int32)), .val (.int bt), .val (.long v2_0), .second, .val (.long v4_0), .second, .val (.ref b18), .val (.long (if (0 : Int32) = (0 : Int32) then own_fp (own_upd qa own_x0 192) 192 else (0 : Int64))), .second, .unset, .unset] [(.int (1 : Int32)), (.long v4_0), (.long v2_0), (.long qa)])
        refine Go.via (fun t k => XS.iload Xh32.here hx rfl (hb hby at_119) rfl k) ?_
        show Go p.tables e below P T32 (mkF m 121 #[.val (.long qa), .second, .val (.long qb), .second, .val (.long qc), .second, .val (.int pi), .val (.int pm), .val (.int (1 : Int32)), .val (.int bt), .val (.long v2_0), .second, .val (.long v4_0), .second, .val (.ref b18), .val (.long (if (0 : Int32) = (0 : Int32) then own_fp (own_upd qa own_x0 192) 192 else (0 : Int64))), .second, .unset, .unset] [(.int bt), (.int (1 : Int32)), (.long v4_0), (.long v2_0), (.long qa)])
        refine Go.via (fun t k => XS.iconst Xh32.here hx rfl (hb hby at_121) k) ?_
        show Go p.tables e below P T32 (mkF m 122 #[.val (.long qa), .second, .val (.long qb), .second, .val (.long qc), .second, .val (.int pi), .val (.int pm), .val (.int (1 : Int32)), .val (.int bt), .val (.long v2_0), .second, .val (.long v4_0), .second, .val (.ref b18), .val (.long (if (0 : Int32) = (0 : Int32) then own_fp (own_upd qa own_x0 192) 192 else (0 : Int64))), .second, .unset, .unset] [(.int (1 : Int32)), (.int bt), (.int (1 : Int32)), (.long v4_0), (.long v2_0), (.long qa)])
        refine Go.via (fun t k => XS.iadd Xh32.here hx rfl (hb hby at_122) rfl k) ?_
        show Go p.tables e below P T32 (mkF m 123 #[.val (.long qa), .second, .val (.long qb), .second, .val (.long qc), .second, .val (.int pi), .val (.int pm), .val (.int (1 : Int32)), .val (.int bt), .val (.long v2_0), .second, .val (.long v4_0), .second, .val (.ref b18), .val (.long (if (0 : Int32) = (0 : Int32) then own_fp (own_upd qa own_x0 192) 192 else (0 : Int64))), .second, .unset, .unset] [(.int (bt + (1 : Int32))), (.int (1 : Int32)), (.long v4_0), (.long v2_0), (.long qa)])
        obtain ⟨_, _, ⟨T33, L33, k33, n33⟩, -, X33, ⟨Lc33, hQ33, l33, y33, z33⟩, st33⟩ := Jvm.LawKit.callS Xh32 hx (y := (⟨"com/example/criba/criba/model/MinhashAccumulatorFingerprintPinLaw", "minimum", "(JJJII)J"⟩ : MethodName)) hown (mvT hZ (hw _ (List.mem_of_getElem? (i := 43) rfl))) (mvT hZ (hw _ (List.mem_of_getElem? (i := 44) rfl))) (mvT hZ (hw _ (List.mem_of_getElem? (i := 45) rfl))) (mvT hZ (hw _ (List.mem_of_getElem? (i := 46) rfl))) (by decide) (backOf (W := 0) (rm9 l Z a0 hw [] qa v2_0 v4_0 (1 : Int32) (bt + (1 : Int32)) T29.heap n0 Z30 ) hZ (hw _ (List.mem_of_getElem? (i := 46) rfl)) (hw _ (List.mem_of_getElem? (i := 45) rfl)) (by decide) (by decide)) (g := (mkF m 123 #[.val (.long qa), .second, .val (.long qb), .second, .val (.long qc), .second, .val (.int pi), .val (.int pm), .val (.int (1 : Int32)), .val (.int bt), .val (.long v2_0), .second, .val (.long v4_0), .second, .val (.ref b18), .val (.long (if (0 : Int32) = (0 : Int32) then own_fp (own_upd qa own_x0 192) 192 else (0 : Int64))), .second, .unset, .unset] [(.int (bt + (1 : Int32))), (.int (1 : Int32)), (.long v4_0), (.long v2_0), (.long qa)])) rfl (by rw [hml]; rfl) (argsL := [(.long qa), (.long v2_0), (.long v4_0), (.int (1 : Int32)), (.int (bt + (1 : Int32)))]) (rest := []) (lenOf own_pd8 rfl) rfl (by show 2 * 0 + _ ≤ _; exact Nat.le_of_eq rfl) (hb hby at_123) (fun _ _ => ⟨rfl, hh32, (by decide : 2 + 0 ≤ _), (by decide : 194 + 0 ≤ _)⟩)
        dsimp only [Pt.U, Pt.locs, Pt.cells, Pt.slots] at X33 l33 y33 z33 st33 hQ33
        subst l33 y33 z33
        obtain ⟨rfl, Nq33, hh33⟩ := hQ33
        obtain ⟨lc33, Xh33, N33⟩ := own_hide X33 (Fr.app N32 Nq33)
        clear X33
        refine Go.via st33 ?_
        show Go p.tables e below P T33 (mkF m 126 #[.val (.long qa), .second, .val (.long qb), .second, .val (.long qc), .second, .val (.int pi), .val (.int pm), .val (.int (1 : Int32)), .val (.int bt), .val (.long v2_0), .second, .val (.long v4_0), .second, .val (.ref b18), .val (.long (if (0 : Int32) = (0 : Int32) then own_fp (own_upd qa own_x0 192) 192 else (0 : Int64))), .second, .unset, .unset] [(.long (own_min qa v2_0 v4_0 (1 : Int32) (bt + (1 : Int32))))])
        refine Go.via (fun t k => XS.lloadN Xh33.here hx rfl (hb hby at_126) rfl k) ?_
        show Go p.tables e below P T33 (mkF m 127 #[.val (.long qa), .second, .val (.long qb), .second, .val (.long qc), .second, .val (.int pi), .val (.int pm), .val (.int (1 : Int32)), .val (.int bt), .val (.long v2_0), .second, .val (.long v4_0), .second, .val (.ref b18), .val (.long (if (0 : Int32) = (0 : Int32) then own_fp (own_upd qa own_x0 192) 192 else (0 : Int64))), .second, .unset, .unset] [(.long qa), (.long (own_min qa v2_0 v4_0 (1 : Int32) (bt + (1 : Int32))))])
        refine Go.via (fun t k => XS.lload Xh33.here hx rfl (hb hby at_127) rfl k) ?_
        show Go p.tables e below P T33 (mkF m 129 #[.val (.long qa), .second, .val (.long qb), .second, .val (.long qc), .second, .val (.int pi), .val (.int pm), .val (.int (1 : Int32)), .val (.int bt), .val (.long v2_0), .second, .val (.long v4_0), .second, .val (.ref b18), .val (.long (if (0 : Int32) = (0 : Int32) then own_fp (own_upd qa own_x0 192) 192 else (0 : Int64))), .second, .unset, .unset] [(.long v2_0), (.long qa), (.long (own_min qa v2_0 v4_0 (1 : Int32) (bt + (1 : Int32))))])
        refine Go.via (fun t k => XS.lload Xh33.here hx rfl (hb hby at_129) rfl k) ?_
        show Go p.tables e below P T33 (mkF m 131 #[.val (.long qa), .second, .val (.long qb), .second, .val (.long qc), .second, .val (.int pi), .val (.int pm), .val (.int (1 : Int32)), .val (.int bt), .val (.long v2_0), .second, .val (.long v4_0), .second, .val (.ref b18), .val (.long (if (0 : Int32) = (0 : Int32) then own_fp (own_upd qa own_x0 192) 192 else (0 : Int64))), .second, .unset, .unset] [(.long v4_0), (.long v2_0), (.long qa), (.long (own_min qa v2_0 v4_0 (1 : Int32) (bt + (1 : Int32))))])
        refine Go.via (fun t k => XS.iload Xh33.here hx rfl (hb hby at_131) rfl k) ?_
        show Go p.tables e below P T33 (mkF m 133 #[.val (.long qa), .second, .val (.long qb), .second, .val (.long qc), .second, .val (.int pi), .val (.int pm), .val (.int (1 : Int32)), .val (.int bt), .val (.long v2_0), .second, .val (.long v4_0), .second, .val (.ref b18), .val (.long (if (0 : Int32) = (0 : Int32) then own_fp (own_upd qa own_x0 192) 192 else (0 : Int64))), .second, .unset, .unset] [(.int (1 : Int32)), (.long v4_0), (.long v2_0), (.long qa), (.long (own_min qa v2_0 v4_0 (1 : Int32) (bt + (1 : Int32))))])
        refine Go.via (fun t k => XS.iload Xh33.here hx rfl (hb hby at_133) rfl k) ?_
        show Go p.tables e below P T33 (mkF m 135 #[.val (.long qa), .second, .val (.long qb), .second, .val (.long qc), .second, .val (.int pi), .val (.int pm), .val (.int (1 : Int32)), .val (.int bt), .val (.long v2_0), .second, .val (.long v4_0), .second, .val (.ref b18), .val (.long (if (0 : Int32) = (0 : Int32) then own_fp (own_upd qa own_x0 192) 192 else (0 : Int64))), .second, .unset, .unset] [(.int bt), (.int (1 : Int32)), (.long v4_0), (.long v2_0), (.long qa), (.long (own_min qa v2_0 v4_0 (1 : Int32) (bt + (1 : Int32))))])
        refine Go.via (fun t k => XS.bipush Xh33.here hx rfl (hb hby at_135) k) ?_
        show Go p.tables e below P T33 (mkF m 137 #[.val (.long qa), .second, .val (.long qb), .second, .val (.long qc), .second, .val (.int pi), .val (.int pm), .val (.int (1 : Int32)), .val (.int bt), .val (.long v2_0), .second, .val (.long v4_0), .second, .val (.ref b18), .val (.long (if (0 : Int32) = (0 : Int32) then own_fp (own_upd qa own_x0 192) 192 else (0 : Int64))), .second, .unset, .unset] [(.int (65 : Int32)), (.int bt), (.int (1 : Int32)), (.long v4_0), (.long v2_0), (.long qa), (.long (own_min qa v2_0 v4_0 (1 : Int32) (bt + (1 : Int32))))])
        refine Go.via (fun t k => XS.iadd Xh33.here hx rfl (hb hby at_137) rfl k) ?_
        show Go p.tables e below P T33 (mkF m 138 #[.val (.long qa), .second, .val (.long qb), .second, .val (.long qc), .second, .val (.int pi), .val (.int pm), .val (.int (1 : Int32)), .val (.int bt), .val (.long v2_0), .second, .val (.long v4_0), .second, .val (.ref b18), .val (.long (if (0 : Int32) = (0 : Int32) then own_fp (own_upd qa own_x0 192) 192 else (0 : Int64))), .second, .unset, .unset] [(.int (bt + (65 : Int32))), (.int (1 : Int32)), (.long v4_0), (.long v2_0), (.long qa), (.long (own_min qa v2_0 v4_0 (1 : Int32) (bt + (1 : Int32))))])
        obtain ⟨_, _, ⟨T34, L34, k34, n34⟩, -, X34, ⟨Lc34, hQ34, l34, y34, z34⟩, st34⟩ := Jvm.LawKit.callS Xh33 hx (y := (⟨"com/example/criba/criba/model/MinhashAccumulatorFingerprintPinLaw", "minimum", "(JJJII)J"⟩ : MethodName)) hown (mvT hZ (hw _ (List.mem_of_getElem? (i := 43) rfl))) (mvT hZ (hw _ (List.mem_of_getElem? (i := 44) rfl))) (mvT hZ (hw _ (List.mem_of_getElem? (i := 45) rfl))) (mvT hZ (hw _ (List.mem_of_getElem? (i := 46) rfl))) (by decide) (backOf (W := 2) (rm9 l Z a0 hw [] qa v2_0 v4_0 (1 : Int32) (bt + (65 : Int32)) T29.heap n0 Z30 ) hZ (hw _ (List.mem_of_getElem? (i := 46) rfl)) (hw _ (List.mem_of_getElem? (i := 45) rfl)) (by decide) (by decide)) (g := (mkF m 138 #[.val (.long qa), .second, .val (.long qb), .second, .val (.long qc), .second, .val (.int pi), .val (.int pm), .val (.int (1 : Int32)), .val (.int bt), .val (.long v2_0), .second, .val (.long v4_0), .second, .val (.ref b18), .val (.long (if (0 : Int32) = (0 : Int32) then own_fp (own_upd qa own_x0 192) 192 else (0 : Int64))), .second, .unset, .unset] [(.int (bt + (65 : Int32))), (.int (1 : Int32)), (.long v4_0), (.long v2_0), (.long qa), (.long (own_min qa v2_0 v4_0 (1 : Int32) (bt + (1 : Int32))))])) rfl (by rw [hml]; rfl) (argsL := [(.long qa), (.long v2_0), (.long v4_0), (.int (1 : Int32)), (.int (bt + (65 : Int32)))]) (rest := [(.long (own_min qa v2_0 v4_0 (1 : Int32) (bt + (1 : Int32))))]) (lenOf own_pd8 rfl) rfl (by show 2 * 0 + _ ≤ _; exact Nat.le_of_eq rfl) (hb hby at_138) (fun _ _ => ⟨rfl, hh33, (by decide : 2 + 0 ≤ _), (by decide : 194 + 0 ≤ _)⟩)
        dsimp only [Pt.U, Pt.locs, Pt.cells, Pt.slots] at X34 l34 y34 z34 st34 hQ34
        subst l34 y34 z34
        obtain ⟨rfl, Nq34, hh34⟩ := hQ34
        obtain ⟨lc34, Xh34, N34⟩ := own_hide X34 (Fr.app N33 Nq34)
        clear X34
        refine Go.via st34 ?_
        show Go p.tables e below P T34 (mkF m 141 #[.val (.long qa), .second, .val (.long qb), .second, .val (.long qc), .second, .val (.int pi), .val (.int pm), .val (.int (1 : Int32)), .val (.int bt), .val (.long v2_0), .second, .val (.long v4_0), .second, .val (.ref b18), .val (.long (if (0 : Int32) = (0 : Int32) then own_fp (own_upd qa own_x0 192) 192 else (0 : Int64))), .second, .unset, .unset] [(.long (own_min qa v2_0 v4_0 (1 : Int32) (bt + (65 : Int32)))), (.long (own_min qa v2_0 v4_0 (1 : Int32) (bt + (1 : Int32))))])
        refine Go.via (fun t k => XS.lxor Xh34.here hx rfl (hb hby at_141) rfl k) ?_
        show Go p.tables e below P T34 (mkF m 142 #[.val (.long qa), .second, .val (.long qb), .second, .val (.long qc), .second, .val (.int pi), .val (.int pm), .val (.int (1 : Int32)), .val (.int bt), .val (.long v2_0), .second, .val (.long v4_0), .second, .val (.ref b18), .val (.long (if (0 : Int32) = (0 : Int32) then own_fp (own_upd qa own_x0 192) 192 else (0 : Int64))), .second, .unset, .unset] [(.long ((own_min qa v2_0 v4_0 (1 : Int32) (bt + (1 : Int32))) ^^^ (own_min qa v2_0 v4_0 (1 : Int32) (bt + (65 : Int32)))))])
        refine Go.via (fun t k => XS.lloadN Xh34.here hx rfl (hb hby at_142) rfl k) ?_
        show Go p.tables e below P T34 (mkF m 143 #[.val (.long qa), .second, .val (.long qb), .second, .val (.long qc), .second, .val (.int pi), .val (.int pm), .val (.int (1 : Int32)), .val (.int bt), .val (.long v2_0), .second, .val (.long v4_0), .second, .val (.ref b18), .val (.long (if (0 : Int32) = (0 : Int32) then own_fp (own_upd qa own_x0 192) 192 else (0 : Int64))), .second, .unset, .unset] [(.long qa), (.long ((own_min qa v2_0 v4_0 (1 : Int32) (bt + (1 : Int32))) ^^^ (own_min qa v2_0 v4_0 (1 : Int32) (bt + (65 : Int32)))))])
        refine Go.via (fun t k => XS.lload Xh34.here hx rfl (hb hby at_143) rfl k) ?_
        show Go p.tables e below P T34 (mkF m 145 #[.val (.long qa), .second, .val (.long qb), .second, .val (.long qc), .second, .val (.int pi), .val (.int pm), .val (.int (1 : Int32)), .val (.int bt), .val (.long v2_0), .second, .val (.long v4_0), .second, .val (.ref b18), .val (.long (if (0 : Int32) = (0 : Int32) then own_fp (own_upd qa own_x0 192) 192 else (0 : Int64))), .second, .unset, .unset] [(.long v2_0), (.long qa), (.long ((own_min qa v2_0 v4_0 (1 : Int32) (bt + (1 : Int32))) ^^^ (own_min qa v2_0 v4_0 (1 : Int32) (bt + (65 : Int32)))))])
        refine Go.via (fun t k => XS.lload Xh34.here hx rfl (hb hby at_145) rfl k) ?_
        show Go p.tables e below P T34 (mkF m 147 #[.val (.long qa), .second, .val (.long qb), .second, .val (.long qc), .second, .val (.int pi), .val (.int pm), .val (.int (1 : Int32)), .val (.int bt), .val (.long v2_0), .second, .val (.long v4_0), .second, .val (.ref b18), .val (.long (if (0 : Int32) = (0 : Int32) then own_fp (own_upd qa own_x0 192) 192 else (0 : Int64))), .second, .unset, .unset] [(.long v4_0), (.long v2_0), (.long qa), (.long ((own_min qa v2_0 v4_0 (1 : Int32) (bt + (1 : Int32))) ^^^ (own_min qa v2_0 v4_0 (1 : Int32) (bt + (65 : Int32)))))])
        refine Go.via (fun t k => XS.iload Xh34.here hx rfl (hb hby at_147) rfl k) ?_
        show Go p.tables e below P T34 (mkF m 149 #[.val (.long qa), .second, .val (.long qb), .second, .val (.long qc), .second, .val (.int pi), .val (.int pm), .val (.int (1 : Int32)), .val (.int bt), .val (.long v2_0), .second, .val (.long v4_0), .second, .val (.ref b18), .val (.long (if (0 : Int32) = (0 : Int32) then own_fp (own_upd qa own_x0 192) 192 else (0 : Int64))), .second, .unset, .unset] [(.int (1 : Int32)), (.long v4_0), (.long v2_0), (.long qa), (.long ((own_min qa v2_0 v4_0 (1 : Int32) (bt + (1 : Int32))) ^^^ (own_min qa v2_0 v4_0 (1 : Int32) (bt + (65 : Int32)))))])
        refine Go.via (fun t k => XS.iload Xh34.here hx rfl (hb hby at_149) rfl k) ?_
        show Go p.tables e below P T34 (mkF m 151 #[.val (.long qa), .second, .val (.long qb), .second, .val (.long qc), .second, .val (.int pi), .val (.int pm), .val (.int (1 : Int32)), .val (.int bt), .val (.long v2_0), .second, .val (.long v4_0), .second, .val (.ref b18), .val (.long (if (0 : Int32) = (0 : Int32) then own_fp (own_upd qa own_x0 192) 192 else (0 : Int64))), .second, .unset, .unset] [(.int bt), (.int (1 : Int32)), (.long v4_0), (.long v2_0), (.long qa), (.long ((own_min qa v2_0 v4_0 (1 : Int32) (bt + (1 : Int32))) ^^^ (own_min qa v2_0 v4_0 (1 : Int32) (bt + (65 : Int32)))))])
        refine Go.via (fun t k => XS.sipush Xh34.here hx rfl (hb hby at_151) k) ?_
        show Go p.tables e below P T34 (mkF m 154 #[.val (.long qa), .second, .val (.long qb), .second, .val (.long qc), .second, .val (.int pi), .val (.int pm), .val (.int (1 : Int32)), .val (.int bt), .val (.long v2_0), .second, .val (.long v4_0), .second, .val (.ref b18), .val (.long (if (0 : Int32) = (0 : Int32) then own_fp (own_upd qa own_x0 192) 192 else (0 : Int64))), .second, .unset, .unset] [(.int (129 : Int32)), (.int bt), (.int (1 : Int32)), (.long v4_0), (.long v2_0), (.long qa), (.long ((own_min qa v2_0 v4_0 (1 : Int32) (bt + (1 : Int32))) ^^^ (own_min qa v2_0 v4_0 (1 : Int32) (bt + (65 : Int32)))))])
        refine Go.via (fun t k => XS.iadd Xh34.here hx rfl (hb hby at_154) rfl k) ?_
        show Go p.tables e below P T34 (mkF m 155 #[.val (.long qa), .second, .val (.long qb), .second, .val (.long qc), .second, .val (.int pi), .val (.int pm), .val (.int (1 : Int32)), .val (.int bt), .val (.long v2_0), .second, .val (.long v4_0), .second, .val (.ref b18), .val (.long (if (0 : Int32) = (0 : Int32) then own_fp (own_upd qa own_x0 192) 192 else (0 : Int64))), .second, .unset, .unset] [(.int (bt + (129 : Int32))), (.int (1 : Int32)), (.long v4_0), (.long v2_0), (.long qa), (.long ((own_min qa v2_0 v4_0 (1 : Int32) (bt + (1 : Int32))) ^^^ (own_min qa v2_0 v4_0 (1 : Int32) (bt + (65 : Int32)))))])
        obtain ⟨_, _, ⟨T35, L35, k35, n35⟩, -, X35, ⟨Lc35, hQ35, l35, y35, z35⟩, st35⟩ := Jvm.LawKit.callS Xh34 hx (y := (⟨"com/example/criba/criba/model/MinhashAccumulatorFingerprintPinLaw", "minimum", "(JJJII)J"⟩ : MethodName)) hown (mvT hZ (hw _ (List.mem_of_getElem? (i := 43) rfl))) (mvT hZ (hw _ (List.mem_of_getElem? (i := 44) rfl))) (mvT hZ (hw _ (List.mem_of_getElem? (i := 45) rfl))) (mvT hZ (hw _ (List.mem_of_getElem? (i := 46) rfl))) (by decide) (backOf (W := 2) (rm9 l Z a0 hw [] qa v2_0 v4_0 (1 : Int32) (bt + (129 : Int32)) T29.heap n0 Z30 ) hZ (hw _ (List.mem_of_getElem? (i := 46) rfl)) (hw _ (List.mem_of_getElem? (i := 45) rfl)) (by decide) (by decide)) (g := (mkF m 155 #[.val (.long qa), .second, .val (.long qb), .second, .val (.long qc), .second, .val (.int pi), .val (.int pm), .val (.int (1 : Int32)), .val (.int bt), .val (.long v2_0), .second, .val (.long v4_0), .second, .val (.ref b18), .val (.long (if (0 : Int32) = (0 : Int32) then own_fp (own_upd qa own_x0 192) 192 else (0 : Int64))), .second, .unset, .unset] [(.int (bt + (129 : Int32))), (.int (1 : Int32)), (.long v4_0), (.long v2_0), (.long qa), (.long ((own_min qa v2_0 v4_0 (1 : Int32) (bt + (1 : Int32))) ^^^ (own_min qa v2_0 v4_0 (1 : Int32) (bt + (65 : Int32)))))])) rfl (by rw [hml]; rfl) (argsL := [(.long qa), (.long v2_0), (.long v4_0), (.int (1 : Int32)), (.int (bt + (129 : Int32)))]) (rest := [(.long ((own_min qa v2_0 v4_0 (1 : Int32) (bt + (1 : Int32))) ^^^ (own_min qa v2_0 v4_0 (1 : Int32) (bt + (65 : Int32)))))]) (lenOf own_pd8 rfl) rfl (by show 2 * 0 + _ ≤ _; exact Nat.le_of_eq rfl) (hb hby at_155) (fun _ _ => ⟨rfl, hh34, (by decide : 2 + 0 ≤ _), (by decide : 194 + 0 ≤ _)⟩)
        dsimp only [Pt.U, Pt.locs, Pt.cells, Pt.slots] at X35 l35 y35 z35 st35 hQ35
        subst l35 y35 z35
        obtain ⟨rfl, Nq35, hh35⟩ := hQ35
        obtain ⟨lc35, Xh35, N35⟩ := own_hide X35 (Fr.app N34 Nq35)
        clear X35
        refine Go.via st35 ?_
        show Go p.tables e below P T35 (mkF m 158 #[.val (.long qa), .second, .val (.long qb), .second, .val (.long qc), .second, .val (.int pi), .val (.int pm), .val (.int (1 : Int32)), .val (.int bt), .val (.long v2_0), .second, .val (.long v4_0), .second, .val (.ref b18), .val (.long (if (0 : Int32) = (0 : Int32) then own_fp (own_upd qa own_x0 192) 192 else (0 : Int64))), .second, .unset, .unset] [(.long (own_min qa v2_0 v4_0 (1 : Int32) (bt + (129 : Int32)))), (.long ((own_min qa v2_0 v4_0 (1 : Int32) (bt + (1 : Int32))) ^^^ (own_min qa v2_0 v4_0 (1 : Int32) (bt + (65 : Int32)))))])
        refine Go.via (fun t k => XS.lxor Xh35.here hx rfl (hb hby at_158) rfl k) ?_
        show Go p.tables e below P T35 (mkF m 159 #[.val (.long qa), .second, .val (.long qb), .second, .val (.long qc), .second, .val (.int pi), .val (.int pm), .val (.int (1 : Int32)), .val (.int bt), .val (.long v2_0), .second, .val (.long v4_0), .second, .val (.ref b18), .val (.long (if (0 : Int32) = (0 : Int32) then own_fp (own_upd qa own_x0 192) 192 else (0 : Int64))), .second, .unset, .unset] [(.long (((own_min qa v2_0 v4_0 (1 : Int32) (bt + (1 : Int32))) ^^^ (own_min qa v2_0 v4_0 (1 : Int32) (bt + (65 : Int32)))) ^^^ (own_min qa v2_0 v4_0 (1 : Int32) (bt + (129 : Int32)))))])
        refine Go.via (fun t k => XS.lconst Xh35.here hx rfl (hb hby at_159) k) ?_
        show Go p.tables e below P T35 (mkF m 160 #[.val (.long qa), .second, .val (.long qb), .second, .val (.long qc), .second, .val (.int pi), .val (.int pm), .val (.int (1 : Int32)), .val (.int bt), .val (.long v2_0), .second, .val (.long v4_0), .second, .val (.ref b18), .val (.long (if (0 : Int32) = (0 : Int32) then own_fp (own_upd qa own_x0 192) 192 else (0 : Int64))), .second, .unset, .unset] [(.long (1 : Int64)), (.long (((own_min qa v2_0 v4_0 (1 : Int32) (bt + (1 : Int32))) ^^^ (own_min qa v2_0 v4_0 (1 : Int32) (bt + (65 : Int32)))) ^^^ (own_min qa v2_0 v4_0 (1 : Int32) (bt + (129 : Int32)))))])
        refine Go.via (fun t k => XS.land Xh35.here hx rfl (hb hby at_160) rfl k) ?_
        show Go p.tables e below P T35 (mkF m 161 #[.val (.long qa), .second, .val (.long qb), .second, .val (.long qc), .second, .val (.int pi), .val (.int pm), .val (.int (1 : Int32)), .val (.int bt), .val (.long v2_0), .second, .val (.long v4_0), .second, .val (.ref b18), .val (.long (if (0 : Int32) = (0 : Int32) then own_fp (own_upd qa own_x0 192) 192 else (0 : Int64))), .second, .unset, .unset] [(.long ((((own_min qa v2_0 v4_0 (1 : Int32) (bt + (1 : Int32))) ^^^ (own_min qa v2_0 v4_0 (1 : Int32) (bt + (65 : Int32)))) ^^^ (own_min qa v2_0 v4_0 (1 : Int32) (bt + (129 : Int32)))) &&& (1 : Int64)))])
        refine Go.via (fun t k => XS.lstore Xh35.here hx rfl (hb hby at_161) rfl (l' := #[.val (.long qa), .second, .val (.long qb), .second, .val (.long qc), .second, .val (.int pi), .val (.int pm), .val (.int (1 : Int32)), .val (.int bt), .val (.long v2_0), .second, .val (.long v4_0), .second, .val (.ref b18), .val (.long (if (0 : Int32) = (0 : Int32) then own_fp (own_upd qa own_x0 192) 192 else (0 : Int64))), .second, .val (.long ((((own_min qa v2_0 v4_0 (1 : Int32) (bt + (1 : Int32))) ^^^ (own_min qa v2_0 v4_0 (1 : Int32) (bt + (65 : Int32)))) ^^^ (own_min qa v2_0 v4_0 (1 : Int32) (bt + (129 : Int32)))) &&& (1 : Int64))), .second]) rfl k) ?_
        show Go p.tables e below P T35 (mkF m 163 #[.val (.long qa), .second, .val (.long qb), .second, .val (.long qc), .second, .val (.int pi), .val (.int pm), .val (.int (1 : Int32)), .val (.int bt), .val (.long v2_0), .second, .val (.long v4_0), .second, .val (.ref b18), .val (.long (if (0 : Int32) = (0 : Int32) then own_fp (own_upd qa own_x0 192) 192 else (0 : Int64))), .second, .val (.long ((((own_min qa v2_0 v4_0 (1 : Int32) (bt + (1 : Int32))) ^^^ (own_min qa v2_0 v4_0 (1 : Int32) (bt + (65 : Int32)))) ^^^ (own_min qa v2_0 v4_0 (1 : Int32) (bt + (129 : Int32)))) &&& (1 : Int64))), .second] [])
        refine Go.via (fun t k => XS.lload Xh35.here hx rfl (hb hby at_163) rfl k) ?_
        show Go p.tables e below P T35 (mkF m 165 #[.val (.long qa), .second, .val (.long qb), .second, .val (.long qc), .second, .val (.int pi), .val (.int pm), .val (.int (1 : Int32)), .val (.int bt), .val (.long v2_0), .second, .val (.long v4_0), .second, .val (.ref b18), .val (.long (if (0 : Int32) = (0 : Int32) then own_fp (own_upd qa own_x0 192) 192 else (0 : Int64))), .second, .val (.long ((((own_min qa v2_0 v4_0 (1 : Int32) (bt + (1 : Int32))) ^^^ (own_min qa v2_0 v4_0 (1 : Int32) (bt + (65 : Int32)))) ^^^ (own_min qa v2_0 v4_0 (1 : Int32) (bt + (129 : Int32)))) &&& (1 : Int64))), .second] [(.long (if (0 : Int32) = (0 : Int32) then own_fp (own_upd qa own_x0 192) 192 else (0 : Int64)))])
        refine Go.via (fun t k => XS.iload Xh35.here hx rfl (hb hby at_165) rfl k) ?_
        show Go p.tables e below P T35 (mkF m 167 #[.val (.long qa), .second, .val (.long qb), .second, .val (.long qc), .second, .val (.int pi), .val (.int pm), .val (.int (1 : Int32)), .val (.int bt), .val (.long v2_0), .second, .val (.long v4_0), .second, .val (.ref b18), .val (.long (if (0 : Int32) = (0 : Int32) then own_fp (own_upd qa own_x0 192) 192 else (0 : Int64))), .second, .val (.long ((((own_min qa v2_0 v4_0 (1 : Int32) (bt + (1 : Int32))) ^^^ (own_min qa v2_0 v4_0 (1 : Int32) (bt + (65 : Int32)))) ^^^ (own_min qa v2_0 v4_0 (1 : Int32) (bt + (129 : Int32)))) &&& (1 : Int64))), .second] [(.int bt), (.long (if (0 : Int32) = (0 : Int32) then own_fp (own_upd qa own_x0 192) 192 else (0 : Int64)))])
        refine Go.via (fun t k => XS.lushr Xh35.here hx rfl (hb hby at_167) rfl k) ?_
        show Go p.tables e below P T35 (mkF m 168 #[.val (.long qa), .second, .val (.long qb), .second, .val (.long qc), .second, .val (.int pi), .val (.int pm), .val (.int (1 : Int32)), .val (.int bt), .val (.long v2_0), .second, .val (.long v4_0), .second, .val (.ref b18), .val (.long (if (0 : Int32) = (0 : Int32) then own_fp (own_upd qa own_x0 192) 192 else (0 : Int64))), .second, .val (.long ((((own_min qa v2_0 v4_0 (1 : Int32) (bt + (1 : Int32))) ^^^ (own_min qa v2_0 v4_0 (1 : Int32) (bt + (65 : Int32)))) ^^^ (own_min qa v2_0 v4_0 (1 : Int32) (bt + (129 : Int32)))) &&& (1 : Int64))), .second] [(.long (((if (0 : Int32) = (0 : Int32) then own_fp (own_upd qa own_x0 192) 192 else (0 : Int64)).toUInt64 >>> (bt &&& 0x3f).toInt64.toUInt64).toInt64))])
        refine Go.via (fun t k => XS.lconst Xh35.here hx rfl (hb hby at_168) k) ?_
        show Go p.tables e below P T35 (mkF m 169 #[.val (.long qa), .second, .val (.long qb), .second, .val (.long qc), .second, .val (.int pi), .val (.int pm), .val (.int (1 : Int32)), .val (.int bt), .val (.long v2_0), .second, .val (.long v4_0), .second, .val (.ref b18), .val (.long (if (0 : Int32) = (0 : Int32) then own_fp (own_upd qa own_x0 192) 192 else (0 : Int64))), .second, .val (.long ((((own_min qa v2_0 v4_0 (1 : Int32) (bt + (1 : Int32))) ^^^ (own_min qa v2_0 v4_0 (1 : Int32) (bt + (65 : Int32)))) ^^^ (own_min qa v2_0 v4_0 (1 : Int32) (bt + (129 : Int32)))) &&& (1 : Int64))), .second] [(.long (1 : Int64)), (.long (((if (0 : Int32) = (0 : Int32) then own_fp (own_upd qa own_x0 192) 192 else (0 : Int64)).toUInt64 >>> (bt &&& 0x3f).toInt64.toUInt64).toInt64))])
        refine Go.via (fun t k => XS.land Xh35.here hx rfl (hb hby at_169) rfl k) ?_
        show Go p.tables e below P T35 (mkF m 170 #[.val (.long qa), .second, .val (.long qb), .second, .val (.long qc), .second, .val (.int pi), .val (.int pm), .val (.int (1 : Int32)), .val (.int bt), .val (.long v2_0), .second, .val (.long v4_0), .second, .val (.ref b18), .val (.long (if (0 : Int32) = (0 : Int32) then own_fp (own_upd qa own_x0 192) 192 else (0 : Int64))), .second, .val (.long ((((own_min qa v2_0 v4_0 (1 : Int32) (bt + (1 : Int32))) ^^^ (own_min qa v2_0 v4_0 (1 : Int32) (bt + (65 : Int32)))) ^^^ (own_min qa v2_0 v4_0 (1 : Int32) (bt + (129 : Int32)))) &&& (1 : Int64))), .second] [(.long ((((if (0 : Int32) = (0 : Int32) then own_fp (own_upd qa own_x0 192) 192 else (0 : Int64)).toUInt64 >>> (bt &&& 0x3f).toInt64.toUInt64).toInt64) &&& (1 : Int64)))])
        refine Go.via (fun t k => XS.lload Xh35.here hx rfl (hb hby at_170) rfl k) ?_
        show Go p.tables e below P T35 (mkF m 172 #[.val (.long qa), .second, .val (.long qb), .second, .val (.long qc), .second, .val (.int pi), .val (.int pm), .val (.int (1 : Int32)), .val (.int bt), .val (.long v2_0), .second, .val (.long v4_0), .second, .val (.ref b18), .val (.long (if (0 : Int32) = (0 : Int32) then own_fp (own_upd qa own_x0 192) 192 else (0 : Int64))), .second, .val (.long ((((own_min qa v2_0 v4_0 (1 : Int32) (bt + (1 : Int32))) ^^^ (own_min qa v2_0 v4_0 (1 : Int32) (bt + (65 : Int32)))) ^^^ (own_min qa v2_0 v4_0 (1 : Int32) (bt + (129 : Int32)))) &&& (1 : Int64))), .second] [(.long ((((own_min qa v2_0 v4_0 (1 : Int32) (bt + (1 : Int32))) ^^^ (own_min qa v2_0 v4_0 (1 : Int32) (bt + (65 : Int32)))) ^^^ (own_min qa v2_0 v4_0 (1 : Int32) (bt + (129 : Int32)))) &&& (1 : Int64))), (.long ((((if (0 : Int32) = (0 : Int32) then own_fp (own_upd qa own_x0 192) 192 else (0 : Int64)).toUInt64 >>> (bt &&& 0x3f).toInt64.toUInt64).toInt64) &&& (1 : Int64)))])
        refine Go.via (fun t k => XS.lcmp Xh35.here hx rfl (hb hby at_172) rfl k) ?_
        show Go p.tables e below P T35 (mkF m 173 #[.val (.long qa), .second, .val (.long qb), .second, .val (.long qc), .second, .val (.int pi), .val (.int pm), .val (.int (1 : Int32)), .val (.int bt), .val (.long v2_0), .second, .val (.long v4_0), .second, .val (.ref b18), .val (.long (if (0 : Int32) = (0 : Int32) then own_fp (own_upd qa own_x0 192) 192 else (0 : Int64))), .second, .val (.long ((((own_min qa v2_0 v4_0 (1 : Int32) (bt + (1 : Int32))) ^^^ (own_min qa v2_0 v4_0 (1 : Int32) (bt + (65 : Int32)))) ^^^ (own_min qa v2_0 v4_0 (1 : Int32) (bt + (129 : Int32)))) &&& (1 : Int64))), .second] [(.int (lcmpW ((((if (0 : Int32) = (0 : Int32) then own_fp (own_upd qa own_x0 192) 192 else (0 : Int64)).toUInt64 >>> (bt &&& 0x3f).toInt64.toUInt64).toInt64) &&& (1 : Int64)) ((((own_min qa v2_0 v4_0 (1 : Int32) (bt + (1 : Int32))) ^^^ (own_min qa v2_0 v4_0 (1 : Int32) (bt + (65 : Int32)))) ^^^ (own_min qa v2_0 v4_0 (1 : Int32) (bt + (129 : Int32)))) &&& (1 : Int64))))])
        refine Go.via (fun t k => XS.ifNo Xh35.here hx rfl (hb hby at_173) rfl ((if0 _ _).trans (teq ((lw_eq _ _).mpr (own_law1 qa v2_0 v4_0 hb64 hbt'))).2) k) ?_
        show Go p.tables e below P T35 (mkF m 176 #[.val (.long qa), .second, .val (.long qb), .second, .val (.long qc), .second, .val (.int pi), .val (.int pm), .val (.int (1 : Int32)), .val (.int bt), .val (.long v2_0), .second, .val (.long v4_0), .second, .val (.ref b18), .val (.long (if (0 : Int32) = (0 : Int32) then own_fp (own_upd qa own_x0 192) 192 else (0 : Int64))), .second, .val (.long ((((own_min qa v2_0 v4_0 (1 : Int32) (bt + (1 : Int32))) ^^^ (own_min qa v2_0 v4_0 (1 : Int32) (bt + (65 : Int32)))) ^^^ (own_min qa v2_0 v4_0 (1 : Int32) (bt + (129 : Int32)))) &&& (1 : Int64))), .second] [])
        refine Go.via (fun t k => XS.iconst Xh35.here hx rfl (hb hby at_176) k) ?_
        show Go p.tables e below P T35 (mkF m 177 #[.val (.long qa), .second, .val (.long qb), .second, .val (.long qc), .second, .val (.int pi), .val (.int pm), .val (.int (1 : Int32)), .val (.int bt), .val (.long v2_0), .second, .val (.long v4_0), .second, .val (.ref b18), .val (.long (if (0 : Int32) = (0 : Int32) then own_fp (own_upd qa own_x0 192) 192 else (0 : Int64))), .second, .val (.long ((((own_min qa v2_0 v4_0 (1 : Int32) (bt + (1 : Int32))) ^^^ (own_min qa v2_0 v4_0 (1 : Int32) (bt + (65 : Int32)))) ^^^ (own_min qa v2_0 v4_0 (1 : Int32) (bt + (129 : Int32)))) &&& (1 : Int64))), .second] [(.int (1 : Int32))])
        refine Go.via (fun t k => XS.goto Xh35.here hx rfl (pc0 := 177) (pc' := 181) rfl (hb hby at_177) (by decide) (by decide) k) ?_
        show Go p.tables e below P T35 (mkF m 181 #[.val (.long qa), .second, .val (.long qb), .second, .val (.long qc), .second, .val (.int pi), .val (.int pm), .val (.int (1 : Int32)), .val (.int bt), .val (.long v2_0), .second, .val (.long v4_0), .second, .val (.ref b18), .val (.long (if (0 : Int32) = (0 : Int32) then own_fp (own_upd qa own_x0 192) 192 else (0 : Int64))), .second, .val (.long ((((own_min qa v2_0 v4_0 (1 : Int32) (bt + (1 : Int32))) ^^^ (own_min qa v2_0 v4_0 (1 : Int32) (bt + (65 : Int32)))) ^^^ (own_min qa v2_0 v4_0 (1 : Int32) (bt + (129 : Int32)))) &&& (1 : Int64))), .second] [(.int (1 : Int32))])
        obtain ⟨fs, hr, hrun, hended, hW, hsame⟩ := Xh35.leave (v := some (.int (1 : Int32))) (fun h => by rw [Bd.returns] at h; cases h)
        refine ⟨_, _, retZ Xh35 hx (t := .boolean) Bd.returns (by simp) (hb hby at_181) rfl hr, hrun, hended, hP _ _ ⟨_, _, rfl, ?_, ⟨_, rfl⟩, hW, hsame.mono (by decide) (by decide)⟩⟩
        show Q0 Z qa qb qc pi pm h0 n0 _ T35.heap _
        rw [hh35]
        exact ⟨rfl, N35⟩
      · rw [c2]
        show Go p.tables e below P T4 (mkF m 47 #[.val (.long qa), .second, .val (.long qb), .second, .val (.long qc), .second, .val (.int pi), .val (.int pm), .val (.int (2 : Int32)), .val (.int bt), .val (.long v2_0), .second, .val (.long v4_0), .second, .unset, .unset, .unset, .unset, .unset] [])
        obtain ⟨T37, h37, X37, e37, E37, A37, D37, -, st37⟩ := newO X4 hx hZ hown (hw _ (List.mem_of_getElem? (i := 0) rfl)) (hw _ (List.mem_of_getElem? (i := 1) rfl)) (hw _ (List.mem_of_getElem? (i := 2) rfl)) e4 (g := (mkF m 47 #[.val (.long qa), .second, .val (.long qb), .second, .val (.long qc), .second, .val (.int pi), .val (.int pm), .val (.int (2 : Int32)), .val (.int bt), .val (.long v2_0), .second, .val (.long v4_0), .second, .unset, .unset, .unset, .unset, .unset] [])) rfl (hb hby at_47) (by decide) (by decide)
        obtain ⟨b37, g37⟩ : ∃ z, z = h0.size := ⟨_, rfl⟩
        rw [← g37] at A37 D37 st37
        refine Go.via st37 ?_
        have g38 : n0 ≤ b37 := Nat.le_trans Z0 (Nat.le_of_eq g37.symm)
        have sz39 : h0.size ≤ b37 := Nat.le_trans K0.1 (Nat.le_of_eq g37.symm)
        have Z40 : n0 ≤ h37.size := Nat.le_trans Z0 E37.1
        have K41 : Keep h0 h37 [] := K0.ext E37
        show Go p.tables e below P T37 (mkF m 50 #[.val (.long qa), .second, .val (.long qb), .second, .val (.long qc), .second, .val (.int pi), .val (.int pm), .val (.int (2 : Int32)), .val (.int bt), .val (.long v2_0), .second, .val (.long v4_0), .second, .unset, .unset, .unset, .unset, .unset] [(.ref b37)])
        refine Go.via (fun t k => XS.dup X37.here hx rfl (hb hby at_50) rfl rfl k) ?_
        show Go p.tables e below P T37 (mkF m 51 #[.val (.long qa), .second, .val (.long qb), .second, .val (.long qc), .second, .val (.int pi), .val (.int pm), .val (.int (2 : Int32)), .val (.int bt), .val (.long v2_0), .second, .val (.long v4_0), .second, .unset, .unset, .unset, .unset, .unset] [(.ref b37), (.ref b37)])
        obtain ⟨_, _, ⟨T42, L42, k42, n42⟩, -, X42, ⟨Lc42, hQ42, l42, y42, z42⟩, st42⟩ := X37.specialBack hx (y := (⟨"com/example/criba/criba/model/MinhashAccumulator", "<init>", "()V"⟩ : MethodName)) rfl hown (mvT hZ (hw _ (List.mem_of_getElem? (i := 3) rfl))) (mvT hZ (hw _ (List.mem_of_getElem? (i := 4) rfl))) (mvT hZ (hw _ (List.mem_of_getElem? (i := 5) rfl))) (by decide) (backOf (W := 1) (rm1 l Z a0 hw [] b37 h37 n0 Z40 A37 (D37 (Or.inr (hw _ (List.mem_of_getElem? (i := 11) rfl))) (ty := (.array .long)) (by decide) : Fld Z h37 b37 "com/example/criba/criba/model/MinhashAccumulator" "minima" "[J" .null) (D37 (Or.inl (hw _ (List.mem_of_getElem? (i := 13) rfl))) (ty := .boolean) (by decide) : Fld Z h37 b37 "com/example/criba/criba/model/MinhashAccumulator" "empty" "Z" (.int (0 : Int32))) g38) hZ (hw _ (List.mem_of_getElem? (i := 5) rfl)) (hw _ (List.mem_of_getElem? (i := 2) rfl)) (by decide) (by decide)) (g := (mkF m 51 #[.val (.long qa), .second, .val (.long qb), .second, .val (.long qc), .second, .val (.int pi), .val (.int pm), .val (.int (2 : Int32)), .val (.int bt), .val (.long v2_0), .second, .val (.long v4_0), .second, .unset, .unset, .unset, .unset, .unset] [(.ref b37), (.ref b37)])) rfl (by rw [hml]; rfl) (Steps.refl _) (a := b37) (argsL := []) (rest := [(.ref b37)]) (lenOf own_pd5 rfl) rfl (by show 2 * 0 + _ ≤ _; exact Nat.le_of_eq rfl) (hb hby at_51) (fun _ _ => ⟨rfl, e37, (by decide : 1 + 1 ≤ _), (by decide : 2 + 192 ≤ _)⟩)
        dsimp only [Pt.U, Pt.locs, Pt.cells, Pt.slots] at X42 l42 y42 z42 st42 hQ42
        subst l42 y42 z42
        obtain ⟨om_42, kk_42, rfl, Nq42, K42, fr42_om, u42_0, u42_1, u42_2, u42_3, u42_4⟩ := hQ42
        obtain ⟨lc42, Xh42, N42⟩ := own_hide X42 (Fr.app N4 Nq42)
        clear X42
        refine Go.hop st42 ?_
        have ne43 : b37 ≠ om_42 := Nat.ne_of_lt (Nat.lt_of_lt_of_le A37.lt fr42_om)
        have g44 : n0 ≤ om_42 := Nat.le_trans Z40 fr42_om
        have sz45 : h0.size ≤ om_42 := Nat.le_trans K41.1 fr42_om
        have Z46 : n0 ≤ T42.heap.size := Nat.le_trans Z40 K42.1
        have K47 : Keep h0 T42.heap [] := K41.trans K42 (own_allC (Or.inr sz39) own_all0)
        show Go p.tables e below P T42 (mkF m 54 #[.val (.long qa), .second, .val (.long qb), .second, .val (.long qc), .second, .val (.int pi), .val (.int pm), .val (.int (2 : Int32)), .val (.int bt), .val (.long v2_0), .second, .val (.long v4_0), .second, .unset, .unset, .unset, .unset, .unset] [(.ref b37)])
        refine Go.via (fun t k => XS.astore Xh42.here hx rfl (hb hby at_54) rfl rfl (l' := #[.val (.long qa), .second, .val (.long qb), .second, .val (.long qc), .second, .val (.int pi), .val (.int pm), .val (.int (2 : Int32)), .val (.int bt), .val (.long v2_0), .second, .val (.long v4_0), .second, .val (.ref b37), .unset, .unset, .unset, .unset]) rfl k) ?_
        show Go p.tables e below P T42 (mkF m 56 #[.val (.long qa), .second, .val (.long qb), .second, .val (.long qc), .second, .val (.int pi), .val (.int pm), .val (.int (2 : Int32)), .val (.int bt), .val (.long v2_0), .second, .val (.long v4_0), .second, .val (.ref b37), .unset, .unset, .unset, .unset] [])
        refine Go.via (fun t k => XS.iload Xh42.here hx rfl (hb hby at_56) rfl k) ?_
        show Go p.tables e below P T42 (mkF m 58 #[.val (.long qa), .second, .val (.long qb), .second, .val (.long qc), .second, .val (.int pi), .val (.int pm), .val (.int (2 : Int32)), .val (.int bt), .val (.long v2_0), .second, .val (.long v4_0), .second, .val (.ref b37), .unset, .unset, .unset, .unset] [(.int (2 : Int32))])
        refine Go.via (fun t k => XS.iconst Xh42.here hx rfl (hb hby at_58) k) ?_
        show Go p.tables e below P T42 (mkF m 59 #[.val (.long qa), .second, .val (.long qb), .second, .val (.long qc), .second, .val (.int pi), .val (.int pm), .val (.int (2 : Int32)), .val (.int bt), .val (.long v2_0), .second, .val (.long v4_0), .second, .val (.ref b37), .unset, .unset, .unset, .unset] [(.int (1 : Int32)), (.int (2 : Int32))])
        refine Go.via (fun t k => XS.icmpNo Xh42.here hx rfl (hb hby at_59) rfl (flt (by decide : ¬ ((2 : Int32) < (1 : Int32)))).1 k) ?_
        show Go p.tables e below P T42 (mkF m 62 #[.val (.long qa), .second, .val (.long qb), .second, .val (.long qc), .second, .val (.int pi), .val (.int pm), .val (.int (2 : Int32)), .val (.int bt), .val (.long v2_0), .second, .val (.long v4_0), .second, .val (.ref b37), .unset, .unset, .unset, .unset] [])
        refine Go.via (fun t k => XS.aload Xh42.here hx rfl (hb hby at_62) rfl rfl k) ?_
        show Go p.tables e below P T42 (mkF m 64 #[.val (.long qa), .second, .val (.long qb), .second, .val (.long qc), .second, .val (.int pi), .val (.int pm), .val (.int (2 : Int32)), .val (.int bt), .val (.long v2_0), .second, .val (.long v4_0), .second, .val (.ref b37), .unset, .unset, .unset, .unset] [(.ref b37)])
        refine Go.via (fun t k => XS.lloadN Xh42.here hx rfl (hb hby at_64) rfl k) ?_
        show Go p.tables e below P T42 (mkF m 65 #[.val (.long qa), .second, .val (.long qb), .second, .val (.long qc), .second, .val (.int pi), .val (.int pm), .val (.int (2 : Int32)), .val (.int bt), .val (.long v2_0), .second, .val (.long v4_0), .second, .val (.ref b37), .unset, .unset, .unset, .unset] [(.long qa), (.ref b37)])
        obtain ⟨cq48, kq48, q48a, q48b, q48c⟩ := isOf hZ rfl u42_0
        obtain ⟨_, _, ⟨T48, L48, k48, n48⟩, -, X48, ⟨Lc48, hQ48, l48, y48, z48⟩, st48⟩ := Xh42.virtualBack hx (y := (⟨"com/example/criba/criba/model/MinhashAccumulator", "add", "(J)V"⟩ : MethodName)) (z := (⟨"com/example/criba/criba/model/MinhashAccumulator", "add", "(J)V"⟩ : MethodName)) hown (mvT hZ (hw _ (List.mem_of_getElem? (i := 19) rfl))) (mvT hZ (hw _ (List.mem_of_getElem? (i := 20) rfl))) (notFace_of_selects (args := #[]) (mvT hZ (hw _ (List.mem_of_getElem? (i := 22) rfl)))) (mvT hZ (hw _ (List.mem_of_getElem? (i := 22) rfl))) (mvT hZ (hw _ (List.mem_of_getElem? (i := 21) rfl))) (by decide) (backOf (W := 0) (rm4 l Z a0 hw [] b37 qa om_42 kk_42 (1 : Int32) own_x0 T42.heap n0 Z46 u42_0 u42_1 u42_2 u42_3 (by simp only [own_upd_len, own_x0_len]) g38 g44 ne43) hZ (hw _ (List.mem_of_getElem? (i := 23) rfl)) (hw _ (List.mem_of_getElem? (i := 2) rfl)) (by decide) (by decide)) q48a q48c (g := (mkF m 65 #[.val (.long qa), .second, .val (.long qb), .second, .val (.long qc), .second, .val (.int pi), .val (.int pm), .val (.int (2 : Int32)), .val (.int bt), .val (.long v2_0), .second, .val (.long v4_0), .second, .val (.ref b37), .unset, .unset, .unset, .unset] [(.long qa), (.ref b37)])) rfl (by rw [hml]; rfl) (Steps.refl _) (argsL := [(.long qa)]) (rest := []) (lenOf own_pd7 rfl) rfl (by show 2 * 0 + _ ≤ _; exact Nat.le_of_eq rfl) (hb hby at_65) (fun _ _ => ⟨rfl, rfl, (by decide : 2 + 0 ≤ _), (by decide : 194 + 0 ≤ _)⟩)
        dsimp only [Pt.U, Pt.locs, Pt.cells, Pt.slots] at X48 l48 y48 z48 st48 hQ48
        subst l48 y48 z48
        obtain ⟨rfl, Nq48, K48, u48_0, u48_1, u48_2, u48_3⟩ := hQ48
        obtain ⟨lc48, Xh48, N48⟩ := own_hide X48 (Fr.app N42 Nq48)
        clear X48
        refine Go.hop st48 ?_
        have Z49 : n0 ≤ T48.heap.size := Nat.le_trans Z46 K48.1
        have K50 : Keep h0 T48.heap [] := K47.trans K48 (own_allC (Or.inr sz39) (own_allC (Or.inr sz45) own_all0))
        show Go p.tables e below P T48 (mkF m 68 #[.val (.long qa), .second, .val (.long qb), .second, .val (.long qc), .second, .val (.int pi), .val (.int pm), .val (.int (2 : Int32)), .val (.int bt), .val (.long v2_0), .second, .val (.long v4_0), .second, .val (.ref b37), .unset, .unset, .unset, .unset] [])
        refine Go.via (fun t k => XS.iload Xh48.here hx rfl (hb hby at_68) rfl k) ?_
        show Go p.tables e below P T48 (mkF m 70 #[.val (.long qa), .second, .val (.long qb), .second, .val (.long qc), .second, .val (.int pi), .val (.int pm), .val (.int (2 : Int32)), .val (.int bt), .val (.long v2_0), .second, .val (.long v4_0), .second, .val (.ref b37), .unset, .unset, .unset, .unset] [(.int (2 : Int32))])
        refine Go.via (fun t k => XS.iconst Xh48.here hx rfl (hb hby at_70) k) ?_
        show Go p.tables e below P T48 (mkF m 71 #[.val (.long qa), .second, .val (.long qb), .second, .val (.long qc), .second, .val (.int pi), .val (.int pm), .val (.int (2 : Int32)), .val (.int bt), .val (.long v2_0), .second, .val (.long v4_0), .second, .val (.ref b37), .unset, .unset, .unset, .unset] [(.int (2 : Int32)), (.int (2 : Int32))])
        refine Go.via (fun t k => XS.icmpNo Xh48.here hx rfl (hb hby at_71) rfl (flt (by decide : ¬ ((2 : Int32) < (2 : Int32)))).1 k) ?_
        show Go p.tables e below P T48 (mkF m 74 #[.val (.long qa), .second, .val (.long qb), .second, .val (.long qc), .second, .val (.int pi), .val (.int pm), .val (.int (2 : Int32)), .val (.int bt), .val (.long v2_0), .second, .val (.long v4_0), .second, .val (.ref b37), .unset, .unset, .unset, .unset] [])
        refine Go.via (fun t k => XS.aload Xh48.here hx rfl (hb hby at_74) rfl rfl k) ?_
        show Go p.tables e below P T48 (mkF m 76 #[.val (.long qa), .second, .val (.long qb), .second, .val (.long qc), .second, .val (.int pi), .val (.int pm), .val (.int (2 : Int32)), .val (.int bt), .val (.long v2_0), .second, .val (.long v4_0), .second, .val (.ref b37), .unset, .unset, .unset, .unset] [(.ref b37)])
        refine Go.via (fun t k => XS.lload Xh48.here hx rfl (hb hby at_76) rfl k) ?_
        show Go p.tables e below P T48 (mkF m 78 #[.val (.long qa), .second, .val (.long qb), .second, .val (.long qc), .second, .val (.int pi), .val (.int pm), .val (.int (2 : Int32)), .val (.int bt), .val (.long v2_0), .second, .val (.long v4_0), .second, .val (.ref b37), .unset, .unset, .unset, .unset] [(.long v2_0), (.ref b37)])
        obtain ⟨cq51, kq51, q51a, q51b, q51c⟩ := isOf hZ rfl u48_0
        obtain ⟨_, _, ⟨T51, L51, k51, n51⟩, -, X51, ⟨Lc51, hQ51, l51, y51, z51⟩, st51⟩ := Xh48.virtualBack hx (y := (⟨"com/example/criba/criba/model/MinhashAccumulator", "add", "(J)V"⟩ : MethodName)) (z := (⟨"com/example/criba/criba/model/MinhashAccumulator", "add", "(J)V"⟩ : MethodName)) hown (mvT hZ (hw _ (List.mem_of_getElem? (i := 19) rfl))) (mvT hZ (hw _ (List.mem_of_getElem? (i := 20) rfl))) (notFace_of_selects (args := #[]) (mvT hZ (hw _ (List.mem_of_getElem? (i := 22) rfl)))) (mvT hZ (hw _ (List.mem_of_getElem? (i := 22) rfl))) (mvT hZ (hw _ (List.mem_of_getElem? (i := 21) rfl))) (by decide) (backOf (W := 0) (rm4 l Z a0 hw [] b37 v2_0 om_42 kk_42 (0 : Int32) (own_upd qa own_x0 192) T48.heap n0 Z49 u48_0 u48_1 u48_2 u48_3 (by simp only [own_upd_len, own_x0_len]) g38 g44 ne43) hZ (hw _ (List.mem_of_getElem? (i := 23) rfl)) (hw _ (List.mem_of_getElem? (i := 2) rfl)) (by decide) (by decide)) q51a q51c (g := (mkF m 78 #[.val (.long qa), .second, .val (.long qb), .second, .val (.long qc), .second, .val (.int pi), .val (.int pm), .val (.int (2 : Int32)), .val (.int bt), .val (.long v2_0), .second, .val (.long v4_0), .second, .val (.ref b37), .unset, .unset, .unset, .unset] [(.long v2_0), (.ref b37)])) rfl (by rw [hml]; rfl) (Steps.refl _) (argsL := [(.long v2_0)]) (rest := []) (lenOf own_pd7 rfl) rfl (by show 2 * 0 + _ ≤ _; exact Nat.le_of_eq rfl) (hb hby at_78) (fun _ _ => ⟨rfl, rfl, (by decide : 2 + 0 ≤ _), (by decide : 194 + 0 ≤ _)⟩)
        dsimp only [Pt.U, Pt.locs, Pt.cells, Pt.slots] at X51 l51 y51 z51 st51 hQ51
        subst l51 y51 z51
        obtain ⟨rfl, Nq51, K51, u51_0, u51_1, u51_2, u51_3⟩ := hQ51
        obtain ⟨lc51, Xh51, N51⟩ := own_hide X51 (Fr.app N48 Nq51)
        clear X51
        refine Go.hop st51 ?_
        have Z52 : n0 ≤ T51.heap.size := Nat.le_trans Z49 K51.1
        have K53 : Keep h0 T51.heap [] := K50.trans K51 (own_allC (Or.inr sz39) (own_allC (Or.inr sz45) own_all0))
        show Go p.tables e below P T51 (mkF m 81 #[.val (.long qa), .second, .val (.long qb), .second, .val (.long qc), .second, .val (.int pi), .val (.int pm), .val (.int (2 : Int32)), .val (.int bt), .val (.long v2_0), .second, .val (.long v4_0), .second, .val (.ref b37), .unset, .unset, .unset, .unset] [])
        refine Go.via (fun t k => XS.iload Xh51.here hx rfl (hb hby at_81) rfl k) ?_
        show Go p.tables e below P T51 (mkF m 83 #[.val (.long qa), .second, .val (.long qb), .second, .val (.long qc), .second, .val (.int pi), .val (.int pm), .val (.int (2 : Int32)), .val (.int bt), .val (.long v2_0), .second, .val (.long v4_0), .second, .val (.ref b37), .unset, .unset, .unset, .unset] [(.int (2 : Int32))])
        refine Go.via (fun t k => XS.iconst Xh51.here hx rfl (hb hby at_83) k) ?_
        show Go p.tables e below P T51 (mkF m 84 #[.val (.long qa), .second, .val (.long qb), .second, .val (.long qc), .second, .val (.int pi), .val (.int pm), .val (.int (2 : Int32)), .val (.int bt), .val (.long v2_0), .second, .val (.long v4_0), .second, .val (.ref b37), .unset, .unset, .unset, .unset] [(.int (3 : Int32)), (.int (2 : Int32))])
        refine Go.via (fun t k => XS.icmpYes Xh51.here hx rfl (pc0 := 84) (pc' := 94) rfl (hb hby at_84) rfl (tlt (by decide : (2 : Int32) < (3 : Int32))).1 (by decide) (by decide) k) ?_
        show Go p.tables e below P T51 (mkF m 94 #[.val (.long qa), .second, .val (.long qb), .second, .val (.long qc), .second, .val (.int pi), .val (.int pm), .val (.int (2 : Int32)), .val (.int bt), .val (.long v2_0), .second, .val (.long v4_0), .second, .val (.ref b37), .unset, .unset, .unset, .unset] [])
        refine Go.via (fun t k => XS.aload Xh51.here hx rfl (hb hby at_94) rfl rfl k) ?_
        show Go p.tables e below P T51 (mkF m 96 #[.val (.long qa), .second, .val (.long qb), .second, .val (.long qc), .second, .val (.int pi), .val (.int pm), .val (.int (2 : Int32)), .val (.int bt), .val (.long v2_0), .second, .val (.long v4_0), .second, .val (.ref b37), .unset, .unset, .unset, .unset] [(.ref b37)])
        obtain ⟨cq54, kq54, q54a, q54b, q54c⟩ := isOf hZ rfl u51_0
        obtain ⟨_, _, ⟨T54, L54, k54, n54⟩, -, X54, ⟨Lc54, hQ54, l54, y54, z54⟩, st54⟩ := Xh51.virtualBack hx (y := (⟨"com/example/criba/criba/model/MinhashAccumulator", "fingerprint", "()J"⟩ : MethodName)) (z := (⟨"com/example/criba/criba/model/MinhashAccumulator", "fingerprint", "()J"⟩ : MethodName)) hown (mvT hZ (hw _ (List.mem_of_getElem? (i := 38) rfl))) (mvT hZ (hw _ (List.mem_of_getElem? (i := 39) rfl))) (notFace_of_selects (args := #[]) (mvT hZ (hw _ (List.mem_of_getElem? (i := 41) rfl)))) (mvT hZ (hw _ (List.mem_of_getElem? (i := 41) rfl))) (mvT hZ (hw _ (List.mem_of_getElem? (i := 40) rfl))) (by decide) (backOf (W := 0) (rm8 l Z a0 hw [] b37 om_42 kk_42 (0 : Int32) (own_upd v2_0 (own_upd qa own_x0 192) 192) T51.heap n0 Z52 u51_1 u51_2 u51_3) hZ (hw _ (List.mem_of_getElem? (i := 42) rfl)) (hw _ (List.mem_of_getElem? (i := 2) rfl)) (by decide) (by decide)) q54a q54c (g := (mkF m 96 #[.val (.long qa), .second, .val (.long qb), .second, .val (.long qc), .second, .val (.int pi), .val (.int pm), .val (.int (2 : Int32)), .val (.int bt), .val (.long v2_0), .second, .val (.long v4_0), .second, .val (.ref b37), .unset, .unset, .unset, .unset] [(.ref b37)])) rfl (by rw [hml]; rfl) (Steps.refl _) (argsL := []) (rest := []) (lenOf own_pd6 rfl) rfl (by show 2 * 0 + _ ≤ _; exact Nat.le_of_eq rfl) (hb hby at_96) (fun _ _ => ⟨rfl, rfl, (by decide : 2 + 0 ≤ _), (by decide : 194 + 0 ≤ _)⟩)
        dsimp only [Pt.U, Pt.locs, Pt.cells, Pt.slots] at X54 l54 y54 z54 st54 hQ54
        subst l54 y54 z54
        obtain ⟨rfl, Nq54, hh54⟩ := hQ54
        obtain ⟨lc54, Xh54, N54⟩ := own_hide X54 (Fr.app N51 Nq54)
        clear X54
        refine Go.hop st54 ?_
        show Go p.tables e below P T54 (mkF m 99 #[.val (.long qa), .second, .val (.long qb), .second, .val (.long qc), .second, .val (.int pi), .val (.int pm), .val (.int (2 : Int32)), .val (.int bt), .val (.long v2_0), .second, .val (.long v4_0), .second, .val (.ref b37), .unset, .unset, .unset, .unset] [(.long (if (0 : Int32) = (0 : Int32) then own_fp (own_upd v2_0 (own_upd qa own_x0 192) 192) 192 else (0 : Int64)))])
        refine Go.via (fun t k => XS.lstore Xh54.here hx rfl (hb hby at_99) rfl (l' := #[.val (.long qa), .second, .val (.long qb), .second, .val (.long qc), .second, .val (.int pi), .val (.int pm), .val (.int (2 : Int32)), .val (.int bt), .val (.long v2_0), .second, .val (.long v4_0), .second, .val (.ref b37), .val (.long (if (0 : Int32) = (0 : Int32) then own_fp (own_upd v2_0 (own_upd qa own_x0 192) 192) 192 else (0 : Int64))), .second, .unset, .unset]) rfl k) ?_
        show Go p.tables e below P T54 (mkF m 101 #[.val (.long qa), .second, .val (.long qb), .second, .val (.long qc), .second, .val (.int pi), .val (.int pm), .val (.int (2 : Int32)), .val (.int bt), .val (.long v2_0), .second, .val (.long v4_0), .second, .val (.ref b37), .val (.long (if (0 : Int32) = (0 : Int32) then own_fp (own_upd v2_0 (own_upd qa own_x0 192) 192) 192 else (0 : Int64))), .second, .unset, .unset] [])
        refine Go.via (fun t k => XS.iload Xh54.here hx rfl (hb hby at_101) rfl k) ?_
        show Go p.tables e below P T54 (mkF m 103 #[.val (.long qa), .second, .val (.long qb), .second, .val (.long qc), .second, .val (.int pi), .val (.int pm), .val (.int (2 : Int32)), .val (.int bt), .val (.long v2_0), .second, .val (.long v4_0), .second, .val (.ref b37), .val (.long (if (0 : Int32) = (0 : Int32) then own_fp (own_upd v2_0 (own_upd qa own_x0 192) 192) 192 else (0 : Int64))), .second, .unset, .unset] [(.int (2 : Int32))])
        refine Go.via (fun t k => XS.ifYes Xh54.here hx rfl (pc0 := 103) (pc' := 112) rfl (hb hby at_103) rfl ((if0 _ _).trans (feq (by decide : ¬ ((2 : Int32) = (0 : Int32)))).2) (by decide) (by decide) k) ?_
        show Go p.tables e below P T54 (mkF m 112 #[.val (.long qa), .second, .val (.long qb), .second, .val (.long qc), .second, .val (.int pi), .val (.int pm), .val (.int (2 : Int32)), .val (.int bt), .val (.long v2_0), .second, .val (.long v4_0), .second, .val (.ref b37), .val (.long (if (0 : Int32) = (0 : Int32) then own_fp (own_upd v2_0 (own_upd qa own_x0 192) 192) 192 else (0 : Int64))), .second, .unset, .unset] [])
        refine Go.via (fun t k => XS.lloadN Xh54.here hx rfl (hb hby at_112) rfl k) ?_
        show Go p.tables e below P T54 (mkF m 113 #[.val (.long qa), .second, .val (.long qb), .second, .val (.long qc), .second, .val (.int pi), .val (.int pm), .val (.int (2 : Int32)), .val (.int bt), .val (.long v2_0), .second, .val (.long v4_0), .second, .val (.ref b37), .val (.long (if (0 : Int32) = (0 : Int32) then own_fp (own_upd v2_0 (own_upd qa own_x0 192) 192) 192 else (0 : Int64))), .second, .unset, .unset] [(.long qa)])
        refine Go.via (fun t k => XS.lload Xh54.here hx rfl (hb hby at_113) rfl k) ?_
        show Go p.tables e below P T54 (mkF m 115 #[.val (.long qa), .second, .val (.long qb), .second, .val (.long qc), .second, .val (.int pi), .val (.int pm), .val (.int (2 : Int32)), .val (.int bt), .val (.long v2_0), .second, .val (.long v4_0), .second, .val (.ref b37), .val (.long (if (0 : Int32) = (0 : Int32) then own_fp (own_upd v2_0 (own_upd qa own_x0 192) 192) 192 else (0 : Int64))), .second, .unset, .unset] [(.long v2_0), (.long qa)])
        refine Go.via (fun t k => XS.lload Xh54.here hx rfl (hb hby at_115) rfl k) ?_
        show Go p.tables e below P T54 (mkF m 117 #[.val (.long qa), .second, .val (.long qb), .second, .val (.long qc), .second, .val (.int pi), .val (.int pm), .val (.int (2 : Int32)), .val (.int bt), .val (.long v2_0), .second, .val (.long v4_0), .second, .val (.ref b37), .val (.long (if (0 : Int32) = (0 : Int32) then own_fp (own_upd v2_0 (own_upd qa own_x0 192) 192) 192 else (0 : Int64))), .second, .unset, .unset] [(.long v4_0), (.long v2_0), (.long qa)])
        refine Go.via (fun t k => XS.iload Xh54.here hx rfl (hb hby at_117) rfl k) ?_
        show Go p.tables e below P T54 (mkF m 119 #[.val (.long qa), .second, .val (.long qb), .second, .val (.long qc), .second, .val (.int pi), .val (.int pm), .val (.int (2 : Int32)), .val (.int bt), .val (.long v2_0), .second, .val (.long v4_0), .second, .val (.ref b37), .val (.long (if (0 : Int32) = (0 : Int32) then own_fp (own_upd v2_0 (own_upd qa own_x0 192) 192) 192 else (0 : Int64))), .second, .unset, .unset] [(.int (2 : Int32)), (.long v4_0), (.long v2_0), (.long qa)])
        refine Go.via (fun t k => XS.iload Xh54.here hx rfl (hb hby at_119) rfl k) ?_
        show Go p.tables e below P T54 (mkF m 121 #[.val (.long qa), .second, .val (.long qb), .second, .val (.long qc), .second, .val (.int pi), .val (.int pm), .val (.int (2 : Int32)), .val (.int bt), .val (.long v2_0), .second, .val (.long v4_0), .second, .val (.ref b37), .val (.long (if (0 : Int32) = (0 : Int32) then own_fp (own_upd v2_0 (own_upd qa own_x0 192) 192) 192 else (0 : Int64))), .second, .unset, .unset] [(.int bt), (.int (2 : Int32)), (.long v4_0), (.long v2_0), (.long qa)])
        refine Go.via (fun t k => XS.iconst Xh54.here hx rfl (hb hby at_121) k) ?_
        show Go p.tables e below P T54 (mkF m 122 #[.val (.long qa), .second, .val (.long qb), .second, .val (.long qc), .second, .val (.int pi), .val (.int pm), .val (.int (2 : Int32)), .val (.int bt), .val (.long v2_0), .second, .val (.long v4_0), .second, .val (.ref b37), .val (.long (if (0 : Int32) = (0 : Int32) then own_fp (own_upd v2_0 (own_upd qa own_x0 192) 192) 192 else (0 : Int64))), .second, .unset, .unset] [(.int (1 : Int32)), (.int bt), (.int (2 : Int32)), (.long v4_0), (.long v2_0), (.long qa)])
        refine Go.via (fun t k => XS.iadd Xh54.here hx rfl (hb hby at_122) rfl k) ?_
        show Go p.tables e below P T54 (mkF m 123 #[.val (.long qa), .second, .val (.long qb), .second, .val (.long qc), .second, .val (.int pi), .val (.int pm), .val (.int (2 : Int32)), .val (.int bt), .val (.long v2_0), .second, .val (.long v4_0), .second, .val (.ref b37), .val (.long (if (0 : Int32) = (0 : Int32) then own_fp (own_upd v2_0 (own_upd qa own_x0 192) 192) 192 else (0 : Int64))), .second, .unset, .unset] [(.int (bt + (1 : Int32))), (.int (2 : Int32)), (.long v4_0), (.long v2_0), (.long qa)])
        obtain ⟨_, _, ⟨T55, L55, k55, n55⟩, -, X55, ⟨Lc55, hQ55, l55, y55, z55⟩, st55⟩ := Jvm.LawKit.callS Xh54 hx (y := (⟨"com/example/criba/criba/model/MinhashAccumulatorFingerprintPinLaw", "minimum", "(JJJII)J"⟩ : MethodName)) hown (mvT hZ (hw _ (List.mem_of_getElem? (i := 43) rfl))) (mvT hZ (hw _ (List.mem_of_getElem? (i := 44) rfl))) (mvT hZ (hw _ (List.mem_of_getElem? (i := 45) rfl))) (mvT hZ (hw _ (List.mem_of_getElem? (i := 46) rfl))) (by decide) (backOf (W := 0) (rm9 l Z a0 hw [] qa v2_0 v4_0 (2 : Int32) (bt + (1 : Int32)) T51.heap n0 Z52 ) hZ (hw _ (List.mem_of_getElem? (i := 46) rfl)) (hw _ (List.mem_of_getElem? (i := 45) rfl)) (by decide) (by decide)) (g := (mkF m 123 #[.val (.long qa), .second, .val (.long qb), .second, .val (.long qc), .second, .val (.int pi), .val (.int pm), .val (.int (2 : Int32)), .val (.int bt), .val (.long v2_0), .second, .val (.long v4_0), .second, .val (.ref b37), .val (.long (if (0 : Int32) = (0 : Int32) then own_fp (own_upd v2_0 (own_upd qa own_x0 192) 192) 192 else (0 : Int64))), .second, .unset, .unset] [(.int (bt + (1 : Int32))), (.int (2 : Int32)), (.long v4_0), (.long v2_0), (.long qa)])) rfl (by rw [hml]; rfl) (argsL := [(.long qa), (.long v2_0), (.long v4_0), (.int (2 : Int32)), (.int (bt + (1 : Int32)))]) (rest := []) (lenOf own_pd8 rfl) rfl (by show 2 * 0 + _ ≤ _; exact Nat.le_of_eq rfl) (hb hby at_123) (fun _ _ => ⟨rfl, hh54, (by decide : 2 + 0 ≤ _), (by decide : 194 + 0 ≤ _)⟩)
        dsimp only [Pt.U, Pt.locs, Pt.cells, Pt.slots] at X55 l55 y55 z55 st55 hQ55
        subst l55 y55 z55
        obtain ⟨rfl, Nq55, hh55⟩ := hQ55
        obtain ⟨lc55, Xh55, N55⟩ := own_hide X55 (Fr.app N54 Nq55)
        clear X55
        refine Go.via st55 ?_
        show Go p.tables e below P T55 (mkF m 126 #[.val (.long qa), .second, .val (.long qb), .second, .val (.long qc), .second, .val (.int pi), .val (.int pm), .val (.int (2 : Int32)), .val (.int bt), .val (.long v2_0), .second, .val (.long v4_0), .second, .val (.ref b37), .val (.long (if (0 : Int32) = (0 : Int32) then own_fp (own_upd v2_0 (own_upd qa own_x0 192) 192) 192 else (0 : Int64))), .second, .unset, .unset] [(.long (own_min qa v2_0 v4_0 (2 : Int32) (bt + (1 : Int32))))])
        refine Go.via (fun t k => XS.lloadN Xh55.here hx rfl (hb hby at_126) rfl k) ?_
        show Go p.tables e below P T55 (mkF m 127 #[.val (.long qa), .second, .val (.long qb), .second, .val (.long qc), .second, .val (.int pi), .val (.int pm), .val (.int (2 : Int32)), .val (.int bt), .val (.long v2_0), .second, .val (.long v4_0), .second, .val (.ref b37), .val (.long (if (0 : Int32) = (0 : Int32) then own_fp (own_upd v2_0 (own_upd qa own_x0 192) 192) 192 else (0 : Int64))), .second, .unset, .unset] [(.long qa), (.long (own_min qa v2_0 v4_0 (2 : Int32) (bt + (1 : Int32))))])
        refine Go.via (fun t k => XS.lload Xh55.here hx rfl (hb hby at_127) rfl k) ?_
        show Go p.tables e below P T55 (mkF m 129 #[.val (.long qa), .second, .val (.long qb), .second, .val (.long qc), .second, .val (.int pi), .val (.int pm), .val (.int (2 : Int32)), .val (.int bt), .val (.long v2_0), .second, .val (.long v4_0), .second, .val (.ref b37), .val (.long (if (0 : Int32) = (0 : Int32) then own_fp (own_upd v2_0 (own_upd qa own_x0 192) 192) 192 else (0 : Int64))), .second, .unset, .unset] [(.long v2_0), (.long qa), (.long (own_min qa v2_0 v4_0 (2 : Int32) (bt + (1 : Int32))))])
        refine Go.via (fun t k => XS.lload Xh55.here hx rfl (hb hby at_129) rfl k) ?_
        show Go p.tables e below P T55 (mkF m 131 #[.val (.long qa), .second, .val (.long qb), .second, .val (.long qc), .second, .val (.int pi), .val (.int pm), .val (.int (2 : Int32)), .val (.int bt), .val (.long v2_0), .second, .val (.long v4_0), .second, .val (.ref b37), .val (.long (if (0 : Int32) = (0 : Int32) then own_fp (own_upd v2_0 (own_upd qa own_x0 192) 192) 192 else (0 : Int64))), .second, .unset, .unset] [(.long v4_0), (.long v2_0), (.long qa), (.long (own_min qa v2_0 v4_0 (2 : Int32) (bt + (1 : Int32))))])
        refine Go.via (fun t k => XS.iload Xh55.here hx rfl (hb hby at_131) rfl k) ?_
        show Go p.tables e below P T55 (mkF m 133 #[.val (.long qa), .second, .val (.long qb), .second, .val (.long qc), .second, .val (.int pi), .val (.int pm), .val (.int (2 : Int32)), .val (.int bt), .val (.long v2_0), .second, .val (.long v4_0), .second, .val (.ref b37), .val (.long (if (0 : Int32) = (0 : Int32) then own_fp (own_upd v2_0 (own_upd qa own_x0 192) 192) 192 else (0 : Int64))), .second, .unset, .unset] [(.int (2 : Int32)), (.long v4_0), (.long v2_0), (.long qa), (.long (own_min qa v2_0 v4_0 (2 : Int32) (bt + (1 : Int32))))])
        refine Go.via (fun t k => XS.iload Xh55.here hx rfl (hb hby at_133) rfl k) ?_
        show Go p.tables e below P T55 (mkF m 135 #[.val (.long qa), .second, .val (.long qb), .second, .val (.long qc), .second, .val (.int pi), .val (.int pm), .val (.int (2 : Int32)), .val (.int bt), .val (.long v2_0), .second, .val (.long v4_0), .second, .val (.ref b37), .val (.long (if (0 : Int32) = (0 : Int32) then own_fp (own_upd v2_0 (own_upd qa own_x0 192) 192) 192 else (0 : Int64))), .second, .unset, .unset] [(.int bt), (.int (2 : Int32)), (.long v4_0), (.long v2_0), (.long qa), (.long (own_min qa v2_0 v4_0 (2 : Int32) (bt + (1 : Int32))))])
        refine Go.via (fun t k => XS.bipush Xh55.here hx rfl (hb hby at_135) k) ?_
        show Go p.tables e below P T55 (mkF m 137 #[.val (.long qa), .second, .val (.long qb), .second, .val (.long qc), .second, .val (.int pi), .val (.int pm), .val (.int (2 : Int32)), .val (.int bt), .val (.long v2_0), .second, .val (.long v4_0), .second, .val (.ref b37), .val (.long (if (0 : Int32) = (0 : Int32) then own_fp (own_upd v2_0 (own_upd qa own_x0 192) 192) 192 else (0 : Int64))), .second, .unset, .unset] [(.int (65 : Int32)), (.int bt), (.int (2 : Int32)), (.long v4_0), (.long v2_0), (.long qa), (.long (own_min qa v2_0 v4_0 (2 : Int32) (bt + (1 : Int32))))])
        refine Go.via (fun t k => XS.iadd Xh55.here hx rfl (hb hby at_137) rfl k) ?_
        show Go p.tables e below P T55 (mkF m 138 #[.val (.long qa), .second, .val (.long qb), .second, .val (.long qc), .second, .val (.int pi), .val (.int pm), .val (.int (2 : Int32)), .val (.int bt), .val (.long v2_0), .second, .val (.long v4_0), .second, .val (.ref b37), .val (.long (if (0 : Int32) = (0 : Int32) then own_fp (own_upd v2_0 (own_upd qa own_x0 192) 192) 192 else (0 : Int64))), .second, .unset, .unset] [(.int (bt + (65 : Int32))), (.int (2 : Int32)), (.long v4_0), (.long v2_0), (.long qa), (.long (own_min qa v2_0 v4_0 (2 : Int32) (bt + (1 : Int32))))])
        obtain ⟨_, _, ⟨T56, L56, k56, n56⟩, -, X56, ⟨Lc56, hQ56, l56, y56, z56⟩, st56⟩ := Jvm.LawKit.callS Xh55 hx (y := (⟨"com/example/criba/criba/model/MinhashAccumulatorFingerprintPinLaw", "minimum", "(JJJII)J"⟩ : MethodName)) hown (mvT hZ (hw _ (List.mem_of_getElem? (i := 43) rfl))) (mvT hZ (hw _ (List.mem_of_getElem? (i := 44) rfl))) (mvT hZ (hw _ (List.mem_of_getElem? (i := 45) rfl))) (mvT hZ (hw _ (List.mem_of_getElem? (i := 46) rfl))) (by decide) (backOf (W := 2) (rm9 l Z a0 hw [] qa v2_0 v4_0 (2 : Int32) (bt + (65 : Int32)) T51.heap n0 Z52 ) hZ (hw _ (List.mem_of_getElem? (i := 46) rfl)) (hw _ (List.mem_of_getElem? (i := 45) rfl)) (by decide) (by decide)) (g := (mkF m 138 #[.val (.long qa), .second, .val (.long qb), .second, .val (.long qc), .second, .val (.int pi), .val (.int pm), .val (.int (2 : Int32)), .val (.int bt), .val (.long v2_0), .second, .val (.long v4_0), .second, .val (.ref b37), .val (.long (if (0 : Int32) = (0 : Int32) then own_fp (own_upd v2_0 (own_upd qa own_x0 192) 192) 192 else (0 : Int64))), .second, .unset, .unset] [(.int (bt + (65 : Int32))), (.int (2 : Int32)), (.long v4_0), (.long v2_0), (.long qa), (.long (own_min qa v2_0 v4_0 (2 : Int32) (bt + (1 : Int32))))])) rfl (by rw [hml]; rfl) (argsL := [(.long qa), (.long v2_0), (.long v4_0), (.int (2 : Int32)), (.int (bt + (65 : Int32)))]) (rest := [(.long (own_min qa v2_0 v4_0 (2 : Int32) (bt + (1 : Int32))))]) (lenOf own_pd8 rfl) rfl (by show 2 * 0 + _ ≤ _; exact Nat.le_of_eq rfl) (hb hby at_138) (fun _ _ => ⟨rfl, hh55, (by decide : 2 + 0 ≤ _), (by decide : 194 + 0 ≤ _)⟩)
        dsimp only [Pt.U, Pt.locs, Pt.cells, Pt.slots] at X56 l56 y56 z56 st56 hQ56
        subst l56 y56 z56
        obtain ⟨rfl, Nq56, hh56⟩ := hQ56
        obtain ⟨lc56, Xh56, N56⟩ := own_hide X56 (Fr.app N55 Nq56)
        clear X56
        refine Go.via st56 ?_
        show Go p.tables e below P T56 (mkF m 141 #[.val (.long qa), .second, .val (.long qb), .second, .val (.long qc), .second, .val (.int pi), .val (.int pm), .val (.int (2 : Int32)), .val (.int bt), .val (.long v2_0), .second, .val (.long v4_0), .second, .val (.ref b37), .val (.long (if (0 : Int32) = (0 : Int32) then own_fp (own_upd v2_0 (own_upd qa own_x0 192) 192) 192 else (0 : Int64))), .second, .unset, .unset] [(.long (own_min qa v2_0 v4_0 (2 : Int32) (bt + (65 : Int32)))), (.long (own_min qa v2_0 v4_0 (2 : Int32) (bt + (1 : Int32))))])
        refine Go.via (fun t k => XS.lxor Xh56.here hx rfl (hb hby at_141) rfl k) ?_
        show Go p.tables e below P T56 (mkF m 142 #[.val (.long qa), .second, .val (.long qb), .second, .val (.long qc), .second, .val (.int pi), .val (.int pm), .val (.int (2 : Int32)), .val (.int bt), .val (.long v2_0), .second, .val (.long v4_0), .second, .val (.ref b37), .val (.long (if (0 : Int32) = (0 : Int32) then own_fp (own_upd v2_0 (own_upd qa own_x0 192) 192) 192 else (0 : Int64))), .second, .unset, .unset] [(.long ((own_min qa v2_0 v4_0 (2 : Int32) (bt + (1 : Int32))) ^^^ (own_min qa v2_0 v4_0 (2 : Int32) (bt + (65 : Int32)))))])
        refine Go.via (fun t k => XS.lloadN Xh56.here hx rfl (hb hby at_142) rfl k) ?_
        show Go p.tables e below P T56 (mkF m 143 #[.val (.long qa), .second, .val (.long qb), .second, .val (.long qc), .second, .val (.int pi), .val (.int pm), .val (.int (2 : Int32)), .val (.int bt), .val (.long v2_0), .second, .val (.long v4_0), .second, .val (.ref b37), .val (.long (if (0 : Int32) = (0 : Int32) then own_fp (own_upd v2_0 (own_upd qa own_x0 192) 192) 192 else (0 : Int64))), .second, .unset, .unset] [(.long qa), (.long ((own_min qa v2_0 v4_0 (2 : Int32) (bt + (1 : Int32))) ^^^ (own_min qa v2_0 v4_0 (2 : Int32) (bt + (65 : Int32)))))])
        refine Go.via (fun t k => XS.lload Xh56.here hx rfl (hb hby at_143) rfl k) ?_
        show Go p.tables e below P T56 (mkF m 145 #[.val (.long qa), .second, .val (.long qb), .second, .val (.long qc), .second, .val (.int pi), .val (.int pm), .val (.int (2 : Int32)), .val (.int bt), .val (.long v2_0), .second, .val (.long v4_0), .second, .val (.ref b37), .val (.long (if (0 : Int32) = (0 : Int32) then own_fp (own_upd v2_0 (own_upd qa own_x0 192) 192) 192 else (0 : Int64))), .second, .unset, .unset] [(.long v2_0), (.long qa), (.long ((own_min qa v2_0 v4_0 (2 : Int32) (bt + (1 : Int32))) ^^^ (own_min qa v2_0 v4_0 (2 : Int32) (bt + (65 : Int32)))))])
        refine Go.via (fun t k => XS.lload Xh56.here hx rfl (hb hby at_145) rfl k) ?_
        show Go p.tables e below P T56 (mkF m 147 #[.val (.long qa), .second, .val (.long qb), .second, .val (.long qc), .second, .val (.int pi), .val (.int pm), .val (.int (2 : Int32)), .val (.int bt), .val (.long v2_0), .second, .val (.long v4_0), .second, .val (.ref b37), .val (.long (if (0 : Int32) = (0 : Int32) then own_fp (own_upd v2_0 (own_upd qa own_x0 192) 192) 192 else (0 : Int64))), .second, .unset, .unset] [(.long v4_0), (.long v2_0), (.long qa), (.long ((own_min qa v2_0 v4_0 (2 : Int32) (bt + (1 : Int32))) ^^^ (own_min qa v2_0 v4_0 (2 : Int32) (bt + (65 : Int32)))))])
        refine Go.via (fun t k => XS.iload Xh56.here hx rfl (hb hby at_147) rfl k) ?_
        show Go p.tables e below P T56 (mkF m 149 #[.val (.long qa), .second, .val (.long qb), .second, .val (.long qc), .second, .val (.int pi), .val (.int pm), .val (.int (2 : Int32)), .val (.int bt), .val (.long v2_0), .second, .val (.long v4_0), .second, .val (.ref b37), .val (.long (if (0 : Int32) = (0 : Int32) then own_fp (own_upd v2_0 (own_upd qa own_x0 192) 192) 192 else (0 : Int64))), .second, .unset, .unset] [(.int (2 : Int32)), (.long v4_0), (.long v2_0), (.long qa), (.long ((own_min qa v2_0 v4_0 (2 : Int32) (bt + (1 : Int32))) ^^^ (own_min qa v2_0 v4_0 (2 : Int32) (bt + (65 : Int32)))))])
        refine Go.via (fun t k => XS.iload Xh56.here hx rfl (hb hby at_149) rfl k) ?_
        show Go p.tables e below P T56 (mkF m 151 #[.val (.long qa), .second, .val (.long qb), .second, .val (.long qc), .second, .val (.int pi), .val (.int pm), .val (.int (2 : Int32)), .val (.int bt), .val (.long v2_0), .second, .val (.long v4_0), .second, .val (.ref b37), .val (.long (if (0 : Int32) = (0 : Int32) then own_fp (own_upd v2_0 (own_upd qa own_x0 192) 192) 192 else (0 : Int64))), .second, .unset, .unset] [(.int bt), (.int (2 : Int32)), (.long v4_0), (.long v2_0), (.long qa), (.long ((own_min qa v2_0 v4_0 (2 : Int32) (bt + (1 : Int32))) ^^^ (own_min qa v2_0 v4_0 (2 : Int32) (bt + (65 : Int32)))))])
        refine Go.via (fun t k => XS.sipush Xh56.here hx rfl (hb hby at_151) k) ?_
        show Go p.tables e below P T56 (mkF m 154 #[.val (.long qa), .second, .val (.long qb), .second, .val (.long qc), .second, .val (.int pi), .val (.int pm), .val (.int (2 : Int32)), .val (.int bt), .val (.long v2_0), .second, .val (.long v4_0), .second, .val (.ref b37), .val (.long (if (0 : Int32) = (0 : Int32) then own_fp (own_upd v2_0 (own_upd qa own_x0 192) 192) 192 else (0 : Int64))), .second, .unset, .unset] [(.int (129 : Int32)), (.int bt), (.int (2 : Int32)), (.long v4_0), (.long v2_0), (.long qa), (.long ((own_min qa v2_0 v4_0 (2 : Int32) (bt + (1 : Int32))) ^^^ (own_min qa v2_0 v4_0 (2 : Int32) (bt + (65 : Int32)))))])
        refine Go.via (fun t k => XS.iadd Xh56.here hx rfl (hb hby at_154) rfl k) ?_
        show Go p.tables e below P T56 (mkF m 155 #[.val (.long qa), .second, .val (.long qb), .second, .val (.long qc), .second, .val (.int pi), .val (.int pm), .val (.int (2 : Int32)), .val (.int bt), .val (.long v2_0), .second, .val (.long v4_0), .second, .val (.ref b37), .val (.long (if (0 : Int32) = (0 : Int32) then own_fp (own_upd v2_0 (own_upd qa own_x0 192) 192) 192 else (0 : Int64))), .second, .unset, .unset] [(.int (bt + (129 : Int32))), (.int (2 : Int32)), (.long v4_0), (.long v2_0), (.long qa), (.long ((own_min qa v2_0 v4_0 (2 : Int32) (bt + (1 : Int32))) ^^^ (own_min qa v2_0 v4_0 (2 : Int32) (bt + (65 : Int32)))))])
        obtain ⟨_, _, ⟨T57, L57, k57, n57⟩, -, X57, ⟨Lc57, hQ57, l57, y57, z57⟩, st57⟩ := Jvm.LawKit.callS Xh56 hx (y := (⟨"com/example/criba/criba/model/MinhashAccumulatorFingerprintPinLaw", "minimum", "(JJJII)J"⟩ : MethodName)) hown (mvT hZ (hw _ (List.mem_of_getElem? (i := 43) rfl))) (mvT hZ (hw _ (List.mem_of_getElem? (i := 44) rfl))) (mvT hZ (hw _ (List.mem_of_getElem? (i := 45) rfl))) (mvT hZ (hw _ (List.mem_of_getElem? (i := 46) rfl))) (by decide) (backOf (W := 2) (rm9 l Z a0 hw [] qa v2_0 v4_0 (2 : Int32) (bt + (129 : Int32)) T51.heap n0 Z52 ) hZ (hw _ (List.mem_of_getElem? (i := 46) rfl)) (hw _ (List.mem_of_getElem? (i := 45) rfl)) (by decide) (by decide)) (g := (mkF m 155 #[.val (.long qa), .second, .val (.long qb), .second, .val (.long qc), .second, .val (.int pi), .val (.int pm), .val (.int (2 : Int32)), .val (.int bt), .val (.long v2_0), .second, .val (.long v4_0), .second, .val (.ref b37), .val (.long (if (0 : Int32) = (0 : Int32) then own_fp (own_upd v2_0 (own_upd qa own_x0 192) 192) 192 else (0 : Int64))), .second, .unset, .unset] [(.int (bt + (129 : Int32))), (.int (2 : Int32)), (.long v4_0), (.long v2_0), (.long qa), (.long ((own_min qa v2_0 v4_0 (2 : Int32) (bt + (1 : Int32))) ^^^ (own_min qa v2_0 v4_0 (2 : Int32) (bt + (65 : Int32)))))])) rfl (by rw [hml]; rfl) (argsL := [(.long qa), (.long v2_0), (.long v4_0), (.int (2 : Int32)), (.int (bt + (129 : Int32)))]) (rest := [(.long ((own_min qa v2_0 v4_0 (2 : Int32) (bt + (1 : Int32))) ^^^ (own_min qa v2_0 v4_0 (2 : Int32) (bt + (65 : Int32)))))]) (lenOf own_pd8 rfl) rfl (by show 2 * 0 + _ ≤ _; exact Nat.le_of_eq rfl) (hb hby at_155) (fun _ _ => ⟨rfl, hh56, (by decide : 2 + 0 ≤ _), (by decide : 194 + 0 ≤ _)⟩)
        dsimp only [Pt.U, Pt.locs, Pt.cells, Pt.slots] at X57 l57 y57 z57 st57 hQ57
        subst l57 y57 z57
        obtain ⟨rfl, Nq57, hh57⟩ := hQ57
        obtain ⟨lc57, Xh57, N57⟩ := own_hide X57 (Fr.app N56 Nq57)
        clear X57
        refine Go.via st57 ?_
        show Go p.tables e below P T57 (mkF m 158 #[.val (.long qa), .second, .val (.long qb), .second, .val (.long qc), .second, .val (.int pi), .val (.int pm), .val (.int (2 : Int32)), .val (.int bt), .val (.long v2_0), .second, .val (.long v4_0), .second, .val (.ref b37), .val (.long (if (0 : Int32) = (0 : Int32) then own_fp (own_upd v2_0 (own_upd qa own_x0 192) 192) 192 else (0 : Int64))), .second, .unset, .unset] [(.long (own_min qa v2_0 v4_0 (2 : Int32) (bt + (129 : Int32)))), (.long ((own_min qa v2_0 v4_0 (2 : Int32) (bt + (1 : Int32))) ^^^ (own_min qa v2_0 v4_0 (2 : Int32) (bt + (65 : Int32)))))])
        refine Go.via (fun t k => XS.lxor Xh57.here hx rfl (hb hby at_158) rfl k) ?_
        show Go p.tables e below P T57 (mkF m 159 #[.val (.long qa), .second, .val (.long qb), .second, .val (.long qc), .second, .val (.int pi), .val (.int pm), .val (.int (2 : Int32)), .val (.int bt), .val (.long v2_0), .second, .val (.long v4_0), .second, .val (.ref b37), .val (.long (if (0 : Int32) = (0 : Int32) then own_fp (own_upd v2_0 (own_upd qa own_x0 192) 192) 192 else (0 : Int64))), .second, .unset, .unset] [(.long (((own_min qa v2_0 v4_0 (2 : Int32) (bt + (1 : Int32))) ^^^ (own_min qa v2_0 v4_0 (2 : Int32) (bt + (65 : Int32)))) ^^^ (own_min qa v2_0 v4_0 (2 : Int32) (bt + (129 : Int32)))))])
        refine Go.via (fun t k => XS.lconst Xh57.here hx rfl (hb hby at_159) k) ?_
        show Go p.tables e below P T57 (mkF m 160 #[.val (.long qa), .second, .val (.long qb), .second, .val (.long qc), .second, .val (.int pi), .val (.int pm), .val (.int (2 : Int32)), .val (.int bt), .val (.long v2_0), .second, .val (.long v4_0), .second, .val (.ref b37), .val (.long (if (0 : Int32) = (0 : Int32) then own_fp (own_upd v2_0 (own_upd qa own_x0 192) 192) 192 else (0 : Int64))), .second, .unset, .unset] [(.long (1 : Int64)), (.long (((own_min qa v2_0 v4_0 (2 : Int32) (bt + (1 : Int32))) ^^^ (own_min qa v2_0 v4_0 (2 : Int32) (bt + (65 : Int32)))) ^^^ (own_min qa v2_0 v4_0 (2 : Int32) (bt + (129 : Int32)))))])
        refine Go.via (fun t k => XS.land Xh57.here hx rfl (hb hby at_160) rfl k) ?_
        show Go p.tables e below P T57 (mkF m 161 #[.val (.long qa), .second, .val (.long qb), .second, .val (.long qc), .second, .val (.int pi), .val (.int pm), .val (.int (2 : Int32)), .val (.int bt), .val (.long v2_0), .second, .val (.long v4_0), .second, .val (.ref b37), .val (.long (if (0 : Int32) = (0 : Int32) then own_fp (own_upd v2_0 (own_upd qa own_x0 192) 192) 192 else (0 : Int64))), .second, .unset, .unset] [(.long ((((own_min qa v2_0 v4_0 (2 : Int32) (bt + (1 : Int32))) ^^^ (own_min qa v2_0 v4_0 (2 : Int32) (bt + (65 : Int32)))) ^^^ (own_min qa v2_0 v4_0 (2 : Int32) (bt + (129 : Int32)))) &&& (1 : Int64)))])
        refine Go.via (fun t k => XS.lstore Xh57.here hx rfl (hb hby at_161) rfl (l' := #[.val (.long qa), .second, .val (.long qb), .second, .val (.long qc), .second, .val (.int pi), .val (.int pm), .val (.int (2 : Int32)), .val (.int bt), .val (.long v2_0), .second, .val (.long v4_0), .second, .val (.ref b37), .val (.long (if (0 : Int32) = (0 : Int32) then own_fp (own_upd v2_0 (own_upd qa own_x0 192) 192) 192 else (0 : Int64))), .second, .val (.long ((((own_min qa v2_0 v4_0 (2 : Int32) (bt + (1 : Int32))) ^^^ (own_min qa v2_0 v4_0 (2 : Int32) (bt + (65 : Int32)))) ^^^ (own_min qa v2_0 v4_0 (2 : Int32) (bt + (129 : Int32)))) &&& (1 : Int64))), .second]) rfl k) ?_
        show Go p.tables e below P T57 (mkF m 163 #[.val (.long qa), .second, .val (.long qb), .second, .val (.long qc), .second, .val (.int pi), .val (.int pm), .val (.int (2 : Int32)), .val (.int bt), .val (.long v2_0), .second, .val (.long v4_0), .second, .val (.ref b37), .val (.long (if (0 : Int32) = (0 : Int32) then own_fp (own_upd v2_0 (own_upd qa own_x0 192) 192) 192 else (0 : Int64))), .second, .val (.long ((((own_min qa v2_0 v4_0 (2 : Int32) (bt + (1 : Int32))) ^^^ (own_min qa v2_0 v4_0 (2 : Int32) (bt + (65 : Int32)))) ^^^ (own_min qa v2_0 v4_0 (2 : Int32) (bt + (129 : Int32)))) &&& (1 : Int64))), .second] [])
        refine Go.via (fun t k => XS.lload Xh57.here hx rfl (hb hby at_163) rfl k) ?_
        show Go p.tables e below P T57 (mkF m 165 #[.val (.long qa), .second, .val (.long qb), .second, .val (.long qc), .second, .val (.int pi), .val (.int pm), .val (.int (2 : Int32)), .val (.int bt), .val (.long v2_0), .second, .val (.long v4_0), .second, .val (.ref b37), .val (.long (if (0 : Int32) = (0 : Int32) then own_fp (own_upd v2_0 (own_upd qa own_x0 192) 192) 192 else (0 : Int64))), .second, .val (.long ((((own_min qa v2_0 v4_0 (2 : Int32) (bt + (1 : Int32))) ^^^ (own_min qa v2_0 v4_0 (2 : Int32) (bt + (65 : Int32)))) ^^^ (own_min qa v2_0 v4_0 (2 : Int32) (bt + (129 : Int32)))) &&& (1 : Int64))), .second] [(.long (if (0 : Int32) = (0 : Int32) then own_fp (own_upd v2_0 (own_upd qa own_x0 192) 192) 192 else (0 : Int64)))])
        refine Go.via (fun t k => XS.iload Xh57.here hx rfl (hb hby at_165) rfl k) ?_
        show Go p.tables e below P T57 (mkF m 167 #[.val (.long qa), .second, .val (.long qb), .second, .val (.long qc), .second, .val (.int pi), .val (.int pm), .val (.int (2 : Int32)), .val (.int bt), .val (.long v2_0), .second, .val (.long v4_0), .second, .val (.ref b37), .val (.long (if (0 : Int32) = (0 : Int32) then own_fp (own_upd v2_0 (own_upd qa own_x0 192) 192) 192 else (0 : Int64))), .second, .val (.long ((((own_min qa v2_0 v4_0 (2 : Int32) (bt + (1 : Int32))) ^^^ (own_min qa v2_0 v4_0 (2 : Int32) (bt + (65 : Int32)))) ^^^ (own_min qa v2_0 v4_0 (2 : Int32) (bt + (129 : Int32)))) &&& (1 : Int64))), .second] [(.int bt), (.long (if (0 : Int32) = (0 : Int32) then own_fp (own_upd v2_0 (own_upd qa own_x0 192) 192) 192 else (0 : Int64)))])
        refine Go.via (fun t k => XS.lushr Xh57.here hx rfl (hb hby at_167) rfl k) ?_
        show Go p.tables e below P T57 (mkF m 168 #[.val (.long qa), .second, .val (.long qb), .second, .val (.long qc), .second, .val (.int pi), .val (.int pm), .val (.int (2 : Int32)), .val (.int bt), .val (.long v2_0), .second, .val (.long v4_0), .second, .val (.ref b37), .val (.long (if (0 : Int32) = (0 : Int32) then own_fp (own_upd v2_0 (own_upd qa own_x0 192) 192) 192 else (0 : Int64))), .second, .val (.long ((((own_min qa v2_0 v4_0 (2 : Int32) (bt + (1 : Int32))) ^^^ (own_min qa v2_0 v4_0 (2 : Int32) (bt + (65 : Int32)))) ^^^ (own_min qa v2_0 v4_0 (2 : Int32) (bt + (129 : Int32)))) &&& (1 : Int64))), .second] [(.long (((if (0 : Int32) = (0 : Int32) then own_fp (own_upd v2_0 (own_upd qa own_x0 192) 192) 192 else (0 : Int64)).toUInt64 >>> (bt &&& 0x3f).toInt64.toUInt64).toInt64))])
        refine Go.via (fun t k => XS.lconst Xh57.here hx rfl (hb hby at_168) k) ?_
        show Go p.tables e below P T57 (mkF m 169 #[.val (.long qa), .second, .val (.long qb), .second, .val (.long qc), .second, .val (.int pi), .val (.int pm), .val (.int (2 : Int32)), .val (.int bt), .val (.long v2_0), .second, .val (.long v4_0), .second, .val (.ref b37), .val (.long (if (0 : Int32) = (0 : Int32) then own_fp (own_upd v2_0 (own_upd qa own_x0 192) 192) 192 else (0 : Int64))), .second, .val (.long ((((own_min qa v2_0 v4_0 (2 : Int32) (bt + (1 : Int32))) ^^^ (own_min qa v2_0 v4_0 (2 : Int32) (bt + (65 : Int32)))) ^^^ (own_min qa v2_0 v4_0 (2 : Int32) (bt + (129 : Int32)))) &&& (1 : Int64))), .second] [(.long (1 : Int64)), (.long (((if (0 : Int32) = (0 : Int32) then own_fp (own_upd v2_0 (own_upd qa own_x0 192) 192) 192 else (0 : Int64)).toUInt64 >>> (bt &&& 0x3f).toInt64.toUInt64).toInt64))])
        refine Go.via (fun t k => XS.land Xh57.here hx rfl (hb hby at_169) rfl k) ?_
        show Go p.tables e below P T57 (mkF m 170 #[.val (.long qa), .second, .val (.long qb), .second, .val (.long qc), .second, .val (.int pi), .val (.int pm), .val (.int (2 : Int32)), .val (.int bt), .val (.long v2_0), .second, .val (.long v4_0), .second, .val (.ref b37), .val (.long (if (0 : Int32) = (0 : Int32) then own_fp (own_upd v2_0 (own_upd qa own_x0 192) 192) 192 else (0 : Int64))), .second, .val (.long ((((own_min qa v2_0 v4_0 (2 : Int32) (bt + (1 : Int32))) ^^^ (own_min qa v2_0 v4_0 (2 : Int32) (bt + (65 : Int32)))) ^^^ (own_min qa v2_0 v4_0 (2 : Int32) (bt + (129 : Int32)))) &&& (1 : Int64))), .second] [(.long ((((if (0 : Int32) = (0 : Int32) then own_fp (own_upd v2_0 (own_upd qa own_x0 192) 192) 192 else (0 : Int64)).toUInt64 >>> (bt &&& 0x3f).toInt64.toUInt64).toInt64) &&& (1 : Int64)))])
        refine Go.via (fun t k => XS.lload Xh57.here hx rfl (hb hby at_170) rfl k) ?_
        show Go p.tables e below P T57 (mkF m 172 #[.val (.long qa), .second, .val (.long qb), .second, .val (.long qc), .second, .val (.int pi), .val (.int pm), .val (.int (2 : Int32)), .val (.int bt), .val (.long v2_0), .second, .val (.long v4_0), .second, .val (.ref b37), .val (.long (if (0 : Int32) = (0 : Int32) then own_fp (own_upd v2_0 (own_upd qa own_x0 192) 192) 192 else (0 : Int64))), .second, .val (.long ((((own_min qa v2_0 v4_0 (2 : Int32) (bt + (1 : Int32))) ^^^ (own_min qa v2_0 v4_0 (2 : Int32) (bt + (65 : Int32)))) ^^^ (own_min qa v2_0 v4_0 (2 : Int32) (bt + (129 : Int32)))) &&& (1 : Int64))), .second] [(.long ((((own_min qa v2_0 v4_0 (2 : Int32) (bt + (1 : Int32))) ^^^ (own_min qa v2_0 v4_0 (2 : Int32) (bt + (65 : Int32)))) ^^^ (own_min qa v2_0 v4_0 (2 : Int32) (bt + (129 : Int32)))) &&& (1 : Int64))), (.long ((((if (0 : Int32) = (0 : Int32) then own_fp (own_upd v2_0 (own_upd qa own_x0 192) 192) 192 else (0 : Int64)).toUInt64 >>> (bt &&& 0x3f).toInt64.toUInt64).toInt64) &&& (1 : Int64)))])
        refine Go.via (fun t k => XS.lcmp Xh57.here hx rfl (hb hby at_172) rfl k) ?_
        show Go p.tables e below P T57 (mkF m 173 #[.val (.long qa), .second, .val (.long qb), .second, .val (.long qc), .second, .val (.int pi), .val (.int pm), .val (.int (2 : Int32)), .val (.int bt), .val (.long v2_0), .second, .val (.long v4_0), .second, .val (.ref b37), .val (.long (if (0 : Int32) = (0 : Int32) then own_fp (own_upd v2_0 (own_upd qa own_x0 192) 192) 192 else (0 : Int64))), .second, .val (.long ((((own_min qa v2_0 v4_0 (2 : Int32) (bt + (1 : Int32))) ^^^ (own_min qa v2_0 v4_0 (2 : Int32) (bt + (65 : Int32)))) ^^^ (own_min qa v2_0 v4_0 (2 : Int32) (bt + (129 : Int32)))) &&& (1 : Int64))), .second] [(.int (lcmpW ((((if (0 : Int32) = (0 : Int32) then own_fp (own_upd v2_0 (own_upd qa own_x0 192) 192) 192 else (0 : Int64)).toUInt64 >>> (bt &&& 0x3f).toInt64.toUInt64).toInt64) &&& (1 : Int64)) ((((own_min qa v2_0 v4_0 (2 : Int32) (bt + (1 : Int32))) ^^^ (own_min qa v2_0 v4_0 (2 : Int32) (bt + (65 : Int32)))) ^^^ (own_min qa v2_0 v4_0 (2 : Int32) (bt + (129 : Int32)))) &&& (1 : Int64))))])
        refine Go.via (fun t k => XS.ifNo Xh57.here hx rfl (hb hby at_173) rfl ((if0 _ _).trans (teq ((lw_eq _ _).mpr (own_law2 qa v2_0 v4_0 hb64 hbt'))).2) k) ?_
        show Go p.tables e below P T57 (mkF m 176 #[.val (.long qa), .second, .val (.long qb), .second, .val (.long qc), .second, .val (.int pi), .val (.int pm), .val (.int (2 : Int32)), .val (.int bt), .val (.long v2_0), .second, .val (.long v4_0), .second, .val (.ref b37), .val (.long (if (0 : Int32) = (0 : Int32) then own_fp (own_upd v2_0 (own_upd qa own_x0 192) 192) 192 else (0 : Int64))), .second, .val (.long ((((own_min qa v2_0 v4_0 (2 : Int32) (bt + (1 : Int32))) ^^^ (own_min qa v2_0 v4_0 (2 : Int32) (bt + (65 : Int32)))) ^^^ (own_min qa v2_0 v4_0 (2 : Int32) (bt + (129 : Int32)))) &&& (1 : Int64))), .second] [])
        refine Go.via (fun t k => XS.iconst Xh57.here hx rfl (hb hby at_176) k) ?_
        show Go p.tables e below P T57 (mkF m 177 #[.val (.long qa), .second, .val (.long qb), .second, .val (.long qc), .second, .val (.int pi), .val (.int pm), .val (.int (2 : Int32)), .val (.int bt), .val (.long v2_0), .second, .val (.long v4_0), .second, .val (.ref b37), .val (.long (if (0 : Int32) = (0 : Int32) then own_fp (own_upd v2_0 (own_upd qa own_x0 192) 192) 192 else (0 : Int64))), .second, .val (.long ((((own_min qa v2_0 v4_0 (2 : Int32) (bt + (1 : Int32))) ^^^ (own_min qa v2_0 v4_0 (2 : Int32) (bt + (65 : Int32)))) ^^^ (own_min qa v2_0 v4_0 (2 : Int32) (bt + (129 : Int32)))) &&& (1 : Int64))), .second] [(.int (1 : Int32))])
        refine Go.via (fun t k => XS.goto Xh57.here hx rfl (pc0 := 177) (pc' := 181) rfl (hb hby at_177) (by decide) (by decide) k) ?_
        show Go p.tables e below P T57 (mkF m 181 #[.val (.long qa), .second, .val (.long qb), .second, .val (.long qc), .second, .val (.int pi), .val (.int pm), .val (.int (2 : Int32)), .val (.int bt), .val (.long v2_0), .second, .val (.long v4_0), .second, .val (.ref b37), .val (.long (if (0 : Int32) = (0 : Int32) then own_fp (own_upd v2_0 (own_upd qa own_x0 192) 192) 192 else (0 : Int64))), .second, .val (.long ((((own_min qa v2_0 v4_0 (2 : Int32) (bt + (1 : Int32))) ^^^ (own_min qa v2_0 v4_0 (2 : Int32) (bt + (65 : Int32)))) ^^^ (own_min qa v2_0 v4_0 (2 : Int32) (bt + (129 : Int32)))) &&& (1 : Int64))), .second] [(.int (1 : Int32))])
        obtain ⟨fs, hr, hrun, hended, hW, hsame⟩ := Xh57.leave (v := some (.int (1 : Int32))) (fun h => by rw [Bd.returns] at h; cases h)
        refine ⟨_, _, retZ Xh57 hx (t := .boolean) Bd.returns (by simp) (hb hby at_181) rfl hr, hrun, hended, hP _ _ ⟨_, _, rfl, ?_, ⟨_, rfl⟩, hW, hsame.mono (by decide) (by decide)⟩⟩
        show Q0 Z qa qb qc pi pm h0 n0 _ T57.heap _
        rw [hh57]
        exact ⟨rfl, N57⟩
      · rw [c3]
        show Go p.tables e below P T4 (mkF m 47 #[.val (.long qa), .second, .val (.long qb), .second, .val (.long qc), .second, .val (.int pi), .val (.int pm), .val (.int (3 : Int32)), .val (.int bt), .val (.long v2_0), .second, .val (.long v4_0), .second, .unset, .unset, .unset, .unset, .unset] [])
        obtain ⟨T59, h59, X59, e59, E59, A59, D59, -, st59⟩ := newO X4 hx hZ hown (hw _ (List.mem_of_getElem? (i := 0) rfl)) (hw _ (List.mem_of_getElem? (i := 1) rfl)) (hw _ (List.mem_of_getElem? (i := 2) rfl)) e4 (g := (mkF m 47 #[.val (.long qa), .second, .val (.long qb), .second, .val (.long qc), .second, .val (.int pi), .val (.int pm), .val (.int (3 : Int32)), .val (.int bt), .val (.long v2_0), .second, .val (.long v4_0), .second, .unset, .unset, .unset, .unset, .unset] [])) rfl (hb hby at_47) (by decide) (by decide)
        obtain ⟨b59, g59⟩ : ∃ z, z = h0.size := ⟨_, rfl⟩
        rw [← g59] at A59 D59 st59
        refine Go.via st59 ?_
        have g60 : n0 ≤ b59 := Nat.le_trans Z0 (Nat.le_of_eq g59.symm)
        have sz61 : h0.size ≤ b59 := Nat.le_trans K0.1 (Nat.le_of_eq g59.symm)
        have Z62 : n0 ≤ h59.size := Nat.le_trans Z0 E59.1
        have K63 : Keep h0 h59 [] := K0.ext E59
        show Go p.tables e below P T59 (mkF m 50 #[.val (.long qa), .second, .val (.long qb), .second, .val (.long qc), .second, .val (.int pi), .val (.int pm), .val (.int (3 : Int32)), .val (.int bt), .val (.long v2_0), .second, .val (.long v4_0), .second, .unset, .unset, .unset, .unset, .unset] [(.ref b59)])
        refine Go.via (fun t k => XS.dup X59.here hx rfl (hb hby at_50) rfl rfl k) ?_
        show Go p.tables e below P T59 (mkF m 51 #[.val (.long qa), .second, .val (.long qb), .second, .val (.long qc), .second, .val (.int pi), .val (.int pm), .val (.int (3 : Int32)), .val (.int bt), .val (.long v2_0), .second, .val (.long v4_0), .second, .unset, .unset, .unset, .unset, .unset] [(.ref b59), (.ref b59)])
        obtain ⟨_, _, ⟨T64, L64, k64, n64⟩, -, X64, ⟨Lc64, hQ64, l64, y64, z64⟩, st64⟩ := X59.specialBack hx (y := (⟨"com/example/criba/criba/model/MinhashAccumulator", "<init>", "()V"⟩ : MethodName)) rfl hown (mvT hZ (hw _ (List.mem_of_getElem? (i := 3) rfl))) (mvT hZ (hw _ (List.mem_of_getElem? (i := 4) rfl))) (mvT hZ (hw _ (List.mem_of_getElem? (i := 5) rfl))) (by decide) (backOf (W := 1) (rm1 l Z a0 hw [] b59 h59 n0 Z62 A59 (D59 (Or.inr (hw _ (List.mem_of_getElem? (i := 11) rfl))) (ty := (.array .long)) (by decide) : Fld Z h59 b59 "com/example/criba/criba/model/MinhashAccumulator" "minima" "[J" .null) (D59 (Or.inl (hw _ (List.mem_of_getElem? (i := 13) rfl))) (ty := .boolean) (by decide) : Fld Z h59 b59 "com/example/criba/criba/model/MinhashAccumulator" "empty" "Z" (.int (0 : Int32))) g60) hZ (hw _ (List.mem_of_getElem? (i := 5) rfl)) (hw _ (List.mem_of_getElem? (i := 2) rfl)) (by decide) (by decide)) (g := (mkF m 51 #[.val (.long qa), .second, .val (.long qb), .second, .val (.long qc), .second, .val (.int pi), .val (.int pm), .val (.int (3 : Int32)), .val (.int bt), .val (.long v2_0), .second, .val (.long v4_0), .second, .unset, .unset, .unset, .unset, .unset] [(.ref b59), (.ref b59)])) rfl (by rw [hml]; rfl) (Steps.refl _) (a := b59) (argsL := []) (rest := [(.ref b59)]) (lenOf own_pd5 rfl) rfl (by show 2 * 0 + _ ≤ _; exact Nat.le_of_eq rfl) (hb hby at_51) (fun _ _ => ⟨rfl, e59, (by decide : 1 + 1 ≤ _), (by decide : 2 + 192 ≤ _)⟩)
        dsimp only [Pt.U, Pt.locs, Pt.cells, Pt.slots] at X64 l64 y64 z64 st64 hQ64
        subst l64 y64 z64
        obtain ⟨om_64, kk_64, rfl, Nq64, K64, fr64_om, u64_0, u64_1, u64_2, u64_3, u64_4⟩ := hQ64
        obtain ⟨lc64, Xh64, N64⟩ := own_hide X64 (Fr.app N4 Nq64)
        clear X64
        refine Go.hop st64 ?_
        have ne65 : b59 ≠ om_64 := Nat.ne_of_lt (Nat.lt_of_lt_of_le A59.lt fr64_om)
        have g66 : n0 ≤ om_64 := Nat.le_trans Z62 fr64_om
        have sz67 : h0.size ≤ om_64 := Nat.le_trans K63.1 fr64_om
        have Z68 : n0 ≤ T64.heap.size := Nat.le_trans Z62 K64.1
        have K69 : Keep h0 T64.heap [] := K63.trans K64 (own_allC (Or.inr sz61) own_all0)
        show Go p.tables e below P T64 (mkF m 54 #[.val (.long qa), .second, .val (.long qb), .second, .val (.long qc), .second, .val (.int pi), .val (.int pm), .val (.int (3 : Int32)), .val (.int bt), .val (.long v2_0), .second, .val (.long v4_0), .second, .unset, .unset, .unset, .unset, .unset] [(.ref b59)])
        refine Go.via (fun t k => XS.astore Xh64.here hx rfl (hb hby at_54) rfl rfl (l' := #[.val (.long qa), .second, .val (.long qb), .second, .val (.long qc), .second, .val (.int pi), .val (.int pm), .val (.int (3 : Int32)), .val (.int bt), .val (.long v2_0), .second, .val (.long v4_0), .second, .val (.ref b59), .unset, .unset, .unset, .unset]) rfl k) ?_
        show Go p.tables e below P T64 (mkF m 56 #[.val (.long qa), .second, .val (.long qb), .second, .val (.long qc), .second, .val (.int pi), .val (.int pm), .val (.int (3 : Int32)), .val (.int bt), .val (.long v2_0), .second, .val (.long v4_0), .second, .val (.ref b59), .unset, .unset, .unset, .unset] [])
        refine Go.via (fun t k => XS.iload Xh64.here hx rfl (hb hby at_56) rfl k) ?_
        show Go p.tables e below P T64 (mkF m 58 #[.val (.long qa), .second, .val (.long qb), .second, .val (.long qc), .second, .val (.int pi), .val (.int pm), .val (.int (3 : Int32)), .val (.int bt), .val (.long v2_0), .second, .val (.long v4_0), .second, .val (.ref b59), .unset, .unset, .unset, .unset] [(.int (3 : Int32))])
        refine Go.via (fun t k => XS.iconst Xh64.here hx rfl (hb hby at_58) k) ?_
        show Go p.tables e below P T64 (mkF m 59 #[.val (.long qa), .second, .val (.long qb), .second, .val (.long qc), .second, .val (.int pi), .val (.int pm), .val (.int (3 : Int32)), .val (.int bt), .val (.long v2_0), .second, .val (.long v4_0), .second, .val (.ref b59), .unset, .unset, .unset, .unset] [(.int (1 : Int32)), (.int (3 : Int32))])
        refine Go.via (fun t k => XS.icmpNo Xh64.here hx rfl (hb hby at_59) rfl (flt (by decide : ¬ ((3 : Int32) < (1 : Int32)))).1 k) ?_
        show Go p.tables e below P T64 (mkF m 62 #[.val (.long qa), .second, .val (.long qb), .second, .val (.long qc), .second, .val (.int pi), .val (.int pm), .val (.int (3 : Int32)), .val (.int bt), .val (.long v2_0), .second, .val (.long v4_0), .second, .val (.ref b59), .unset, .unset, .unset, .unset] [])
        refine Go.via (fun t k => XS.aload Xh64.here hx rfl (hb hby at_62) rfl rfl k) ?_
        show Go p.tables e below P T64 (mkF m 64 #[.val (.long qa), .second, .val (.long qb), .second, .val (.long qc), .second, .val (.int pi), .val (.int pm), .val (.int (3 : Int32)), .val (.int bt), .val (.long v2_0), .second, .val (.long v4_0), .second, .val (.ref b59), .unset, .unset, .unset, .unset] [(.ref b59)])
        refine Go.via (fun t k => XS.lloadN Xh64.here hx rfl (hb hby at_64) rfl k) ?_
        show Go p.tables e below P T64 (mkF m 65 #[.val (.long qa), .second, .val (.long qb), .second, .val (.long qc), .second, .val (.int pi), .val (.int pm), .val (.int (3 : Int32)), .val (.int bt), .val (.long v2_0), .second, .val (.long v4_0), .second, .val (.ref b59), .unset, .unset, .unset, .unset] [(.long qa), (.ref b59)])
        obtain ⟨cq70, kq70, q70a, q70b, q70c⟩ := isOf hZ rfl u64_0
        obtain ⟨_, _, ⟨T70, L70, k70, n70⟩, -, X70, ⟨Lc70, hQ70, l70, y70, z70⟩, st70⟩ := Xh64.virtualBack hx (y := (⟨"com/example/criba/criba/model/MinhashAccumulator", "add", "(J)V"⟩ : MethodName)) (z := (⟨"com/example/criba/criba/model/MinhashAccumulator", "add", "(J)V"⟩ : MethodName)) hown (mvT hZ (hw _ (List.mem_of_getElem? (i := 19) rfl))) (mvT hZ (hw _ (List.mem_of_getElem? (i := 20) rfl))) (notFace_of_selects (args := #[]) (mvT hZ (hw _ (List.mem_of_getElem? (i := 22) rfl)))) (mvT hZ (hw _ (List.mem_of_getElem? (i := 22) rfl))) (mvT hZ (hw _ (List.mem_of_getElem? (i := 21) rfl))) (by decide) (backOf (W := 0) (rm4 l Z a0 hw [] b59 qa om_64 kk_64 (1 : Int32) own_x0 T64.heap n0 Z68 u64_0 u64_1 u64_2 u64_3 (by simp only [own_upd_len, own_x0_len]) g60 g66 ne65) hZ (hw _ (List.mem_of_getElem? (i := 23) rfl)) (hw _ (List.mem_of_getElem? (i := 2) rfl)) (by decide) (by decide)) q70a q70c (g := (mkF m 65 #[.val (.long qa), .second, .val (.long qb), .second, .val (.long qc), .second, .val (.int pi), .val (.int pm), .val (.int (3 : Int32)), .val (.int bt), .val (.long v2_0), .second, .val (.long v4_0), .second, .val (.ref b59), .unset, .unset, .unset, .unset] [(.long qa), (.ref b59)])) rfl (by rw [hml]; rfl) (Steps.refl _) (argsL := [(.long qa)]) (rest := []) (lenOf own_pd7 rfl) rfl (by show 2 * 0 + _ ≤ _; exact Nat.le_of_eq rfl) (hb hby at_65) (fun _ _ => ⟨rfl, rfl, (by decide : 2 + 0 ≤ _), (by decide : 194 + 0 ≤ _)⟩)
        dsimp only [Pt.U, Pt.locs, Pt.cells, Pt.slots] at X70 l70 y70 z70 st70 hQ70
        subst l70 y70 z70
        obtain ⟨rfl, Nq70, K70, u70_0, u70_1, u70_2, u70_3⟩ := hQ70
        obtain ⟨lc70, Xh70, N70⟩ := own_hide X70 (Fr.app N64 Nq70)
        clear X70
        refine Go.hop st70 ?_
        have Z71 : n0 ≤ T70.heap.size := Nat.le_trans Z68 K70.1
        have K72 : Keep h0 T70.heap [] := K69.trans K70 (own_allC (Or.inr sz61) (own_allC (Or.inr sz67) own_all0))
        show Go p.tables e below P T70 (mkF m 68 #[.val (.long qa), .second, .val (.long qb), .second, .val (.long qc), .second, .val (.int pi), .val (.int pm), .val (.int (3 : Int32)), .val (.int bt), .val (.long v2_0), .second, .val (.long v4_0), .second, .val (.ref b59), .unset, .unset, .unset, .unset] [])
        refine Go.via (fun t k => XS.iload Xh70.here hx rfl (hb hby at_68) rfl k) ?_
        show Go p.tables e below P T70 (mkF m 70 #[.val (.long qa), .second, .val (.long qb), .second, .val (.long qc), .second, .val (.int pi), .val (.int pm), .val (.int (3 : Int32)), .val (.int bt), .val (.long v2_0), .second, .val (.long v4_0), .second, .val (.ref b59), .unset, .unset, .unset, .unset] [(.int (3 : Int32))])
        refine Go.via (fun t k => XS.iconst Xh70.here hx rfl (hb hby at_70) k) ?_
        show Go p.tables e below P T70 (mkF m 71 #[.val (.long qa), .second, .val (.long qb), .second, .val (.long qc), .second, .val (.int pi), .val (.int pm), .val (.int (3 : Int32)), .val (.int bt), .val (.long v2_0), .second, .val (.long v4_0), .second, .val (.ref b59), .unset, .unset, .unset, .unset] [(.int (2 : Int32)), (.int (3 : Int32))])
        refine Go.via (fun t k => XS.icmpNo Xh70.here hx rfl (hb hby at_71) rfl (flt (by decide : ¬ ((3 : Int32) < (2 : Int32)))).1 k) ?_
        show Go p.tables e below P T70 (mkF m 74 #[.val (.long qa), .second, .val (.long qb), .second, .val (.long qc), .second, .val (.int pi), .val (.int pm), .val (.int (3 : Int32)), .val (.int bt), .val (.long v2_0), .second, .val (.long v4_0), .second, .val (.ref b59), .unset, .unset, .unset, .unset] [])
        refine Go.via (fun t k => XS.aload Xh70.here hx rfl (hb hby at_74) rfl rfl k) ?_
        show Go p.tables e below P T70 (mkF m 76 #[.val (.long qa), .second, .val (.long qb), .second, .val (.long qc), .second, .val (.int pi), .val (.int pm), .val (.int (3 : Int32)), .val (.int bt), .val (.long v2_0), .second, .val (.long v4_0), .second, .val (.ref b59), .unset, .unset, .unset, .unset] [(.ref b59)])
        refine Go.via (fun t k => XS.lload Xh70.here hx rfl (hb hby at_76) rfl k) ?_
        show Go p.tables e below P T70 (mkF m 78 #[.val (.long qa), .second, .val (.long qb), .second, .val (.long qc), .second, .val (.int pi), .val (.int pm), .val (.int (3 : Int32)), .val (.int bt), .val (.long v2_0), .second, .val (.long v4_0), .second, .val (.ref b59), .unset, .unset, .unset, .unset] [(.long v2_0), (.ref b59)])
        obtain ⟨cq73, kq73, q73a, q73b, q73c⟩ := isOf hZ rfl u70_0
        obtain ⟨_, _, ⟨T73, L73, k73, n73⟩, -, X73, ⟨Lc73, hQ73, l73, y73, z73⟩, st73⟩ := Xh70.virtualBack hx (y := (⟨"com/example/criba/criba/model/MinhashAccumulator", "add", "(J)V"⟩ : MethodName)) (z := (⟨"com/example/criba/criba/model/MinhashAccumulator", "add", "(J)V"⟩ : MethodName)) hown (mvT hZ (hw _ (List.mem_of_getElem? (i := 19) rfl))) (mvT hZ (hw _ (List.mem_of_getElem? (i := 20) rfl))) (notFace_of_selects (args := #[]) (mvT hZ (hw _ (List.mem_of_getElem? (i := 22) rfl)))) (mvT hZ (hw _ (List.mem_of_getElem? (i := 22) rfl))) (mvT hZ (hw _ (List.mem_of_getElem? (i := 21) rfl))) (by decide) (backOf (W := 0) (rm4 l Z a0 hw [] b59 v2_0 om_64 kk_64 (0 : Int32) (own_upd qa own_x0 192) T70.heap n0 Z71 u70_0 u70_1 u70_2 u70_3 (by simp only [own_upd_len, own_x0_len]) g60 g66 ne65) hZ (hw _ (List.mem_of_getElem? (i := 23) rfl)) (hw _ (List.mem_of_getElem? (i := 2) rfl)) (by decide) (by decide)) q73a q73c (g := (mkF m 78 #[.val (.long qa), .second, .val (.long qb), .second, .val (.long qc), .second, .val (.int pi), .val (.int pm), .val (.int (3 : Int32)), .val (.int bt), .val (.long v2_0), .second, .val (.long v4_0), .second, .val (.ref b59), .unset, .unset, .unset, .unset] [(.long v2_0), (.ref b59)])) rfl (by rw [hml]; rfl) (Steps.refl _) (argsL := [(.long v2_0)]) (rest := []) (lenOf own_pd7 rfl) rfl (by show 2 * 0 + _ ≤ _; exact Nat.le_of_eq rfl) (hb hby at_78) (fun _ _ => ⟨rfl, rfl, (by decide : 2 + 0 ≤ _), (by decide : 194 + 0 ≤ _)⟩)
        dsimp only [Pt.U, Pt.locs, Pt.cells, Pt.slots] at X73 l73 y73 z73 st73 hQ73
        subst l73 y73 z73
        obtain ⟨rfl, Nq73, K73, u73_0, u73_1, u73_2, u73_3⟩ := hQ73
        obtain ⟨lc73, Xh73, N73⟩ := own_hide X73 (Fr.app N70 Nq73)
        clear X73
        refine Go.hop st73 ?_
        have Z74 : n0 ≤ T73.heap.size := Nat.le_trans Z71 K73.1
        have K75 : Keep h0 T73.heap [] := K72.trans K73 (own_allC (Or.inr sz61) (own_allC (Or.inr sz67) own_all0))
        show Go p.tables e below P T73 (mkF m 81 #[.val (.long qa), .second, .val (.long qb), .second, .val (.long qc), .second, .val (.int pi), .val (.int pm), .val (.int (3 : Int32)), .val (.int bt), .val (.long v2_0), .second, .val (.long v4_0), .second, .val (.ref b59), .unset, .unset, .unset, .unset] [])
        refine Go.via (fun t k => XS.iload Xh73.here hx rfl (hb hby at_81) rfl k) ?_
        show Go p.tables e below P T73 (mkF m 83 #[.val (.long qa), .second, .val (.long qb), .second, .val (.long qc), .second, .val (.int pi), .val (.int pm), .val (.int (3 : Int32)), .val (.int bt), .val (.long v2_0), .second, .val (.long v4_0), .second, .val (.ref b59), .unset, .unset, .unset, .unset] [(.int (3 : Int32))])
        refine Go.via (fun t k => XS.iconst Xh73.here hx rfl (hb hby at_83) k) ?_
        show Go p.tables e below P T73 (mkF m 84 #[.val (.long qa), .second, .val (.long qb), .second, .val (.long qc), .second, .val (.int pi), .val (.int pm), .val (.int (3 : Int32)), .val (.int bt), .val (.long v2_0), .second, .val (.long v4_0), .second, .val (.ref b59), .unset, .unset, .unset, .unset] [(.int (3 : Int32)), (.int (3 : Int32))])
        refine Go.via (fun t k => XS.icmpNo Xh73.here hx rfl (hb hby at_84) rfl (flt (by decide : ¬ ((3 : Int32) < (3 : Int32)))).1 k) ?_
        show Go p.tables e below P T73 (mkF m 87 #[.val (.long qa), .second, .val (.long qb), .second, .val (.long qc), .second, .val (.int pi), .val (.int pm), .val (.int (3 : Int32)), .val (.int bt), .val (.long v2_0), .second, .val (.long v4_0), .second, .val (.ref b59), .unset, .unset, .unset, .unset] [])
        refine Go.via (fun t k => XS.aload Xh73.here hx rfl (hb hby at_87) rfl rfl k) ?_
        show Go p.tables e below P T73 (mkF m 89 #[.val (.long qa), .second, .val (.long qb), .second, .val (.long qc), .second, .val (.int pi), .val (.int pm), .val (.int (3 : Int32)), .val (.int bt), .val (.long v2_0), .second, .val (.long v4_0), .second, .val (.ref b59), .unset, .unset, .unset, .unset] [(.ref b59)])
        refine Go.via (fun t k => XS.lload Xh73.here hx rfl (hb hby at_89) rfl k) ?_
        show Go p.tables e below P T73 (mkF m 91 #[.val (.long qa), .second, .val (.long qb), .second, .val (.long qc), .second, .val (.int pi), .val (.int pm), .val (.int (3 : Int32)), .val (.int bt), .val (.long v2_0), .second, .val (.long v4_0), .second, .val (.ref b59), .unset, .unset, .unset, .unset] [(.long v4_0), (.ref b59)])
        obtain ⟨cq76, kq76, q76a, q76b, q76c⟩ := isOf hZ rfl u73_0
        obtain ⟨_, _, ⟨T76, L76, k76, n76⟩, -, X76, ⟨Lc76, hQ76, l76, y76, z76⟩, st76⟩ := Xh73.virtualBack hx (y := (⟨"com/example/criba/criba/model/MinhashAccumulator", "add", "(J)V"⟩ : MethodName)) (z := (⟨"com/example/criba/criba/model/MinhashAccumulator", "add", "(J)V"⟩ : MethodName)) hown (mvT hZ (hw _ (List.mem_of_getElem? (i := 19) rfl))) (mvT hZ (hw _ (List.mem_of_getElem? (i := 20) rfl))) (notFace_of_selects (args := #[]) (mvT hZ (hw _ (List.mem_of_getElem? (i := 22) rfl)))) (mvT hZ (hw _ (List.mem_of_getElem? (i := 22) rfl))) (mvT hZ (hw _ (List.mem_of_getElem? (i := 21) rfl))) (by decide) (backOf (W := 0) (rm4 l Z a0 hw [] b59 v4_0 om_64 kk_64 (0 : Int32) (own_upd v2_0 (own_upd qa own_x0 192) 192) T73.heap n0 Z74 u73_0 u73_1 u73_2 u73_3 (by simp only [own_upd_len, own_x0_len]) g60 g66 ne65) hZ (hw _ (List.mem_of_getElem? (i := 23) rfl)) (hw _ (List.mem_of_getElem? (i := 2) rfl)) (by decide) (by decide)) q76a q76c (g := (mkF m 91 #[.val (.long qa), .second, .val (.long qb), .second, .val (.long qc), .second, .val (.int pi), .val (.int pm), .val (.int (3 : Int32)), .val (.int bt), .val (.long v2_0), .second, .val (.long v4_0), .second, .val (.ref b59), .unset, .unset, .unset, .unset] [(.long v4_0), (.ref b59)])) rfl (by rw [hml]; rfl) (Steps.refl _) (argsL := [(.long v4_0)]) (rest := []) (lenOf own_pd7 rfl) rfl (by show 2 * 0 + _ ≤ _; exact Nat.le_of_eq rfl) (hb hby at_91) (fun _ _ => ⟨rfl, rfl, (by decide : 2 + 0 ≤ _), (by decide : 194 + 0 ≤ _)⟩)
        dsimp only [Pt.U, Pt.locs, Pt.cells, Pt.slots] at X76 l76 y76 z76 st76 hQ76
        subst l76 y76 z76
        obtain ⟨rfl, Nq76, K76, u76_0, u76_1, u76_2, u76_3⟩ := hQ76
        obtain ⟨lc76, Xh76, N76⟩ := own_hide X76 (Fr.app N73 Nq76)
        clear X76
        refine Go.hop st76 ?_
        have Z77 : n0 ≤ T76.heap.size := Nat.le_trans Z74 K76.1
        have K78 : Keep h0 T76.heap [] := K75.trans K76 (own_allC (Or.inr sz61) (own_allC (Or.inr sz67) own_all0))
        show Go p.tables e below P T76 (mkF m 94 #[.val (.long qa), .second, .val (.long qb), .second, .val (.long qc), .second, .val (.int pi), .val (.int pm), .val (.int (3 : Int32)), .val (.int bt), .val (.long v2_0), .second, .val (.long v4_0), .second, .val (.ref b59), .unset, .unset, .unset, .unset] [])
        refine Go.via (fun t k => XS.aload Xh76.here hx rfl (hb hby at_94) rfl rfl k) ?_
        show Go p.tables e below P T76 (mkF m 96 #[.val (.long qa), .second, .val (.long qb), .second, .val (.long qc), .second, .val (.int pi), .val (.int pm), .val (.int (3 : Int32)), .val (.int bt), .val (.long v2_0), .second, .val (.long v4_0), .second, .val (.ref b59), .unset, .unset, .unset, .unset] [(.ref b59)])
        obtain ⟨cq79, kq79, q79a, q79b, q79c⟩ := isOf hZ rfl u76_0
        obtain ⟨_, _, ⟨T79, L79, k79, n79⟩, -, X79, ⟨Lc79, hQ79, l79, y79, z79⟩, st79⟩ := Xh76.virtualBack hx (y := (⟨"com/example/criba/criba/model/MinhashAccumulator", "fingerprint", "()J"⟩ : MethodName)) (z := (⟨"com/example/criba/criba/model/MinhashAccumulator", "fingerprint", "()J"⟩ : MethodName)) hown (mvT hZ (hw _ (List.mem_of_getElem? (i := 38) rfl))) (mvT hZ (hw _ (List.mem_of_getElem? (i := 39) rfl))) (notFace_of_selects (args := #[]) (mvT hZ (hw _ (List.mem_of_getElem? (i := 41) rfl)))) (mvT hZ (hw _ (List.mem_of_getElem? (i := 41) rfl))) (mvT hZ (hw _ (List.mem_of_getElem? (i := 40) rfl))) (by decide) (backOf (W := 0) (rm8 l Z a0 hw [] b59 om_64 kk_64 (0 : Int32) (own_upd v4_0 (own_upd v2_0 (own_upd qa own_x0 192) 192) 192) T76.heap n0 Z77 u76_1 u76_2 u76_3) hZ (hw _ (List.mem_of_getElem? (i := 42) rfl)) (hw _ (List.mem_of_getElem? (i := 2) rfl)) (by decide) (by decide)) q79a q79c (g := (mkF m 96 #[.val (.long qa), .second, .val (.long qb), .second, .val (.long qc), .second, .val (.int pi), .val (.int pm), .val (.int (3 : Int32)), .val (.int bt), .val (.long v2_0), .second, .val (.long v4_0), .second, .val (.ref b59), .unset, .unset, .unset, .unset] [(.ref b59)])) rfl (by rw [hml]; rfl) (Steps.refl _) (argsL := []) (rest := []) (lenOf own_pd6 rfl) rfl (by show 2 * 0 + _ ≤ _; exact Nat.le_of_eq rfl) (hb hby at_96) (fun _ _ => ⟨rfl, rfl, (by decide : 2 + 0 ≤ _), (by decide : 194 + 0 ≤ _)⟩)
        dsimp only [Pt.U, Pt.locs, Pt.cells, Pt.slots] at X79 l79 y79 z79 st79 hQ79
        subst l79 y79 z79
        obtain ⟨rfl, Nq79, hh79⟩ := hQ79
        obtain ⟨lc79, Xh79, N79⟩ := own_hide X79 (Fr.app N76 Nq79)
        clear X79
        refine Go.hop st79 ?_
        show Go p.tables e below P T79 (mkF m 99 #[.val (.long qa), .second, .val (.long qb), .second, .val (.long qc), .second, .val (.int pi), .val (.int pm), .val (.int (3 : Int32)), .val (.int bt), .val (.long v2_0), .second, .val (.long v4_0), .second, .val (.ref b59), .unset, .unset, .unset, .unset] [(.long (if (0 : Int32) = (0 : Int32) then own_fp (own_upd v4_0 (own_upd v2_0 (own_upd qa own_x0 192) 192) 192) 192 else (0 : Int64)))])
        refine Go.via (fun t k => XS.lstore Xh79.here hx rfl (hb hby at_99) rfl (l' := #[.val (.long qa), .second, .val (.long qb), .second, .val (.long qc), .second, .val (.int pi), .val (.int pm), .val (.int (3 : Int32)), .val (.int bt), .val (.long v2_0), .second, .val (.long v4_0), .second, .val (.ref b59), .val (.long (if (0 : Int32) = (0 : Int32) then own_fp (own_upd v4_0 (own_upd v2_0 (own_upd qa own_x0 192) 192) 192) 192 else (0 : Int64))), .second, .unset, .unset]) rfl k) ?_
        show Go p.tables e below P T79 (mkF m 101 #[.val (.long qa), .second, .val (.long qb), .second, .val (.long qc), .second, .val (.int pi), .val (.int pm), .val (.int (3 : Int32)), .val (.int bt), .val (.long v2_0), .second, .val (.long v4_0), .second, .val (.ref b59), .val (.long (if (0 : Int32) = (0 : Int32) then own_fp (own_upd v4_0 (own_upd v2_0 (own_upd qa own_x0 192) 192) 192) 192 else (0 : Int64))), .second, .unset, .unset] [])
        refine Go.via (fun t k => XS.iload Xh79.here hx rfl (hb hby at_101) rfl k) ?_
        show Go p.tables e below P T79 (mkF m 103 #[.val (.long qa), .second, .val (.long qb), .second, .val (.long qc), .second, .val (.int pi), .val (.int pm), .val (.int (3 : Int32)), .val (.int bt), .val (.long v2_0), .second, .val (.long v4_0), .second, .val (.ref b59), .val (.long (if (0 : Int32) = (0 : Int32) then own_fp (own_upd v4_0 (own_upd v2_0 (own_upd qa own_x0 192) 192) 192) 192 else (0 : Int64))), .second, .unset, .unset] [(.int (3 : Int32))])
        refine Go.via (fun t k => XS.ifYes Xh79.here hx rfl (pc0 := 103) (pc' := 112) rfl (hb hby at_103) rfl ((if0 _ _).trans (feq (by decide : ¬ ((3 : Int32) = (0 : Int32)))).2) (by decide) (by decide) k) ?_
        show Go p.tables e below P T79 (mkF m 112 #[.val (.long qa), .second, .val (.long qb), .second, .val (.long qc), .second, .val (.int pi), .val (.int pm), .val (.int (3 : Int32)), .val (.int bt), .val (.long v2_0), .second, .val (.long v4_0), .second, .val (.ref b59), .val (.long (if (0 : Int32) = (0 : Int32) then own_fp (own_upd v4_0 (own_upd v2_0 (own_upd qa own_x0 192) 192) 192) 192 else (0 : Int64))), .second, .unset, .unset] [])
        refine Go.via (fun t k => XS.lloadN Xh79.here hx rfl (hb hby at_112) rfl k) ?_
        show Go p.tables e below P T79 (mkF m 113 #[.val (.long qa), .second, .val (.long qb), .second, .val (.long qc), .second, .val (.int pi), .val (.int pm), .val (.int (3 : Int32)), .val (.int bt), .val (.long v2_0), .second, .val (.long v4_0), .second, .val (.ref b59), .val (.long (if (0 : Int32) = (0 : Int32) then own_fp (own_upd v4_0 (own_upd v2_0 (own_upd qa own_x0 192) 192) 192) 192 else (0 : Int64))), .second, .unset, .unset] [(.long qa)])
        refine Go.via (fun t k => XS.lload Xh79.here hx rfl (hb hby at_113) rfl k) ?_
        show Go p.tables e below P T79 (mkF m 115 #[.val (.long qa), .second, .val (.long qb), .second, .val (.long qc), .second, .val (.int pi), .val (.int pm), .val (.int (3 : Int32)), .val (.int bt), .val (.long v2_0), .second, .val (.long v4_0), .second, .val (.ref b59), .val (.long (if (0 : Int32) = (0 : Int32) then own_fp (own_upd v4_0 (own_upd v2_0 (own_upd qa own_x0 192) 192) 192) 192 else (0 : Int64))), .second, .unset, .unset] [(.long v2_0), (.long qa)])
        refine Go.via (fun t k => XS.lload Xh79.here hx rfl (hb hby at_115) rfl k) ?_
        show Go p.tables e below P T79 (mkF m 117 #[.val (.long qa), .second, .val (.long qb), .second, .val (.long qc), .second, .val (.int pi), .val (.int pm), .val (.int (3 : Int32)), .val (.int bt), .val (.long v2_0), .second, .val (.long v4_0), .second, .val (.ref b59), .val (.long (if (0 : Int32) = (0 : Int32) then own_fp (own_upd v4_0 (own_upd v2_0 (own_upd qa own_x0 192) 192) 192) 192 else (0 : Int64))), .second, .unset, .unset] [(.long v4_0), (.long v2_0), (.long qa)])
        refine Go.via (fun t k => XS.iload Xh79.here hx rfl (hb hby at_117) rfl k) ?_
        show Go p.tables e below P T79 (mkF m 119 #[.val (.long qa), .second, .val (.long qb), .second, .val (.long qc), .second, .val (.int pi), .val (.int pm), .val (.int (3 : Int32)), .val (.int bt), .val (.long v2_0), .second, .val (.long v4_0), .second, .val (.ref b59), .val (.long (if (0 : Int32) = (0 : Int32) then own_fp (own_upd v4_0 (own_upd v2_0 (own_upd qa own_x0 192) 192) 192) 192 else (0 : Int64))), .second, .unset, .unset] [(.int (3 : Int32)), (.long v4_0), (.long v2_0), (.long qa)])
        refine Go.via (fun t k => XS.iload Xh79.here hx rfl (hb hby at_119) rfl k) ?_
        show Go p.tables e below P T79 (mkF m 121 #[.val (.long qa), .second, .val (.long qb), .second, .val (.long qc), .second, .val (.int pi), .val (.int pm), .val (.int (3 : Int32)), .val (.int bt), .val (.long v2_0), .second, .val (.long v4_0), .second, .val (.ref b59), .val (.long (if (0 : Int32) = (0 : Int32) then own_fp (own_upd v4_0 (own_upd v2_0 (own_upd qa own_x0 192) 192) 192) 192 else (0 : Int64))), .second, .unset, .unset] [(.int bt), (.int (3 : Int32)), (.long v4_0), (.long v2_0), (.long qa)])
        refine Go.via (fun t k => XS.iconst Xh79.here hx rfl (hb hby at_121) k) ?_
        show Go p.tables e below P T79 (mkF m 122 #[.val (.long qa), .second, .val (.long qb), .second, .val (.long qc), .second, .val (.int pi), .val (.int pm), .val (.int (3 : Int32)), .val (.int bt), .val (.long v2_0), .second, .val (.long v4_0), .second, .val (.ref b59), .val (.long (if (0 : Int32) = (0 : Int32) then own_fp (own_upd v4_0 (own_upd v2_0 (own_upd qa own_x0 192) 192) 192) 192 else (0 : Int64))), .second, .unset, .unset] [(.int (1 : Int32)), (.int bt), (.int (3 : Int32)), (.long v4_0), (.long v2_0), (.long qa)])
        refine Go.via (fun t k => XS.iadd Xh79.here hx rfl (hb hby at_122) rfl k) ?_
        show Go p.tables e below P T79 (mkF m 123 #[.val (.long qa), .second, .val (.long qb), .second, .val (.long qc), .second, .val (.int pi), .val (.int pm), .val (.int (3 : Int32)), .val (.int bt), .val (.long v2_0), .second, .val (.long v4_0), .second, .val (.ref b59), .val (.long (if (0 : Int32) = (0 : Int32) then own_fp (own_upd v4_0 (own_upd v2_0 (own_upd qa own_x0 192) 192) 192) 192 else (0 : Int64))), .second, .unset, .unset] [(.int (bt + (1 : Int32))), (.int (3 : Int32)), (.long v4_0), (.long v2_0), (.long qa)])
        obtain ⟨_, _, ⟨T80, L80, k80, n80⟩, -, X80, ⟨Lc80, hQ80, l80, y80, z80⟩, st80⟩ := Jvm.LawKit.callS Xh79 hx (y := (⟨"com/example/criba/criba/model/MinhashAccumulatorFingerprintPinLaw", "minimum", "(JJJII)J"⟩ : MethodName)) hown (mvT hZ (hw _ (List.mem_of_getElem? (i := 43) rfl))) (mvT hZ (hw _ (List.mem_of_getElem? (i := 44) rfl))) (mvT hZ (hw _ (List.mem_of_getElem? (i := 45) rfl))) (mvT hZ (hw _ (List.mem_of_getElem? (i := 46) rfl))) (by decide) (backOf (W := 0) (rm9 l Z a0 hw [] qa v2_0 v4_0 (3 : Int32) (bt + (1 : Int32)) T76.heap n0 Z77 ) hZ (hw _ (List.mem_of_getElem? (i := 46) rfl)) (hw _ (List.mem_of_getElem? (i := 45) rfl)) (by decide) (by decide)) (g := (mkF m 123 #[.val (.long qa), .second, .val (.long qb), .second, .val (.long qc), .second, .val (.int pi), .val (.int pm), .val (.int (3 : Int32)), .val (.int bt), .val (.long v2_0), .second, .val (.long v4_0), .second, .val (.ref b59), .val (.long (if (0 : Int32) = (0 : Int32) then own_fp (own_upd v4_0 (own_upd v2_0 (own_upd qa own_x0 192) 192) 192) 192 else (0 : Int64))), .second, .unset, .unset] [(.int (bt + (1 : Int32))), (.int (3 : Int32)), (.long v4_0), (.long v2_0), (.long qa)])) rfl (by rw [hml]; rfl) (argsL := [(.long qa), (.long v2_0), (.long v4_0), (.int (3 : Int32)), (.int (bt + (1 : Int32)))]) (rest := []) (lenOf own_pd8 rfl) rfl (by show 2 * 0 + _ ≤ _; exact Nat.le_of_eq rfl) (hb hby at_123) (fun _ _ => ⟨rfl, hh79, (by decide : 2 + 0 ≤ _), (by decide : 194 + 0 ≤ _)⟩)
        dsimp only [Pt.U, Pt.locs, Pt.cells, Pt.slots] at X80 l80 y80 z80 st80 hQ80
        subst l80 y80 z80
        obtain ⟨rfl, Nq80, hh80⟩ := hQ80
        obtain ⟨lc80, Xh80, N80⟩ := own_hide X80 (Fr.app N79 Nq80)
        clear X80
        refine Go.via st80 ?_
        show Go p.tables e below P T80 (mkF m 126 #[.val (.long qa), .second, .val (.long qb), .second, .val (.long qc), .second, .val (.int pi), .val (.int pm), .val (.int (3 : Int32)), .val (.int bt), .val (.long v2_0), .second, .val (.long v4_0), .second, .val (.ref b59), .val (.long (if (0 : Int32) = (0 : Int32) then own_fp (own_upd v4_0 (own_upd v2_0 (own_upd qa own_x0 192) 192) 192) 192 else (0 : Int64))), .second, .unset, .unset] [(.long (own_min qa v2_0 v4_0 (3 : Int32) (bt + (1 : Int32))))])
        refine Go.via (fun t k => XS.lloadN Xh80.here hx rfl (hb hby at_126) rfl k) ?_
        show Go p.tables e below P T80 (mkF m 127 #[.val (.long qa), .second, .val (.long qb), .second, .val (.long qc), .second, .val (.int pi), .val (.int pm), .val (.int (3 : Int32)), .val (.int bt), .val (.long v2_0), .second, .val (.long v4_0), .second, .val (.ref b59), .val (.long (if (0 : Int32) = (0 : Int32) then own_fp (own_upd v4_0 (own_upd v2_0 (own_upd qa own_x0 192) 192) 192) 192 else (0 : Int64))), .second, .unset, .unset] [(.long qa), (.long (own_min qa v2_0 v4_0 (3 : Int32) (bt + (1 : Int32))))])
        refine Go.via (fun t k => XS.lload Xh80.here hx rfl (hb hby at_127) rfl k) ?_
        show Go p.tables e below P T80 (mkF m 129 #[.val (.long qa), .second, .val (.long qb), .second, .val (.long qc), .second, .val (.int pi), .val (.int pm), .val (.int (3 : Int32)), .val (.int bt), .val (.long v2_0), .second, .val (.long v4_0), .second, .val (.ref b59), .val (.long (if (0 : Int32) = (0 : Int32) then own_fp (own_upd v4_0 (own_upd v2_0 (own_upd qa own_x0 192) 192) 192) 192 else (0 : Int64))), .second, .unset, .unset] [(.long v2_0), (.long qa), (.long (own_min qa v2_0 v4_0 (3 : Int32) (bt + (1 : Int32))))])
        refine Go.via (fun t k => XS.lload Xh80.here hx rfl (hb hby at_129) rfl k) ?_
        show Go p.tables e below P T80 (mkF m 131 #[.val (.long qa), .second, .val (.long qb), .second, .val (.long qc), .second, .val (.int pi), .val (.int pm), .val (.int (3 : Int32)), .val (.int bt), .val (.long v2_0), .second, .val (.long v4_0), .second, .val (.ref b59), .val (.long (if (0 : Int32) = (0 : Int32) then own_fp (own_upd v4_0 (own_upd v2_0 (own_upd qa own_x0 192) 192) 192) 192 else (0 : Int64))), .second, .unset, .unset] [(.long v4_0), (.long v2_0), (.long qa), (.long (own_min qa v2_0 v4_0 (3 : Int32) (bt + (1 : Int32))))])
        refine Go.via (fun t k => XS.iload Xh80.here hx rfl (hb hby at_131) rfl k) ?_
        show Go p.tables e below P T80 (mkF m 133 #[.val (.long qa), .second, .val (.long qb), .second, .val (.long qc), .second, .val (.int pi), .val (.int pm), .val (.int (3 : Int32)), .val (.int bt), .val (.long v2_0), .second, .val (.long v4_0), .second, .val (.ref b59), .val (.long (if (0 : Int32) = (0 : Int32) then own_fp (own_upd v4_0 (own_upd v2_0 (own_upd qa own_x0 192) 192) 192) 192 else (0 : Int64))), .second, .unset, .unset] [(.int (3 : Int32)), (.long v4_0), (.long v2_0), (.long qa), (.long (own_min qa v2_0 v4_0 (3 : Int32) (bt + (1 : Int32))))])
        refine Go.via (fun t k => XS.iload Xh80.here hx rfl (hb hby at_133) rfl k) ?_
        show Go p.tables e below P T80 (mkF m 135 #[.val (.long qa), .second, .val (.long qb), .second, .val (.long qc), .second, .val (.int pi), .val (.int pm), .val (.int (3 : Int32)), .val (.int bt), .val (.long v2_0), .second, .val (.long v4_0), .second, .val (.ref b59), .val (.long (if (0 : Int32) = (0 : Int32) then own_fp (own_upd v4_0 (own_upd v2_0 (own_upd qa own_x0 192) 192) 192) 192 else (0 : Int64))), .second, .unset, .unset] [(.int bt), (.int (3 : Int32)), (.long v4_0), (.long v2_0), (.long qa), (.long (own_min qa v2_0 v4_0 (3 : Int32) (bt + (1 : Int32))))])
        refine Go.via (fun t k => XS.bipush Xh80.here hx rfl (hb hby at_135) k) ?_
        show Go p.tables e below P T80 (mkF m 137 #[.val (.long qa), .second, .val (.long qb), .second, .val (.long qc), .second, .val (.int pi), .val (.int pm), .val (.int (3 : Int32)), .val (.int bt), .val (.long v2_0), .second, .val (.long v4_0), .second, .val (.ref b59), .val (.long (if (0 : Int32) = (0 : Int32) then own_fp (own_upd v4_0 (own_upd v2_0 (own_upd qa own_x0 192) 192) 192) 192 else (0 : Int64))), .second, .unset, .unset] [(.int (65 : Int32)), (.int bt), (.int (3 : Int32)), (.long v4_0), (.long v2_0), (.long qa), (.long (own_min qa v2_0 v4_0 (3 : Int32) (bt + (1 : Int32))))])
        refine Go.via (fun t k => XS.iadd Xh80.here hx rfl (hb hby at_137) rfl k) ?_
        show Go p.tables e below P T80 (mkF m 138 #[.val (.long qa), .second, .val (.long qb), .second, .val (.long qc), .second, .val (.int pi), .val (.int pm), .val (.int (3 : Int32)), .val (.int bt), .val (.long v2_0), .second, .val (.long v4_0), .second, .val (.ref b59), .val (.long (if (0 : Int32) = (0 : Int32) then own_fp (own_upd v4_0 (own_upd v2_0 (own_upd qa own_x0 192) 192) 192) 192 else (0 : Int64))), .second, .unset, .unset] [(.int (bt + (65 : Int32))), (.int (3 : Int32)), (.long v4_0), (.long v2_0), (.long qa), (.long (own_min qa v2_0 v4_0 (3 : Int32) (bt + (1 : Int32))))])
        obtain ⟨_, _, ⟨T81, L81, k81, n81⟩, -, X81, ⟨Lc81, hQ81, l81, y81, z81⟩, st81⟩ := Jvm.LawKit.callS Xh80 hx (y := (⟨"com/example/criba/criba/model/MinhashAccumulatorFingerprintPinLaw", "minimum", "(JJJII)J"⟩ : MethodName)) hown (mvT hZ (hw _ (List.mem_of_getElem? (i := 43) rfl))) (mvT hZ (hw _ (List.mem_of_getElem? (i := 44) rfl))) (mvT hZ (hw _ (List.mem_of_getElem? (i := 45) rfl))) (mvT hZ (hw _ (List.mem_of_getElem? (i := 46) rfl))) (by decide) (backOf (W := 2) (rm9 l Z a0 hw [] qa v2_0 v4_0 (3 : Int32) (bt + (65 : Int32)) T76.heap n0 Z77 ) hZ (hw _ (List.mem_of_getElem? (i := 46) rfl)) (hw _ (List.mem_of_getElem? (i := 45) rfl)) (by decide) (by decide)) (g := (mkF m 138 #[.val (.long qa), .second, .val (.long qb), .second, .val (.long qc), .second, .val (.int pi), .val (.int pm), .val (.int (3 : Int32)), .val (.int bt), .val (.long v2_0), .second, .val (.long v4_0), .second, .val (.ref b59), .val (.long (if (0 : Int32) = (0 : Int32) then own_fp (own_upd v4_0 (own_upd v2_0 (own_upd qa own_x0 192) 192) 192) 192 else (0 : Int64))), .second, .unset, .unset] [(.int (bt + (65 : Int32))), (.int (3 : Int32)), (.long v4_0), (.long v2_0), (.long qa), (.long (own_min qa v2_0 v4_0 (3 : Int32) (bt + (1 : Int32))))])) rfl (by rw [hml]; rfl) (argsL := [(.long qa), (.long v2_0), (.long v4_0), (.int (3 : Int32)), (.int (bt + (65 : Int32)))]) (rest := [(.long (own_min qa v2_0 v4_0 (3 : Int32) (bt + (1 : Int32))))]) (lenOf own_pd8 rfl) rfl (by show 2 * 0 + _ ≤ _; exact Nat.le_of_eq rfl) (hb hby at_138) (fun _ _ => ⟨rfl, hh80, (by decide : 2 + 0 ≤ _), (by decide : 194 + 0 ≤ _)⟩)
        dsimp only [Pt.U, Pt.locs, Pt.cells, Pt.slots] at X81 l81 y81 z81 st81 hQ81
        subst l81 y81 z81
        obtain ⟨rfl, Nq81, hh81⟩ := hQ81
        obtain ⟨lc81, Xh81, N81⟩ := own_hide X81 (Fr.app N80 Nq81)
        clear X81
        refine Go.via st81 ?_
        show Go p.tables e below P T81 (mkF m 141 #[.val (.long qa), .second, .val (.long qb), .second, .val (.long qc), .second, .val (.int pi), .val (.int pm), .val (.int (3 : Int32)), .val (.int bt), .val (.long v2_0), .second, .val (.long v4_0), .second, .val (.ref b59), .val (.long (if (0 : Int32) = (0 : Int32) then own_fp (own_upd v4_0 (own_upd v2_0 (own_upd qa own_x0 192) 192) 192) 192 else (0 : Int64))), .second, .unset, .unset] [(.long (own_min qa v2_0 v4_0 (3 : Int32) (bt + (65 : Int32)))), (.long (own_min qa v2_0 v4_0 (3 : Int32) (bt + (1 : Int32))))])
        refine Go.via (fun t k => XS.lxor Xh81.here hx rfl (hb hby at_141) rfl k) ?_
        show Go p.tables e below P T81 (mkF m 142 #[.val (.long qa), .second, .val (.long qb), .second, .val (.long qc), .second, .val (.int pi), .val (.int pm), .val (.int (3 : Int32)), .val (.int bt), .val (.long v2_0), .second, .val (.long v4_0), .second, .val (.ref b59), .val (.long (if (0 : Int32) = (0 : Int32) then own_fp (own_upd v4_0 (own_upd v2_0 (own_upd qa own_x0 192) 192) 192) 192 else (0 : Int64))), .second, .unset, .unset] [(.long ((own_min qa v2_0 v4_0 (3 : Int32) (bt + (1 : Int32))) ^^^ (own_min qa v2_0 v4_0 (3 : Int32) (bt + (65 : Int32)))))])
        refine Go.via (fun t k => XS.lloadN Xh81.here hx rfl (hb hby at_142) rfl k) ?_
        show Go p.tables e below P T81 (mkF m 143 #[.val (.long qa), .second, .val (.long qb), .second, .val (.long qc), .second, .val (.int pi), .val (.int pm), .val (.int (3 : Int32)), .val (.int bt), .val (.long v2_0), .second, .val (.long v4_0), .second, .val (.ref b59), .val (.long (if (0 : Int32) = (0 : Int32) then own_fp (own_upd v4_0 (own_upd v2_0 (own_upd qa own_x0 192) 192) 192) 192 else (0 : Int64))), .second, .unset, .unset] [(.long qa), (.long ((own_min qa v2_0 v4_0 (3 : Int32) (bt + (1 : Int32))) ^^^ (own_min qa v2_0 v4_0 (3 : Int32) (bt + (65 : Int32)))))])
        refine Go.via (fun t k => XS.lload Xh81.here hx rfl (hb hby at_143) rfl k) ?_
        show Go p.tables e below P T81 (mkF m 145 #[.val (.long qa), .second, .val (.long qb), .second, .val (.long qc), .second, .val (.int pi), .val (.int pm), .val (.int (3 : Int32)), .val (.int bt), .val (.long v2_0), .second, .val (.long v4_0), .second, .val (.ref b59), .val (.long (if (0 : Int32) = (0 : Int32) then own_fp (own_upd v4_0 (own_upd v2_0 (own_upd qa own_x0 192) 192) 192) 192 else (0 : Int64))), .second, .unset, .unset] [(.long v2_0), (.long qa), (.long ((own_min qa v2_0 v4_0 (3 : Int32) (bt + (1 : Int32))) ^^^ (own_min qa v2_0 v4_0 (3 : Int32) (bt + (65 : Int32)))))])
        refine Go.via (fun t k => XS.lload Xh81.here hx rfl (hb hby at_145) rfl k) ?_
        show Go p.tables e below P T81 (mkF m 147 #[.val (.long qa), .second, .val (.long qb), .second, .val (.long qc), .second, .val (.int pi), .val (.int pm), .val (.int (3 : Int32)), .val (.int bt), .val (.long v2_0), .second, .val (.long v4_0), .second, .val (.ref b59), .val (.long (if (0 : Int32) = (0 : Int32) then own_fp (own_upd v4_0 (own_upd v2_0 (own_upd qa own_x0 192) 192) 192) 192 else (0 : Int64))), .second, .unset, .unset] [(.long v4_0), (.long v2_0), (.long qa), (.long ((own_min qa v2_0 v4_0 (3 : Int32) (bt + (1 : Int32))) ^^^ (own_min qa v2_0 v4_0 (3 : Int32) (bt + (65 : Int32)))))])
        refine Go.via (fun t k => XS.iload Xh81.here hx rfl (hb hby at_147) rfl k) ?_
        show Go p.tables e below P T81 (mkF m 149 #[.val (.long qa), .second, .val (.long qb), .second, .val (.long qc), .second, .val (.int pi), .val (.int pm), .val (.int (3 : Int32)), .val (.int bt), .val (.long v2_0), .second, .val (.long v4_0), .second, .val (.ref b59), .val (.long (if (0 : Int32) = (0 : Int32) then own_fp (own_upd v4_0 (own_upd v2_0 (own_upd qa own_x0 192) 192) 192) 192 else (0 : Int64))), .second, .unset, .unset] [(.int (3 : Int32)), (.long v4_0), (.long v2_0), (.long qa), (.long ((own_min qa v2_0 v4_0 (3 : Int32) (bt + (1 : Int32))) ^^^ (own_min qa v2_0 v4_0 (3 : Int32) (bt + (65 : Int32)))))])
        refine Go.via (fun t k => XS.iload Xh81.here hx rfl (hb hby at_149) rfl k) ?_
        show Go p.tables e below P T81 (mkF m 151 #[.val (.long qa), .second, .val (.long qb), .second, .val (.long qc), .second, .val (.int pi), .val (.int pm), .val (.int (3 : Int32)), .val (.int bt), .val (.long v2_0), .second, .val (.long v4_0), .second, .val (.ref b59), .val (.long (if (0 : Int32) = (0 : Int32) then own_fp (own_upd v4_0 (own_upd v2_0 (own_upd qa own_x0 192) 192) 192) 192 else (0 : Int64))), .second, .unset, .unset] [(.int bt), (.int (3 : Int32)), (.long v4_0), (.long v2_0), (.long qa), (.long ((own_min qa v2_0 v4_0 (3 : Int32) (bt + (1 : Int32))) ^^^ (own_min qa v2_0 v4_0 (3 : Int32) (bt + (65 : Int32)))))])
        refine Go.via (fun t k => XS.sipush Xh81.here hx rfl (hb hby at_151) k) ?_
        show Go p.tables e below P T81 (mkF m 154 #[.val (.long qa), .second, .val (.long qb), .second, .val (.long qc), .second, .val (.int pi), .val (.int pm), .val (.int (3 : Int32)), .val (.int bt), .val (.long v2_0), .second, .val (.long v4_0), .second, .val (.ref b59), .val (.long (if (0 : Int32) = (0 : Int32) then own_fp (own_upd v4_0 (own_upd v2_0 (own_upd qa own_x0 192) 192) 192) 192 else (0 : Int64))), .second, .unset, .unset] [(.int (129 : Int32)), (.int bt), (.int (3 : Int32)), (.long v4_0), (.long v2_0), (.long qa), (.long ((own_min qa v2_0 v4_0 (3 : Int32) (bt + (1 : Int32))) ^^^ (own_min qa v2_0 v4_0 (3 : Int32) (bt + (65 : Int32)))))])
        refine Go.via (fun t k => XS.iadd Xh81.here hx rfl (hb hby at_154) rfl k) ?_
        show Go p.tables e below P T81 (mkF m 155 #[.val (.long qa), .second, .val (.long qb), .second, .val (.long qc), .second, .val (.int pi), .val (.int pm), .val (.int (3 : Int32)), .val (.int bt), .val (.long v2_0), .second, .val (.long v4_0), .second, .val (.ref b59), .val (.long (if (0 : Int32) = (0 : Int32) then own_fp (own_upd v4_0 (own_upd v2_0 (own_upd qa own_x0 192) 192) 192) 192 else (0 : Int64))), .second, .unset, .unset] [(.int (bt + (129 : Int32))), (.int (3 : Int32)), (.long v4_0), (.long v2_0), (.long qa), (.long ((own_min qa v2_0 v4_0 (3 : Int32) (bt + (1 : Int32))) ^^^ (own_min qa v2_0 v4_0 (3 : Int32) (bt + (65 : Int32)))))])
        obtain ⟨_, _, ⟨T82, L82, k82, n82⟩, -, X82, ⟨Lc82, hQ82, l82, y82, z82⟩, st82⟩ := Jvm.LawKit.callS Xh81 hx (y := (⟨"com/example/criba/criba/model/MinhashAccumulatorFingerprintPinLaw", "minimum", "(JJJII)J"⟩ : MethodName)) hown (mvT hZ (hw _ (List.mem_of_getElem? (i := 43) rfl))) (mvT hZ (hw _ (List.mem_of_getElem? (i := 44) rfl))) (mvT hZ (hw _ (List.mem_of_getElem? (i := 45) rfl))) (mvT hZ (hw _ (List.mem_of_getElem? (i := 46) rfl))) (by decide) (backOf (W := 2) (rm9 l Z a0 hw [] qa v2_0 v4_0 (3 : Int32) (bt + (129 : Int32)) T76.heap n0 Z77 ) hZ (hw _ (List.mem_of_getElem? (i := 46) rfl)) (hw _ (List.mem_of_getElem? (i := 45) rfl)) (by decide) (by decide)) (g := (mkF m 155 #[.val (.long qa), .second, .val (.long qb), .second, .val (.long qc), .second, .val (.int pi), .val (.int pm), .val (.int (3 : Int32)), .val (.int bt), .val (.long v2_0), .second, .val (.long v4_0), .second, .val (.ref b59), .val (.long (if (0 : Int32) = (0 : Int32) then own_fp (own_upd v4_0 (own_upd v2_0 (own_upd qa own_x0 192) 192) 192) 192 else (0 : Int64))), .second, .unset, .unset] [(.int (bt + (129 : Int32))), (.int (3 : Int32)), (.long v4_0), (.long v2_0), (.long qa), (.long ((own_min qa v2_0 v4_0 (3 : Int32) (bt + (1 : Int32))) ^^^ (own_min qa v2_0 v4_0 (3 : Int32) (bt + (65 : Int32)))))])) rfl (by rw [hml]; rfl) (argsL := [(.long qa), (.long v2_0), (.long v4_0), (.int (3 : Int32)), (.int (bt + (129 : Int32)))]) (rest := [(.long ((own_min qa v2_0 v4_0 (3 : Int32) (bt + (1 : Int32))) ^^^ (own_min qa v2_0 v4_0 (3 : Int32) (bt + (65 : Int32)))))]) (lenOf own_pd8 rfl) rfl (by show 2 * 0 + _ ≤ _; exact Nat.le_of_eq rfl) (hb hby at_155) (fun _ _ => ⟨rfl, hh81, (by decide : 2 + 0 ≤ _), (by decide : 194 + 0 ≤ _)⟩)
        dsimp only [Pt.U, Pt.locs, Pt.cells, Pt.slots] at X82 l82 y82 z82 st82 hQ82
        subst l82 y82 z82
        obtain ⟨rfl, Nq82, hh82⟩ := hQ82
        obtain ⟨lc82, Xh82, N82⟩ := own_hide X82 (Fr.app N81 Nq82)
        clear X82
        refine Go.via st82 ?_
        show Go p.tables e below P T82 (mkF m 158 #[.val (.long qa), .second, .val (.long qb), .second, .val (.long qc), .second, .val (.int pi), .val (.int pm), .val (.int (3 : Int32)), .val (.int bt), .val (.long v2_0), .second, .val (.long v4_0), .second, .val (.ref b59), .val (.long (if (0 : Int32) = (0 : Int32) then own_fp (own_upd v4_0 (own_upd v2_0 (own_upd qa own_x0 192) 192) 192) 192 else (0 : Int64))), .second, .unset, .unset] [(.long (own_min qa v2_0 v4_0 (3 : Int32) (bt + (129 : Int32)))), (.long ((own_min qa v2_0 v4_0 (3 : Int32) (bt + (1 : Int32))) ^^^ (own_min qa v2_0 v4_0 (3 : Int32) (bt + (65 : Int32)))))])
        refine Go.via (fun t k => XS.lxor Xh82.here hx rfl (hb hby at_158) rfl k) ?_
        show Go p.tables e below P T82 (mkF m 159 #[.val (.long qa), .second, .val (.long qb), .second, .val (.long qc), .second, .val (.int pi), .val (.int pm), .val (.int (3 : Int32)), .val (.int bt), .val (.long v2_0), .second, .val (.long v4_0), .second, .val (.ref b59), .val (.long (if (0 : Int32) = (0 : Int32) then own_fp (own_upd v4_0 (own_upd v2_0 (own_upd qa own_x0 192) 192) 192) 192 else (0 : Int64))), .second, .unset, .unset] [(.long (((own_min qa v2_0 v4_0 (3 : Int32) (bt + (1 : Int32))) ^^^ (own_min qa v2_0 v4_0 (3 : Int32) (bt + (65 : Int32)))) ^^^ (own_min qa v2_0 v4_0 (3 : Int32) (bt + (129 : Int32)))))])
        refine Go.via (fun t k => XS.lconst Xh82.here hx rfl (hb hby at_159) k) ?_
        show Go p.tables e below P T82 (mkF m 160 #[.val (.long qa), .second, .val (.long qb), .second, .val (.long qc), .second, .val (.int pi), .val (.int pm), .val (.int (3 : Int32)), .val (.int bt), .val (.long v2_0), .second, .val (.long v4_0), .second, .val (.ref b59), .val (.long (if (0 : Int32) = (0 : Int32) then own_fp (own_upd v4_0 (own_upd v2_0 (own_upd qa own_x0 192) 192) 192) 192 else (0 : Int64))), .second, .unset, .unset] [(.long (1 : Int64)), (.long (((own_min qa v2_0 v4_0 (3 : Int32) (bt + (1 : Int32))) ^^^ (own_min qa v2_0 v4_0 (3 : Int32) (bt + (65 : Int32)))) ^^^ (own_min qa v2_0 v4_0 (3 : Int32) (bt + (129 : Int32)))))])
        refine Go.via (fun t k => XS.land Xh82.here hx rfl (hb hby at_160) rfl k) ?_
        show Go p.tables e below P T82 (mkF m 161 #[.val (.long qa), .second, .val (.long qb), .second, .val (.long qc), .second, .val (.int pi), .val (.int pm), .val (.int (3 : Int32)), .val (.int bt), .val (.long v2_0), .second, .val (.long v4_0), .second, .val (.ref b59), .val (.long (if (0 : Int32) = (0 : Int32) then own_fp (own_upd v4_0 (own_upd v2_0 (own_upd qa own_x0 192) 192) 192) 192 else (0 : Int64))), .second, .unset, .unset] [(.long ((((own_min qa v2_0 v4_0 (3 : Int32) (bt + (1 : Int32))) ^^^ (own_min qa v2_0 v4_0 (3 : Int32) (bt + (65 : Int32)))) ^^^ (own_min qa v2_0 v4_0 (3 : Int32) (bt + (129 : Int32)))) &&& (1 : Int64)))])
        refine Go.via (fun t k => XS.lstore Xh82.here hx rfl (hb hby at_161) rfl (l' := #[.val (.long qa), .second, .val (.long qb), .second, .val (.long qc), .second, .val (.int pi), .val (.int pm), .val (.int (3 : Int32)), .val (.int bt), .val (.long v2_0), .second, .val (.long v4_0), .second, .val (.ref b59), .val (.long (if (0 : Int32) = (0 : Int32) then own_fp (own_upd v4_0 (own_upd v2_0 (own_upd qa own_x0 192) 192) 192) 192 else (0 : Int64))), .second, .val (.long ((((own_min qa v2_0 v4_0 (3 : Int32) (bt + (1 : Int32))) ^^^ (own_min qa v2_0 v4_0 (3 : Int32) (bt + (65 : Int32)))) ^^^ (own_min qa v2_0 v4_0 (3 : Int32) (bt + (129 : Int32)))) &&& (1 : Int64))), .second]) rfl k) ?_
        show Go p.tables e below P T82 (mkF m 163 #[.val (.long qa), .second, .val (.long qb), .second, .val (.long qc), .second, .val (.int pi), .val (.int pm), .val (.int (3 : Int32)), .val (.int bt), .val (.long v2_0), .second, .val (.long v4_0), .second, .val (.ref b59), .val (.long (if (0 : Int32) = (0 : Int32) then own_fp (own_upd v4_0 (own_upd v2_0 (own_upd qa own_x0 192) 192) 192) 192 else (0 : Int64))), .second, .val (.long ((((own_min qa v2_0 v4_0 (3 : Int32) (bt + (1 : Int32))) ^^^ (own_min qa v2_0 v4_0 (3 : Int32) (bt + (65 : Int32)))) ^^^ (own_min qa v2_0 v4_0 (3 : Int32) (bt + (129 : Int32)))) &&& (1 : Int64))), .second] [])
        refine Go.via (fun t k => XS.lload Xh82.here hx rfl (hb hby at_163) rfl k) ?_
        show Go p.tables e below P T82 (mkF m 165 #[.val (.long qa), .second, .val (.long qb), .second, .val (.long qc), .second, .val (.int pi), .val (.int pm), .val (.int (3 : Int32)), .val (.int bt), .val (.long v2_0), .second, .val (.long v4_0), .second, .val (.ref b59), .val (.long (if (0 : Int32) = (0 : Int32) then own_fp (own_upd v4_0 (own_upd v2_0 (own_upd qa own_x0 192) 192) 192) 192 else (0 : Int64))), .second, .val (.long ((((own_min qa v2_0 v4_0 (3 : Int32) (bt + (1 : Int32))) ^^^ (own_min qa v2_0 v4_0 (3 : Int32) (bt + (65 : Int32)))) ^^^ (own_min qa v2_0 v4_0 (3 : Int32) (bt + (129 : Int32)))) &&& (1 : Int64))), .second] [(.long (if (0 : Int32) = (0 : Int32) then own_fp (own_upd v4_0 (own_upd v2_0 (own_upd qa own_x0 192) 192) 192) 192 else (0 : Int64)))])
        refine Go.via (fun t k => XS.iload Xh82.here hx rfl (hb hby at_165) rfl k) ?_
        show Go p.tables e below P T82 (mkF m 167 #[.val (.long qa), .second, .val (.long qb), .second, .val (.long qc), .second, .val (.int pi), .val (.int pm), .val (.int (3 : Int32)), .val (.int bt), .val (.long v2_0), .second, .val (.long v4_0), .second, .val (.ref b59), .val (.long (if (0 : Int32) = (0 : Int32) then own_fp (own_upd v4_0 (own_upd v2_0 (own_upd qa own_x0 192) 192) 192) 192 else (0 : Int64))), .second, .val (.long ((((own_min qa v2_0 v4_0 (3 : Int32) (bt + (1 : Int32))) ^^^ (own_min qa v2_0 v4_0 (3 : Int32) (bt + (65 : Int32)))) ^^^ (own_min qa v2_0 v4_0 (3 : Int32) (bt + (129 : Int32)))) &&& (1 : Int64))), .second] [(.int bt), (.long (if (0 : Int32) = (0 : Int32) then own_fp (own_upd v4_0 (own_upd v2_0 (own_upd qa own_x0 192) 192) 192) 192 else (0 : Int64)))])
        refine Go.via (fun t k => XS.lushr Xh82.here hx rfl (hb hby at_167) rfl k) ?_
        show Go p.tables e below P T82 (mkF m 168 #[.val (.long qa), .second, .val (.long qb), .second, .val (.long qc), .second, .val (.int pi), .val (.int pm), .val (.int (3 : Int32)), .val (.int bt), .val (.long v2_0), .second, .val (.long v4_0), .second, .val (.ref b59), .val (.long (if (0 : Int32) = (0 : Int32) then own_fp (own_upd v4_0 (own_upd v2_0 (own_upd qa own_x0 192) 192) 192) 192 else (0 : Int64))), .second, .val (.long ((((own_min qa v2_0 v4_0 (3 : Int32) (bt + (1 : Int32))) ^^^ (own_min qa v2_0 v4_0 (3 : Int32) (bt + (65 : Int32)))) ^^^ (own_min qa v2_0 v4_0 (3 : Int32) (bt + (129 : Int32)))) &&& (1 : Int64))), .second] [(.long (((if (0 : Int32) = (0 : Int32) then own_fp (own_upd v4_0 (own_upd v2_0 (own_upd qa own_x0 192) 192) 192) 192 else (0 : Int64)).toUInt64 >>> (bt &&& 0x3f).toInt64.toUInt64).toInt64))])
        refine Go.via (fun t k => XS.lconst Xh82.here hx rfl (hb hby at_168) k) ?_
        show Go p.tables e below P T82 (mkF m 169 #[.val (.long qa), .second, .val (.long qb), .second, .val (.long qc), .second, .val (.int pi), .val (.int pm), .val (.int (3 : Int32)), .val (.int bt), .val (.long v2_0), .second, .val (.long v4_0), .second, .val (.ref b59), .val (.long (if (0 : Int32) = (0 : Int32) then own_fp (own_upd v4_0 (own_upd v2_0 (own_upd qa own_x0 192) 192) 192) 192 else (0 : Int64))), .second, .val (.long ((((own_min qa v2_0 v4_0 (3 : Int32) (bt + (1 : Int32))) ^^^ (own_min qa v2_0 v4_0 (3 : Int32) (bt + (65 : Int32)))) ^^^ (own_min qa v2_0 v4_0 (3 : Int32) (bt + (129 : Int32)))) &&& (1 : Int64))), .second] [(.long (1 : Int64)), (.long (((if (0 : Int32) = (0 : Int32) then own_fp (own_upd v4_0 (own_upd v2_0 (own_upd qa own_x0 192) 192) 192) 192 else (0 : Int64)).toUInt64 >>> (bt &&& 0x3f).toInt64.toUInt64).toInt64))])
        refine Go.via (fun t k => XS.land Xh82.here hx rfl (hb hby at_169) rfl k) ?_
        show Go p.tables e below P T82 (mkF m 170 #[.val (.long qa), .second, .val (.long qb), .second, .val (.long qc), .second, .val (.int pi), .val (.int pm), .val (.int (3 : Int32)), .val (.int bt), .val (.long v2_0), .second, .val (.long v4_0), .second, .val (.ref b59), .val (.long (if (0 : Int32) = (0 : Int32) then own_fp (own_upd v4_0 (own_upd v2_0 (own_upd qa own_x0 192) 192) 192) 192 else (0 : Int64))), .second, .val (.long ((((own_min qa v2_0 v4_0 (3 : Int32) (bt + (1 : Int32))) ^^^ (own_min qa v2_0 v4_0 (3 : Int32) (bt + (65 : Int32)))) ^^^ (own_min qa v2_0 v4_0 (3 : Int32) (bt + (129 : Int32)))) &&& (1 : Int64))), .second] [(.long ((((if (0 : Int32) = (0 : Int32) then own_fp (own_upd v4_0 (own_upd v2_0 (own_upd qa own_x0 192) 192) 192) 192 else (0 : Int64)).toUInt64 >>> (bt &&& 0x3f).toInt64.toUInt64).toInt64) &&& (1 : Int64)))])
        refine Go.via (fun t k => XS.lload Xh82.here hx rfl (hb hby at_170) rfl k) ?_
        show Go p.tables e below P T82 (mkF m 172 #[.val (.long qa), .second, .val (.long qb), .second, .val (.long qc), .second, .val (.int pi), .val (.int pm), .val (.int (3 : Int32)), .val (.int bt), .val (.long v2_0), .second, .val (.long v4_0), .second, .val (.ref b59), .val (.long (if (0 : Int32) = (0 : Int32) then own_fp (own_upd v4_0 (own_upd v2_0 (own_upd qa own_x0 192) 192) 192) 192 else (0 : Int64))), .second, .val (.long ((((own_min qa v2_0 v4_0 (3 : Int32) (bt + (1 : Int32))) ^^^ (own_min qa v2_0 v4_0 (3 : Int32) (bt + (65 : Int32)))) ^^^ (own_min qa v2_0 v4_0 (3 : Int32) (bt + (129 : Int32)))) &&& (1 : Int64))), .second] [(.long ((((own_min qa v2_0 v4_0 (3 : Int32) (bt + (1 : Int32))) ^^^ (own_min qa v2_0 v4_0 (3 : Int32) (bt + (65 : Int32)))) ^^^ (own_min qa v2_0 v4_0 (3 : Int32) (bt + (129 : Int32)))) &&& (1 : Int64))), (.long ((((if (0 : Int32) = (0 : Int32) then own_fp (own_upd v4_0 (own_upd v2_0 (own_upd qa own_x0 192) 192) 192) 192 else (0 : Int64)).toUInt64 >>> (bt &&& 0x3f).toInt64.toUInt64).toInt64) &&& (1 : Int64)))])
        refine Go.via (fun t k => XS.lcmp Xh82.here hx rfl (hb hby at_172) rfl k) ?_
        show Go p.tables e below P T82 (mkF m 173 #[.val (.long qa), .second, .val (.long qb), .second, .val (.long qc), .second, .val (.int pi), .val (.int pm), .val (.int (3 : Int32)), .val (.int bt), .val (.long v2_0), .second, .val (.long v4_0), .second, .val (.ref b59), .val (.long (if (0 : Int32) = (0 : Int32) then own_fp (own_upd v4_0 (own_upd v2_0 (own_upd qa own_x0 192) 192) 192) 192 else (0 : Int64))), .second, .val (.long ((((own_min qa v2_0 v4_0 (3 : Int32) (bt + (1 : Int32))) ^^^ (own_min qa v2_0 v4_0 (3 : Int32) (bt + (65 : Int32)))) ^^^ (own_min qa v2_0 v4_0 (3 : Int32) (bt + (129 : Int32)))) &&& (1 : Int64))), .second] [(.int (lcmpW ((((if (0 : Int32) = (0 : Int32) then own_fp (own_upd v4_0 (own_upd v2_0 (own_upd qa own_x0 192) 192) 192) 192 else (0 : Int64)).toUInt64 >>> (bt &&& 0x3f).toInt64.toUInt64).toInt64) &&& (1 : Int64)) ((((own_min qa v2_0 v4_0 (3 : Int32) (bt + (1 : Int32))) ^^^ (own_min qa v2_0 v4_0 (3 : Int32) (bt + (65 : Int32)))) ^^^ (own_min qa v2_0 v4_0 (3 : Int32) (bt + (129 : Int32)))) &&& (1 : Int64))))])
        refine Go.via (fun t k => XS.ifNo Xh82.here hx rfl (hb hby at_173) rfl ((if0 _ _).trans (teq ((lw_eq _ _).mpr (own_law3 qa v2_0 v4_0 hb64 hbt'))).2) k) ?_
        show Go p.tables e below P T82 (mkF m 176 #[.val (.long qa), .second, .val (.long qb), .second, .val (.long qc), .second, .val (.int pi), .val (.int pm), .val (.int (3 : Int32)), .val (.int bt), .val (.long v2_0), .second, .val (.long v4_0), .second, .val (.ref b59), .val (.long (if (0 : Int32) = (0 : Int32) then own_fp (own_upd v4_0 (own_upd v2_0 (own_upd qa own_x0 192) 192) 192) 192 else (0 : Int64))), .second, .val (.long ((((own_min qa v2_0 v4_0 (3 : Int32) (bt + (1 : Int32))) ^^^ (own_min qa v2_0 v4_0 (3 : Int32) (bt + (65 : Int32)))) ^^^ (own_min qa v2_0 v4_0 (3 : Int32) (bt + (129 : Int32)))) &&& (1 : Int64))), .second] [])
        refine Go.via (fun t k => XS.iconst Xh82.here hx rfl (hb hby at_176) k) ?_
        show Go p.tables e below P T82 (mkF m 177 #[.val (.long qa), .second, .val (.long qb), .second, .val (.long qc), .second, .val (.int pi), .val (.int pm), .val (.int (3 : Int32)), .val (.int bt), .val (.long v2_0), .second, .val (.long v4_0), .second, .val (.ref b59), .val (.long (if (0 : Int32) = (0 : Int32) then own_fp (own_upd v4_0 (own_upd v2_0 (own_upd qa own_x0 192) 192) 192) 192 else (0 : Int64))), .second, .val (.long ((((own_min qa v2_0 v4_0 (3 : Int32) (bt + (1 : Int32))) ^^^ (own_min qa v2_0 v4_0 (3 : Int32) (bt + (65 : Int32)))) ^^^ (own_min qa v2_0 v4_0 (3 : Int32) (bt + (129 : Int32)))) &&& (1 : Int64))), .second] [(.int (1 : Int32))])
        refine Go.via (fun t k => XS.goto Xh82.here hx rfl (pc0 := 177) (pc' := 181) rfl (hb hby at_177) (by decide) (by decide) k) ?_
        show Go p.tables e below P T82 (mkF m 181 #[.val (.long qa), .second, .val (.long qb), .second, .val (.long qc), .second, .val (.int pi), .val (.int pm), .val (.int (3 : Int32)), .val (.int bt), .val (.long v2_0), .second, .val (.long v4_0), .second, .val (.ref b59), .val (.long (if (0 : Int32) = (0 : Int32) then own_fp (own_upd v4_0 (own_upd v2_0 (own_upd qa own_x0 192) 192) 192) 192 else (0 : Int64))), .second, .val (.long ((((own_min qa v2_0 v4_0 (3 : Int32) (bt + (1 : Int32))) ^^^ (own_min qa v2_0 v4_0 (3 : Int32) (bt + (65 : Int32)))) ^^^ (own_min qa v2_0 v4_0 (3 : Int32) (bt + (129 : Int32)))) &&& (1 : Int64))), .second] [(.int (1 : Int32))])
        obtain ⟨fs, hr, hrun, hended, hW, hsame⟩ := Xh82.leave (v := some (.int (1 : Int32))) (fun h => by rw [Bd.returns] at h; cases h)
        refine ⟨_, _, retZ Xh82 hx (t := .boolean) Bd.returns (by simp) (hb hby at_181) rfl hr, hrun, hended, hP _ _ ⟨_, _, rfl, ?_, ⟨_, rfl⟩, hW, hsame.mono (by decide) (by decide)⟩⟩
        show Q0 Z qa qb qc pi pm h0 n0 _ T82.heap _
        rw [hh82]
        exact ⟨rfl, N82⟩
    by_cases hc3 : (((pm.toUInt32 >>> ((3 : Int32) &&& 31).toUInt32).toInt32) &&& (1 : Int32)) = (0 : Int32)
    · refine Go.via (fun t k => XS.ifYes X2.here hx rfl (pc0 := 35) (pc' := 43) rfl (hb hby at_35) rfl ((if0 _ _).trans (teq hc3).1) (by decide) (by decide) k) ?_
      show Go p.tables e below P T2 (mkF m 43 #[.val (.long qa), .second, .val (.long qb), .second, .val (.long qc), .second, .val (.int pi), .val (.int pm), .val (.int (pm &&& (3 : Int32))), .val (.int (pi &&& (63 : Int32))), .val (.long v2_0), .second, .unset, .unset, .unset, .unset, .unset, .unset, .unset] [])
      refine Go.via (fun t k => XS.lload X2.here hx rfl (hb hby at_43) rfl k) ?_
      exact J4 T2 _ qc X2 e2 N2 (if_pos hc3).symm
    · refine Go.via (fun t k => XS.ifNo X2.here hx rfl (hb hby at_35) rfl ((if0 _ _).trans (feq hc3).1) k) ?_
      show Go p.tables e below P T2 (mkF m 38 #[.val (.long qa), .second, .val (.long qb), .second, .val (.long qc), .second, .val (.int pi), .val (.int pm), .val (.int (pm &&& (3 : Int32))), .val (.int (pi &&& (63 : Int32))), .val (.long v2_0), .second, .unset, .unset, .unset, .unset, .unset, .unset, .unset] [])
      refine Go.via (fun t k => XS.lload X2.here hx rfl (hb hby at_38) rfl k) ?_
      show Go p.tables e below P T2 (mkF m 40 #[.val (.long qa), .second, .val (.long qb), .second, .val (.long qc), .second, .val (.int pi), .val (.int pm), .val (.int (pm &&& (3 : Int32))), .val (.int (pi &&& (63 : Int32))), .val (.long v2_0), .second, .unset, .unset, .unset, .unset, .unset, .unset, .unset] [(.long v2_0)])
      refine Go.via (fun t k => XS.goto X2.here hx rfl (pc0 := 40) (pc' := 45) rfl (hb hby at_40) (by decide) (by decide) k) ?_
      exact J4 T2 _ v2_0 X2 e2 N2 (if_neg hc3).symm
  by_cases hc1 : (((pm.toUInt32 >>> ((2 : Int32) &&& 31).toUInt32).toInt32) &&& (1 : Int32)) = (0 : Int32)
  · refine Go.via (fun t k => XS.ifYes X0.here hx rfl (pc0 := 19) (pc' := 26) rfl (hb hby at_19) rfl ((if0 _ _).trans (teq hc1).1) (by decide) (by decide) k) ?_
    show Go p.tables e below P s₁ (mkF m 26 #[.val (.long qa), .second, .val (.long qb), .second, .val (.long qc), .second, .val (.int pi), .val (.int pm), .val (.int (pm &&& (3 : Int32))), .val (.int (pi &&& (63 : Int32))), .unset, .unset, .unset, .unset, .unset, .unset, .unset, .unset, .unset] [])
    refine Go.via (fun t k => XS.lloadN X0.here hx rfl (hb hby at_26) rfl k) ?_
    exact J2 s₁ _ qb X0 e0 N0 (if_pos hc1).symm
  · refine Go.via (fun t k => XS.ifNo X0.here hx rfl (hb hby at_19) rfl ((if0 _ _).trans (feq hc1).1) k) ?_
    show Go p.tables e below P s₁ (mkF m 22 #[.val (.long qa), .second, .val (.long qb), .second, .val (.long qc), .second, .val (.int pi), .val (.int pm), .val (.int (pm &&& (3 : Int32))), .val (.int (pi &&& (63 : Int32))), .unset, .unset, .unset, .unset, .unset, .unset, .unset, .unset, .unset] [])
    refine Go.via (fun t k => XS.lloadN X0.here hx rfl (hb hby at_22) rfl k) ?_
    show Go p.tables e below P s₁ (mkF m 23 #[.val (.long qa), .second, .val (.long qb), .second, .val (.long qc), .second, .val (.int pi), .val (.int pm), .val (.int (pm &&& (3 : Int32))), .val (.int (pi &&& (63 : Int32))), .unset, .unset, .unset, .unset, .unset, .unset, .unset, .unset, .unset] [(.long qa)])
    refine Go.via (fun t k => XS.goto X0.here hx rfl (pc0 := 23) (pc' := 27) rfl (hb hby at_23) (by decide) (by decide) k) ?_
    exact J2 s₁ _ qa X0 e0 N0 (if_neg hc1).symm
set_option maxRecDepth 65536 in
set_option maxHeartbeats 40000000 in
theorem comes_1 {Post : Tables → Env → Array Value → State → Outcome → State → Prop} (hpost : ∀ tb e args s v u, (limb_1_1.after args s (.returned v) u = true ∧ limb_1_2.after args s (.returned v) u = true ∧ True) → FrameEnd s (.returned v) u (Jvm.fieldLocs frame_1_writes args s ++ Jvm.arrayLocs frame_1_arrays args s ++ Jvm.staticLocs frame_1_statics s) 16 512 → Post tb e args s (.returned v) u) :
    ArmFor flags0 classFile x code maxLocals ret World_1 tables_1 room_1 Calls_1 rest_1 Pre_1 Post := by
  intro l hfl _ _ p e ha hc hk s m args below hf hA hF happ hP
  obtain ⟨hcalls, hrest, hpre⟩ := hP
  obtain ⟨-, -, -, hnamed, -, -, -, hat⟩ := (Spec.applies_iff hf).mp happ
  obtain ⟨hg, hn⟩ := and_e (Cond.before_iff.mp (show (Jvm.Cond.and given_1 narrow_1).before args s = true from hpre))
  obtain ⟨hv0, hr0⟩ := and_e hg
  obtain ⟨hv1, hr1⟩ := and_e hr0
  obtain ⟨hv2, hr2⟩ := and_e hr1
  obtain ⟨hv3, hr3⟩ := and_e hr2
  obtain ⟨hv4, hr4⟩ := and_e hr3
  obtain ⟨w0, w1, w2, w3, w4, rfl⟩ : ∃ w0 w1 w2 w3 w4 : Value, args = #[w0, w1, w2, w3, w4] := by
    have hs : args.size = 5 := by simpa [Cond.value, given_1] using hv0
    obtain ⟨L⟩ := args
    match L, hs with
    | [w0, w1, w2, w3, w4], _ => exact ⟨w0, w1, w2, w3, w4, rfl⟩
  have hw := fun d (hd : d ∈ tables_1) => atoms_spec (ws := Jvm.Cond.code x code maxLocals ret :: tables_1) hat d (List.mem_cons_of_mem _ hd)
  have hfit : Fit s := fun {y c} hc i hi => by
    obtain ⟨ha, rfl⟩ := Array.getElem?_eq_some_iff.mp hc
    have q := List.all_eq_true.mp ((Array.all_eq_true_iff_forall_mem.mp hF) _ (Array.getElem_mem ha)) i (List.mem_range.mpr hi)
    simpa [Array.getElem?_eq_getElem hi] using q
  obtain ⟨i0, ei0⟩ := isL_v hv1
  obtain rfl : w0 = (.long i0) := Option.some.inj ei0
  obtain ⟨i1, ei1⟩ := isL_v hv2
  obtain rfl : w1 = (.long i1) := Option.some.inj ei1
  obtain ⟨i2, ei2⟩ := isL_v hv3
  obtain rfl : w2 = (.long i2) := Option.some.inj ei2
  obtain ⟨i3, ei3⟩ := is_v hv4
  obtain rfl : w3 = (.int i3) := Option.some.inj ei3
  obtain ⟨i4, ei4⟩ := is_v hr4
  obtain rfl : w4 = (.int i4) := Option.some.inj ei4
  obtain ⟨n, o, h1, h2, h3, _, L, rfl, ⟨rfl, N⟩, hq⟩ := rm0 l s _ hw tables_1 i0 i1 i2 i3 i4 s.heap s.heap.size (Nat.le_refl _)  p e ha hc hk s m _ below hf ((Spec.applies_iff_loose hf).mp happ).1 ⟨rfl, State.Warmed39.refl s, rfl⟩ trivial
  refine ⟨n, _, h1, h2, h3, hpost _ _ _ _ _ _ ⟨Cond.after_iff.mpr rfl, Cond.after_iff.mpr (eq_i res_at (Term.int_eval (1)) rfl), trivial⟩ ⟨hq.1, hq.2.1, (hq.2.2.sift fun y hy => Or.inr (N y hy)).mono (by decide) (by decide)⟩⟩
theorem main_1_1 : Claimed_1_1 := comes_1 fun _ _ _ _ _ _ h hF => ⟨h.1, hF⟩
theorem main_1_2 : Claimed_1_2 := comes_1 fun _ _ _ _ _ _ h hF => ⟨h.2.1, hF⟩
end Jvm.Pilot.@@N@@
namespace Jvm.Pilot.@@N@@
open Jvm Jvm.ClassFile Sem Op Lib Jvm.Free Jvm.Stand Jvm.Pilot.@@N@@.Jvm.D
/-! MADE BY PROGRAM (witnessworld.py) out of the Statement's table words and the real class files: 17 classes; the members and pool entries that the words name. The judged class is class 1, her method 5. -/
namespace start1
open Jvm.ClassFile
def u (s : String) : CpInfo := .utf8 (stringToUtf16 s)
/-- a pool by its gaps: so many unusable entries, then the entry; so many at the end -/
def gap : Nat → List CpInfo → List CpInfo
  | 0, r => r
  | n + 1, r => .unusable :: gap n r
def poolList (es : List (Nat × CpInfo)) (last : Nat) : List CpInfo := es.foldr (fun e r => gap e.1 (e.2 :: r)) (gap last [])
def pool (es : List (Nat × CpInfo)) (last : Nat) : Array CpInfo := ⟨poolList es last⟩
def fileOf (pool : Array CpInfo) (this : Nat) (attrs : Array Attribute := #[]) (ms : Array MethodInfo := #[]) (fl : Nat := 33) (sup : Nat := 0) (ifs : Array Nat := #[]) (fds : Array FieldInfo := #[]) : ClassFile where
  minorVersion := 0
  majorVersion := 65
  constantPool := pool
  accessFlags := fl
  thisClass := this
  superClass := sup
  interfaces := ifs
  fields := fds
  methods := ms
  attributes := attrs
def plain (name : String) (sup : Option ClassId) : Class where
  name := name
  kind := .ordinary
  loader := none
  accessFlags := 33
  super := sup
  interfaces := #[]
  cf := none
  fields := #[]
  methods := #[]
  instanceTypes := #[]
  staticTypes := #[]
  resolved := #[]
  callSites := []
  init := .initialized
  statics := none
  mirror := none

def pool0 : Array CpInfo := pool [(5, u "<init>"), (0, u "()V"), (1, .class_ 10), (1, u "java/lang/Object")] 113

def k0c0 : Code := { maxStack := 0, maxLocals := 1, code := object_method_1_code, exceptionTable := #[], attributes := #[] }
def k0m0 : Method := { name := "<init>", desc := "()V", sig := { parameters := [], returnType := none }, accessFlags := 1, code := some k0c0 }
/-- java/lang/Object -/
def k0 : Class := { plain "java/lang/Object" none with
  accessFlags := 33
  interfaces := #[]
  cf := some (fileOf pool0 8 #[] #[{ accessFlags := 1, nameIndex := 5, descriptorIndex := 6, attributes := #[] }] 33 0 #[] #[])
  fields := #[]
  methods := #[k0m0]
  instanceTypes := #[]
  staticTypes := #[]
  resolved := Array.replicate 124 none
  statics := none }

def pool1 : Array CpInfo := pool [(2, .class_ 4), (0, .nameAndType 5 6), (0, u "java/lang/Object"), (0, u "<init>"), (0, u "()V"), (0, .long 13787848793156543929), (1, .long 10723151780598845931), (1, .long 11400714819323198485), (1, .methodref 14 15), (0, .class_ 16), (0, .nameAndType 17 18), (0, u "com/example/criba/criba/model/MinhashAccumulatorFingerprintPinLaw"), (0, u "mix"), (0, u "(J)J"), (2, .long 9223372036854775808), (1, .methodref 14 24), (0, .nameAndType 25 26), (0, u "value"), (0, u "(JI)J"), (0, .methodref 14 28), (0, .nameAndType 29 30), (0, u "umin"), (0, u "(JJ)J"), (0, .class_ 32), (0, u "com/example/criba/criba/model/MinhashAccumulator"), (0, .methodref 31 3), (0, .methodref 31 35), (0, .nameAndType 36 37), (0, u "add"), (0, u "(J)V"), (0, .methodref 31 39), (0, .nameAndType 40 41), (0, u "fingerprint"), (0, u "()J"), (0, .methodref 14 43), (0, .nameAndType 44 45), (0, u "minimum"), (0, u "(JJJII)J"), (3, u "law"), (0, u "(JJJII)Z")] 2

def k1m0 : Method := { name := "<init>", desc := "()V", sig := { parameters := [], returnType := none }, accessFlags := 1, code := none }
def k1c1 : Code := { maxStack := 5, maxLocals := 4, code := method_2_code, exceptionTable := #[], attributes := #[] }
def k1m1 : Method := { name := "mix", desc := "(J)J", sig := { parameters := [.long], returnType := some .long }, accessFlags := 10, code := some k1c1 }
def k1c2 : Code := { maxStack := 6, maxLocals := 3, code := method_3_code, exceptionTable := #[], attributes := #[] }
def k1m2 : Method := { name := "value", desc := "(JI)J", sig := { parameters := [.long, .int], returnType := some .long }, accessFlags := 10, code := some k1c2 }
def k1c3 : Code := { maxStack := 6, maxLocals := 4, code := method_4_code, exceptionTable := #[], attributes := #[] }
def k1m3 : Method := { name := "umin", desc := "(JJ)J", sig := { parameters := [.long, .long], returnType := some .long }, accessFlags := 10, code := some k1c3 }
def k1c4 : Code := { maxStack := 5, maxLocals := 10, code := method_5_code, exceptionTable := #[], attributes := #[] }
def k1m4 : Method := { name := "minimum", desc := "(JJJII)J", sig := { parameters := [.long, .long, .long, .int, .int], returnType := some .long }, accessFlags := 10, code := some k1c4 }
def k1c5 : Code := { maxStack := 11, maxLocals := 19, code := code, exceptionTable := #[], attributes := #[] }
def k1m5 : Method := { name := "law", desc := "(JJJII)Z", sig := { parameters := [.long, .long, .long, .int, .int], returnType := some .boolean }, accessFlags := 9, code := some k1c5 }
/-- com/example/criba/criba/model/MinhashAccumulatorFingerprintPinLaw -/
def k1 : Class := { plain "com/example/criba/criba/model/MinhashAccumulatorFingerprintPinLaw" (some 0) with
  accessFlags := 49
  interfaces := #[]
  cf := some (fileOf pool1 14 #[] #[{ accessFlags := 1, nameIndex := 5, descriptorIndex := 6, attributes := #[] }, { accessFlags := 10, nameIndex := 17, descriptorIndex := 18, attributes := #[] }, { accessFlags := 10, nameIndex := 25, descriptorIndex := 26, attributes := #[] }, { accessFlags := 10, nameIndex := 29, descriptorIndex := 30, attributes := #[] }, { accessFlags := 10, nameIndex := 44, descriptorIndex := 45, attributes := #[] }, { accessFlags := 9, nameIndex := 49, descriptorIndex := 50, attributes := #[] }] 49 2 #[] #[])
  fields := #[]
  methods := #[k1m0, k1m1, k1m2, k1m3, k1m4, k1m5]
  instanceTypes := #[]
  staticTypes := #[]
  resolved := Array.replicate 53 none
  statics := none }

def pool2 : Array CpInfo := pool [(1, .class_ 2), (0, u "java/lang/Long"), (0, .methodref 4 5), (0, .class_ 6), (0, .nameAndType 7 8), (0, u "java/lang/Object"), (0, u "<init>"), (0, u "()V"), (0, .class_ 10), (0, u "com/example/criba/criba/model/MinhashAccumulator"), (0, .fieldref 9 12), (0, .nameAndType 13 14), (0, u "minima"), (0, u "[J"), (0, .fieldref 9 16), (0, .nameAndType 17 18), (0, u "empty"), (0, u "Z"), (0, .long 18446744073709551615), (1, .methodref 22 23), (0, .class_ 24), (0, .nameAndType 25 26), (0, u "java/util/Arrays"), (0, u "fill"), (0, u "([JJ)V"), (0, .long 11400714819323198485), (1, .methodref 9 30), (0, .nameAndType 31 32), (0, u "mix"), (0, u "(J)J"), (0, .methodref 1 34), (0, .nameAndType 35 36), (0, u "compareUnsigned"), (0, u "(JJ)I"), (0, .long 13787848793156543929), (1, .long 10723151780598845931), (1, u "MINIMA"), (0, u "I"), (2, u "GAMMA"), (0, u "J"), (2, u "add"), (0, u "(J)V"), (1, u "fingerprint"), (0, u "()J")] 2

def k2c0 : Code := { maxStack := 3, maxLocals := 1, code := prog_27_method_1_code, exceptionTable := #[], attributes := #[] }
def k2m0 : Method := { name := "<init>", desc := "()V", sig := { parameters := [], returnType := none }, accessFlags := 1, code := some k2c0 }
def k2c1 : Code := { maxStack := 4, maxLocals := 8, code := prog_27_method_2_code, exceptionTable := #[], attributes := #[] }
def k2m1 : Method := { name := "add", desc := "(J)V", sig := { parameters := [.long], returnType := none }, accessFlags := 1, code := some k2c1 }
def k2c2 : Code := { maxStack := 6, maxLocals := 4, code := prog_27_method_3_code, exceptionTable := #[], attributes := #[] }
def k2m2 : Method := { name := "fingerprint", desc := "()J", sig := { parameters := [], returnType := some .long }, accessFlags := 1, code := some k2c2 }
def k2c3 : Code := { maxStack := 5, maxLocals := 4, code := prog_27_method_4_code, exceptionTable := #[], attributes := #[] }
def k2m3 : Method := { name := "mix", desc := "(J)J", sig := { parameters := [.long], returnType := some .long }, accessFlags := 10, code := some k2c3 }
/-- com/example/criba/criba/model/MinhashAccumulator -/
def k2 : Class := { plain "com/example/criba/criba/model/MinhashAccumulator" (some 0) with
  accessFlags := 33
  interfaces := #[]
  cf := some (fileOf pool2 9 #[] #[{ accessFlags := 1, nameIndex := 7, descriptorIndex := 8, attributes := #[] }, { accessFlags := 1, nameIndex := 49, descriptorIndex := 50, attributes := #[] }, { accessFlags := 1, nameIndex := 52, descriptorIndex := 53, attributes := #[] }, { accessFlags := 10, nameIndex := 31, descriptorIndex := 32, attributes := #[] }] 33 4 #[] #[{ accessFlags := 26, nameIndex := 41, descriptorIndex := 42, attributes := #[] }, { accessFlags := 26, nameIndex := 45, descriptorIndex := 46, attributes := #[] }, { accessFlags := 18, nameIndex := 13, descriptorIndex := 14, attributes := #[] }, { accessFlags := 2, nameIndex := 17, descriptorIndex := 18, attributes := #[] }])
  fields := #[{ name := "MINIMA", type := .int, accessFlags := 26, slot := 0, constantValue := 0 }, { name := "GAMMA", type := .long, accessFlags := 26, slot := 1, constantValue := 0 }, { name := "minima", type := (.array .long), accessFlags := 18, slot := 0, constantValue := 0 }, { name := "empty", type := .boolean, accessFlags := 2, slot := 1, constantValue := 0 }]
  methods := #[k2m0, k2m1, k2m2, k2m3]
  instanceTypes := #[(.array .long), .boolean]
  staticTypes := #[.int, .long]
  resolved := Array.replicate 56 none
  statics := none }

def pool3 : Array CpInfo := pool [(2, .class_ 4), (1, u "java/lang/Object"), (0, u "<init>"), (0, u "()V"), (7, .class_ 16), (1, u "java/util/Arrays"), (57, .class_ 76), (1, u "java/util/Arrays$NaturalOrder"), (36, .class_ 115), (1, u "java/util/Arrays$LegacyMergeSort"), (1, u "Z"), (257, .class_ 376), (0, u "java/util/Arrays$ArrayList"), (68, u "$assertionsDisabled"), (269, u "MIN_ARRAY_SORT_GRAN"), (0, u "I"), (2, u "INSERTIONSORT_THRESHOLD"), (120, u "fill"), (0, u "([JJ)V"), (133, .class_ 976), (0, u "java/util/Arrays$ArrayItr")] 52

def k3m0 : Method := { name := "<init>", desc := "()V", sig := { parameters := [], returnType := none }, accessFlags := 2, code := none }
def k3c1 : Code := { maxStack := 4, maxLocals := 5, code := jdk_65_method_101_code, exceptionTable := #[], attributes := #[] }
def k3m1 : Method := { name := "fill", desc := "([JJ)V", sig := { parameters := [(.array .long), .long], returnType := none }, accessFlags := 9, code := some k3c1 }
/-- java/util/Arrays -/
def k3 : Class := { plain "java/util/Arrays" (some 0) with
  accessFlags := 49
  interfaces := #[]
  cf := some (fileOf pool3 14 #[.nestMembers #[975, 375, 113, 74]] #[{ accessFlags := 2, nameIndex := 5, descriptorIndex := 6, attributes := #[] }, { accessFlags := 9, nameIndex := 840, descriptorIndex := 841, attributes := #[] }] 49 2 #[] #[{ accessFlags := 26, nameIndex := 715, descriptorIndex := 716, attributes := #[] }, { accessFlags := 26, nameIndex := 719, descriptorIndex := 716, attributes := #[] }, { accessFlags := 4120, nameIndex := 445, descriptorIndex := 117, attributes := #[] }])
  fields := #[{ name := "MIN_ARRAY_SORT_GRAN", type := .int, accessFlags := 26, slot := 0, constantValue := 0 }, { name := "INSERTIONSORT_THRESHOLD", type := .int, accessFlags := 26, slot := 1, constantValue := 0 }, { name := "$assertionsDisabled", type := .boolean, accessFlags := 4120, slot := 2, constantValue := 0 }]
  methods := #[k3m0, k3m1]
  instanceTypes := #[]
  staticTypes := #[.int, .int, .boolean]
  resolved := Array.replicate 1029 none
  statics := none }

def pool4 : Array CpInfo := pool [(1, .class_ 2), (0, u "java/io/Serializable"), (0, .class_ 4), (0, u "java/lang/Object")] 2

/-- java/io/Serializable -/
def k4 : Class := { plain "java/io/Serializable" (some 0) with
  accessFlags := 1537
  interfaces := #[]
  cf := some (fileOf pool4 1 #[] #[] 1537 3 #[] #[])
  fields := #[]
  methods := #[]
  instanceTypes := #[]
  staticTypes := #[]
  resolved := Array.replicate 7 none
  statics := none }

def pool5 : Array CpInfo := pool [(2, .class_ 4), (1, u "java/lang/Object"), (0, u "<init>"), (0, u "()V"), (1, .class_ 10), (1, u "java/lang/Number"), (2, .class_ 14), (0, u "java/io/Serializable"), (0, u "serialVersionUID"), (0, u "J")] 20

def k5m0 : Method := { name := "<init>", desc := "()V", sig := { parameters := [], returnType := none }, accessFlags := 1, code := none }
/-- java/lang/Number -/
def k5 : Class := { plain "java/lang/Number" (some 0) with
  accessFlags := 1057
  interfaces := #[4]
  cf := some (fileOf pool5 8 #[] #[{ accessFlags := 1, nameIndex := 5, descriptorIndex := 6, attributes := #[] }] 1057 2 #[13] #[{ accessFlags := 26, nameIndex := 15, descriptorIndex := 16, attributes := #[] }])
  fields := #[{ name := "serialVersionUID", type := .long, accessFlags := 26, slot := 0, constantValue := 0 }]
  methods := #[k5m0]
  instanceTypes := #[]
  staticTypes := #[.long]
  resolved := Array.replicate 37 none
  statics := none }

def pool6 : Array CpInfo := pool [(1, .class_ 2), (0, u "java/lang/Comparable"), (0, .class_ 4), (0, u "java/lang/Object")] 7

/-- java/lang/Comparable -/
def k6 : Class := { plain "java/lang/Comparable" (some 0) with
  accessFlags := 1537
  interfaces := #[]
  cf := some (fileOf pool6 1 #[] #[] 1537 3 #[] #[])
  fields := #[]
  methods := #[]
  instanceTypes := #[]
  staticTypes := #[]
  resolved := Array.replicate 12 none
  statics := none }

def pool7 : Array CpInfo := pool [(1, .class_ 2), (0, u "java/lang/constant/Constable"), (0, .class_ 4), (0, u "java/lang/Object")] 6

/-- java/lang/constant/Constable -/
def k7 : Class := { plain "java/lang/constant/Constable" (some 0) with
  accessFlags := 1537
  interfaces := #[]
  cf := some (fileOf pool7 1 #[] #[] 1537 3 #[] #[])
  fields := #[]
  methods := #[]
  instanceTypes := #[]
  staticTypes := #[]
  resolved := Array.replicate 11 none
  statics := none }

def pool8 : Array CpInfo := pool [(1, .class_ 2), (0, u "java/lang/constant/ConstantDesc"), (0, .class_ 4), (0, u "java/lang/Object")] 32

/-- java/lang/constant/ConstantDesc -/
def k8 : Class := { plain "java/lang/constant/ConstantDesc" (some 0) with
  accessFlags := 1537
  interfaces := #[]
  cf := some (fileOf pool8 1 #[] #[] 1537 3 #[] #[])
  fields := #[]
  methods := #[]
  instanceTypes := #[]
  staticTypes := #[]
  resolved := Array.replicate 37 none
  statics := none }

def pool9 : Array CpInfo := pool [(1, .class_ 2), (0, u "java/lang/Long"), (165, .long 9223372036854775808), (66, .class_ 237), (1, u "java/lang/Long$LongCache"), (33, .class_ 272), (0, u "java/lang/Number"), (2, u "value"), (0, u "J"), (25, .methodref 1 303), (0, .nameAndType 304 305), (0, u "compare"), (0, u "(JJ)I"), (55, u "TYPE"), (0, u "Ljava/lang/Class;"), (0, .class_ 364), (0, u "java/lang/Comparable"), (0, .class_ 366), (0, u "java/lang/constant/Constable"), (0, .class_ 368), (0, u "java/lang/constant/ConstantDesc"), (0, u "MIN_VALUE"), (1, u "MAX_VALUE"), (4, u "SIZE"), (0, u "I"), (1, u "BYTES"), (1, u "serialVersionUID"), (87, u "compareUnsigned")] 54

def k9c0 : Code := { maxStack := 4, maxLocals := 4, code := jdk_35_method_42_code, exceptionTable := #[], attributes := #[] }
def k9m0 : Method := { name := "compare", desc := "(JJ)I", sig := { parameters := [.long, .long], returnType := some .int }, accessFlags := 9, code := some k9c0 }
def k9c1 : Code := { maxStack := 6, maxLocals := 4, code := jdk_35_method_43_code, exceptionTable := #[], attributes := #[] }
def k9m1 : Method := { name := "compareUnsigned", desc := "(JJ)I", sig := { parameters := [.long, .long], returnType := some .int }, accessFlags := 9, code := some k9c1 }
/-- java/lang/Long -/
def k9 : Class := { plain "java/lang/Long" (some 5) with
  accessFlags := 49
  interfaces := #[6, 7, 8]
  cf := some (fileOf pool9 1 #[.nestMembers #[235]] #[{ accessFlags := 9, nameIndex := 304, descriptorIndex := 305, attributes := #[] }, { accessFlags := 9, nameIndex := 469, descriptorIndex := 305, attributes := #[] }] 49 271 #[363, 365, 367] #[{ accessFlags := 25, nameIndex := 369, descriptorIndex := 276, attributes := #[] }, { accessFlags := 25, nameIndex := 371, descriptorIndex := 276, attributes := #[] }, { accessFlags := 25, nameIndex := 361, descriptorIndex := 362, attributes := #[] }, { accessFlags := 18, nameIndex := 275, descriptorIndex := 276, attributes := #[] }, { accessFlags := 25, nameIndex := 376, descriptorIndex := 377, attributes := #[] }, { accessFlags := 25, nameIndex := 379, descriptorIndex := 377, attributes := #[] }, { accessFlags := 26, nameIndex := 381, descriptorIndex := 276, attributes := #[] }])
  fields := #[{ name := "MIN_VALUE", type := .long, accessFlags := 25, slot := 0, constantValue := 0 }, { name := "MAX_VALUE", type := .long, accessFlags := 25, slot := 1, constantValue := 0 }, { name := "TYPE", type := (.object "java/lang/Class"), accessFlags := 25, slot := 2, constantValue := 0 }, { name := "value", type := .long, accessFlags := 18, slot := 0, constantValue := 0 }, { name := "SIZE", type := .int, accessFlags := 25, slot := 3, constantValue := 0 }, { name := "BYTES", type := .int, accessFlags := 25, slot := 4, constantValue := 0 }, { name := "serialVersionUID", type := .long, accessFlags := 26, slot := 5, constantValue := 0 }]
  methods := #[k9m0, k9m1]
  instanceTypes := #[.long]
  staticTypes := #[.long, .long, (.object "java/lang/Class"), .int, .int, .long]
  resolved := Array.replicate 524 none
  statics := none }

def pool10 : Array CpInfo := pool [(1, u "java/lang/Cloneable"), (0, .class_ 1), (0, u "java/lang/Object"), (0, .class_ 3)] 3

/-- java/lang/Cloneable -/
def k10 : Class := { plain "java/lang/Cloneable" (some 0) with
  accessFlags := 1537
  interfaces := #[]
  cf := some (fileOf pool10 2 #[] #[] 1537 4 #[] #[])
  fields := #[]
  methods := #[]
  instanceTypes := #[]
  staticTypes := #[]
  resolved := Array.replicate 8 none
  statics := none }

/-- the primitive byte -/
def k11 : Class := { plain "byte" none with kind := .primitive 'B', accessFlags := 0x411 }
/-- [B -/
def k12 : Class := { plain "[B" (some 0) with kind := .array 11 .byte, interfaces := #[10, 4], accessFlags := 1041 }

/-- the primitive int -/
def k13 : Class := { plain "int" none with kind := .primitive 'I', accessFlags := 0x411 }
/-- [I -/
def k14 : Class := { plain "[I" (some 0) with kind := .array 13 .int, interfaces := #[10, 4], accessFlags := 1041 }

/-- the primitive long -/
def k15 : Class := { plain "long" none with kind := .primitive 'J', accessFlags := 0x411 }
/-- [J -/
def k16 : Class := { plain "[J" (some 0) with kind := .array 15 .long, interfaces := #[10, 4], accessFlags := 1041 }

def heap : Heap := #[]
def classes : Array Class := #[k0, k1, k2, k3, k4, k5, k6, k7, k8, k9, k10, k11, k12, k13, k14, k15, k16]
def interned : List (Array UInt16 × Addr) := []
def slotsUsed : Nat := 0
def theMethod : MethodId := ⟨1, 5⟩
def args0 : Array Value := #[.long 5, .long 7, .long 9, .int 3, .int 2]
def aboutOver (below : List Frame) : State where
  vm := { classes := classes, interned := interned.toArray }
  heap := heap
  slotsUsed := slotsUsed
  threads := #[{ frames := .invoking theMethod args0 :: below }]
def below0 : List Frame := [.native { method := ⟨0, 0⟩, args := #[] }]
def about1 : State := aboutOver below0
def p0 : Program := .bare "" "" ""
def e0 : Env := launch0.env 0 0 0
theorem w_frames : about1.frames = Frame.invoking theMethod args0 :: below0 := rfl
set_option maxRecDepth 65536 in
theorem w_args : argsFit about1.vm theMethod args0 = true := by decide +kernel
set_option maxRecDepth 65536 in
theorem w_heap : heapFits about1 = true := by decide +kernel
set_option maxRecDepth 65536 in
theorem w_runnable : about1.curStatus? = some .runnable := by decide +kernel
set_option maxRecDepth 65536 in
theorem w_alone : about1.alone = true := by decide +kernel
set_option maxRecDepth 65536 in
theorem w_named : about1.methodNamed? x = some theMethod := by decide +kernel
set_option maxRecDepth 65536 in
theorem w_hears : about1.hears theMethod below0 = true := by decide +kernel
set_option maxRecDepth 65536 in
theorem w_ripe : about1.ripe theMethod args0 below0 = true := by decide +kernel
theorem w_running : about1.status = .running := rfl
set_option maxRecDepth 65536 in
theorem w_room : about1.hasRoom e0.platform room_1 = true :=
  launch0.hasRoom_least _ room_1 (by decide +kernel) (by decide +kernel) (by decide +kernel) (by decide +kernel) (by decide +kernel) (by decide +kernel)
theorem allAtoms_all (ts : List Jvm.Cond) (a : Array Jvm.Value) (st : Jvm.State) : (allAtoms ts).before a st = ts.all (fun c => c.before a st) := by
  induction ts with
  | nil => rfl
  | cons c t ih =>
    show (Jvm.Cond.and c (allAtoms t)).before a st = _
    rw [Jvm.Cond.before_and, ih, List.all_cons]
def words1 : List Jvm.Cond := Jvm.Cond.code x code maxLocals ret :: tables_1
/-- a 'code' word, met by the world's own term for the bytes: nothing is compared byte by byte -/
theorem code_word {y : MethodName} {bytes : ByteArray} {mx : Nat} {rt : Option FieldType} {a : Array Value} {s : State} {m : MethodId} {meth : Method} {c : Code} (h1 : s.methodNamed? y = some m) (h2 : s.vm.method? m = some meth) (h3 : meth.code = some c) (h4 : c.code = bytes)
    (h5 : (c.maxLocals == mx && c.exceptionTable.isEmpty && decide (c.maxStack ≤ mostOperands) && decide (meth.sig.returnType = rt) && !meth.locks && decide (parseMethodDescriptor y.desc = some meth.sig)) = true) : (Jvm.Cond.code y bytes mx rt).before a s = true := by
  simp only [Bool.and_eq_true, beq_iff_eq, Bool.not_eq_true', decide_eq_true_eq] at h5
  obtain ⟨⟨⟨⟨⟨g1, g2⟩, g3⟩, g4⟩, g5⟩, g6⟩ := h5
  simp [Cond.before, Cond.holds, Cond.value, h1, h2, h3, h4, g1, g2, g3, g4, g5, g6]
def isCode : Jvm.Cond → Bool
  | .code _ _ _ _ => true
  | _ => false
theorem all_split {L : List Jvm.Cond} {P : Jvm.Cond → Bool} (h1 : L.all (fun c => isCode c || P c) = true) (h2 : ∀ c ∈ L.filter isCode, P c = true) : L.all P = true := by
  refine List.all_eq_true.mpr fun c hc => ?_
  have h := List.all_eq_true.mp h1 c hc
  rcases Bool.eq_false_or_eq_true (isCode c) with hi | hi
  · exact h2 c (List.mem_filter.mpr ⟨hc, hi⟩)
  · simpa [hi] using h
set_option maxRecDepth 65536 in
theorem w_c0 : (Jvm.Cond.code x code maxLocals ret).before args0 about1 = true := code_word (m := ⟨1, 5⟩) (meth := k1m5) (c := k1c5) (by decide +kernel) rfl rfl rfl (by decide +kernel)
set_option maxRecDepth 65536 in
theorem w_c1 : (Jvm.Cond.code ({ cls := "com/example/criba/criba/model/MinhashAccumulator", name := "<init>", desc := "()V" } : Jvm.MethodName) prog_27_method_1_code (1 : Nat) (Option.none : Option Jvm.ClassFile.FieldType)).before args0 about1 = true := code_word (m := ⟨2, 0⟩) (meth := k2m0) (c := k2c0) (by decide +kernel) rfl rfl rfl (by decide +kernel)
set_option maxRecDepth 65536 in
theorem w_c2 : (Jvm.Cond.code ({ cls := "java/lang/Object", name := "<init>", desc := "()V" } : Jvm.MethodName) object_method_1_code (1 : Nat) (Option.none : Option Jvm.ClassFile.FieldType)).before args0 about1 = true := code_word (m := ⟨0, 0⟩) (meth := k0m0) (c := k0c0) (by decide +kernel) rfl rfl rfl (by decide +kernel)
set_option maxRecDepth 65536 in
theorem w_c3 : (Jvm.Cond.code ({ cls := "java/util/Arrays", name := "fill", desc := "([JJ)V" } : Jvm.MethodName) jdk_65_method_101_code (5 : Nat) (Option.none : Option Jvm.ClassFile.FieldType)).before args0 about1 = true := code_word (m := ⟨3, 1⟩) (meth := k3m1) (c := k3c1) (by decide +kernel) rfl rfl rfl (by decide +kernel)
set_option maxRecDepth 65536 in
theorem w_c4 : (Jvm.Cond.code ({ cls := "com/example/criba/criba/model/MinhashAccumulator", name := "add", desc := "(J)V" } : Jvm.MethodName) prog_27_method_2_code (8 : Nat) (Option.none : Option Jvm.ClassFile.FieldType)).before args0 about1 = true := code_word (m := ⟨2, 1⟩) (meth := k2m1) (c := k2c1) (by decide +kernel) rfl rfl rfl (by decide +kernel)
set_option maxRecDepth 65536 in
theorem w_c5 : (Jvm.Cond.code ({ cls := "com/example/criba/criba/model/MinhashAccumulator", name := "mix", desc := "(J)J" } : Jvm.MethodName) prog_27_method_4_code (4 : Nat) (Option.some Jvm.ClassFile.FieldType.long)).before args0 about1 = true := code_word (m := ⟨2, 3⟩) (meth := k2m3) (c := k2c3) (by decide +kernel) rfl rfl rfl (by decide +kernel)
set_option maxRecDepth 65536 in
theorem w_c6 : (Jvm.Cond.code ({ cls := "java/lang/Long", name := "compareUnsigned", desc := "(JJ)I" } : Jvm.MethodName) jdk_35_method_43_code (4 : Nat) (Option.some Jvm.ClassFile.FieldType.int)).before args0 about1 = true := code_word (m := ⟨9, 1⟩) (meth := k9m1) (c := k9c1) (by decide +kernel) rfl rfl rfl (by decide +kernel)
set_option maxRecDepth 65536 in
theorem w_c7 : (Jvm.Cond.code ({ cls := "java/lang/Long", name := "compare", desc := "(JJ)I" } : Jvm.MethodName) jdk_35_method_42_code (4 : Nat) (Option.some Jvm.ClassFile.FieldType.int)).before args0 about1 = true := code_word (m := ⟨9, 0⟩) (meth := k9m0) (c := k9c0) (by decide +kernel) rfl rfl rfl (by decide +kernel)
set_option maxRecDepth 65536 in
theorem w_c8 : (Jvm.Cond.code ({ cls := "com/example/criba/criba/model/MinhashAccumulator", name := "fingerprint", desc := "()J" } : Jvm.MethodName) prog_27_method_3_code (4 : Nat) (Option.some Jvm.ClassFile.FieldType.long)).before args0 about1 = true := code_word (m := ⟨2, 2⟩) (meth := k2m2) (c := k2c2) (by decide +kernel) rfl rfl rfl (by decide +kernel)
set_option maxRecDepth 65536 in
theorem w_c9 : (Jvm.Cond.code ({ cls := "com/example/criba/criba/model/MinhashAccumulatorFingerprintPinLaw", name := "minimum", desc := "(JJJII)J" } : Jvm.MethodName) method_5_code (10 : Nat) (Option.some Jvm.ClassFile.FieldType.long)).before args0 about1 = true := code_word (m := ⟨1, 4⟩) (meth := k1m4) (c := k1c4) (by decide +kernel) rfl rfl rfl (by decide +kernel)
set_option maxRecDepth 65536 in
theorem w_c10 : (Jvm.Cond.code ({ cls := "com/example/criba/criba/model/MinhashAccumulatorFingerprintPinLaw", name := "value", desc := "(JI)J" } : Jvm.MethodName) method_3_code (3 : Nat) (Option.some Jvm.ClassFile.FieldType.long)).before args0 about1 = true := code_word (m := ⟨1, 2⟩) (meth := k1m2) (c := k1c2) (by decide +kernel) rfl rfl rfl (by decide +kernel)
set_option maxRecDepth 65536 in
theorem w_c11 : (Jvm.Cond.code ({ cls := "com/example/criba/criba/model/MinhashAccumulatorFingerprintPinLaw", name := "mix", desc := "(J)J" } : Jvm.MethodName) method_2_code (4 : Nat) (Option.some Jvm.ClassFile.FieldType.long)).before args0 about1 = true := code_word (m := ⟨1, 1⟩) (meth := k1m1) (c := k1c1) (by decide +kernel) rfl rfl rfl (by decide +kernel)
set_option maxRecDepth 65536 in
theorem w_c12 : (Jvm.Cond.code ({ cls := "com/example/criba/criba/model/MinhashAccumulatorFingerprintPinLaw", name := "umin", desc := "(JJ)J" } : Jvm.MethodName) method_4_code (4 : Nat) (Option.some Jvm.ClassFile.FieldType.long)).before args0 about1 = true := code_word (m := ⟨1, 3⟩) (meth := k1m3) (c := k1c3) (by decide +kernel) rfl rfl rfl (by decide +kernel)
def codes1 : List Jvm.Cond := [Jvm.Cond.code x code maxLocals ret, Jvm.Cond.code ({ cls := "com/example/criba/criba/model/MinhashAccumulator", name := "<init>", desc := "()V" } : Jvm.MethodName) prog_27_method_1_code (1 : Nat) (Option.none : Option Jvm.ClassFile.FieldType), Jvm.Cond.code ({ cls := "java/lang/Object", name := "<init>", desc := "()V" } : Jvm.MethodName) object_method_1_code (1 : Nat) (Option.none : Option Jvm.ClassFile.FieldType), Jvm.Cond.code ({ cls := "java/util/Arrays", name := "fill", desc := "([JJ)V" } : Jvm.MethodName) jdk_65_method_101_code (5 : Nat) (Option.none : Option Jvm.ClassFile.FieldType), Jvm.Cond.code ({ cls := "com/example/criba/criba/model/MinhashAccumulator", name := "add", desc := "(J)V" } : Jvm.MethodName) prog_27_method_2_code (8 : Nat) (Option.none : Option Jvm.ClassFile.FieldType), Jvm.Cond.code ({ cls := "com/example/criba/criba/model/MinhashAccumulator", name := "mix", desc := "(J)J" } : Jvm.MethodName) prog_27_method_4_code (4 : Nat) (Option.some Jvm.ClassFile.FieldType.long), Jvm.Cond.code ({ cls := "java/lang/Long", name := "compareUnsigned", desc := "(JJ)I" } : Jvm.MethodName) jdk_35_method_43_code (4 : Nat) (Option.some Jvm.ClassFile.FieldType.int), Jvm.Cond.code ({ cls := "java/lang/Long", name := "compare", desc := "(JJ)I" } : Jvm.MethodName) jdk_35_method_42_code (4 : Nat) (Option.some Jvm.ClassFile.FieldType.int), Jvm.Cond.code ({ cls := "com/example/criba/criba/model/MinhashAccumulator", name := "fingerprint", desc := "()J" } : Jvm.MethodName) prog_27_method_3_code (4 : Nat) (Option.some Jvm.ClassFile.FieldType.long), Jvm.Cond.code ({ cls := "com/example/criba/criba/model/MinhashAccumulatorFingerprintPinLaw", name := "minimum", desc := "(JJJII)J" } : Jvm.MethodName) method_5_code (10 : Nat) (Option.some Jvm.ClassFile.FieldType.long), Jvm.Cond.code ({ cls := "com/example/criba/criba/model/MinhashAccumulatorFingerprintPinLaw", name := "value", desc := "(JI)J" } : Jvm.MethodName) method_3_code (3 : Nat) (Option.some Jvm.ClassFile.FieldType.long), Jvm.Cond.code ({ cls := "com/example/criba/criba/model/MinhashAccumulatorFingerprintPinLaw", name := "mix", desc := "(J)J" } : Jvm.MethodName) method_2_code (4 : Nat) (Option.some Jvm.ClassFile.FieldType.long), Jvm.Cond.code ({ cls := "com/example/criba/criba/model/MinhashAccumulatorFingerprintPinLaw", name := "umin", desc := "(JJ)J" } : Jvm.MethodName) method_4_code (4 : Nat) (Option.some Jvm.ClassFile.FieldType.long)]
set_option maxRecDepth 65536 in
theorem codes_eq : words1.filter isCode = codes1 := rfl
theorem w_codes : ∀ c ∈ words1.filter isCode, c.before args0 about1 = true := by
  rw [codes_eq]
  intro c hc
  simp only [codes1, List.mem_cons, List.not_mem_nil, or_false] at hc
  rcases hc with rfl | rfl | rfl | rfl | rfl | rfl | rfl | rfl | rfl | rfl | rfl | rfl | rfl
  · exact w_c0
  · exact w_c1
  · exact w_c2
  · exact w_c3
  · exact w_c4
  · exact w_c5
  · exact w_c6
  · exact w_c7
  · exact w_c8
  · exact w_c9
  · exact w_c10
  · exact w_c11
  · exact w_c12
set_option maxRecDepth 65536 in
theorem w_t1 : (words1.take 24).all (fun c => isCode c || c.before args0 about1) = true := by decide +kernel
set_option maxRecDepth 65536 in
theorem w_t2 : ((words1.drop 24).take 24).all (fun c => isCode c || c.before args0 about1) = true := by decide +kernel
set_option maxRecDepth 65536 in
theorem w_t3 : ((words1.drop 24).drop 24).all (fun c => isCode c || c.before args0 about1) = true := by decide +kernel
theorem w_tables : (allAtoms (Jvm.Cond.code x code maxLocals ret :: tables_1)).before args0 about1 = true := by
  rw [allAtoms_all]
  show words1.all (fun c => c.before args0 about1) = true
  refine all_split ?_ w_codes
  rw [← List.take_append_drop 24 words1, List.all_append, w_t1, ← List.take_append_drop 24 (words1.drop 24), List.all_append, w_t2, w_t3]
  rfl
set_option maxRecDepth 65536 in
theorem w_case : (Jvm.Cond.and given_1 narrow_1).before args0 about1 = true := by decide +kernel
theorem w_applies : (headSpec (Jvm.Cond.code x code maxLocals ret :: tables_1) room_1).applies x e0.platform about1 = true :=
  (Spec.applies_iff w_frames).mpr ⟨w_running, w_runnable, w_alone, w_named, w_hears, w_ripe, w_room, w_tables⟩
theorem atStart : AtStart classFile x code maxLocals ret World_1 tables_1 room_1 Calls_1 rest_1 Pre_1 launch0 p0 e0 about1 theMethod args0 below0 :=
  ⟨lists_1, trivial, launch0.admits_env _ _ _, launch0.least_env, fairChoices_fair.cas, fairChoices_fair.clock, w_frames, w_args, w_heap, w_applies, trivial, trivial, w_case⟩
end start1
theorem witness_1 : WitnessClaimed_1 := ⟨start1.p0, start1.e0, start1.about1, start1.theMethod, start1.args0, start1.below0, start1.atStart⟩
end Jvm.Pilot.@@N@@
