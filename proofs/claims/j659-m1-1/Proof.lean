import JvmDerived
import JvmDerived.Pilot.@@N@@Statement
import JvmDerived.Pilot.@@N@@Code
set_option linter.unusedVariables false
set_option linter.unusedSimpArgs false
namespace Jvm.RoadKit
open Sem ClassFile Op Lib Jvm.Stand Jvm.Free Jvm.LawKit
section Own
variable {p : Program} {l : Launch} {e : Env} {R : Room} {s : State} {m : MethodId} {args : Array Value} {below : List Frame} {meth : Method} {c : Code} {T : State} {locs : List Loc} {cells slots : Nat}
theorem retI (X : Stand p l e R s m args below meth c T locs cells slots) (hx : p.tables.exec = Jvm.exec) {pc : Nat} {Ls : Array Slot} {z : Int32} {rest : List Value} (hret : meth.sig.returnType = some .int) (hd : decode c.code pc = .ok (.ireturn, 1)) {fs : List Frame}
    (hl : ∀ (f : JFrame) (acts : List Action), f.method = m → f.locked = none → f.entered = [] → (doReturn e (T.setTop f) acts (some (.int z))).1 = T.setFrames fs) : Steps p.tables e below (T.setTop (mkF m pc Ls (.int z :: rest))) (T.setFrames fs) :=
  retOut X hx hret rfl (Or.inl ⟨rfl, Or.inl rfl, _, rfl⟩) hd hl
theorem retJ (X : Stand p l e R s m args below meth c T locs cells slots) (hx : p.tables.exec = Jvm.exec) {pc : Nat} {Ls : Array Slot} {z : Int64} {rest : List Value} (hret : meth.sig.returnType = some .long) (hd : decode c.code pc = .ok (.lreturn, 1)) {fs : List Frame}
    (hl : ∀ (f : JFrame) (acts : List Action), f.method = m → f.locked = none → f.entered = [] → (doReturn e (T.setTop f) acts (some (.long z))).1 = T.setFrames fs) : Steps p.tables e below (T.setTop (mkF m pc Ls (.long z :: rest))) (T.setFrames fs) :=
  retOut X hx hret rfl (Or.inr (Or.inl ⟨rfl, rfl, _, rfl⟩)) hd hl
theorem retA (X : Stand p l e R s m args below meth c T locs cells slots) (hx : p.tables.exec = Jvm.exec) {pc : Nat} {Ls : Array Slot} {t : FieldType} {z : Value} {rest : List Value} (hret : meth.sig.returnType = some t) (hn : narrow t z = z) (ht : t.isReference = true) (hz : z.isRef = true) (hd : decode c.code pc = .ok (.areturn, 1)) {fs : List Frame}
    (hl : ∀ (f : JFrame) (acts : List Action), f.method = m → f.locked = none → f.entered = [] → (doReturn e (T.setTop f) acts (some z)).1 = T.setFrames fs) : Steps p.tables e below (T.setTop (mkF m pc Ls (z :: rest))) (T.setFrames fs) :=
  retOut X hx hret hn (Or.inr (Or.inr (Or.inr (Or.inr ⟨rfl, ht, hz⟩)))) hd hl
theorem retZ (X : Stand p l e R s m args below meth c T locs cells slots) (hx : p.tables.exec = Jvm.exec) {pc : Nat} {Ls : Array Slot} {z r : Int32} {t : FieldType} {rest : List Value} (hret : meth.sig.returnType = some t) (ht : t = .boolean ∨ t = .byte ∨ t = .char ∨ t = .short)
    (hd : decode c.code pc = .ok (.ireturn, 1)) (hn : nar t z = r) {fs : List Frame} (hl : ∀ (f : JFrame) (acts : List Action), f.method = m → f.locked = none → f.entered = [] → (doReturn e (T.setTop f) acts (some (.int r))).1 = T.setFrames fs) :
    Steps p.tables e below (T.setTop (mkF m pc Ls (.int z :: rest))) (T.setFrames fs) := retN X hx hret ht hd (by rw [hn]; exact hl)
theorem ownUp (X : Stand p l e R s m args below meth c T locs cells slots) {cells' slots' : Nat} (h1 : cells ≤ cells') (h2 : slots ≤ slots') : Stand p l e R s m args below meth c T locs cells' slots' :=
  ⟨X.admits, X.cas, X.clock, X.frames, X.room, X.hears, X.method, X.code, X.here, X.tail, X.warmed, X.limits, X.bytes, X.same.mono h1 h2⟩
theorem own_hide (X : Stand p l e R s m args below meth c T locs cells slots) {n0 : Nat} (N : Fr n0 locs) : ∃ L, Stand p l e R s m args below meth c T L cells slots ∧ Fr n0 L := ⟨_, X, N⟩
end Own
def Go (tb : Tables) (e : Env) (below : List Frame) (P : Outcome → State → Prop) (T : State) (f : JFrame) : Prop :=
  ∃ s₂ o, Steps tb e below (T.setTop f) s₂ ∧ s₂.status = .running ∧ Ended s₂ below o ∧ P o s₂
theorem Go.via {tb : Tables} {e : Env} {below : List Frame} {P : Outcome → State → Prop} {T T' : State} {f f' : JFrame} (st : ∀ t, Steps tb e below (T'.setTop f') t → Steps tb e below (T.setTop f) t) (k : Go tb e below P T' f') : Go tb e below P T f := by
  obtain ⟨s₂, o, h, r⟩ := k; exact ⟨s₂, o, st _ h, r⟩
theorem Go.hop {tb : Tables} {e : Env} {below : List Frame} {P : Outcome → State → Prop} {T T' : State} {f f' : JFrame} (st : Steps tb e below (T.setTop f) (T'.setTop f')) (k : Go tb e below P T' f') : Go tb e below P T f := by
  obtain ⟨s₂, o, h, r⟩ := k; exact ⟨s₂, o, st.trans h, r⟩
theorem own_nin0 {a : Addr} : a ∉ ([] : List Addr) := fun q => nomatch q
theorem own_ninC {a b : Addr} {l : List Addr} (h : a ≠ b) (h' : a ∉ l) : a ∉ b :: l := fun q => (List.mem_cons.mp q).elim h h'
theorem own_nb {x : Int32} (h : x = 0 ∨ x = 1) : nar .boolean x = x := by rcases h with rfl | rfl <;> rfl
theorem own_nnb {x : Int32} (h : x = 0 ∨ x = 1) : narrow .boolean (.int x) = .int x := by rcases h with rfl | rfl <;> rfl
theorem own_fb {x : Int32} (h : x = 0 ∨ x = 1) : fits .boolean (.int x) = true := by rcases h with rfl | rfl <;> rfl
theorem own_all0 {P : Addr → Prop} : ∀ x ∈ ([] : List Addr), P x := fun _ q => nomatch q
theorem own_allC {P : Addr → Prop} {a : Addr} {l : List Addr} (h : P a) (h' : ∀ x ∈ l, P x) : ∀ x ∈ a :: l, P x := fun x q => (List.mem_cons.mp q).elim (fun e => e ▸ h) (h' x)
theorem own_m0 {k : Int32} : ∀ p ∈ ([] : List (Int × Int)), p.1 ≠ k.toInt := fun _ q => nomatch q
theorem own_mC {k x : Int32} {a o : Int} {l : List (Int × Int)} (h : ¬ k = x) (hx : x.toInt = a) (t : ∀ p ∈ l, p.1 ≠ k.toInt) : ∀ p ∈ (a, o) :: l, p.1 ≠ k.toInt := fun p q => (List.mem_cons.mp q).elim (fun e r => h (Int32.toInt_inj.mp (by rw [hx, ← r, e]))) (t p)
theorem own_cat {v : Value} (h : v.isRef = true) : v.category = 1 := by rcases ref_cases h with rfl | ⟨a, rfl⟩ <;> rfl
theorem own_nat {n : Nat} (h : n < 2147483648) : n.toInt32.toInt = n := len_toInt h
theorem own_ltN {i n : Nat} (hi : i < 2147483648) (hn : n < 2147483648) : i.toInt32 < n.toInt32 ↔ i < n := by
  rw [Int32.lt_iff_toInt_lt, own_nat hi, own_nat hn]; omega
theorem own_succ (i : Nat) : i.toInt32 + 1 = (i + 1).toInt32 := (Int32.ofNat_add i 1).symm
theorem own_nneg {i : Nat} (hi : i < 2147483648) : ¬ i.toInt32 < 0 := by
  rw [Int32.lt_iff_toInt_lt, own_nat hi]; simp
theorem own_clamp {i : Nat} (hi : i < 2147483648) : i.toInt32.toNatClampNeg = i := by
  show i.toInt32.toInt.toNat = i
  rw [own_nat hi]; rfl
end Jvm.RoadKit
namespace Jvm.Pilot.@@N@@
open Jvm Jvm.ClassFile Sem Op Lib Jvm.Free Jvm.Stand Jvm.LawKit Jvm.RoadKit Bundle Jvm.Pilot.@@N@@.Jvm.D
def own_bv (fl k : Int32) : Int32 := if ((fl.toUInt32 >>> (k &&& 31).toUInt32).toInt32 &&& (1 : Int32)) = (0 : Int32) then (0 : Int32) else (1 : Int32)
def own_one (fl k n : Int32) : Int32 := if k < n then (if own_bv fl k = (0 : Int32) then (0 : Int32) else (1 : Int32)) else (0 : Int32)
def own_sq (xs : List Int32) : Nat → Int32
  | 0 => 0
  | i + 1 => own_sq xs i + (if xs.getD i 0 = (0 : Int32) then (0 : Int32) else (1 : Int32))
theorem own_getD (xs : List Int32) (i : Nat) : (xs.map Value.int).getD i (.int 0) = .int (xs.getD i 0) := by
  induction xs generalizing i with
  | nil => rfl
  | cons x t ih => cases i with
    | zero => rfl
    | succ i => exact ih i
theorem own_bv01 (fl k : Int32) : own_bv fl k = 0 ∨ own_bv fl k = 1 := by unfold own_bv; split <;> first | exact Or.inl rfl | exact Or.inr rfl
theorem own_rem9 (x : Int32) : ∃ m : Nat, m ≤ 8 ∧ ((x &&& (2147483647 : Int32)) % (9 : Int32)) = m.toInt32 := by
  have h1 := (c_and x 2147483647 (by decide)).1
  have h2 := (c_irem (x &&& (2147483647 : Int32)) 9 9 rfl).1 h1
  refine ⟨((x &&& (2147483647 : Int32)).toInt % 9).toNat, by omega, ?_⟩
  rw [← Int32.toInt_inj, own_nat (by omega), h2]
  omega
theorem own_sqb (xs : List Int32) : ∀ i, i ≤ 8 → 0 ≤ (own_sq xs i).toInt ∧ (own_sq xs i).toInt ≤ i
  | 0, _ => by
    show (0 : Int) ≤ (0 : Int32).toInt ∧ (0 : Int32).toInt ≤ ((0 : Nat) : Int)
    decide
  | i + 1, h => by
    have ih := own_sqb xs i (by omega)
    have e : own_sq xs (i + 1) = own_sq xs i + (if xs.getD i 0 = (0 : Int32) then (0 : Int32) else (1 : Int32)) := rfl
    have t : (if xs.getD i 0 = (0 : Int32) then (0 : Int32) else (1 : Int32)).toInt = 0 ∨ (if xs.getD i 0 = (0 : Int32) then (0 : Int32) else (1 : Int32)).toInt = 1 := by split <;> first | exact Or.inl rfl | exact Or.inr rfl
    rw [e]
    generalize (if xs.getD i 0 = (0 : Int32) then (0 : Int32) else (1 : Int32)) = z at *
    have a := c_iadd (own_sq xs i) z
    have r := rng32 (own_sq xs i + z)
    omega
theorem own_t {x fl k n : Int32} (h : x = if k < n then nar .boolean (own_bv fl k) else (0 : Int32)) : (if x = (0 : Int32) then (0 : Int32) else (1 : Int32)) = own_one fl k n := by
  subst h; unfold own_one
  by_cases c : k < n
  · rw [if_pos c, if_pos c, own_nb (own_bv01 fl k)]
  · rw [if_neg c, if_neg c, if_pos rfl]
theorem own_z {fl k n : Int32} (h : ¬ k < n) : own_one fl k n = 0 := by unfold own_one; rw [if_neg h]
theorem own_law (fl nn x0 x1 x2 x3 x4 x5 x6 x7 : Int32) (n : Nat) (hn : n ≤ 8) (hnn : nn = n.toInt32)
    (h0 : x0 = if (0 : Int32) < nn then nar .boolean (own_bv fl 0) else (0 : Int32)) (h1 : x1 = if (1 : Int32) < nn then nar .boolean (own_bv fl 1) else (0 : Int32)) (h2 : x2 = if (2 : Int32) < nn then nar .boolean (own_bv fl 2) else (0 : Int32)) (h3 : x3 = if (3 : Int32) < nn then nar .boolean (own_bv fl 3) else (0 : Int32)) (h4 : x4 = if (4 : Int32) < nn then nar .boolean (own_bv fl 4) else (0 : Int32)) (h5 : x5 = if (5 : Int32) < nn then nar .boolean (own_bv fl 5) else (0 : Int32)) (h6 : x6 = if (6 : Int32) < nn then nar .boolean (own_bv fl 6) else (0 : Int32)) (h7 : x7 = if (7 : Int32) < nn then nar .boolean (own_bv fl 7) else (0 : Int32)) :
    own_sq [x0, x1, x2, x3, x4, x5, x6, x7] n = ((((((own_one fl 0 nn + own_one fl 1 nn) + own_one fl 2 nn) + own_one fl 3 nn) + own_one fl 4 nn) + own_one fl 5 nn) + own_one fl 6 nn) + own_one fl 7 nn := by
  have t0 := own_t h0
  have t1 := own_t h1
  have t2 := own_t h2
  have t3 := own_t h3
  have t4 := own_t h4
  have t5 := own_t h5
  have t6 := own_t h6
  have t7 := own_t h7
  have hc : n = 0 ∨ n = 1 ∨ n = 2 ∨ n = 3 ∨ n = 4 ∨ n = 5 ∨ n = 6 ∨ n = 7 ∨ n = 8 := by omega
  rcases hc with rfl | rfl | rfl | rfl | rfl | rfl | rfl | rfl | rfl <;> subst hnn
  · rw [own_z (fl := fl) (k := 0) (n := Nat.toInt32 0) (by decide), own_z (fl := fl) (k := 1) (n := Nat.toInt32 0) (by decide), own_z (fl := fl) (k := 2) (n := Nat.toInt32 0) (by decide), own_z (fl := fl) (k := 3) (n := Nat.toInt32 0) (by decide), own_z (fl := fl) (k := 4) (n := Nat.toInt32 0) (by decide), own_z (fl := fl) (k := 5) (n := Nat.toInt32 0) (by decide), own_z (fl := fl) (k := 6) (n := Nat.toInt32 0) (by decide), own_z (fl := fl) (k := 7) (n := Nat.toInt32 0) (by decide)]
    show (0 : Int32) = _
    rfl
  · rw [own_z (fl := fl) (k := 1) (n := Nat.toInt32 1) (by decide), own_z (fl := fl) (k := 2) (n := Nat.toInt32 1) (by decide), own_z (fl := fl) (k := 3) (n := Nat.toInt32 1) (by decide), own_z (fl := fl) (k := 4) (n := Nat.toInt32 1) (by decide), own_z (fl := fl) (k := 5) (n := Nat.toInt32 1) (by decide), own_z (fl := fl) (k := 6) (n := Nat.toInt32 1) (by decide), own_z (fl := fl) (k := 7) (n := Nat.toInt32 1) (by decide)]
    show ((0 : Int32) + (if x0 = (0 : Int32) then (0 : Int32) else (1 : Int32))) = _
    rw [t0, Int32.zero_add]; simp only [Int32.add_zero]
  · rw [own_z (fl := fl) (k := 2) (n := Nat.toInt32 2) (by decide), own_z (fl := fl) (k := 3) (n := Nat.toInt32 2) (by decide), own_z (fl := fl) (k := 4) (n := Nat.toInt32 2) (by decide), own_z (fl := fl) (k := 5) (n := Nat.toInt32 2) (by decide), own_z (fl := fl) (k := 6) (n := Nat.toInt32 2) (by decide), own_z (fl := fl) (k := 7) (n := Nat.toInt32 2) (by decide)]
    show (((0 : Int32) + (if x0 = (0 : Int32) then (0 : Int32) else (1 : Int32))) + (if x1 = (0 : Int32) then (0 : Int32) else (1 : Int32))) = _
    rw [t0, t1, Int32.zero_add]; simp only [Int32.add_zero]
  · rw [own_z (fl := fl) (k := 3) (n := Nat.toInt32 3) (by decide), own_z (fl := fl) (k := 4) (n := Nat.toInt32 3) (by decide), own_z (fl := fl) (k := 5) (n := Nat.toInt32 3) (by decide), own_z (fl := fl) (k := 6) (n := Nat.toInt32 3) (by decide), own_z (fl := fl) (k := 7) (n := Nat.toInt32 3) (by decide)]
    show ((((0 : Int32) + (if x0 = (0 : Int32) then (0 : Int32) else (1 : Int32))) + (if x1 = (0 : Int32) then (0 : Int32) else (1 : Int32))) + (if x2 = (0 : Int32) then (0 : Int32) else (1 : Int32))) = _
    rw [t0, t1, t2, Int32.zero_add]; simp only [Int32.add_zero]
  · rw [own_z (fl := fl) (k := 4) (n := Nat.toInt32 4) (by decide), own_z (fl := fl) (k := 5) (n := Nat.toInt32 4) (by decide), own_z (fl := fl) (k := 6) (n := Nat.toInt32 4) (by decide), own_z (fl := fl) (k := 7) (n := Nat.toInt32 4) (by decide)]
    show (((((0 : Int32) + (if x0 = (0 : Int32) then (0 : Int32) else (1 : Int32))) + (if x1 = (0 : Int32) then (0 : Int32) else (1 : Int32))) + (if x2 = (0 : Int32) then (0 : Int32) else (1 : Int32))) + (if x3 = (0 : Int32) then (0 : Int32) else (1 : Int32))) = _
    rw [t0, t1, t2, t3, Int32.zero_add]; simp only [Int32.add_zero]
  · rw [own_z (fl := fl) (k := 5) (n := Nat.toInt32 5) (by decide), own_z (fl := fl) (k := 6) (n := Nat.toInt32 5) (by decide), own_z (fl := fl) (k := 7) (n := Nat.toInt32 5) (by decide)]
    show ((((((0 : Int32) + (if x0 = (0 : Int32) then (0 : Int32) else (1 : Int32))) + (if x1 = (0 : Int32) then (0 : Int32) else (1 : Int32))) + (if x2 = (0 : Int32) then (0 : Int32) else (1 : Int32))) + (if x3 = (0 : Int32) then (0 : Int32) else (1 : Int32))) + (if x4 = (0 : Int32) then (0 : Int32) else (1 : Int32))) = _
    rw [t0, t1, t2, t3, t4, Int32.zero_add]; simp only [Int32.add_zero]
  · rw [own_z (fl := fl) (k := 6) (n := Nat.toInt32 6) (by decide), own_z (fl := fl) (k := 7) (n := Nat.toInt32 6) (by decide)]
    show (((((((0 : Int32) + (if x0 = (0 : Int32) then (0 : Int32) else (1 : Int32))) + (if x1 = (0 : Int32) then (0 : Int32) else (1 : Int32))) + (if x2 = (0 : Int32) then (0 : Int32) else (1 : Int32))) + (if x3 = (0 : Int32) then (0 : Int32) else (1 : Int32))) + (if x4 = (0 : Int32) then (0 : Int32) else (1 : Int32))) + (if x5 = (0 : Int32) then (0 : Int32) else (1 : Int32))) = _
    rw [t0, t1, t2, t3, t4, t5, Int32.zero_add]; simp only [Int32.add_zero]
  · rw [own_z (fl := fl) (k := 7) (n := Nat.toInt32 7) (by decide)]
    show ((((((((0 : Int32) + (if x0 = (0 : Int32) then (0 : Int32) else (1 : Int32))) + (if x1 = (0 : Int32) then (0 : Int32) else (1 : Int32))) + (if x2 = (0 : Int32) then (0 : Int32) else (1 : Int32))) + (if x3 = (0 : Int32) then (0 : Int32) else (1 : Int32))) + (if x4 = (0 : Int32) then (0 : Int32) else (1 : Int32))) + (if x5 = (0 : Int32) then (0 : Int32) else (1 : Int32))) + (if x6 = (0 : Int32) then (0 : Int32) else (1 : Int32))) = _
    rw [t0, t1, t2, t3, t4, t5, t6, Int32.zero_add]; simp only [Int32.add_zero]
  · rw [← t7]
    show (((((((((0 : Int32) + (if x0 = (0 : Int32) then (0 : Int32) else (1 : Int32))) + (if x1 = (0 : Int32) then (0 : Int32) else (1 : Int32))) + (if x2 = (0 : Int32) then (0 : Int32) else (1 : Int32))) + (if x3 = (0 : Int32) then (0 : Int32) else (1 : Int32))) + (if x4 = (0 : Int32) then (0 : Int32) else (1 : Int32))) + (if x5 = (0 : Int32) then (0 : Int32) else (1 : Int32))) + (if x6 = (0 : Int32) then (0 : Int32) else (1 : Int32))) + (if x7 = (0 : Int32) then (0 : Int32) else (1 : Int32))) = _
    rw [t0, t1, t2, t3, t4, t5, t6, t7, Int32.zero_add]
theorem own_pn0 : plainName "com/example/numeric_planner/numericplanner/diagram/RowsSquareCountPinLaw" = true := by first | (simp [plainName, overriddenIn]; done) | decide +kernel
theorem d11_0 : decode method_2_code 0 = .ok (.iload_n 0, 1) := by decide +kernel
theorem d11_1 : decode method_2_code 1 = .ok (.iload_n 1, 1) := by decide +kernel
theorem d11_2 : decode method_2_code 2 = .ok (.iushr, 1) := by decide +kernel
theorem d11_3 : decode method_2_code 3 = .ok (.iconst 1, 1) := by decide +kernel
theorem d11_4 : decode method_2_code 4 = .ok (.iand, 1) := by decide +kernel
theorem d11_5 : decode method_2_code 5 = .ok (.ifCond .eq 7, 3) := by decide +kernel
theorem d11_8 : decode method_2_code 8 = .ok (.iconst 1, 1) := by decide +kernel
theorem d11_9 : decode method_2_code 9 = .ok (.goto 4, 3) := by decide +kernel
theorem d11_12 : decode method_2_code 12 = .ok (.iconst 0, 1) := by decide +kernel
theorem d11_13 : decode method_2_code 13 = .ok (.ireturn, 1) := by decide +kernel
theorem ef_11 (m : MethodId) (x0 : Int32) (x1 : Int32) : entryFrame m #[(.int x0), (.int x1)] 2 = mkF m 0 #[.val (.int x0), .val (.int x1)] [] := by first | (simp [entryFrame, mkF, argsToLocals, Value.category]; done) | rfl
def Q11 (Z : State) (pf : Int32) (pk : Int32) (h0 : Heap) (n0 : Nat) (v : Option Value) (h : Heap) (L : List Loc) : Prop := v = some (.int (own_bv pf pk)) ∧ Fr n0 L ∧ h = h0
set_option maxRecDepth 65536 in
set_option maxHeartbeats 40000000 in
theorem rm11 (l : Launch) (Z : State) (a0 : Array Value) (hw : ∀ d ∈ tables_1, d.before a0 Z = true) (ws : List Jvm.Cond) (pf : Int32) (pk : Int32) (h0 : Heap) (n0 : Nat) (Z0 : n0 ≤ h0.size) :
    MetFree l (⟨"com/example/numeric_planner/numericplanner/diagram/RowsSquareCountPinLaw", "bit", "(II)Z"⟩ : MethodName) (head1 (Jvm.Cond.code (⟨"com/example/numeric_planner/numericplanner/diagram/RowsSquareCountPinLaw", "bit", "(II)Z"⟩ : MethodName) method_2_code 2 (some .boolean) :: ws) ({ frames := 0, cells := 0, slots := 0, locals := 0 } : Room)) (fun a U => a = #[(.int pf), (.int pk)] ∧ Z.Warmed39 U.vm ∧ U.heap = h0) (fun _ _ _ _ _ => True) (fun _ U o U' => ∃ v L, o = .returned v ∧ Q11 Z pf pk h0 n0 v U'.heap L ∧ FrameEnd U o U' L ({ frames := 0, cells := 0, slots := 0, locals := 0 } : Room).cells ({ frames := 0, cells := 0, slots := 0, locals := 0 } : Room).slots) := by
  refine MetFree.of_bodySF (plainFor_of_name own_pn0) hisR ?_
  intro p e s m args below meth c s₁ Bd hml0 hP hK
  obtain ⟨rfl, hZ, hh⟩ := hP
  have hx := Bd.exec
  have hby := Bd.bytes
  have hml : c.maxLocals = 2 := hml0
  have hown : s.vm.findClass "com/example/numeric_planner/numericplanner/diagram/RowsSquareCountPinLaw" = some m.cls := findClass_of_methodNamed Bd.named
  have hnm := (name_of_methodNamed Bd.named Bd.method).1
  have X0 : Stand p l e ({ frames := 0, cells := 0, slots := 0, locals := 0 } : Room) s m #[(.int pf), (.int pk)] below meth c s₁ [] 0 0 := Stand.of_body Bd
  have e0 : s₁.heap = h0 := by rw [← hh, Bd.state]; rfl
  have N0 := Fr.nil n0
  have K0 : Keep h0 h0 [] := Keep.refl _ _
  suffices GO : ∀ P : Outcome → State → Prop, (∀ o U', (∃ v L, o = .returned v ∧ Q11 Z pf pk h0 n0 v U'.heap L ∧ FrameEnd s o U' L ({ frames := 0, cells := 0, slots := 0, locals := 0 } : Room).cells ({ frames := 0, cells := 0, slots := 0, locals := 0 } : Room).slots) → P o U') → Go p.tables e below P s₁ (mkF m 0 #[.val (.int pf), .val (.int pk)] []) by
    obtain ⟨s2, o, st, r⟩ := GO _ (fun _ _ q => q)
    exact ⟨s2, o, castTop (ef_11 m pf pk) st, r⟩
  clear hh
  intro P hP
  show Go p.tables e below P s₁ (mkF m 0 #[.val (.int pf), .val (.int pk)] [])
  refine Go.via (fun t k => XS.iloadN X0.here hx rfl (hb hby d11_0) rfl k) ?_
  show Go p.tables e below P s₁ (mkF m 1 #[.val (.int pf), .val (.int pk)] [(.int pf)])
  refine Go.via (fun t k => XS.iloadN X0.here hx rfl (hb hby d11_1) rfl k) ?_
  show Go p.tables e below P s₁ (mkF m 2 #[.val (.int pf), .val (.int pk)] [(.int pk), (.int pf)])
  refine Go.via (fun t k => XS.iushr X0.here hx rfl (hb hby d11_2) rfl k) ?_
  show Go p.tables e below P s₁ (mkF m 3 #[.val (.int pf), .val (.int pk)] [(.int ((pf.toUInt32 >>> (pk &&& 31).toUInt32).toInt32))])
  refine Go.via (fun t k => XS.iconst X0.here hx rfl (hb hby d11_3) k) ?_
  show Go p.tables e below P s₁ (mkF m 4 #[.val (.int pf), .val (.int pk)] [(.int (1 : Int32)), (.int ((pf.toUInt32 >>> (pk &&& 31).toUInt32).toInt32))])
  refine Go.via (fun t k => XS.iand X0.here hx rfl (hb hby d11_4) rfl k) ?_
  show Go p.tables e below P s₁ (mkF m 5 #[.val (.int pf), .val (.int pk)] [(.int (((pf.toUInt32 >>> (pk &&& 31).toUInt32).toInt32) &&& (1 : Int32)))])
  have J2 : ∀ (T2 : State) (locs2 : List Loc) (v2_0 : Int32), Stand p l e ({ frames := 0, cells := 0, slots := 0, locals := 0 } : Room) s m #[(.int pf), (.int pk)] below meth c T2 locs2 0 0 → T2.heap = h0 → Fr n0 locs2 → v2_0 = (if (((pf.toUInt32 >>> (pk &&& 31).toUInt32).toInt32) &&& (1 : Int32)) = (0 : Int32) then (0 : Int32) else (1 : Int32)) → Go p.tables e below P T2 (mkF m 13 #[.val (.int pf), .val (.int pk)] [(.int v2_0)]) := by
    intro T2 locs2 v2_0 X2 e2 N2 hv2_0
    have hbv2_0 : v2_0 = 0 ∨ v2_0 = 1 := by (subst hv2_0; (repeat' split) <;> first | (left; rfl) | (right; rfl))
    show Go p.tables e below P T2 (mkF m 13 #[.val (.int pf), .val (.int pk)] [(.int v2_0)])
    obtain ⟨fs, hr, hrun, hended, hW, hsame⟩ := X2.leave (v := some (.int (own_bv pf pk))) (fun h => by rw [Bd.returns] at h; cases h)
    refine ⟨_, _, retZ X2 hx (t := .boolean) Bd.returns (by simp) (hb hby d11_13) ((own_nb hbv2_0).trans hv2_0) hr, hrun, hended, hP _ _ ⟨_, _, rfl, ?_, ⟨_, rfl⟩, hW, hsame.mono (by decide) (by decide)⟩⟩
    show Q11 Z pf pk h0 n0 _ T2.heap _
    rw [e2]
    exact ⟨rfl, N2, rfl⟩
  by_cases hc1 : (((pf.toUInt32 >>> (pk &&& 31).toUInt32).toInt32) &&& (1 : Int32)) = (0 : Int32)
  · refine Go.via (fun t k => XS.ifYes X0.here hx rfl (pc0 := 5) (pc' := 12) rfl (hb hby d11_5) rfl ((if0 _ _).trans (teq hc1).1) (by decide) (by decide) k) ?_
    show Go p.tables e below P s₁ (mkF m 12 #[.val (.int pf), .val (.int pk)] [])
    refine Go.via (fun t k => XS.iconst X0.here hx rfl (hb hby d11_12) k) ?_
    exact J2 s₁ _ (0 : Int32) X0 e0 N0 (if_pos hc1).symm
  · refine Go.via (fun t k => XS.ifNo X0.here hx rfl (hb hby d11_5) rfl ((if0 _ _).trans (feq hc1).1) k) ?_
    show Go p.tables e below P s₁ (mkF m 8 #[.val (.int pf), .val (.int pk)] [])
    refine Go.via (fun t k => XS.iconst X0.here hx rfl (hb hby d11_8) k) ?_
    show Go p.tables e below P s₁ (mkF m 9 #[.val (.int pf), .val (.int pk)] [(.int (1 : Int32))])
    refine Go.via (fun t k => XS.goto X0.here hx rfl (pc0 := 9) (pc' := 13) rfl (hb hby d11_9) (by decide) (by decide) k) ?_
    exact J2 s₁ _ (1 : Int32) X0 e0 N0 (if_neg hc1).symm
theorem own_pd0 : parseMethodDescriptor "(II)Z" = some ⟨[.int, .int], some .boolean⟩ := by decide +kernel
theorem d1_0 : decode method_3_code 0 = .ok (.iload_n 1, 1) := by decide +kernel
theorem d1_1 : decode method_3_code 1 = .ok (.iload_n 2, 1) := by decide +kernel
theorem d1_2 : decode method_3_code 2 = .ok (.if_icmp .ge 15, 3) := by decide +kernel
theorem d1_5 : decode method_3_code 5 = .ok (.iload_n 0, 1) := by decide +kernel
theorem d1_6 : decode method_3_code 6 = .ok (.iload_n 1, 1) := by decide +kernel
theorem d1_7 : decode method_3_code 7 = .ok (.invokestatic 7, 3) := by decide +kernel
theorem d1_10 : decode method_3_code 10 = .ok (.ifCond .eq 7, 3) := by decide +kernel
theorem d1_13 : decode method_3_code 13 = .ok (.iconst 1, 1) := by decide +kernel
theorem d1_14 : decode method_3_code 14 = .ok (.goto 4, 3) := by decide +kernel
theorem d1_17 : decode method_3_code 17 = .ok (.iconst 0, 1) := by decide +kernel
theorem d1_18 : decode method_3_code 18 = .ok (.ireturn, 1) := by decide +kernel
theorem ef_1 (m : MethodId) (x0 : Int32) (x1 : Int32) (x2 : Int32) : entryFrame m #[(.int x0), (.int x1), (.int x2)] 3 = mkF m 0 #[.val (.int x0), .val (.int x1), .val (.int x2)] [] := by first | (simp [entryFrame, mkF, argsToLocals, Value.category]; done) | rfl
def Q1 (Z : State) (pf : Int32) (pk : Int32) (pn : Int32) (h0 : Heap) (n0 : Nat) (v : Option Value) (h : Heap) (L : List Loc) : Prop := v = some (.int (own_one pf pk pn)) ∧ Fr n0 L ∧ h = h0
set_option maxRecDepth 65536 in
set_option maxHeartbeats 40000000 in
theorem rm1 (l : Launch) (Z : State) (a0 : Array Value) (hw : ∀ d ∈ tables_1, d.before a0 Z = true) (ws : List Jvm.Cond) (pf : Int32) (pk : Int32) (pn : Int32) (h0 : Heap) (n0 : Nat) (Z0 : n0 ≤ h0.size) :
    MetFree l (⟨"com/example/numeric_planner/numericplanner/diagram/RowsSquareCountPinLaw", "one", "(III)I"⟩ : MethodName) (head1 (Jvm.Cond.code (⟨"com/example/numeric_planner/numericplanner/diagram/RowsSquareCountPinLaw", "one", "(III)I"⟩ : MethodName) method_3_code 3 (some .int) :: ws) ({ frames := 1, cells := 0, slots := 0, locals := 13 } : Room)) (fun a U => a = #[(.int pf), (.int pk), (.int pn)] ∧ Z.Warmed39 U.vm ∧ U.heap = h0) (fun _ _ _ _ _ => True) (fun _ U o U' => ∃ v L, o = .returned v ∧ Q1 Z pf pk pn h0 n0 v U'.heap L ∧ FrameEnd U o U' L ({ frames := 1, cells := 0, slots := 0, locals := 13 } : Room).cells ({ frames := 1, cells := 0, slots := 0, locals := 13 } : Room).slots) := by
  refine MetFree.of_bodySF (plainFor_of_name own_pn0) hisR ?_
  intro p e s m args below meth c s₁ Bd hml0 hP hK
  obtain ⟨rfl, hZ, hh⟩ := hP
  have hx := Bd.exec
  have hby := Bd.bytes
  have hml : c.maxLocals = 3 := hml0
  have hown : s.vm.findClass "com/example/numeric_planner/numericplanner/diagram/RowsSquareCountPinLaw" = some m.cls := findClass_of_methodNamed Bd.named
  have hnm := (name_of_methodNamed Bd.named Bd.method).1
  have X0 : Stand p l e ({ frames := 1, cells := 0, slots := 0, locals := 13 } : Room) s m #[(.int pf), (.int pk), (.int pn)] below meth c s₁ [] 0 0 := Stand.of_body Bd
  have e0 : s₁.heap = h0 := by rw [← hh, Bd.state]; rfl
  have N0 := Fr.nil n0
  have K0 : Keep h0 h0 [] := Keep.refl _ _
  suffices GO : ∀ P : Outcome → State → Prop, (∀ o U', (∃ v L, o = .returned v ∧ Q1 Z pf pk pn h0 n0 v U'.heap L ∧ FrameEnd s o U' L ({ frames := 1, cells := 0, slots := 0, locals := 13 } : Room).cells ({ frames := 1, cells := 0, slots := 0, locals := 13 } : Room).slots) → P o U') → Go p.tables e below P s₁ (mkF m 0 #[.val (.int pf), .val (.int pk), .val (.int pn)] []) by
    obtain ⟨s2, o, st, r⟩ := GO _ (fun _ _ q => q)
    exact ⟨s2, o, castTop (ef_1 m pf pk pn) st, r⟩
  clear hh
  intro P hP
  show Go p.tables e below P s₁ (mkF m 0 #[.val (.int pf), .val (.int pk), .val (.int pn)] [])
  refine Go.via (fun t k => XS.iloadN X0.here hx rfl (hb hby d1_0) rfl k) ?_
  show Go p.tables e below P s₁ (mkF m 1 #[.val (.int pf), .val (.int pk), .val (.int pn)] [(.int pk)])
  refine Go.via (fun t k => XS.iloadN X0.here hx rfl (hb hby d1_1) rfl k) ?_
  show Go p.tables e below P s₁ (mkF m 2 #[.val (.int pf), .val (.int pk), .val (.int pn)] [(.int pn), (.int pk)])
  have J2 : ∀ (T2 : State) (locs2 : List Loc) (v2_0 : Int32), Stand p l e ({ frames := 1, cells := 0, slots := 0, locals := 13 } : Room) s m #[(.int pf), (.int pk), (.int pn)] below meth c T2 locs2 0 0 → T2.heap = h0 → Fr n0 locs2 → v2_0 = (if pk < pn then (if (own_bv pf pk) = (0 : Int32) then (0 : Int32) else (1 : Int32)) else (0 : Int32)) → Go p.tables e below P T2 (mkF m 18 #[.val (.int pf), .val (.int pk), .val (.int pn)] [(.int v2_0)]) := by
    intro T2 locs2 v2_0 X2 e2 N2 hv2_0
    have hbv2_0 : v2_0 = 0 ∨ v2_0 = 1 := by (subst hv2_0; (repeat' split) <;> first | (left; rfl) | (right; rfl))
    show Go p.tables e below P T2 (mkF m 18 #[.val (.int pf), .val (.int pk), .val (.int pn)] [(.int v2_0)])
    obtain ⟨fs, hr, hrun, hended, hW, hsame⟩ := X2.leave (v := some (.int (own_one pf pk pn))) (fun h => by rw [Bd.returns] at h; cases h)
    refine ⟨_, _, (by have q := retI X2 hx Bd.returns (hb hby d1_18) (z := v2_0) (rest := []) (pc := 18) (Ls := #[.val (.int pf), .val (.int pk), .val (.int pn)]) (by rw [(show v2_0 = own_one pf pk pn from hv2_0)]; exact hr); exact q), hrun, hended, hP _ _ ⟨_, _, rfl, ?_, ⟨_, rfl⟩, hW, hsame.mono (by decide) (by decide)⟩⟩
    show Q1 Z pf pk pn h0 n0 _ T2.heap _
    rw [e2]
    exact ⟨rfl, N2, rfl⟩
  by_cases hc1 : pk < pn
  · refine Go.via (fun t k => XS.icmpNo X0.here hx rfl (hb hby d1_2) rfl (tlt hc1).2.1 k) ?_
    show Go p.tables e below P s₁ (mkF m 5 #[.val (.int pf), .val (.int pk), .val (.int pn)] [])
    refine Go.via (fun t k => XS.iloadN X0.here hx rfl (hb hby d1_5) rfl k) ?_
    show Go p.tables e below P s₁ (mkF m 6 #[.val (.int pf), .val (.int pk), .val (.int pn)] [(.int pf)])
    refine Go.via (fun t k => XS.iloadN X0.here hx rfl (hb hby d1_6) rfl k) ?_
    show Go p.tables e below P s₁ (mkF m 7 #[.val (.int pf), .val (.int pk), .val (.int pn)] [(.int pk), (.int pf)])
    obtain ⟨_, _, ⟨T4, L4, k4, n4⟩, -, X4, ⟨Lc4, hQ4, l4, y4, z4⟩, st4⟩ := Jvm.LawKit.callS X0 hx (y := (⟨"com/example/numeric_planner/numericplanner/diagram/RowsSquareCountPinLaw", "bit", "(II)Z"⟩ : MethodName)) hown (mvT hZ (hw _ (List.mem_of_getElem? (i := 81) rfl))) (mvT hZ (hw _ (List.mem_of_getElem? (i := 82) rfl))) (mvT hZ (hw _ (List.mem_of_getElem? (i := 4) rfl))) (mvT hZ (hw _ (List.mem_of_getElem? (i := 83) rfl))) (by decide) (backOf (W := 0) (rm11 l Z a0 hw [] pf pk h0 n0 Z0 ) hZ (hw _ (List.mem_of_getElem? (i := 83) rfl)) (hw _ (List.mem_of_getElem? (i := 4) rfl)) (by decide) (by decide)) (g := (mkF m 7 #[.val (.int pf), .val (.int pk), .val (.int pn)] [(.int pk), (.int pf)])) rfl (by rw [hml]; rfl) (argsL := [(.int pf), (.int pk)]) (rest := []) (lenOf own_pd0 rfl) rfl (by show 2 * 0 + _ ≤ _; exact Nat.le_of_eq rfl) (hb hby d1_7) (fun _ _ => ⟨rfl, e0, (by decide : 0 + 0 ≤ _), (by decide : 0 + 0 ≤ _)⟩)
    dsimp only [Pt.U, Pt.locs, Pt.cells, Pt.slots] at X4 l4 y4 z4 st4 hQ4
    subst l4 y4 z4
    obtain ⟨rfl, Nq4, hh4⟩ := hQ4
    obtain ⟨lc4, Xh4, N4⟩ := own_hide X4 (Fr.app N0 Nq4)
    clear X4
    refine Go.via st4 ?_
    show Go p.tables e below P T4 (mkF m 10 #[.val (.int pf), .val (.int pk), .val (.int pn)] [(.int (own_bv pf pk))])
    by_cases hc5 : (own_bv pf pk) = (0 : Int32)
    · refine Go.via (fun t k => XS.ifYes Xh4.here hx rfl (pc0 := 10) (pc' := 17) rfl (hb hby d1_10) rfl ((if0 _ _).trans (teq hc5).1) (by decide) (by decide) k) ?_
      show Go p.tables e below P T4 (mkF m 17 #[.val (.int pf), .val (.int pk), .val (.int pn)] [])
      refine Go.via (fun t k => XS.iconst Xh4.here hx rfl (hb hby d1_17) k) ?_
      exact J2 T4 _ (0 : Int32) Xh4 hh4 N4 (Eq.trans (if_pos hc1) (if_pos hc5)).symm
    · refine Go.via (fun t k => XS.ifNo Xh4.here hx rfl (hb hby d1_10) rfl ((if0 _ _).trans (feq hc5).1) k) ?_
      show Go p.tables e below P T4 (mkF m 13 #[.val (.int pf), .val (.int pk), .val (.int pn)] [])
      refine Go.via (fun t k => XS.iconst Xh4.here hx rfl (hb hby d1_13) k) ?_
      show Go p.tables e below P T4 (mkF m 14 #[.val (.int pf), .val (.int pk), .val (.int pn)] [(.int (1 : Int32))])
      refine Go.via (fun t k => XS.goto Xh4.here hx rfl (pc0 := 14) (pc' := 18) rfl (hb hby d1_14) (by decide) (by decide) k) ?_
      exact J2 T4 _ (1 : Int32) Xh4 hh4 N4 (Eq.trans (if_pos hc1) (if_neg hc5)).symm
  · refine Go.via (fun t k => XS.icmpYes X0.here hx rfl (pc0 := 2) (pc' := 17) rfl (hb hby d1_2) rfl (flt hc1).2.1 (by decide) (by decide) k) ?_
    show Go p.tables e below P s₁ (mkF m 17 #[.val (.int pf), .val (.int pk), .val (.int pn)] [])
    refine Go.via (fun t k => XS.iconst X0.here hx rfl (hb hby d1_17) k) ?_
    exact J2 s₁ _ (0 : Int32) X0 e0 N0 (if_neg hc1).symm
theorem own_pn1 : plainName "java/util/AbstractCollection" = true := by first | (simp [plainName, overriddenIn]; done) | decide +kernel
theorem d6_0 : decode jdk_22_method_1_code 0 = .ok (.aload_n 0, 1) := by decide +kernel
theorem d6_1 : decode jdk_22_method_1_code 1 = .ok (.invokespecial 1, 3) := by decide +kernel
theorem d6_4 : decode jdk_22_method_1_code 4 = .ok (.return_, 1) := by decide +kernel
theorem ef_6 (m : MethodId) (x0 : Addr) : entryFrame m #[(.ref x0)] 1 = mkF m 0 #[.val (.ref x0)] [] := by first | (simp [entryFrame, mkF, argsToLocals, Value.category]; done) | rfl
def Q6 (Z : State) (oa : Addr) (h0 : Heap) (n0 : Nat) (v : Option Value) (h : Heap) (L : List Loc) : Prop := v = none ∧ Fr n0 L ∧ h = h0
set_option maxRecDepth 65536 in
set_option maxHeartbeats 40000000 in
theorem rm6 (l : Launch) (Z : State) (a0 : Array Value) (hw : ∀ d ∈ tables_1, d.before a0 Z = true) (ws : List Jvm.Cond) (oa : Addr) (h0 : Heap) (n0 : Nat) (Z0 : n0 ≤ h0.size) :
    MetFree l (⟨"java/util/AbstractCollection", "<init>", "()V"⟩ : MethodName) (head1 (Jvm.Cond.code (⟨"java/util/AbstractCollection", "<init>", "()V"⟩ : MethodName) jdk_22_method_1_code 1 none :: ws) ({ frames := 1, cells := 0, slots := 0, locals := 12 } : Room)) (fun a U => a = #[(.ref oa)] ∧ Z.Warmed39 U.vm ∧ U.heap = h0) (fun _ _ _ _ _ => True) (fun _ U o U' => ∃ v L, o = .returned v ∧ Q6 Z oa h0 n0 v U'.heap L ∧ FrameEnd U o U' L ({ frames := 1, cells := 0, slots := 0, locals := 12 } : Room).cells ({ frames := 1, cells := 0, slots := 0, locals := 12 } : Room).slots) := by
  refine MetFree.of_bodySF (plainFor_of_name own_pn1) hisR ?_
  intro p e s m args below meth c s₁ Bd hml0 hP hK
  obtain ⟨rfl, hZ, hh⟩ := hP
  have hx := Bd.exec
  have hby := Bd.bytes
  have hml : c.maxLocals = 1 := hml0
  have hown : s.vm.findClass "java/util/AbstractCollection" = some m.cls := findClass_of_methodNamed Bd.named
  have hnm := (name_of_methodNamed Bd.named Bd.method).1
  have X0 : Stand p l e ({ frames := 1, cells := 0, slots := 0, locals := 12 } : Room) s m #[(.ref oa)] below meth c s₁ [] 0 0 := Stand.of_body Bd
  have e0 : s₁.heap = h0 := by rw [← hh, Bd.state]; rfl
  have N0 := Fr.nil n0
  have K0 : Keep h0 h0 [] := Keep.refl _ _
  suffices GO : ∀ P : Outcome → State → Prop, (∀ o U', (∃ v L, o = .returned v ∧ Q6 Z oa h0 n0 v U'.heap L ∧ FrameEnd s o U' L ({ frames := 1, cells := 0, slots := 0, locals := 12 } : Room).cells ({ frames := 1, cells := 0, slots := 0, locals := 12 } : Room).slots) → P o U') → Go p.tables e below P s₁ (mkF m 0 #[.val (.ref oa)] []) by
    obtain ⟨s2, o, st, r⟩ := GO _ (fun _ _ q => q)
    exact ⟨s2, o, castTop (ef_6 m oa) st, r⟩
  clear hh
  intro P hP
  show Go p.tables e below P s₁ (mkF m 0 #[.val (.ref oa)] [])
  refine Go.via (fun t k => XS.aloadN X0.here hx rfl (hb hby d6_0) rfl rfl k) ?_
  show Go p.tables e below P s₁ (mkF m 1 #[.val (.ref oa)] [(.ref oa)])
  obtain ⟨T1, X1, e1, st1⟩ := initO X0 hx hZ hown (hw _ (List.mem_of_getElem? (i := 33) rfl)) (hw _ (List.mem_of_getElem? (i := 13) rfl)) (hw _ (List.mem_of_getElem? (i := 14) rfl)) e0 (g := (mkF m 1 #[.val (.ref oa)] [(.ref oa)])) rfl (by rw [hml]; rfl) rfl (hb hby d6_1) (by decide) (W := 0) (by show 2 * 0 + _ ≤ _; exact Nat.le_of_eq rfl) (by decide)
  refine Go.via st1 ?_
  show Go p.tables e below P T1 (mkF m 4 #[.val (.ref oa)] [])
  obtain ⟨fs, hr, hrun, hended, hW, hsame⟩ := X1.leave (v := none) (fun _ => rfl)
  refine ⟨_, _, X1.returnOut hx Bd.returns (hb hby d6_4) hr, hrun, hended, hP _ _ ⟨_, _, rfl, ?_, ⟨_, rfl⟩, hW, hsame.mono (by decide) (by decide)⟩⟩
  show Q6 Z oa h0 n0 _ T1.heap _
  rw [e1]
  exact ⟨rfl, N0, rfl⟩
theorem own_pd1 : parseMethodDescriptor "()V" = some ⟨[], none⟩ := by decide +kernel
theorem own_pn2 : plainName "java/util/AbstractList" = true := by first | (simp [plainName, overriddenIn]; done) | decide +kernel
theorem d5_0 : decode jdk_39_method_1_code 0 = .ok (.aload_n 0, 1) := by decide +kernel
theorem d5_1 : decode jdk_39_method_1_code 1 = .ok (.invokespecial 1, 3) := by decide +kernel
theorem d5_4 : decode jdk_39_method_1_code 4 = .ok (.aload_n 0, 1) := by decide +kernel
theorem d5_5 : decode jdk_39_method_1_code 5 = .ok (.iconst 0, 1) := by decide +kernel
theorem d5_6 : decode jdk_39_method_1_code 6 = .ok (.putfield 7, 3) := by decide +kernel
theorem d5_9 : decode jdk_39_method_1_code 9 = .ok (.return_, 1) := by decide +kernel
theorem ef_5 (m : MethodId) (x0 : Addr) : entryFrame m #[(.ref x0)] 1 = mkF m 0 #[.val (.ref x0)] [] := by first | (simp [entryFrame, mkF, argsToLocals, Value.category]; done) | rfl
def Q5 (Z : State) (oa : Addr) (h0 : Heap) (n0 : Nat) (v : Option Value) (h : Heap) (L : List Loc) : Prop := v = none ∧ Fr n0 L ∧ Keep h0 h [oa] ∧ Exa Z h oa "java/util/ArrayList" ∧ Fld Z h oa "java/util/ArrayList" "elementData" "[Ljava/lang/Object;" .null
set_option maxRecDepth 65536 in
set_option maxHeartbeats 40000000 in
theorem rm5 (l : Launch) (Z : State) (a0 : Array Value) (hw : ∀ d ∈ tables_1, d.before a0 Z = true) (ws : List Jvm.Cond) (oa : Addr) (h0 : Heap) (n0 : Nat) (Z0 : n0 ≤ h0.size) (P0 : Exa Z h0 oa "java/util/ArrayList") (P1 : Fld Z h0 oa "java/util/AbstractList" "modCount" "I" (.int (0 : Int32))) (P2 : Fld Z h0 oa "java/util/ArrayList" "elementData" "[Ljava/lang/Object;" .null) (ga : n0 ≤ oa) :
    MetFree l (⟨"java/util/AbstractList", "<init>", "()V"⟩ : MethodName) (head1 (Jvm.Cond.code (⟨"java/util/AbstractList", "<init>", "()V"⟩ : MethodName) jdk_39_method_1_code 1 none :: ws) ({ frames := 2, cells := 0, slots := 0, locals := 24 } : Room)) (fun a U => a = #[(.ref oa)] ∧ Z.Warmed39 U.vm ∧ U.heap = h0) (fun _ _ _ _ _ => True) (fun _ U o U' => ∃ v L, o = .returned v ∧ Q5 Z oa h0 n0 v U'.heap L ∧ FrameEnd U o U' L ({ frames := 2, cells := 0, slots := 0, locals := 24 } : Room).cells ({ frames := 2, cells := 0, slots := 0, locals := 24 } : Room).slots) := by
  refine MetFree.of_bodySF (plainFor_of_name own_pn2) hisR ?_
  intro p e s m args below meth c s₁ Bd hml0 hP hK
  obtain ⟨rfl, hZ, hh⟩ := hP
  have hx := Bd.exec
  have hby := Bd.bytes
  have hml : c.maxLocals = 1 := hml0
  have hown : s.vm.findClass "java/util/AbstractList" = some m.cls := findClass_of_methodNamed Bd.named
  have hnm := (name_of_methodNamed Bd.named Bd.method).1
  have X0 : Stand p l e ({ frames := 2, cells := 0, slots := 0, locals := 24 } : Room) s m #[(.ref oa)] below meth c s₁ [] 0 0 := Stand.of_body Bd
  have e0 : s₁.heap = h0 := by rw [← hh, Bd.state]; rfl
  have N0 := Fr.nil n0
  have K0 : Keep h0 h0 [oa] := Keep.refl _ _
  suffices GO : ∀ P : Outcome → State → Prop, (∀ o U', (∃ v L, o = .returned v ∧ Q5 Z oa h0 n0 v U'.heap L ∧ FrameEnd s o U' L ({ frames := 2, cells := 0, slots := 0, locals := 24 } : Room).cells ({ frames := 2, cells := 0, slots := 0, locals := 24 } : Room).slots) → P o U') → Go p.tables e below P s₁ (mkF m 0 #[.val (.ref oa)] []) by
    obtain ⟨s2, o, st, r⟩ := GO _ (fun _ _ q => q)
    exact ⟨s2, o, castTop (ef_5 m oa) st, r⟩
  clear hh
  intro P hP
  show Go p.tables e below P s₁ (mkF m 0 #[.val (.ref oa)] [])
  refine Go.via (fun t k => XS.aloadN X0.here hx rfl (hb hby d5_0) rfl rfl k) ?_
  show Go p.tables e below P s₁ (mkF m 1 #[.val (.ref oa)] [(.ref oa)])
  obtain ⟨_, _, ⟨T1, L1, k1, n1⟩, -, X1, ⟨Lc1, hQ1, l1, y1, z1⟩, st1⟩ := X0.specialBack hx (y := (⟨"java/util/AbstractCollection", "<init>", "()V"⟩ : MethodName)) rfl hown (mvT hZ (hw _ (List.mem_of_getElem? (i := 27) rfl))) (mvT hZ (hw _ (List.mem_of_getElem? (i := 28) rfl))) (mvT hZ (hw _ (List.mem_of_getElem? (i := 32) rfl))) (by decide) (backOf (W := 0) (rm6 l Z a0 hw [] oa h0 n0 Z0 ) hZ (hw _ (List.mem_of_getElem? (i := 32) rfl)) (hw _ (List.mem_of_getElem? (i := 31) rfl)) (by decide) (by decide)) (g := (mkF m 1 #[.val (.ref oa)] [(.ref oa)])) rfl (by rw [hml]; rfl) (Steps.refl _) (a := oa) (argsL := []) (rest := []) (lenOf own_pd1 rfl) rfl (by show 2 * 0 + _ ≤ _; exact Nat.le_of_eq rfl) (hb hby d5_1) (fun _ _ => ⟨rfl, e0, (by decide : 0 + 0 ≤ _), (by decide : 0 + 0 ≤ _)⟩)
  dsimp only [Pt.U, Pt.locs, Pt.cells, Pt.slots] at X1 l1 y1 z1 st1 hQ1
  subst l1 y1 z1
  obtain ⟨rfl, Nq1, hh1⟩ := hQ1
  obtain ⟨lc1, Xh1, N1⟩ := own_hide X1 (Fr.app N0 Nq1)
  clear X1
  refine Go.hop st1 ?_
  show Go p.tables e below P T1 (mkF m 4 #[.val (.ref oa)] [])
  refine Go.via (fun t k => XS.aloadN Xh1.here hx rfl (hb hby d5_4) rfl rfl k) ?_
  show Go p.tables e below P T1 (mkF m 5 #[.val (.ref oa)] [(.ref oa)])
  refine Go.via (fun t k => XS.iconst Xh1.here hx rfl (hb hby d5_5) k) ?_
  show Go p.tables e below P T1 (mkF m 6 #[.val (.ref oa)] [(.int (0 : Int32)), (.ref oa)])
  obtain ⟨T2, h2, X2, e2, W2, st2⟩ := putF Xh1 hx hZ hown (host := "") (Or.inl (hw _ (List.mem_of_getElem? (i := 34) rfl))) Via.refl hh1 P1 P0 (Or.inl (hw _ (List.mem_of_getElem? (i := 35) rfl))) (hw _ (List.mem_of_getElem? (i := 16) rfl)) (ty := .int) (by decide) rfl rfl (g := (mkF m 6 #[.val (.ref oa)] [(.int (0 : Int32)), (.ref oa)])) rfl rfl (hb hby d5_6)
  refine Go.via st2 ?_
  have Z3 : n0 ≤ h2.size := Nat.le_trans Z0 (Nat.le_of_eq W2.size.symm)
  have K4 : Keep h0 h2 [oa] := K0.wr W2 (Or.inl (List.mem_of_getElem? (i := 0) rfl))
  obtain ⟨lc2, Xh2, N5⟩ := own_hide X2 (Fr.snoc X2 N1 ga)
  clear X2
  have Fw2 := P1.same W2
  show Go p.tables e below P T2 (mkF m 9 #[.val (.ref oa)] [])
  obtain ⟨fs, hr, hrun, hended, hW, hsame⟩ := Xh2.leave (v := none) (fun _ => rfl)
  have F7 : Exa Z h2 oa "java/util/ArrayList" := (P0.wr W2)
  have F8 : Fld Z h2 oa "java/util/ArrayList" "elementData" "[Ljava/lang/Object;" .null := (P2.other W2 (Or.inr (slot_ne (Or.inl (hw _ (List.mem_of_getElem? (i := 38) rfl))) (Or.inl (hw _ (List.mem_of_getElem? (i := 35) rfl))) (by decide) (t := (.array (.object "java/lang/Object"))) (t' := .int) (by decide) (by decide))))
  refine ⟨_, _, Xh2.returnOut hx Bd.returns (hb hby d5_9) hr, hrun, hended, hP _ _ ⟨_, _, rfl, ?_, ⟨_, rfl⟩, hW, hsame.mono (by decide) (by decide)⟩⟩
  show Q5 Z oa h0 n0 _ T2.heap _
  rw [e2]
  exact ⟨rfl, N5, K4, F7, F8⟩
theorem own_pn3 : plainName "java/util/ArrayList" = true := by first | (simp [plainName, overriddenIn]; done) | decide +kernel
theorem d4_0 : decode jdk_38_method_2_code 0 = .ok (.aload_n 0, 1) := by decide +kernel
theorem d4_1 : decode jdk_38_method_2_code 1 = .ok (.invokespecial 1, 3) := by decide +kernel
theorem d4_4 : decode jdk_38_method_2_code 4 = .ok (.aload_n 0, 1) := by decide +kernel
theorem d4_5 : decode jdk_38_method_2_code 5 = .ok (.getstatic 39, 3) := by decide +kernel
theorem d4_8 : decode jdk_38_method_2_code 8 = .ok (.putfield 9, 3) := by decide +kernel
theorem d4_11 : decode jdk_38_method_2_code 11 = .ok (.return_, 1) := by decide +kernel
theorem ef_4 (m : MethodId) (x0 : Addr) : entryFrame m #[(.ref x0)] 1 = mkF m 0 #[.val (.ref x0)] [] := by first | (simp [entryFrame, mkF, argsToLocals, Value.category]; done) | rfl
def Q4 (Z : State) (oa : Addr) (de : Addr) (h0 : Heap) (n0 : Nat) (v : Option Value) (h : Heap) (L : List Loc) : Prop := v = none ∧ Fr n0 L ∧ Keep h0 h [oa] ∧ Exa Z h oa "java/util/ArrayList"
set_option maxRecDepth 65536 in
set_option maxHeartbeats 40000000 in
theorem rm4 (l : Launch) (Z : State) (a0 : Array Value) (hw : ∀ d ∈ tables_1, d.before a0 Z = true) (ws : List Jvm.Cond) (oa : Addr) (de : Addr) (h0 : Heap) (n0 : Nat) (Z0 : n0 ≤ h0.size) (O0 : Old Z n0 h0) (P1 : Sta Z Z.heap "java/util/ArrayList" "DEFAULTCAPACITY_EMPTY_ELEMENTDATA" "[Ljava/lang/Object;" (.ref de)) (P2 : Exa Z h0 oa "java/util/ArrayList") (P3 : Fld Z h0 oa "java/util/AbstractList" "modCount" "I" (.int (0 : Int32))) (P4 : Fld Z h0 oa "java/util/ArrayList" "elementData" "[Ljava/lang/Object;" .null) (ga : n0 ≤ oa) :
    MetFree l (⟨"java/util/ArrayList", "<init>", "()V"⟩ : MethodName) (head1 (Jvm.Cond.code (⟨"java/util/ArrayList", "<init>", "()V"⟩ : MethodName) jdk_38_method_2_code 1 none :: ws) ({ frames := 3, cells := 0, slots := 0, locals := 36 } : Room)) (fun a U => a = #[(.ref oa)] ∧ Z.Warmed39 U.vm ∧ U.heap = h0) (fun _ _ _ _ _ => True) (fun _ U o U' => ∃ v L, o = .returned v ∧ Q4 Z oa de h0 n0 v U'.heap L ∧ FrameEnd U o U' L ({ frames := 3, cells := 0, slots := 0, locals := 36 } : Room).cells ({ frames := 3, cells := 0, slots := 0, locals := 36 } : Room).slots) := by
  refine MetFree.of_bodySF (plainFor_of_name own_pn3) hisR ?_
  intro p e s m args below meth c s₁ Bd hml0 hP hK
  obtain ⟨rfl, hZ, hh⟩ := hP
  have hx := Bd.exec
  have hby := Bd.bytes
  have hml : c.maxLocals = 1 := hml0
  have hown : s.vm.findClass "java/util/ArrayList" = some m.cls := findClass_of_methodNamed Bd.named
  have hnm := (name_of_methodNamed Bd.named Bd.method).1
  have X0 : Stand p l e ({ frames := 3, cells := 0, slots := 0, locals := 36 } : Room) s m #[(.ref oa)] below meth c s₁ [] 0 0 := Stand.of_body Bd
  have e0 : s₁.heap = h0 := by rw [← hh, Bd.state]; rfl
  have N0 := Fr.nil n0
  have K0 : Keep h0 h0 [oa] := Keep.refl _ _
  suffices GO : ∀ P : Outcome → State → Prop, (∀ o U', (∃ v L, o = .returned v ∧ Q4 Z oa de h0 n0 v U'.heap L ∧ FrameEnd s o U' L ({ frames := 3, cells := 0, slots := 0, locals := 36 } : Room).cells ({ frames := 3, cells := 0, slots := 0, locals := 36 } : Room).slots) → P o U') → Go p.tables e below P s₁ (mkF m 0 #[.val (.ref oa)] []) by
    obtain ⟨s2, o, st, r⟩ := GO _ (fun _ _ q => q)
    exact ⟨s2, o, castTop (ef_4 m oa) st, r⟩
  clear hh
  intro P hP
  show Go p.tables e below P s₁ (mkF m 0 #[.val (.ref oa)] [])
  refine Go.via (fun t k => XS.aloadN X0.here hx rfl (hb hby d4_0) rfl rfl k) ?_
  show Go p.tables e below P s₁ (mkF m 1 #[.val (.ref oa)] [(.ref oa)])
  obtain ⟨_, _, ⟨T1, L1, k1, n1⟩, -, X1, ⟨Lc1, hQ1, l1, y1, z1⟩, st1⟩ := X0.specialBack hx (y := (⟨"java/util/AbstractList", "<init>", "()V"⟩ : MethodName)) rfl hown (mvT hZ (hw _ (List.mem_of_getElem? (i := 21) rfl))) (mvT hZ (hw _ (List.mem_of_getElem? (i := 22) rfl))) (mvT hZ (hw _ (List.mem_of_getElem? (i := 26) rfl))) (by decide) (backOf (W := 0) (rm5 l Z a0 hw [] oa h0 n0 Z0 P2 P3 P4 ga) hZ (hw _ (List.mem_of_getElem? (i := 26) rfl)) (hw _ (List.mem_of_getElem? (i := 25) rfl)) (by decide) (by decide)) (g := (mkF m 1 #[.val (.ref oa)] [(.ref oa)])) rfl (by rw [hml]; rfl) (Steps.refl _) (a := oa) (argsL := []) (rest := []) (lenOf own_pd1 rfl) rfl (by show 2 * 0 + _ ≤ _; exact Nat.le_of_eq rfl) (hb hby d4_1) (fun _ _ => ⟨rfl, e0, (by decide : 0 + 0 ≤ _), (by decide : 0 + 0 ≤ _)⟩)
  dsimp only [Pt.U, Pt.locs, Pt.cells, Pt.slots] at X1 l1 y1 z1 st1 hQ1
  subst l1 y1 z1
  obtain ⟨rfl, Nq1, K1, u1_0, u1_1⟩ := hQ1
  obtain ⟨lc1, Xh1, N1⟩ := own_hide X1 (Fr.app N0 Nq1)
  clear X1
  refine Go.hop st1 ?_
  have Z2 : n0 ≤ T1.heap.size := Nat.le_trans Z0 K1.1
  have K3 : Keep h0 T1.heap [oa] := K0.trans K1 (own_allC (Or.inl (List.mem_of_getElem? (i := 0) rfl)) own_all0)
  have O4 : Old Z n0 T1.heap := O0.keep K1 (own_allC ga own_all0)
  show Go p.tables e below P T1 (mkF m 4 #[.val (.ref oa)] [])
  refine Go.via (fun t k => XS.aloadN Xh1.here hx rfl (hb hby d4_4) rfl rfl k) ?_
  show Go p.tables e below P T1 (mkF m 5 #[.val (.ref oa)] [(.ref oa)])
  obtain ⟨T5, X5, e5, st5⟩ := getS2 Xh1 hx hZ hown (host := "") (Or.inl (hw _ (List.mem_of_getElem? (i := 36) rfl))) Via.refl rfl (P1.ext O4.2) (g := (mkF m 5 #[.val (.ref oa)] [(.ref oa)])) rfl (hb hby d4_5)
  refine Go.via st5 ?_
  show Go p.tables e below P T5 (mkF m 8 #[.val (.ref oa)] [(.ref de), (.ref oa)])
  obtain ⟨T6, h6, X6, e6, W6, st6⟩ := putF X5 hx hZ hown (host := "") (Or.inl (hw _ (List.mem_of_getElem? (i := 37) rfl))) Via.refl e5 u1_1 u1_0 (Or.inl (hw _ (List.mem_of_getElem? (i := 38) rfl))) (hw _ (List.mem_of_getElem? (i := 16) rfl)) (ty := (.array (.object "java/lang/Object"))) (by decide) rfl rfl (g := (mkF m 8 #[.val (.ref oa)] [(.ref de), (.ref oa)])) rfl rfl (hb hby d4_8)
  refine Go.via st6 ?_
  have Z7 : n0 ≤ h6.size := Nat.le_trans Z2 (Nat.le_of_eq W6.size.symm)
  have K8 : Keep h0 h6 [oa] := K3.wr W6 (Or.inl (List.mem_of_getElem? (i := 0) rfl))
  obtain ⟨lc6, Xh6, N9⟩ := own_hide X6 (Fr.snoc X6 N1 ga)
  clear X6
  have O10 : Old Z n0 h6 := O4.wr W6 ga
  have Fw6 := u1_1.same W6
  show Go p.tables e below P T6 (mkF m 11 #[.val (.ref oa)] [])
  obtain ⟨fs, hr, hrun, hended, hW, hsame⟩ := Xh6.leave (v := none) (fun _ => rfl)
  have F12 : Exa Z h6 oa "java/util/ArrayList" := (u1_0.wr W6)
  refine ⟨_, _, Xh6.returnOut hx Bd.returns (hb hby d4_11) hr, hrun, hended, hP _ _ ⟨_, _, rfl, ?_, ⟨_, rfl⟩, hW, hsame.mono (by decide) (by decide)⟩⟩
  show Q4 Z oa de h0 n0 _ T6.heap _
  rw [e6]
  exact ⟨rfl, N9, K8, F12⟩
theorem own_pn4 : plainName "java/util/BitSet" = true := by first | (simp [plainName, overriddenIn]; done) | decide +kernel
theorem d9_0 : decode jdk_92_method_1_code 0 = .ok (.iload_n 0, 1) := by decide +kernel
theorem d9_1 : decode jdk_92_method_1_code 1 = .ok (.bipush 6, 2) := by decide +kernel
theorem d9_3 : decode jdk_92_method_1_code 3 = .ok (.ishr, 1) := by decide +kernel
theorem d9_4 : decode jdk_92_method_1_code 4 = .ok (.ireturn, 1) := by decide +kernel
theorem ef_9 (m : MethodId) (x0 : Int32) : entryFrame m #[(.int x0)] 1 = mkF m 0 #[.val (.int x0)] [] := by first | (simp [entryFrame, mkF, argsToLocals, Value.category]; done) | rfl
def Q9 (Z : State) (pp : Int32) (h0 : Heap) (n0 : Nat) (v : Option Value) (h : Heap) (L : List Loc) : Prop := v = some (.int (pp >>> ((6 : Int32) &&& 31))) ∧ Fr n0 L ∧ h = h0
set_option maxRecDepth 65536 in
set_option maxHeartbeats 40000000 in
theorem rm9 (l : Launch) (Z : State) (a0 : Array Value) (hw : ∀ d ∈ tables_1, d.before a0 Z = true) (ws : List Jvm.Cond) (pp : Int32) (h0 : Heap) (n0 : Nat) (Z0 : n0 ≤ h0.size) :
    MetFree l (⟨"java/util/BitSet", "wordIndex", "(I)I"⟩ : MethodName) (head1 (Jvm.Cond.code (⟨"java/util/BitSet", "wordIndex", "(I)I"⟩ : MethodName) jdk_92_method_1_code 1 (some .int) :: ws) ({ frames := 0, cells := 0, slots := 0, locals := 0 } : Room)) (fun a U => a = #[(.int pp)] ∧ Z.Warmed39 U.vm ∧ U.heap = h0) (fun _ _ _ _ _ => True) (fun _ U o U' => ∃ v L, o = .returned v ∧ Q9 Z pp h0 n0 v U'.heap L ∧ FrameEnd U o U' L ({ frames := 0, cells := 0, slots := 0, locals := 0 } : Room).cells ({ frames := 0, cells := 0, slots := 0, locals := 0 } : Room).slots) := by
  refine MetFree.of_bodySF (plainFor_of_name own_pn4) hisR ?_
  intro p e s m args below meth c s₁ Bd hml0 hP hK
  obtain ⟨rfl, hZ, hh⟩ := hP
  have hx := Bd.exec
  have hby := Bd.bytes
  have hml : c.maxLocals = 1 := hml0
  have hown : s.vm.findClass "java/util/BitSet" = some m.cls := findClass_of_methodNamed Bd.named
  have hnm := (name_of_methodNamed Bd.named Bd.method).1
  have X0 : Stand p l e ({ frames := 0, cells := 0, slots := 0, locals := 0 } : Room) s m #[(.int pp)] below meth c s₁ [] 0 0 := Stand.of_body Bd
  have e0 : s₁.heap = h0 := by rw [← hh, Bd.state]; rfl
  have N0 := Fr.nil n0
  have K0 : Keep h0 h0 [] := Keep.refl _ _
  suffices GO : ∀ P : Outcome → State → Prop, (∀ o U', (∃ v L, o = .returned v ∧ Q9 Z pp h0 n0 v U'.heap L ∧ FrameEnd s o U' L ({ frames := 0, cells := 0, slots := 0, locals := 0 } : Room).cells ({ frames := 0, cells := 0, slots := 0, locals := 0 } : Room).slots) → P o U') → Go p.tables e below P s₁ (mkF m 0 #[.val (.int pp)] []) by
    obtain ⟨s2, o, st, r⟩ := GO _ (fun _ _ q => q)
    exact ⟨s2, o, castTop (ef_9 m pp) st, r⟩
  clear hh
  intro P hP
  show Go p.tables e below P s₁ (mkF m 0 #[.val (.int pp)] [])
  refine Go.via (fun t k => XS.iloadN X0.here hx rfl (hb hby d9_0) rfl k) ?_
  show Go p.tables e below P s₁ (mkF m 1 #[.val (.int pp)] [(.int pp)])
  refine Go.via (fun t k => XS.bipush X0.here hx rfl (hb hby d9_1) k) ?_
  show Go p.tables e below P s₁ (mkF m 3 #[.val (.int pp)] [(.int (6 : Int32)), (.int pp)])
  refine Go.via (fun t k => XS.ishr X0.here hx rfl (hb hby d9_3) rfl k) ?_
  show Go p.tables e below P s₁ (mkF m 4 #[.val (.int pp)] [(.int (pp >>> ((6 : Int32) &&& 31)))])
  obtain ⟨fs, hr, hrun, hended, hW, hsame⟩ := X0.leave (v := some (.int (pp >>> ((6 : Int32) &&& 31)))) (fun h => by rw [Bd.returns] at h; cases h)
  refine ⟨_, _, retI X0 hx Bd.returns (hb hby d9_4) hr, hrun, hended, hP _ _ ⟨_, _, rfl, ?_, ⟨_, rfl⟩, hW, hsame.mono (by decide) (by decide)⟩⟩
  show Q9 Z pp h0 n0 _ s₁.heap _
  rw [e0]
  exact ⟨rfl, N0, rfl⟩
theorem own_pd2 : parseMethodDescriptor "(I)I" = some ⟨[.int], some .int⟩ := by decide +kernel
theorem d8_0 : decode jdk_92_method_6_code 0 = .ok (.aload_n 0, 1) := by decide +kernel
theorem d8_1 : decode jdk_92_method_6_code 1 = .ok (.iload_n 1, 1) := by decide +kernel
theorem d8_2 : decode jdk_92_method_6_code 2 = .ok (.iconst 1, 1) := by decide +kernel
theorem d8_3 : decode jdk_92_method_6_code 3 = .ok (.isub, 1) := by decide +kernel
theorem d8_4 : decode jdk_92_method_6_code 4 = .ok (.invokestatic 52, 3) := by decide +kernel
theorem d8_7 : decode jdk_92_method_6_code 7 = .ok (.iconst 1, 1) := by decide +kernel
theorem d8_8 : decode jdk_92_method_6_code 8 = .ok (.iadd, 1) := by decide +kernel
theorem d8_9 : decode jdk_92_method_6_code 9 = .ok (.newarray .long, 2) := by decide +kernel
theorem d8_11 : decode jdk_92_method_6_code 11 = .ok (.putfield 11, 3) := by decide +kernel
theorem d8_14 : decode jdk_92_method_6_code 14 = .ok (.return_, 1) := by decide +kernel
theorem ef_8 (m : MethodId) (x0 : Addr) : entryFrame m #[(.ref x0), (.int (64 : Int32))] 2 = mkF m 0 #[.val (.ref x0), .val (.int (64 : Int32))] [] := by first | (simp [entryFrame, mkF, argsToLocals, Value.category]; done) | rfl
def Q8 (Z : State) (oa : Addr) (h0 : Heap) (n0 : Nat) (v : Option Value) (h : Heap) (L : List Loc) : Prop := v = none ∧ Fr n0 L ∧ Keep h0 h [oa] ∧ Exa Z h oa "java/util/BitSet" ∧ Fld Z h oa "java/util/BitSet" "wordsInUse" "I" (.int (0 : Int32)) ∧ Fld Z h oa "java/util/BitSet" "sizeIsSticky" "Z" (.int (0 : Int32))
set_option maxRecDepth 65536 in
set_option maxHeartbeats 40000000 in
theorem rm8 (l : Launch) (Z : State) (a0 : Array Value) (hw : ∀ d ∈ tables_1, d.before a0 Z = true) (ws : List Jvm.Cond) (oa : Addr) (h0 : Heap) (n0 : Nat) (Z0 : n0 ≤ h0.size) (P0 : Exa Z h0 oa "java/util/BitSet") (P1 : Fld Z h0 oa "java/util/BitSet" "wordsInUse" "I" (.int (0 : Int32))) (P2 : Fld Z h0 oa "java/util/BitSet" "sizeIsSticky" "Z" (.int (0 : Int32))) (P3 : Fld Z h0 oa "java/util/BitSet" "words" "[J" .null) (ga : n0 ≤ oa) :
    MetFree l (⟨"java/util/BitSet", "initWords", "(I)V"⟩ : MethodName) (head1 (Jvm.Cond.code (⟨"java/util/BitSet", "initWords", "(I)V"⟩ : MethodName) jdk_92_method_6_code 2 none :: ws) ({ frames := 1, cells := 1, slots := 1, locals := 13 } : Room)) (fun a U => a = #[(.ref oa), (.int (64 : Int32))] ∧ Z.Warmed39 U.vm ∧ U.heap = h0) (fun _ _ _ _ _ => True) (fun _ U o U' => ∃ v L, o = .returned v ∧ Q8 Z oa h0 n0 v U'.heap L ∧ FrameEnd U o U' L ({ frames := 1, cells := 1, slots := 1, locals := 13 } : Room).cells ({ frames := 1, cells := 1, slots := 1, locals := 13 } : Room).slots) := by
  refine MetFree.of_bodySF (plainFor_of_name own_pn4) hisR ?_
  intro p e s m args below meth c s₁ Bd hml0 hP hK
  obtain ⟨rfl, hZ, hh⟩ := hP
  have hx := Bd.exec
  have hby := Bd.bytes
  have hml : c.maxLocals = 2 := hml0
  have hown : s.vm.findClass "java/util/BitSet" = some m.cls := findClass_of_methodNamed Bd.named
  have hnm := (name_of_methodNamed Bd.named Bd.method).1
  have X0 : Stand p l e ({ frames := 1, cells := 1, slots := 1, locals := 13 } : Room) s m #[(.ref oa), (.int (64 : Int32))] below meth c s₁ [] 0 0 := Stand.of_body Bd
  have e0 : s₁.heap = h0 := by rw [← hh, Bd.state]; rfl
  have N0 := Fr.nil n0
  have K0 : Keep h0 h0 [oa] := Keep.refl _ _
  suffices GO : ∀ P : Outcome → State → Prop, (∀ o U', (∃ v L, o = .returned v ∧ Q8 Z oa h0 n0 v U'.heap L ∧ FrameEnd s o U' L ({ frames := 1, cells := 1, slots := 1, locals := 13 } : Room).cells ({ frames := 1, cells := 1, slots := 1, locals := 13 } : Room).slots) → P o U') → Go p.tables e below P s₁ (mkF m 0 #[.val (.ref oa), .val (.int (64 : Int32))] []) by
    obtain ⟨s2, o, st, r⟩ := GO _ (fun _ _ q => q)
    exact ⟨s2, o, castTop (ef_8 m oa) st, r⟩
  clear hh
  intro P hP
  show Go p.tables e below P s₁ (mkF m 0 #[.val (.ref oa), .val (.int (64 : Int32))] [])
  refine Go.via (fun t k => XS.aloadN X0.here hx rfl (hb hby d8_0) rfl rfl k) ?_
  show Go p.tables e below P s₁ (mkF m 1 #[.val (.ref oa), .val (.int (64 : Int32))] [(.ref oa)])
  refine Go.via (fun t k => XS.iloadN X0.here hx rfl (hb hby d8_1) rfl k) ?_
  show Go p.tables e below P s₁ (mkF m 2 #[.val (.ref oa), .val (.int (64 : Int32))] [(.int (64 : Int32)), (.ref oa)])
  refine Go.via (fun t k => XS.iconst X0.here hx rfl (hb hby d8_2) k) ?_
  show Go p.tables e below P s₁ (mkF m 3 #[.val (.ref oa), .val (.int (64 : Int32))] [(.int (1 : Int32)), (.int (64 : Int32)), (.ref oa)])
  refine Go.via (fun t k => XS.isub X0.here hx rfl (hb hby d8_3) rfl k) ?_
  show Go p.tables e below P s₁ (mkF m 4 #[.val (.ref oa), .val (.int (64 : Int32))] [(.int ((64 : Int32) - (1 : Int32))), (.ref oa)])
  obtain ⟨_, _, ⟨T1, L1, k1, n1⟩, -, X1, ⟨Lc1, hQ1, l1, y1, z1⟩, st1⟩ := Jvm.LawKit.callS X0 hx (y := (⟨"java/util/BitSet", "wordIndex", "(I)I"⟩ : MethodName)) hown (mvT hZ (hw _ (List.mem_of_getElem? (i := 57) rfl))) (mvT hZ (hw _ (List.mem_of_getElem? (i := 58) rfl))) (mvT hZ (hw _ (List.mem_of_getElem? (i := 43) rfl))) (mvT hZ (hw _ (List.mem_of_getElem? (i := 59) rfl))) (by decide) (backOf (W := 1) (rm9 l Z a0 hw [] ((64 : Int32) - (1 : Int32)) h0 n0 Z0 ) hZ (hw _ (List.mem_of_getElem? (i := 59) rfl)) (hw _ (List.mem_of_getElem? (i := 43) rfl)) (by decide) (by decide)) (g := (mkF m 4 #[.val (.ref oa), .val (.int (64 : Int32))] [(.int ((64 : Int32) - (1 : Int32))), (.ref oa)])) rfl (by rw [hml]; rfl) (argsL := [(.int ((64 : Int32) - (1 : Int32)))]) (rest := [(.ref oa)]) (lenOf own_pd2 rfl) rfl (by show 2 * 0 + _ ≤ _; exact Nat.le_of_eq rfl) (hb hby d8_4) (fun _ _ => ⟨rfl, e0, (by decide : 0 + 0 ≤ _), (by decide : 0 + 0 ≤ _)⟩)
  dsimp only [Pt.U, Pt.locs, Pt.cells, Pt.slots] at X1 l1 y1 z1 st1 hQ1
  subst l1 y1 z1
  obtain ⟨rfl, Nq1, hh1⟩ := hQ1
  obtain ⟨lc1, Xh1, N1⟩ := own_hide X1 (Fr.app N0 Nq1)
  clear X1
  refine Go.via st1 ?_
  show Go p.tables e below P T1 (mkF m 7 #[.val (.ref oa), .val (.int (64 : Int32))] [(.int (((64 : Int32) - (1 : Int32)) >>> ((6 : Int32) &&& 31))), (.ref oa)])
  refine Go.via (fun t k => XS.iconst Xh1.here hx rfl (hb hby d8_7) k) ?_
  show Go p.tables e below P T1 (mkF m 8 #[.val (.ref oa), .val (.int (64 : Int32))] [(.int (1 : Int32)), (.int (((64 : Int32) - (1 : Int32)) >>> ((6 : Int32) &&& 31))), (.ref oa)])
  refine Go.via (fun t k => XS.iadd Xh1.here hx rfl (hb hby d8_8) rfl k) ?_
  show Go p.tables e below P T1 (mkF m 9 #[.val (.ref oa), .val (.int (64 : Int32))] [(.int ((((64 : Int32) - (1 : Int32)) >>> ((6 : Int32) &&& 31)) + (1 : Int32))), (.ref oa)])
  obtain ⟨T2, h2, k2, X2, e2, E2, A2, B2, st2⟩ := newPE Xh1 hx hZ (hw _ (List.mem_of_getElem? (i := 60) rfl)) hh1 (g := (mkF m 9 #[.val (.ref oa), .val (.int (64 : Int32))] [(.int ((((64 : Int32) - (1 : Int32)) >>> ((6 : Int32) &&& 31)) + (1 : Int32))), (.ref oa)])) rfl (hb hby d8_9) rfl (by decide) (cap := 1) (by decide) (by decide) (by decide) (by decide) (ad := "[J") (by decide)
  obtain ⟨b2, g2⟩ : ∃ z, z = h0.size := ⟨_, rfl⟩
  rw [← g2] at A2 B2 st2
  refine Go.via st2 ?_
  have ne3 : oa ≠ b2 := Nat.ne_of_lt (Nat.lt_of_lt_of_le P0.lt (Nat.le_of_eq g2.symm))
  have g4 : n0 ≤ b2 := Nat.le_trans Z0 (Nat.le_of_eq g2.symm)
  have sz5 : h0.size ≤ b2 := Nat.le_trans K0.1 (Nat.le_of_eq g2.symm)
  have Z6 : n0 ≤ h2.size := Nat.le_trans Z0 E2.1
  have K7 : Keep h0 h2 [oa] := K0.ext E2
  have V2 : Arv Z h2 b2 k2 .long ((((64 : Int32) - (1 : Int32)) >>> ((6 : Int32) &&& 31)) + (1 : Int32)) [(.long (0 : Int64))] (.long (0 : Int64)) := (Arv.new A2 (by decide)).pad (pad_rep [] (.long (0 : Int64)) 1)
  show Go p.tables e below P T2 (mkF m 11 #[.val (.ref oa), .val (.int (64 : Int32))] [(.ref b2), (.ref oa)])
  have F8 : Exa Z h2 oa "java/util/BitSet" := (P0.ext E2)
  have F9 : Fld Z h2 oa "java/util/BitSet" "words" "[J" .null := (P3.ext E2)
  have F10 : Fld Z h2 oa "java/util/BitSet" "wordsInUse" "I" (.int (0 : Int32)) := (P1.ext E2)
  have F11 : Fld Z h2 oa "java/util/BitSet" "sizeIsSticky" "Z" (.int (0 : Int32)) := (P2.ext E2)
  obtain ⟨T12, h12, X12, e12, W12, st12⟩ := putF X2 hx hZ hown (host := "") (Or.inl (hw _ (List.mem_of_getElem? (i := 61) rfl))) Via.refl e2 F9 F8 (Or.inl (hw _ (List.mem_of_getElem? (i := 62) rfl))) (hw _ (List.mem_of_getElem? (i := 42) rfl)) (ty := (.array .long)) (by decide) rfl rfl (g := (mkF m 11 #[.val (.ref oa), .val (.int (64 : Int32))] [(.ref b2), (.ref oa)])) rfl rfl (hb hby d8_11)
  refine Go.via st12 ?_
  have Z13 : n0 ≤ h12.size := Nat.le_trans Z6 (Nat.le_of_eq W12.size.symm)
  have K14 : Keep h0 h12 [oa] := K7.wr W12 (Or.inl (List.mem_of_getElem? (i := 0) rfl))
  obtain ⟨lc12, Xh12, N15⟩ := own_hide X12 (Fr.snoc X12 N1 ga)
  clear X12
  have Fw12 := F9.same W12
  show Go p.tables e below P T12 (mkF m 14 #[.val (.ref oa), .val (.int (64 : Int32))] [])
  obtain ⟨fs, hr, hrun, hended, hW, hsame⟩ := Xh12.leave (v := none) (fun _ => rfl)
  have F17 : Exa Z h12 oa "java/util/BitSet" := (F8.wr W12)
  have F18 : Fld Z h12 oa "java/util/BitSet" "wordsInUse" "I" (.int (0 : Int32)) := (F10.other W12 (Or.inr (slot_ne (Or.inl (hw _ (List.mem_of_getElem? (i := 49) rfl))) (Or.inl (hw _ (List.mem_of_getElem? (i := 62) rfl))) (by decide) (t := .int) (t' := (.array .long)) (by decide) (by decide))))
  have F19 : Fld Z h12 oa "java/util/BitSet" "sizeIsSticky" "Z" (.int (0 : Int32)) := (F11.other W12 (Or.inr (slot_ne (Or.inl (hw _ (List.mem_of_getElem? (i := 51) rfl))) (Or.inl (hw _ (List.mem_of_getElem? (i := 62) rfl))) (by decide) (t := .boolean) (t' := (.array .long)) (by decide) (by decide))))
  refine ⟨_, _, Xh12.returnOut hx Bd.returns (hb hby d8_14) hr, hrun, hended, hP _ _ ⟨_, _, rfl, ?_, ⟨_, rfl⟩, hW, hsame.mono (by decide) (by decide)⟩⟩
  show Q8 Z oa h0 n0 _ T12.heap _
  rw [e12]
  exact ⟨rfl, N15, K14, F17, F18, F19⟩
theorem own_pd3 : parseMethodDescriptor "(I)V" = some ⟨[.int], none⟩ := by decide +kernel
theorem d7_0 : decode jdk_92_method_4_code 0 = .ok (.aload_n 0, 1) := by decide +kernel
theorem d7_1 : decode jdk_92_method_4_code 1 = .ok (.invokespecial 21, 3) := by decide +kernel
theorem d7_4 : decode jdk_92_method_4_code 4 = .ok (.aload_n 0, 1) := by decide +kernel
theorem d7_5 : decode jdk_92_method_4_code 5 = .ok (.iconst 0, 1) := by decide +kernel
theorem d7_6 : decode jdk_92_method_4_code 6 = .ok (.putfield 7, 3) := by decide +kernel
theorem d7_9 : decode jdk_92_method_4_code 9 = .ok (.aload_n 0, 1) := by decide +kernel
theorem d7_10 : decode jdk_92_method_4_code 10 = .ok (.iconst 0, 1) := by decide +kernel
theorem d7_11 : decode jdk_92_method_4_code 11 = .ok (.putfield 24, 3) := by decide +kernel
theorem d7_14 : decode jdk_92_method_4_code 14 = .ok (.aload_n 0, 1) := by decide +kernel
theorem d7_15 : decode jdk_92_method_4_code 15 = .ok (.bipush 64, 2) := by decide +kernel
theorem d7_17 : decode jdk_92_method_4_code 17 = .ok (.invokevirtual 27, 3) := by decide +kernel
theorem d7_20 : decode jdk_92_method_4_code 20 = .ok (.aload_n 0, 1) := by decide +kernel
theorem d7_21 : decode jdk_92_method_4_code 21 = .ok (.iconst 0, 1) := by decide +kernel
theorem d7_22 : decode jdk_92_method_4_code 22 = .ok (.putfield 24, 3) := by decide +kernel
theorem d7_25 : decode jdk_92_method_4_code 25 = .ok (.return_, 1) := by decide +kernel
theorem ef_7 (m : MethodId) (x0 : Addr) : entryFrame m #[(.ref x0)] 1 = mkF m 0 #[.val (.ref x0)] [] := by first | (simp [entryFrame, mkF, argsToLocals, Value.category]; done) | rfl
def Q7 (Z : State) (oa : Addr) (h0 : Heap) (n0 : Nat) (v : Option Value) (h : Heap) (L : List Loc) : Prop := v = none ∧ Fr n0 L ∧ Keep h0 h [oa] ∧ Exa Z h oa "java/util/BitSet"
set_option maxRecDepth 65536 in
set_option maxHeartbeats 40000000 in
theorem rm7 (l : Launch) (Z : State) (a0 : Array Value) (hw : ∀ d ∈ tables_1, d.before a0 Z = true) (ws : List Jvm.Cond) (oa : Addr) (h0 : Heap) (n0 : Nat) (Z0 : n0 ≤ h0.size) (P0 : Exa Z h0 oa "java/util/BitSet") (P1 : Fld Z h0 oa "java/util/BitSet" "wordsInUse" "I" (.int (0 : Int32))) (P2 : Fld Z h0 oa "java/util/BitSet" "sizeIsSticky" "Z" (.int (0 : Int32))) (P3 : Fld Z h0 oa "java/util/BitSet" "words" "[J" .null) (ga : n0 ≤ oa) :
    MetFree l (⟨"java/util/BitSet", "<init>", "()V"⟩ : MethodName) (head1 (Jvm.Cond.code (⟨"java/util/BitSet", "<init>", "()V"⟩ : MethodName) jdk_92_method_4_code 1 none :: ws) ({ frames := 2, cells := 1, slots := 1, locals := 26 } : Room)) (fun a U => a = #[(.ref oa)] ∧ Z.Warmed39 U.vm ∧ U.heap = h0) (fun _ _ _ _ _ => True) (fun _ U o U' => ∃ v L, o = .returned v ∧ Q7 Z oa h0 n0 v U'.heap L ∧ FrameEnd U o U' L ({ frames := 2, cells := 1, slots := 1, locals := 26 } : Room).cells ({ frames := 2, cells := 1, slots := 1, locals := 26 } : Room).slots) := by
  refine MetFree.of_bodySF (plainFor_of_name own_pn4) hisR ?_
  intro p e s m args below meth c s₁ Bd hml0 hP hK
  obtain ⟨rfl, hZ, hh⟩ := hP
  have hx := Bd.exec
  have hby := Bd.bytes
  have hml : c.maxLocals = 1 := hml0
  have hown : s.vm.findClass "java/util/BitSet" = some m.cls := findClass_of_methodNamed Bd.named
  have hnm := (name_of_methodNamed Bd.named Bd.method).1
  have X0 : Stand p l e ({ frames := 2, cells := 1, slots := 1, locals := 26 } : Room) s m #[(.ref oa)] below meth c s₁ [] 0 0 := Stand.of_body Bd
  have e0 : s₁.heap = h0 := by rw [← hh, Bd.state]; rfl
  have N0 := Fr.nil n0
  have K0 : Keep h0 h0 [oa] := Keep.refl _ _
  suffices GO : ∀ P : Outcome → State → Prop, (∀ o U', (∃ v L, o = .returned v ∧ Q7 Z oa h0 n0 v U'.heap L ∧ FrameEnd s o U' L ({ frames := 2, cells := 1, slots := 1, locals := 26 } : Room).cells ({ frames := 2, cells := 1, slots := 1, locals := 26 } : Room).slots) → P o U') → Go p.tables e below P s₁ (mkF m 0 #[.val (.ref oa)] []) by
    obtain ⟨s2, o, st, r⟩ := GO _ (fun _ _ q => q)
    exact ⟨s2, o, castTop (ef_7 m oa) st, r⟩
  clear hh
  intro P hP
  show Go p.tables e below P s₁ (mkF m 0 #[.val (.ref oa)] [])
  refine Go.via (fun t k => XS.aloadN X0.here hx rfl (hb hby d7_0) rfl rfl k) ?_
  show Go p.tables e below P s₁ (mkF m 1 #[.val (.ref oa)] [(.ref oa)])
  obtain ⟨T1, X1, e1, st1⟩ := initO X0 hx hZ hown (hw _ (List.mem_of_getElem? (i := 47) rfl)) (hw _ (List.mem_of_getElem? (i := 13) rfl)) (hw _ (List.mem_of_getElem? (i := 14) rfl)) e0 (g := (mkF m 1 #[.val (.ref oa)] [(.ref oa)])) rfl (by rw [hml]; rfl) rfl (hb hby d7_1) (by decide) (W := 0) (by show 2 * 0 + _ ≤ _; exact Nat.le_of_eq rfl) (by decide)
  refine Go.via st1 ?_
  show Go p.tables e below P T1 (mkF m 4 #[.val (.ref oa)] [])
  refine Go.via (fun t k => XS.aloadN X1.here hx rfl (hb hby d7_4) rfl rfl k) ?_
  show Go p.tables e below P T1 (mkF m 5 #[.val (.ref oa)] [(.ref oa)])
  refine Go.via (fun t k => XS.iconst X1.here hx rfl (hb hby d7_5) k) ?_
  show Go p.tables e below P T1 (mkF m 6 #[.val (.ref oa)] [(.int (0 : Int32)), (.ref oa)])
  obtain ⟨T2, h2, X2, e2, W2, st2⟩ := putF X1 hx hZ hown (host := "") (Or.inl (hw _ (List.mem_of_getElem? (i := 48) rfl))) Via.refl e1 P1 P0 (Or.inl (hw _ (List.mem_of_getElem? (i := 49) rfl))) (hw _ (List.mem_of_getElem? (i := 42) rfl)) (ty := .int) (by decide) rfl rfl (g := (mkF m 6 #[.val (.ref oa)] [(.int (0 : Int32)), (.ref oa)])) rfl rfl (hb hby d7_6)
  refine Go.via st2 ?_
  have Z3 : n0 ≤ h2.size := Nat.le_trans Z0 (Nat.le_of_eq W2.size.symm)
  have K4 : Keep h0 h2 [oa] := K0.wr W2 (Or.inl (List.mem_of_getElem? (i := 0) rfl))
  obtain ⟨lc2, Xh2, N5⟩ := own_hide X2 (Fr.snoc X2 N0 ga)
  clear X2
  have Fw2 := P1.same W2
  show Go p.tables e below P T2 (mkF m 9 #[.val (.ref oa)] [])
  refine Go.via (fun t k => XS.aloadN Xh2.here hx rfl (hb hby d7_9) rfl rfl k) ?_
  show Go p.tables e below P T2 (mkF m 10 #[.val (.ref oa)] [(.ref oa)])
  refine Go.via (fun t k => XS.iconst Xh2.here hx rfl (hb hby d7_10) k) ?_
  show Go p.tables e below P T2 (mkF m 11 #[.val (.ref oa)] [(.int (0 : Int32)), (.ref oa)])
  have F6 : Exa Z h2 oa "java/util/BitSet" := (P0.wr W2)
  have F7 : Fld Z h2 oa "java/util/BitSet" "sizeIsSticky" "Z" (.int (0 : Int32)) := (P2.other W2 (Or.inr (slot_ne (Or.inl (hw _ (List.mem_of_getElem? (i := 51) rfl))) (Or.inl (hw _ (List.mem_of_getElem? (i := 49) rfl))) (by decide) (t := .boolean) (t' := .int) (by decide) (by decide))))
  have F8 : Fld Z h2 oa "java/util/BitSet" "words" "[J" .null := (P3.other W2 (Or.inr (slot_ne (Or.inl (hw _ (List.mem_of_getElem? (i := 62) rfl))) (Or.inl (hw _ (List.mem_of_getElem? (i := 49) rfl))) (by decide) (t := (.array .long)) (t' := .int) (by decide) (by decide))))
  obtain ⟨T9, h9, X9, e9, W9, st9⟩ := putF Xh2 hx hZ hown (host := "") (Or.inl (hw _ (List.mem_of_getElem? (i := 50) rfl))) Via.refl e2 F7 F6 (Or.inl (hw _ (List.mem_of_getElem? (i := 51) rfl))) (hw _ (List.mem_of_getElem? (i := 42) rfl)) (ty := .boolean) (by decide) rfl rfl (g := (mkF m 11 #[.val (.ref oa)] [(.int (0 : Int32)), (.ref oa)])) rfl rfl (hb hby d7_11)
  refine Go.via st9 ?_
  have Z10 : n0 ≤ h9.size := Nat.le_trans Z3 (Nat.le_of_eq W9.size.symm)
  have K11 : Keep h0 h9 [oa] := K4.wr W9 (Or.inl (List.mem_of_getElem? (i := 0) rfl))
  obtain ⟨lc9, Xh9, N12⟩ := own_hide X9 (Fr.snoc X9 N5 ga)
  clear X9
  have Fw9 := F7.same W9
  show Go p.tables e below P T9 (mkF m 14 #[.val (.ref oa)] [])
  refine Go.via (fun t k => XS.aloadN Xh9.here hx rfl (hb hby d7_14) rfl rfl k) ?_
  show Go p.tables e below P T9 (mkF m 15 #[.val (.ref oa)] [(.ref oa)])
  refine Go.via (fun t k => XS.bipush Xh9.here hx rfl (hb hby d7_15) k) ?_
  show Go p.tables e below P T9 (mkF m 17 #[.val (.ref oa)] [(.int (64 : Int32)), (.ref oa)])
  have F13 : Exa Z h9 oa "java/util/BitSet" := (F6.wr W9)
  have F14 : Fld Z h9 oa "java/util/BitSet" "wordsInUse" "I" (.int (0 : Int32)) := (Fw2.other W9 (Or.inr (slot_ne (Or.inl (hw _ (List.mem_of_getElem? (i := 49) rfl))) (Or.inl (hw _ (List.mem_of_getElem? (i := 51) rfl))) (by decide) (t := .int) (t' := .boolean) (by decide) (by decide))))
  have F15 : Fld Z h9 oa "java/util/BitSet" "words" "[J" .null := (F8.other W9 (Or.inr (slot_ne (Or.inl (hw _ (List.mem_of_getElem? (i := 62) rfl))) (Or.inl (hw _ (List.mem_of_getElem? (i := 51) rfl))) (by decide) (t := (.array .long)) (t' := .boolean) (by decide) (by decide))))
  obtain ⟨cq16, q16, q16'⟩ := F13.cell
  obtain ⟨_, _, ⟨T16, L16, k16, n16⟩, -, X16, ⟨Lc16, hQ16, l16, y16, z16⟩, st16⟩ := Xh9.privateBack hx (y := (⟨"java/util/BitSet", "initWords", "(I)V"⟩ : MethodName)) hown (mvT hZ (hw _ (List.mem_of_getElem? (i := 52) rfl))) (mvT hZ (hw _ (List.mem_of_getElem? (i := 53) rfl))) (mvT hZ (hw _ (List.mem_of_getElem? (i := 55) rfl))) (Cond.privateMethod_at (mvP hZ (hw _ (List.mem_of_getElem? (i := 54) rfl)) (args := #[]))) (mvT hZ (hw _ (List.mem_of_getElem? (i := 56) rfl))) (by decide) (backOf (W := 0) (rm8 l Z a0 hw [] oa h9 n0 Z10 F13 F14 Fw9 F15 ga) hZ (hw _ (List.mem_of_getElem? (i := 56) rfl)) (hw _ (List.mem_of_getElem? (i := 43) rfl)) (by decide) (by decide)) (g := (mkF m 17 #[.val (.ref oa)] [(.int (64 : Int32)), (.ref oa)])) rfl (by rw [hml]; rfl) (Steps.refl _) (a := oa) (by rw [e9]; exact q16) q16' (argsL := [(.int (64 : Int32))]) (rest := []) (lenOf own_pd3 rfl) rfl (by show 2 * 0 + _ ≤ _; exact Nat.le_of_eq rfl) (hb hby d7_17) (fun _ _ => ⟨rfl, e9, (by decide : 0 + 1 ≤ _), (by decide : 0 + 1 ≤ _)⟩)
  dsimp only [Pt.U, Pt.locs, Pt.cells, Pt.slots] at X16 l16 y16 z16 st16 hQ16
  subst l16 y16 z16
  obtain ⟨rfl, Nq16, K16, u16_0, u16_1, u16_2⟩ := hQ16
  obtain ⟨lc16, Xh16, N16⟩ := own_hide X16 (Fr.app N12 Nq16)
  clear X16
  refine Go.hop st16 ?_
  have Z17 : n0 ≤ T16.heap.size := Nat.le_trans Z10 K16.1
  have K18 : Keep h0 T16.heap [oa] := K11.trans K16 (own_allC (Or.inl (List.mem_of_getElem? (i := 0) rfl)) own_all0)
  show Go p.tables e below P T16 (mkF m 20 #[.val (.ref oa)] [])
  refine Go.via (fun t k => XS.aloadN Xh16.here hx rfl (hb hby d7_20) rfl rfl k) ?_
  show Go p.tables e below P T16 (mkF m 21 #[.val (.ref oa)] [(.ref oa)])
  refine Go.via (fun t k => XS.iconst Xh16.here hx rfl (hb hby d7_21) k) ?_
  show Go p.tables e below P T16 (mkF m 22 #[.val (.ref oa)] [(.int (0 : Int32)), (.ref oa)])
  obtain ⟨T19, h19, X19, e19, W19, st19⟩ := putF Xh16 hx hZ hown (host := "") (Or.inl (hw _ (List.mem_of_getElem? (i := 50) rfl))) Via.refl rfl u16_2 u16_0 (Or.inl (hw _ (List.mem_of_getElem? (i := 51) rfl))) (hw _ (List.mem_of_getElem? (i := 42) rfl)) (ty := .boolean) (by decide) rfl rfl (g := (mkF m 22 #[.val (.ref oa)] [(.int (0 : Int32)), (.ref oa)])) rfl rfl (hb hby d7_22)
  refine Go.via st19 ?_
  have Z20 : n0 ≤ h19.size := Nat.le_trans Z17 (Nat.le_of_eq W19.size.symm)
  have K21 : Keep h0 h19 [oa] := K18.wr W19 (Or.inl (List.mem_of_getElem? (i := 0) rfl))
  obtain ⟨lc19, Xh19, N22⟩ := own_hide X19 (Fr.snoc X19 N16 ga)
  clear X19
  have Fw19 := u16_2.same W19
  show Go p.tables e below P T19 (mkF m 25 #[.val (.ref oa)] [])
  obtain ⟨fs, hr, hrun, hended, hW, hsame⟩ := Xh19.leave (v := none) (fun _ => rfl)
  have F24 : Exa Z h19 oa "java/util/BitSet" := (u16_0.wr W19)
  refine ⟨_, _, Xh19.returnOut hx Bd.returns (hb hby d7_25) hr, hrun, hended, hP _ _ ⟨_, _, rfl, ?_, ⟨_, rfl⟩, hW, hsame.mono (by decide) (by decide)⟩⟩
  show Q7 Z oa h0 n0 _ T19.heap _
  rw [e19]
  exact ⟨rfl, N22, K21, F24⟩
theorem own_pn5 : plainName "com/example/numeric_planner/numericplanner/diagram/LinearFeasibility$Rows" = true := by first | (simp [plainName, overriddenIn]; done) | decide +kernel
theorem d2_0 : decode prog_24_method_1_code 0 = .ok (.aload_n 0, 1) := by decide +kernel
theorem d2_1 : decode prog_24_method_1_code 1 = .ok (.invokespecial 1, 3) := by decide +kernel
theorem d2_4 : decode prog_24_method_1_code 4 = .ok (.aload_n 0, 1) := by decide +kernel
theorem d2_5 : decode prog_24_method_1_code 5 = .ok (.new 7, 3) := by decide +kernel
theorem d2_8 : decode prog_24_method_1_code 8 = .ok (.dup, 1) := by decide +kernel
theorem d2_9 : decode prog_24_method_1_code 9 = .ok (.invokespecial 9, 3) := by decide +kernel
theorem d2_12 : decode prog_24_method_1_code 12 = .ok (.putfield 10, 3) := by decide +kernel
theorem d2_15 : decode prog_24_method_1_code 15 = .ok (.aload_n 0, 1) := by decide +kernel
theorem d2_16 : decode prog_24_method_1_code 16 = .ok (.new 16, 3) := by decide +kernel
theorem d2_19 : decode prog_24_method_1_code 19 = .ok (.dup, 1) := by decide +kernel
theorem d2_20 : decode prog_24_method_1_code 20 = .ok (.invokespecial 18, 3) := by decide +kernel
theorem d2_23 : decode prog_24_method_1_code 23 = .ok (.putfield 19, 3) := by decide +kernel
theorem d2_26 : decode prog_24_method_1_code 26 = .ok (.aload_n 0, 1) := by decide +kernel
theorem d2_27 : decode prog_24_method_1_code 27 = .ok (.aload_n 1, 1) := by decide +kernel
theorem d2_28 : decode prog_24_method_1_code 28 = .ok (.invokevirtual 23, 3) := by decide +kernel
theorem d2_31 : decode prog_24_method_1_code 31 = .ok (.checkcast 24, 3) := by decide +kernel
theorem d2_34 : decode prog_24_method_1_code 34 = .ok (.putfield 29, 3) := by decide +kernel
theorem d2_37 : decode prog_24_method_1_code 37 = .ok (.return_, 1) := by decide +kernel
theorem ef_2 (m : MethodId) (x0 : Addr) (x1 : Addr) : entryFrame m #[(.ref x0), (.ref x1)] 2 = mkF m 0 #[.val (.ref x0), .val (.ref x1)] [] := by first | (simp [entryFrame, mkF, argsToLocals, Value.category]; done) | rfl
def Q2 (Z : State) (oa : Addr) (ob : Addr) (de : Addr) (kk : ClassId) (nn : Int32) (xs : List Int32) (h0 : Heap) (n0 : Nat) (v : Option Value) (h : Heap) (L : List Loc) : Prop := ∃ (os : Addr), v = none ∧ Fr n0 L ∧ Keep h0 h [oa] ∧ h0.size ≤ os ∧ Exa Z h oa "com/example/numeric_planner/numericplanner/diagram/LinearFeasibility$Rows" ∧ Fld Z h oa "com/example/numeric_planner/numericplanner/diagram/LinearFeasibility$Rows" "squares" "[Z" (.ref os) ∧ Arv Z h os kk .boolean nn (xs.map Value.int) (.int (0 : Int32))
set_option maxRecDepth 65536 in
set_option maxHeartbeats 40000000 in
theorem rm2 (l : Launch) (Z : State) (a0 : Array Value) (hw : ∀ d ∈ tables_1, d.before a0 Z = true) (ws : List Jvm.Cond) (oa : Addr) (ob : Addr) (de : Addr) (kk : ClassId) (nn : Int32) (xs : List Int32) (h0 : Heap) (n0 : Nat) (Z0 : n0 ≤ h0.size) (O0 : Old Z n0 h0) (P1 : Sta Z Z.heap "java/util/ArrayList" "DEFAULTCAPACITY_EMPTY_ELEMENTDATA" "[Ljava/lang/Object;" (.ref de)) (P2 : Exa Z h0 oa "com/example/numeric_planner/numericplanner/diagram/LinearFeasibility$Rows") (P3 : Fld Z h0 oa "com/example/numeric_planner/numericplanner/diagram/LinearFeasibility$Rows" "small" "Ljava/util/List;" .null) (P4 : Fld Z h0 oa "com/example/numeric_planner/numericplanner/diagram/LinearFeasibility$Rows" "strict" "Ljava/util/BitSet;" .null) (P5 : Fld Z h0 oa "com/example/numeric_planner/numericplanner/diagram/LinearFeasibility$Rows" "squares" "[Z" .null) (P6 : Exa Z h0 ob "[Z") (P7 : Arv Z h0 ob kk .boolean nn (xs.map Value.int) (.int (0 : Int32))) (ga : n0 ≤ oa) (hab : ob ≠ oa) (hcap : nn.toNatClampNeg ≤ 8) :
    MetFree l (⟨"com/example/numeric_planner/numericplanner/diagram/LinearFeasibility$Rows", "<init>", "([Z)V"⟩ : MethodName) (head1 (Jvm.Cond.code (⟨"com/example/numeric_planner/numericplanner/diagram/LinearFeasibility$Rows", "<init>", "([Z)V"⟩ : MethodName) prog_24_method_1_code 2 none :: ws) ({ frames := 4, cells := 4, slots := 15, locals := 50 } : Room)) (fun a U => a = #[(.ref oa), (.ref ob)] ∧ Z.Warmed39 U.vm ∧ U.heap = h0) (fun _ _ _ _ _ => True) (fun _ U o U' => ∃ v L, o = .returned v ∧ Q2 Z oa ob de kk nn xs h0 n0 v U'.heap L ∧ FrameEnd U o U' L ({ frames := 4, cells := 4, slots := 15, locals := 50 } : Room).cells ({ frames := 4, cells := 4, slots := 15, locals := 50 } : Room).slots) := by
  refine MetFree.of_bodySF (plainFor_of_name own_pn5) hisR ?_
  intro p e s m args below meth c s₁ Bd hml0 hP hK
  obtain ⟨rfl, hZ, hh⟩ := hP
  have hx := Bd.exec
  have hby := Bd.bytes
  have hml : c.maxLocals = 2 := hml0
  have hown : s.vm.findClass "com/example/numeric_planner/numericplanner/diagram/LinearFeasibility$Rows" = some m.cls := findClass_of_methodNamed Bd.named
  have hnm := (name_of_methodNamed Bd.named Bd.method).1
  have X0 : Stand p l e ({ frames := 4, cells := 4, slots := 15, locals := 50 } : Room) s m #[(.ref oa), (.ref ob)] below meth c s₁ [] 0 0 := Stand.of_body Bd
  have e0 : s₁.heap = h0 := by rw [← hh, Bd.state]; rfl
  have N0 := Fr.nil n0
  have K0 : Keep h0 h0 [oa] := Keep.refl _ _
  suffices GO : ∀ P : Outcome → State → Prop, (∀ o U', (∃ v L, o = .returned v ∧ Q2 Z oa ob de kk nn xs h0 n0 v U'.heap L ∧ FrameEnd s o U' L ({ frames := 4, cells := 4, slots := 15, locals := 50 } : Room).cells ({ frames := 4, cells := 4, slots := 15, locals := 50 } : Room).slots) → P o U') → Go p.tables e below P s₁ (mkF m 0 #[.val (.ref oa), .val (.ref ob)] []) by
    obtain ⟨s2, o, st, r⟩ := GO _ (fun _ _ q => q)
    exact ⟨s2, o, castTop (ef_2 m oa ob) st, r⟩
  clear hh
  intro P hP
  show Go p.tables e below P s₁ (mkF m 0 #[.val (.ref oa), .val (.ref ob)] [])
  refine Go.via (fun t k => XS.aloadN X0.here hx rfl (hb hby d2_0) rfl rfl k) ?_
  show Go p.tables e below P s₁ (mkF m 1 #[.val (.ref oa), .val (.ref ob)] [(.ref oa)])
  obtain ⟨T1, X1, e1, st1⟩ := initO X0 hx hZ hown (hw _ (List.mem_of_getElem? (i := 12) rfl)) (hw _ (List.mem_of_getElem? (i := 13) rfl)) (hw _ (List.mem_of_getElem? (i := 14) rfl)) e0 (g := (mkF m 1 #[.val (.ref oa), .val (.ref ob)] [(.ref oa)])) rfl (by rw [hml]; rfl) rfl (hb hby d2_1) (by decide) (W := 0) (by show 2 * 0 + _ ≤ _; exact Nat.le_of_eq rfl) (by decide)
  refine Go.via st1 ?_
  show Go p.tables e below P T1 (mkF m 4 #[.val (.ref oa), .val (.ref ob)] [])
  refine Go.via (fun t k => XS.aloadN X1.here hx rfl (hb hby d2_4) rfl rfl k) ?_
  show Go p.tables e below P T1 (mkF m 5 #[.val (.ref oa), .val (.ref ob)] [(.ref oa)])
  obtain ⟨T2, h2, X2, e2, E2, A2, D2, -, st2⟩ := newO X1 hx hZ hown (hw _ (List.mem_of_getElem? (i := 15) rfl)) (hw _ (List.mem_of_getElem? (i := 16) rfl)) (hw _ (List.mem_of_getElem? (i := 17) rfl)) e1 (g := (mkF m 5 #[.val (.ref oa), .val (.ref ob)] [(.ref oa)])) rfl (hb hby d2_5) (by decide) (by decide)
  obtain ⟨b2, g2⟩ : ∃ z, z = h0.size := ⟨_, rfl⟩
  rw [← g2] at A2 D2 st2
  refine Go.via st2 ?_
  have ne3 : oa ≠ b2 := Nat.ne_of_lt (Nat.lt_of_lt_of_le P2.lt (Nat.le_of_eq g2.symm))
  have ne4 : ob ≠ b2 := Nat.ne_of_lt (Nat.lt_of_lt_of_le P6.lt (Nat.le_of_eq g2.symm))
  have g5 : n0 ≤ b2 := Nat.le_trans Z0 (Nat.le_of_eq g2.symm)
  have sz6 : h0.size ≤ b2 := Nat.le_trans K0.1 (Nat.le_of_eq g2.symm)
  have Z7 : n0 ≤ h2.size := Nat.le_trans Z0 E2.1
  have K8 : Keep h0 h2 [oa] := K0.ext E2
  have O9 : Old Z n0 h2 := O0.ext E2
  show Go p.tables e below P T2 (mkF m 8 #[.val (.ref oa), .val (.ref ob)] [(.ref b2), (.ref oa)])
  refine Go.via (fun t k => XS.dup X2.here hx rfl (hb hby d2_8) rfl rfl k) ?_
  show Go p.tables e below P T2 (mkF m 9 #[.val (.ref oa), .val (.ref ob)] [(.ref b2), (.ref b2), (.ref oa)])
  have F10 : Exa Z h2 oa "com/example/numeric_planner/numericplanner/diagram/LinearFeasibility$Rows" := (P2.ext E2)
  have F11 : Fld Z h2 oa "com/example/numeric_planner/numericplanner/diagram/LinearFeasibility$Rows" "small" "Ljava/util/List;" .null := (P3.ext E2)
  have F12 : Fld Z h2 oa "com/example/numeric_planner/numericplanner/diagram/LinearFeasibility$Rows" "strict" "Ljava/util/BitSet;" .null := (P4.ext E2)
  have F13 : Fld Z h2 oa "com/example/numeric_planner/numericplanner/diagram/LinearFeasibility$Rows" "squares" "[Z" .null := (P5.ext E2)
  have F14 : Exa Z h2 ob "[Z" := (P6.ext E2)
  have F15 : Arv Z h2 ob kk .boolean nn (xs.map Value.int) (.int (0 : Int32)) := (P7.ext E2)
  obtain ⟨_, _, ⟨T16, L16, k16, n16⟩, -, X16, ⟨Lc16, hQ16, l16, y16, z16⟩, st16⟩ := X2.specialBack hx (y := (⟨"java/util/ArrayList", "<init>", "()V"⟩ : MethodName)) rfl hown (mvT hZ (hw _ (List.mem_of_getElem? (i := 18) rfl))) (mvT hZ (hw _ (List.mem_of_getElem? (i := 19) rfl))) (mvT hZ (hw _ (List.mem_of_getElem? (i := 20) rfl))) (by decide) (backOf (W := 2) (rm4 l Z a0 hw [] b2 de h2 n0 Z7 O9 P1 A2 (D2 (Or.inl (hw _ (List.mem_of_getElem? (i := 35) rfl))) (ty := .int) (by decide) : Fld Z h2 b2 "java/util/AbstractList" "modCount" "I" (.int (0 : Int32))) (D2 (Or.inl (hw _ (List.mem_of_getElem? (i := 38) rfl))) (ty := (.array (.object "java/lang/Object"))) (by decide) : Fld Z h2 b2 "java/util/ArrayList" "elementData" "[Ljava/lang/Object;" .null) g5) hZ (hw _ (List.mem_of_getElem? (i := 20) rfl)) (hw _ (List.mem_of_getElem? (i := 17) rfl)) (by decide) (by decide)) (g := (mkF m 9 #[.val (.ref oa), .val (.ref ob)] [(.ref b2), (.ref b2), (.ref oa)])) rfl (by rw [hml]; rfl) (Steps.refl _) (a := b2) (argsL := []) (rest := [(.ref b2), (.ref oa)]) (lenOf own_pd1 rfl) rfl (by show 2 * 0 + _ ≤ _; exact Nat.le_of_eq rfl) (hb hby d2_9) (fun _ _ => ⟨rfl, e2, (by decide : 1 + 0 ≤ _), (by decide : 3 + 0 ≤ _)⟩)
  dsimp only [Pt.U, Pt.locs, Pt.cells, Pt.slots] at X16 l16 y16 z16 st16 hQ16
  subst l16 y16 z16
  obtain ⟨rfl, Nq16, K16, u16_0⟩ := hQ16
  obtain ⟨lc16, Xh16, N16⟩ := own_hide X16 (Fr.app N0 Nq16)
  clear X16
  refine Go.hop st16 ?_
  have Z17 : n0 ≤ T16.heap.size := Nat.le_trans Z7 K16.1
  have K18 : Keep h0 T16.heap [oa] := K8.trans K16 (own_allC (Or.inr sz6) own_all0)
  have O19 : Old Z n0 T16.heap := O9.keep K16 (own_allC g5 own_all0)
  show Go p.tables e below P T16 (mkF m 12 #[.val (.ref oa), .val (.ref ob)] [(.ref b2), (.ref oa)])
  have F20 : Exa Z T16.heap oa "com/example/numeric_planner/numericplanner/diagram/LinearFeasibility$Rows" := (F10.keep K16)
  have F21 : Fld Z T16.heap oa "com/example/numeric_planner/numericplanner/diagram/LinearFeasibility$Rows" "small" "Ljava/util/List;" .null := (F11.keep K16 (own_ninC ne3 own_nin0))
  have F22 : Fld Z T16.heap oa "com/example/numeric_planner/numericplanner/diagram/LinearFeasibility$Rows" "strict" "Ljava/util/BitSet;" .null := (F12.keep K16 (own_ninC ne3 own_nin0))
  have F23 : Fld Z T16.heap oa "com/example/numeric_planner/numericplanner/diagram/LinearFeasibility$Rows" "squares" "[Z" .null := (F13.keep K16 (own_ninC ne3 own_nin0))
  have F24 : Exa Z T16.heap ob "[Z" := (F14.keep K16)
  have F25 : Arv Z T16.heap ob kk .boolean nn (xs.map Value.int) (.int (0 : Int32)) := (F15.keep K16 (own_ninC ne4 own_nin0))
  obtain ⟨T26, h26, X26, e26, W26, st26⟩ := putF Xh16 hx hZ hown (host := "") (Or.inl (hw _ (List.mem_of_getElem? (i := 39) rfl))) Via.refl rfl F21 F20 (Or.inr ⟨(hw _ (List.mem_of_getElem? (i := 40) rfl)), rfl, hnm⟩) (hw _ (List.mem_of_getElem? (i := 7) rfl)) (ty := (.object "java/util/List")) (by decide) rfl rfl (g := (mkF m 12 #[.val (.ref oa), .val (.ref ob)] [(.ref b2), (.ref oa)])) rfl rfl (hb hby d2_12)
  refine Go.via st26 ?_
  have Z27 : n0 ≤ h26.size := Nat.le_trans Z17 (Nat.le_of_eq W26.size.symm)
  have K28 : Keep h0 h26 [oa] := K18.wr W26 (Or.inl (List.mem_of_getElem? (i := 0) rfl))
  obtain ⟨lc26, Xh26, N29⟩ := own_hide X26 (Fr.snoc X26 N16 ga)
  clear X26
  have O30 : Old Z n0 h26 := O19.wr W26 ga
  have Fw26 := F21.same W26
  show Go p.tables e below P T26 (mkF m 15 #[.val (.ref oa), .val (.ref ob)] [])
  refine Go.via (fun t k => XS.aloadN Xh26.here hx rfl (hb hby d2_15) rfl rfl k) ?_
  show Go p.tables e below P T26 (mkF m 16 #[.val (.ref oa), .val (.ref ob)] [(.ref oa)])
  have F32 : Exa Z h26 oa "com/example/numeric_planner/numericplanner/diagram/LinearFeasibility$Rows" := (F20.wr W26)
  have F33 : Fld Z h26 oa "com/example/numeric_planner/numericplanner/diagram/LinearFeasibility$Rows" "strict" "Ljava/util/BitSet;" .null := (F22.other W26 (Or.inr (slot_ne (Or.inr (hw _ (List.mem_of_getElem? (i := 64) rfl))) (Or.inr (hw _ (List.mem_of_getElem? (i := 40) rfl))) (by decide) (t := (.object "java/util/BitSet")) (t' := (.object "java/util/List")) (by decide) (by decide))))
  have F34 : Fld Z h26 oa "com/example/numeric_planner/numericplanner/diagram/LinearFeasibility$Rows" "squares" "[Z" .null := (F23.other W26 (Or.inr (slot_ne (Or.inr (hw _ (List.mem_of_getElem? (i := 75) rfl))) (Or.inr (hw _ (List.mem_of_getElem? (i := 40) rfl))) (by decide) (t := (.array .boolean)) (t' := (.object "java/util/List")) (by decide) (by decide))))
  have F35 : Exa Z h26 ob "[Z" := (F24.wr W26)
  have F36 : Arv Z h26 ob kk .boolean nn (xs.map Value.int) (.int (0 : Int32)) := (F25.other W26 hab)
  have F37 : Exa Z h26 b2 "java/util/ArrayList" := (u16_0.wr W26)
  obtain ⟨T31, h31, X31, e31, E31, A31, D31, -, st31⟩ := newO Xh26 hx hZ hown (hw _ (List.mem_of_getElem? (i := 41) rfl)) (hw _ (List.mem_of_getElem? (i := 42) rfl)) (hw _ (List.mem_of_getElem? (i := 43) rfl)) e26 (g := (mkF m 16 #[.val (.ref oa), .val (.ref ob)] [(.ref oa)])) rfl (hb hby d2_16) (by decide) (by decide)
  obtain ⟨b31, g31⟩ : ∃ z, z = h26.size := ⟨_, rfl⟩
  rw [← g31] at A31 D31 st31
  refine Go.via st31 ?_
  have ne38 : oa ≠ b31 := Nat.ne_of_lt (Nat.lt_of_lt_of_le F32.lt (Nat.le_of_eq g31.symm))
  have ne39 : ob ≠ b31 := Nat.ne_of_lt (Nat.lt_of_lt_of_le F35.lt (Nat.le_of_eq g31.symm))
  have ne40 : b2 ≠ b31 := Nat.ne_of_lt (Nat.lt_of_lt_of_le F37.lt (Nat.le_of_eq g31.symm))
  have g41 : n0 ≤ b31 := Nat.le_trans Z27 (Nat.le_of_eq g31.symm)
  have sz42 : h0.size ≤ b31 := Nat.le_trans K28.1 (Nat.le_of_eq g31.symm)
  have Z43 : n0 ≤ h31.size := Nat.le_trans Z27 E31.1
  have K44 : Keep h0 h31 [oa] := K28.ext E31
  have O45 : Old Z n0 h31 := O30.ext E31
  show Go p.tables e below P T31 (mkF m 19 #[.val (.ref oa), .val (.ref ob)] [(.ref b31), (.ref oa)])
  refine Go.via (fun t k => XS.dup X31.here hx rfl (hb hby d2_19) rfl rfl k) ?_
  show Go p.tables e below P T31 (mkF m 20 #[.val (.ref oa), .val (.ref ob)] [(.ref b31), (.ref b31), (.ref oa)])
  have F46 : Exa Z h31 oa "com/example/numeric_planner/numericplanner/diagram/LinearFeasibility$Rows" := (F32.ext E31)
  have F47 : Fld Z h31 oa "com/example/numeric_planner/numericplanner/diagram/LinearFeasibility$Rows" "small" "Ljava/util/List;" (.ref b2) := (Fw26.ext E31)
  have F48 : Fld Z h31 oa "com/example/numeric_planner/numericplanner/diagram/LinearFeasibility$Rows" "strict" "Ljava/util/BitSet;" .null := (F33.ext E31)
  have F49 : Fld Z h31 oa "com/example/numeric_planner/numericplanner/diagram/LinearFeasibility$Rows" "squares" "[Z" .null := (F34.ext E31)
  have F50 : Exa Z h31 ob "[Z" := (F35.ext E31)
  have F51 : Arv Z h31 ob kk .boolean nn (xs.map Value.int) (.int (0 : Int32)) := (F36.ext E31)
  have F52 : Exa Z h31 b2 "java/util/ArrayList" := (F37.ext E31)
  obtain ⟨_, _, ⟨T53, L53, k53, n53⟩, -, X53, ⟨Lc53, hQ53, l53, y53, z53⟩, st53⟩ := X31.specialBack hx (y := (⟨"java/util/BitSet", "<init>", "()V"⟩ : MethodName)) rfl hown (mvT hZ (hw _ (List.mem_of_getElem? (i := 44) rfl))) (mvT hZ (hw _ (List.mem_of_getElem? (i := 45) rfl))) (mvT hZ (hw _ (List.mem_of_getElem? (i := 46) rfl))) (by decide) (backOf (W := 2) (rm7 l Z a0 hw [] b31 h31 n0 Z43 A31 (D31 (Or.inl (hw _ (List.mem_of_getElem? (i := 49) rfl))) (ty := .int) (by decide) : Fld Z h31 b31 "java/util/BitSet" "wordsInUse" "I" (.int (0 : Int32))) (D31 (Or.inl (hw _ (List.mem_of_getElem? (i := 51) rfl))) (ty := .boolean) (by decide) : Fld Z h31 b31 "java/util/BitSet" "sizeIsSticky" "Z" (.int (0 : Int32))) (D31 (Or.inl (hw _ (List.mem_of_getElem? (i := 62) rfl))) (ty := (.array .long)) (by decide) : Fld Z h31 b31 "java/util/BitSet" "words" "[J" .null) g41) hZ (hw _ (List.mem_of_getElem? (i := 46) rfl)) (hw _ (List.mem_of_getElem? (i := 43) rfl)) (by decide) (by decide)) (g := (mkF m 20 #[.val (.ref oa), .val (.ref ob)] [(.ref b31), (.ref b31), (.ref oa)])) rfl (by rw [hml]; rfl) (Steps.refl _) (a := b31) (argsL := []) (rest := [(.ref b31), (.ref oa)]) (lenOf own_pd1 rfl) rfl (by show 2 * 0 + _ ≤ _; exact Nat.le_of_eq rfl) (hb hby d2_20) (fun _ _ => ⟨rfl, e31, (by decide : 2 + 1 ≤ _), (by decide : 6 + 1 ≤ _)⟩)
  dsimp only [Pt.U, Pt.locs, Pt.cells, Pt.slots] at X53 l53 y53 z53 st53 hQ53
  subst l53 y53 z53
  obtain ⟨rfl, Nq53, K53, u53_0⟩ := hQ53
  obtain ⟨lc53, Xh53, N53⟩ := own_hide X53 (Fr.app N29 Nq53)
  clear X53
  refine Go.hop st53 ?_
  have Z54 : n0 ≤ T53.heap.size := Nat.le_trans Z43 K53.1
  have K55 : Keep h0 T53.heap [oa] := K44.trans K53 (own_allC (Or.inr sz42) own_all0)
  have O56 : Old Z n0 T53.heap := O45.keep K53 (own_allC g41 own_all0)
  show Go p.tables e below P T53 (mkF m 23 #[.val (.ref oa), .val (.ref ob)] [(.ref b31), (.ref oa)])
  have F57 : Exa Z T53.heap oa "com/example/numeric_planner/numericplanner/diagram/LinearFeasibility$Rows" := (F46.keep K53)
  have F58 : Fld Z T53.heap oa "com/example/numeric_planner/numericplanner/diagram/LinearFeasibility$Rows" "strict" "Ljava/util/BitSet;" .null := (F48.keep K53 (own_ninC ne38 own_nin0))
  have F59 : Fld Z T53.heap oa "com/example/numeric_planner/numericplanner/diagram/LinearFeasibility$Rows" "small" "Ljava/util/List;" (.ref b2) := (F47.keep K53 (own_ninC ne38 own_nin0))
  have F60 : Fld Z T53.heap oa "com/example/numeric_planner/numericplanner/diagram/LinearFeasibility$Rows" "squares" "[Z" .null := (F49.keep K53 (own_ninC ne38 own_nin0))
  have F61 : Exa Z T53.heap ob "[Z" := (F50.keep K53)
  have F62 : Arv Z T53.heap ob kk .boolean nn (xs.map Value.int) (.int (0 : Int32)) := (F51.keep K53 (own_ninC ne39 own_nin0))
  have F63 : Exa Z T53.heap b2 "java/util/ArrayList" := (F52.keep K53)
  obtain ⟨T64, h64, X64, e64, W64, st64⟩ := putF Xh53 hx hZ hown (host := "") (Or.inl (hw _ (List.mem_of_getElem? (i := 63) rfl))) Via.refl rfl F58 F57 (Or.inr ⟨(hw _ (List.mem_of_getElem? (i := 64) rfl)), rfl, hnm⟩) (hw _ (List.mem_of_getElem? (i := 7) rfl)) (ty := (.object "java/util/BitSet")) (by decide) rfl rfl (g := (mkF m 23 #[.val (.ref oa), .val (.ref ob)] [(.ref b31), (.ref oa)])) rfl rfl (hb hby d2_23)
  refine Go.via st64 ?_
  have Z65 : n0 ≤ h64.size := Nat.le_trans Z54 (Nat.le_of_eq W64.size.symm)
  have K66 : Keep h0 h64 [oa] := K55.wr W64 (Or.inl (List.mem_of_getElem? (i := 0) rfl))
  obtain ⟨lc64, Xh64, N67⟩ := own_hide X64 (Fr.snoc X64 N53 ga)
  clear X64
  have O68 : Old Z n0 h64 := O56.wr W64 ga
  have Fw64 := F58.same W64
  show Go p.tables e below P T64 (mkF m 26 #[.val (.ref oa), .val (.ref ob)] [])
  refine Go.via (fun t k => XS.aloadN Xh64.here hx rfl (hb hby d2_26) rfl rfl k) ?_
  show Go p.tables e below P T64 (mkF m 27 #[.val (.ref oa), .val (.ref ob)] [(.ref oa)])
  refine Go.via (fun t k => XS.aloadN Xh64.here hx rfl (hb hby d2_27) rfl rfl k) ?_
  show Go p.tables e below P T64 (mkF m 28 #[.val (.ref oa), .val (.ref ob)] [(.ref ob), (.ref oa)])
  have F69 : Arv Z h64 ob kk .boolean nn (xs.map Value.int) (.int (0 : Int32)) := (F62.other W64 hab)
  have F70 : Exa Z h64 ob "[Z" := (F61.wr W64)
  have F71 : Exa Z h64 oa "com/example/numeric_planner/numericplanner/diagram/LinearFeasibility$Rows" := (F57.wr W64)
  have F72 : Fld Z h64 oa "com/example/numeric_planner/numericplanner/diagram/LinearFeasibility$Rows" "small" "Ljava/util/List;" (.ref b2) := (F59.other W64 (Or.inr (slot_ne (Or.inr (hw _ (List.mem_of_getElem? (i := 40) rfl))) (Or.inr (hw _ (List.mem_of_getElem? (i := 64) rfl))) (by decide) (t := (.object "java/util/List")) (t' := (.object "java/util/BitSet")) (by decide) (by decide))))
  have F73 : Fld Z h64 oa "com/example/numeric_planner/numericplanner/diagram/LinearFeasibility$Rows" "squares" "[Z" .null := (F60.other W64 (Or.inr (slot_ne (Or.inr (hw _ (List.mem_of_getElem? (i := 75) rfl))) (Or.inr (hw _ (List.mem_of_getElem? (i := 64) rfl))) (by decide) (t := (.array .boolean)) (t' := (.object "java/util/BitSet")) (by decide) (by decide))))
  have F74 : Exa Z h64 b2 "java/util/ArrayList" := (F63.wr W64)
  have F75 : Exa Z h64 b31 "java/util/BitSet" := (u53_0.wr W64)
  obtain ⟨T76, h76, X76, e76, E76, V76, B76, st76⟩ := cloneH Xh64 hx hZ hown (hw _ (List.mem_of_getElem? (i := 65) rfl)) (hw _ (List.mem_of_getElem? (i := 66) rfl)) (hw _ (List.mem_of_getElem? (i := 70) rfl)) (hw _ (List.mem_of_getElem? (i := 68) rfl)) (hw _ (List.mem_of_getElem? (i := 69) rfl)) (hw _ (List.mem_of_getElem? (i := 71) rfl)) e64 (Arv.arh F69) F70 (g := (mkF m 28 #[.val (.ref oa), .val (.ref ob)] [(.ref ob), (.ref oa)])) rfl (by rw [hml]; rfl) rfl (hb hby d2_28) (by decide) (W := 1) (by show 2 * 0 + _ ≤ _; exact Nat.le_of_eq rfl) (by decide) (cap := 8) hcap (by decide) (by decide)
  obtain ⟨b76, g76⟩ : ∃ z, z = h64.size := ⟨_, rfl⟩
  rw [← g76] at V76 B76 st76
  refine Go.via st76 ?_
  have ne77 : oa ≠ b76 := Nat.ne_of_lt (Nat.lt_of_lt_of_le F71.lt (Nat.le_of_eq g76.symm))
  have ne78 : ob ≠ b76 := Nat.ne_of_lt (Nat.lt_of_lt_of_le F70.lt (Nat.le_of_eq g76.symm))
  have ne79 : b2 ≠ b76 := Nat.ne_of_lt (Nat.lt_of_lt_of_le F74.lt (Nat.le_of_eq g76.symm))
  have ne80 : b31 ≠ b76 := Nat.ne_of_lt (Nat.lt_of_lt_of_le F75.lt (Nat.le_of_eq g76.symm))
  have g81 : n0 ≤ b76 := Nat.le_trans Z65 (Nat.le_of_eq g76.symm)
  have sz82 : h0.size ≤ b76 := Nat.le_trans K66.1 (Nat.le_of_eq g76.symm)
  have Z83 : n0 ≤ h76.size := Nat.le_trans Z65 E76.1
  have K84 : Keep h0 h76 [oa] := K66.ext E76
  have O85 : Old Z n0 h76 := O68.ext E76
  have Vc76 : Arv Z h76 b76 kk .boolean nn (xs.map Value.int) (.int (0 : Int32)) := V76
  show Go p.tables e below P T76 (mkF m 31 #[.val (.ref oa), .val (.ref ob)] [(.ref b76), (.ref oa)])
  obtain ⟨T86, X86, e86, st86⟩ := castY X76 hx hZ hown (hw _ (List.mem_of_getElem? (i := 72) rfl)) e76 (Ins.self B76) (g := (mkF m 31 #[.val (.ref oa), .val (.ref ob)] [(.ref b76), (.ref oa)])) rfl rfl (hb hby d2_31)
  refine Go.via st86 ?_
  show Go p.tables e below P T86 (mkF m 34 #[.val (.ref oa), .val (.ref ob)] [(.ref b76), (.ref oa)])
  have F87 : Exa Z h76 oa "com/example/numeric_planner/numericplanner/diagram/LinearFeasibility$Rows" := (F71.ext E76)
  have F88 : Fld Z h76 oa "com/example/numeric_planner/numericplanner/diagram/LinearFeasibility$Rows" "squares" "[Z" .null := (F73.ext E76)
  have F89 : Fld Z h76 oa "com/example/numeric_planner/numericplanner/diagram/LinearFeasibility$Rows" "small" "Ljava/util/List;" (.ref b2) := (F72.ext E76)
  have F90 : Fld Z h76 oa "com/example/numeric_planner/numericplanner/diagram/LinearFeasibility$Rows" "strict" "Ljava/util/BitSet;" (.ref b31) := (Fw64.ext E76)
  have F91 : Exa Z h76 ob "[Z" := (F70.ext E76)
  have F92 : Arv Z h76 ob kk .boolean nn (xs.map Value.int) (.int (0 : Int32)) := (F69.ext E76)
  have F93 : Exa Z h76 b2 "java/util/ArrayList" := (F74.ext E76)
  have F94 : Exa Z h76 b31 "java/util/BitSet" := (F75.ext E76)
  obtain ⟨T95, h95, X95, e95, W95, st95⟩ := putF X86 hx hZ hown (host := "") (Or.inl (hw _ (List.mem_of_getElem? (i := 74) rfl))) Via.refl e86 F88 F87 (Or.inr ⟨(hw _ (List.mem_of_getElem? (i := 75) rfl)), rfl, hnm⟩) (hw _ (List.mem_of_getElem? (i := 7) rfl)) (ty := (.array .boolean)) (by decide) rfl rfl (g := (mkF m 34 #[.val (.ref oa), .val (.ref ob)] [(.ref b76), (.ref oa)])) rfl rfl (hb hby d2_34)
  refine Go.via st95 ?_
  have Z96 : n0 ≤ h95.size := Nat.le_trans Z83 (Nat.le_of_eq W95.size.symm)
  have K97 : Keep h0 h95 [oa] := K84.wr W95 (Or.inl (List.mem_of_getElem? (i := 0) rfl))
  obtain ⟨lc95, Xh95, N98⟩ := own_hide X95 (Fr.snoc X95 N67 ga)
  clear X95
  have O99 : Old Z n0 h95 := O85.wr W95 ga
  have Fw95 := F88.same W95
  show Go p.tables e below P T95 (mkF m 37 #[.val (.ref oa), .val (.ref ob)] [])
  obtain ⟨fs, hr, hrun, hended, hW, hsame⟩ := Xh95.leave (v := none) (fun _ => rfl)
  have F101 : Exa Z h95 oa "com/example/numeric_planner/numericplanner/diagram/LinearFeasibility$Rows" := (F87.wr W95)
  have F102 : Arv Z h95 b76 kk .boolean nn (xs.map Value.int) (.int (0 : Int32)) := (Vc76.other W95 (Ne.symm ne77))
  refine ⟨_, _, Xh95.returnOut hx Bd.returns (hb hby d2_37) hr, hrun, hended, hP _ _ ⟨_, _, rfl, ?_, ⟨_, rfl⟩, hW, hsame.mono (by decide) (by decide)⟩⟩
  show Q2 Z oa ob de kk nn xs h0 n0 _ T95.heap _
  rw [e95]
  exact ⟨b76, rfl, N98, K97, sz82, F101, Fw95, F102⟩
theorem d10_0 : decode prog_24_method_4_code 0 = .ok (.iconst 0, 1) := by decide +kernel
theorem d10_1 : decode prog_24_method_4_code 1 = .ok (.istore_n 1, 1) := by decide +kernel
theorem d10_2 : decode prog_24_method_4_code 2 = .ok (.aload_n 0, 1) := by decide +kernel
theorem d10_3 : decode prog_24_method_4_code 3 = .ok (.getfield 29, 3) := by decide +kernel
theorem d10_6 : decode prog_24_method_4_code 6 = .ok (.astore_n 2, 1) := by decide +kernel
theorem d10_7 : decode prog_24_method_4_code 7 = .ok (.aload_n 2, 1) := by decide +kernel
theorem d10_8 : decode prog_24_method_4_code 8 = .ok (.arraylength, 1) := by decide +kernel
theorem d10_9 : decode prog_24_method_4_code 9 = .ok (.istore_n 3, 1) := by decide +kernel
theorem d10_10 : decode prog_24_method_4_code 10 = .ok (.iconst 0, 1) := by decide +kernel
theorem d10_11 : decode prog_24_method_4_code 11 = .ok (.istore 4, 2) := by decide +kernel
theorem d10_13 : decode prog_24_method_4_code 13 = .ok (.iload 4, 2) := by decide +kernel
theorem d10_15 : decode prog_24_method_4_code 15 = .ok (.iload_n 3, 1) := by decide +kernel
theorem d10_16 : decode prog_24_method_4_code 16 = .ok (.if_icmp .ge 28, 3) := by decide +kernel
theorem d10_19 : decode prog_24_method_4_code 19 = .ok (.aload_n 2, 1) := by decide +kernel
theorem d10_20 : decode prog_24_method_4_code 20 = .ok (.iload 4, 2) := by decide +kernel
theorem d10_22 : decode prog_24_method_4_code 22 = .ok (.baload, 1) := by decide +kernel
theorem d10_23 : decode prog_24_method_4_code 23 = .ok (.istore 5, 2) := by decide +kernel
theorem d10_25 : decode prog_24_method_4_code 25 = .ok (.iload_n 1, 1) := by decide +kernel
theorem d10_26 : decode prog_24_method_4_code 26 = .ok (.iload 5, 2) := by decide +kernel
theorem d10_28 : decode prog_24_method_4_code 28 = .ok (.ifCond .eq 7, 3) := by decide +kernel
theorem d10_31 : decode prog_24_method_4_code 31 = .ok (.iconst 1, 1) := by decide +kernel
theorem d10_32 : decode prog_24_method_4_code 32 = .ok (.goto 4, 3) := by decide +kernel
theorem d10_35 : decode prog_24_method_4_code 35 = .ok (.iconst 0, 1) := by decide +kernel
theorem d10_36 : decode prog_24_method_4_code 36 = .ok (.iadd, 1) := by decide +kernel
theorem d10_37 : decode prog_24_method_4_code 37 = .ok (.istore_n 1, 1) := by decide +kernel
theorem d10_38 : decode prog_24_method_4_code 38 = .ok (.iinc 4 1, 3) := by decide +kernel
theorem d10_41 : decode prog_24_method_4_code 41 = .ok (.goto (-28), 3) := by decide +kernel
theorem d10_44 : decode prog_24_method_4_code 44 = .ok (.iload_n 1, 1) := by decide +kernel
theorem d10_45 : decode prog_24_method_4_code 45 = .ok (.ireturn, 1) := by decide +kernel
theorem ef_10 (m : MethodId) (x0 : Addr) : entryFrame m #[(.ref x0)] 6 = mkF m 0 #[.val (.ref x0), .unset, .unset, .unset, .unset, .unset] [] := by first | (simp [entryFrame, mkF, argsToLocals, Value.category]; done) | rfl
def Q10 (Z : State) (oa : Addr) (os : Addr) (kk : ClassId) (nn : Int32) (xs : List Int32) (mm : Nat) (h0 : Heap) (n0 : Nat) (v : Option Value) (h : Heap) (L : List Loc) : Prop := v = some (.int (own_sq xs mm)) ∧ Fr n0 L ∧ h = h0
set_option maxRecDepth 65536 in
set_option maxHeartbeats 40000000 in
theorem rm10 (l : Launch) (Z : State) (a0 : Array Value) (hw : ∀ d ∈ tables_1, d.before a0 Z = true) (ws : List Jvm.Cond) (oa : Addr) (os : Addr) (kk : ClassId) (nn : Int32) (xs : List Int32) (mm : Nat) (h0 : Heap) (n0 : Nat) (Z0 : n0 ≤ h0.size) (P0 : Fld Z h0 oa "com/example/numeric_planner/numericplanner/diagram/LinearFeasibility$Rows" "squares" "[Z" (.ref os)) (P1 : Arv Z h0 os kk .boolean nn (xs.map Value.int) (.int (0 : Int32))) (hmm : mm ≤ 8) (hnn : nn = mm.toInt32) :
    MetFree l (⟨"com/example/numeric_planner/numericplanner/diagram/LinearFeasibility$Rows", "squareCount", "()I"⟩ : MethodName) (head1 (Jvm.Cond.code (⟨"com/example/numeric_planner/numericplanner/diagram/LinearFeasibility$Rows", "squareCount", "()I"⟩ : MethodName) prog_24_method_4_code 6 (some .int) :: ws) ({ frames := 0, cells := 0, slots := 0, locals := 0 } : Room)) (fun a U => a = #[(.ref oa)] ∧ Z.Warmed39 U.vm ∧ U.heap = h0) (fun _ _ _ _ _ => True) (fun _ U o U' => ∃ v L, o = .returned v ∧ Q10 Z oa os kk nn xs mm h0 n0 v U'.heap L ∧ FrameEnd U o U' L ({ frames := 0, cells := 0, slots := 0, locals := 0 } : Room).cells ({ frames := 0, cells := 0, slots := 0, locals := 0 } : Room).slots) := by
  refine MetFree.of_bodySF (plainFor_of_name own_pn5) hisR ?_
  intro p e s m args below meth c s₁ Bd hml0 hP hK
  obtain ⟨rfl, hZ, hh⟩ := hP
  have hx := Bd.exec
  have hby := Bd.bytes
  have hml : c.maxLocals = 6 := hml0
  have hown : s.vm.findClass "com/example/numeric_planner/numericplanner/diagram/LinearFeasibility$Rows" = some m.cls := findClass_of_methodNamed Bd.named
  have hnm := (name_of_methodNamed Bd.named Bd.method).1
  have X0 : Stand p l e ({ frames := 0, cells := 0, slots := 0, locals := 0 } : Room) s m #[(.ref oa)] below meth c s₁ [] 0 0 := Stand.of_body Bd
  have e0 : s₁.heap = h0 := by rw [← hh, Bd.state]; rfl
  have N0 := Fr.nil n0
  have K0 : Keep h0 h0 [] := Keep.refl _ _
  suffices GO : ∀ P : Outcome → State → Prop, (∀ o U', (∃ v L, o = .returned v ∧ Q10 Z oa os kk nn xs mm h0 n0 v U'.heap L ∧ FrameEnd s o U' L ({ frames := 0, cells := 0, slots := 0, locals := 0 } : Room).cells ({ frames := 0, cells := 0, slots := 0, locals := 0 } : Room).slots) → P o U') → Go p.tables e below P s₁ (mkF m 0 #[.val (.ref oa), .unset, .unset, .unset, .unset, .unset] []) by
    obtain ⟨s2, o, st, r⟩ := GO _ (fun _ _ q => q)
    exact ⟨s2, o, castTop (ef_10 m oa) st, r⟩
  clear hh
  intro P hP
  show Go p.tables e below P s₁ (mkF m 0 #[.val (.ref oa), .unset, .unset, .unset, .unset, .unset] [])
  refine Go.via (fun t k => XS.iconst X0.here hx rfl (hb hby d10_0) k) ?_
  show Go p.tables e below P s₁ (mkF m 1 #[.val (.ref oa), .unset, .unset, .unset, .unset, .unset] [(.int (0 : Int32))])
  refine Go.via (fun t k => XS.istoreN X0.here hx rfl (hb hby d10_1) rfl (l' := #[.val (.ref oa), .val (.int (0 : Int32)), .unset, .unset, .unset, .unset]) rfl k) ?_
  show Go p.tables e below P s₁ (mkF m 2 #[.val (.ref oa), .val (.int (0 : Int32)), .unset, .unset, .unset, .unset] [])
  refine Go.via (fun t k => XS.aloadN X0.here hx rfl (hb hby d10_2) rfl rfl k) ?_
  show Go p.tables e below P s₁ (mkF m 3 #[.val (.ref oa), .val (.int (0 : Int32)), .unset, .unset, .unset, .unset] [(.ref oa)])
  obtain ⟨T1, X1, e1, st1⟩ := getF X0 hx hZ hown (host := "") (Or.inl (hw _ (List.mem_of_getElem? (i := 74) rfl))) Via.refl e0 P0 (g := (mkF m 3 #[.val (.ref oa), .val (.int (0 : Int32)), .unset, .unset, .unset, .unset] [(.ref oa)])) rfl rfl (hb hby d10_3)
  refine Go.via st1 ?_
  show Go p.tables e below P T1 (mkF m 6 #[.val (.ref oa), .val (.int (0 : Int32)), .unset, .unset, .unset, .unset] [(.ref os)])
  refine Go.via (fun t k => XS.astoreN X1.here hx rfl (hb hby d10_6) rfl rfl (l' := #[.val (.ref oa), .val (.int (0 : Int32)), .val (.ref os), .unset, .unset, .unset]) rfl k) ?_
  show Go p.tables e below P T1 (mkF m 7 #[.val (.ref oa), .val (.int (0 : Int32)), .val (.ref os), .unset, .unset, .unset] [])
  refine Go.via (fun t k => XS.aloadN X1.here hx rfl (hb hby d10_7) rfl rfl k) ?_
  show Go p.tables e below P T1 (mkF m 8 #[.val (.ref oa), .val (.int (0 : Int32)), .val (.ref os), .unset, .unset, .unset] [(.ref os)])
  obtain ⟨c2, A2, -, S2, N2, -, -⟩ := id P1
  refine Go.via (fun t k => X1.arraylength hx (by rw [e1]; exact A2.1) (State.isArrayOf_alike hZ.alike A2.2.1) (g := (mkF m 8 #[.val (.ref oa), .val (.int (0 : Int32)), .val (.ref os), .unset, .unset, .unset] [(.ref os)])) rfl rfl (hb hby d10_8) t (by rw [len_of S2 N2]; exact k)) ?_
  show Go p.tables e below P T1 (mkF m 9 #[.val (.ref oa), .val (.int (0 : Int32)), .val (.ref os), .unset, .unset, .unset] [(.int nn)])
  refine Go.via (fun t k => XS.istoreN X1.here hx rfl (hb hby d10_9) rfl (l' := #[.val (.ref oa), .val (.int (0 : Int32)), .val (.ref os), .val (.int nn), .unset, .unset]) rfl k) ?_
  show Go p.tables e below P T1 (mkF m 10 #[.val (.ref oa), .val (.int (0 : Int32)), .val (.ref os), .val (.int nn), .unset, .unset] [])
  refine Go.via (fun t k => XS.iconst X1.here hx rfl (hb hby d10_10) k) ?_
  show Go p.tables e below P T1 (mkF m 11 #[.val (.ref oa), .val (.int (0 : Int32)), .val (.ref os), .val (.int nn), .unset, .unset] [(.int (0 : Int32))])
  refine Go.via (fun t k => XS.istore X1.here hx rfl (hb hby d10_11) rfl (l' := #[.val (.ref oa), .val (.int (0 : Int32)), .val (.ref os), .val (.int nn), .val (.int (0 : Int32)), .unset]) rfl k) ?_
  have LP3 : ∀ (k3 : Nat) (T3 : State) (locs3 : List Loc) (i : Nat) (s1 : Int32) (x4 : Int32) (s3_5 : Slot), Stand p l e ({ frames := 0, cells := 0, slots := 0, locals := 0 } : Room) s m #[(.ref oa)] below meth c T3 locs3 0 0 → T3.heap = h0 → Fr n0 locs3 → i ≤ mm → s1 = own_sq xs i → x4 = i.toInt32 → (s3_5 = .unset ∨ ∃ w, s3_5 = .val w ∧ w.category = 1) → mm - i < k3 → Go p.tables e below P T3 (mkF m 13 #[.val (.ref oa), .val (.int s1), .val (.ref os), .val (.int nn), .val (.int x4), s3_5] []) := by
    intro k3
    induction k3 with
    | zero => intro T3 locs3 i s1 x4 s3_5 X3 e3 N3 hi hs1 hx4 hos3_5 hk; exact absurd hk (Nat.not_lt_zero _)
    | succ k3 ih3 =>
      intro T3 locs3 i s1 x4 s3_5 X3 e3 N3 hi hs1 hx4 hos3_5 hk
      show Go p.tables e below P T3 (mkF m 13 #[.val (.ref oa), .val (.int s1), .val (.ref os), .val (.int nn), .val (.int x4), s3_5] [])
      refine Go.via (fun t k => XS.iload X3.here hx rfl (hb hby d10_13) rfl k) ?_
      show Go p.tables e below P T3 (mkF m 15 #[.val (.ref oa), .val (.int s1), .val (.ref os), .val (.int nn), .val (.int x4), s3_5] [(.int x4)])
      refine Go.via (fun t k => XS.iloadN X3.here hx rfl (hb hby d10_15) rfl k) ?_
      show Go p.tables e below P T3 (mkF m 16 #[.val (.ref oa), .val (.int s1), .val (.ref os), .val (.int nn), .val (.int x4), s3_5] [(.int nn), (.int x4)])
      by_cases hc4 : x4 < nn
      · refine Go.via (fun t k => XS.icmpNo X3.here hx rfl (hb hby d10_16) rfl (tlt hc4).2.1 k) ?_
        show Go p.tables e below P T3 (mkF m 19 #[.val (.ref oa), .val (.int s1), .val (.ref os), .val (.int nn), .val (.int x4), s3_5] [])
        have hlt : i < mm := (own_ltN (by omega) (by omega)).mp (by rw [← hx4, ← hnn]; exact hc4)
        refine Go.via (fun t k => XS.aloadN X3.here hx rfl (hb hby d10_19) rfl rfl k) ?_
        show Go p.tables e below P T3 (mkF m 20 #[.val (.ref oa), .val (.int s1), .val (.ref os), .val (.int nn), .val (.int x4), s3_5] [(.ref os)])
        refine Go.via (fun t k => XS.iload X3.here hx rfl (hb hby d10_20) rfl k) ?_
        show Go p.tables e below P T3 (mkF m 22 #[.val (.ref oa), .val (.int s1), .val (.ref os), .val (.int nn), .val (.int x4), s3_5] [(.int x4), (.ref os)])
        obtain ⟨c5, A5, q5, S5, N5, H5, G5⟩ := id P1
        have hin5 : ¬ (x4 < 0 ∨ c5.slots.size ≤ (x4).toNatClampNeg) := inb_of S5 ⟨by rw [hx4]; exact own_nneg (by omega), by rw [hx4, hnn]; exact (own_ltN (by omega) (by omega)).mpr hlt⟩
        have hat5 : c5.slots[(x4).toNatClampNeg]? = some (.int (xs.getD i 0)) := (H5 _ (Nat.lt_of_not_le fun q => hin5 (Or.inr q))).trans (congrArg some (by rw [hx4, own_clamp (by omega)]; exact own_getD xs i))
        refine Go.via (fun t k => X3.baloadBooleans hx (j := x4) (v := (.int (xs.getD i 0))) (by rw [e3]; exact A5.1) (State.isArrayOf_alike hZ.alike A5.2.1) A5.2.2 hin5 hat5 (g := (mkF m 22 #[.val (.ref oa), .val (.int s1), .val (.ref os), .val (.int nn), .val (.int x4), s3_5] [(.int x4), (.ref os)])) rfl rfl (hb hby d10_22) t k) ?_
        show Go p.tables e below P T3 (mkF m 23 #[.val (.ref oa), .val (.int s1), .val (.ref os), .val (.int nn), .val (.int x4), s3_5] [(.int (xs.getD i 0))])
        refine Go.via (fun t k => XS.istore X3.here hx rfl (hb hby d10_23) rfl (XS.store1 rfl hos3_5 rfl) k) ?_
        show Go p.tables e below P T3 (mkF m 25 #[.val (.ref oa), .val (.int s1), .val (.ref os), .val (.int nn), .val (.int x4), .val (.int (xs.getD i 0))] [])
        refine Go.via (fun t k => XS.iloadN X3.here hx rfl (hb hby d10_25) rfl k) ?_
        show Go p.tables e below P T3 (mkF m 26 #[.val (.ref oa), .val (.int s1), .val (.ref os), .val (.int nn), .val (.int x4), .val (.int (xs.getD i 0))] [(.int s1)])
        refine Go.via (fun t k => XS.iload X3.here hx rfl (hb hby d10_26) rfl k) ?_
        show Go p.tables e below P T3 (mkF m 28 #[.val (.ref oa), .val (.int s1), .val (.ref os), .val (.int nn), .val (.int x4), .val (.int (xs.getD i 0))] [(.int (xs.getD i 0)), (.int s1)])
        have J7 : ∀ (T7 : State) (locs7 : List Loc) (v7_0 : Int32), Stand p l e ({ frames := 0, cells := 0, slots := 0, locals := 0 } : Room) s m #[(.ref oa)] below meth c T7 locs7 0 0 → T7.heap = h0 → Fr n0 locs7 → v7_0 = (if (xs.getD i 0) = (0 : Int32) then (0 : Int32) else (1 : Int32)) → Go p.tables e below P T7 (mkF m 36 #[.val (.ref oa), .val (.int s1), .val (.ref os), .val (.int nn), .val (.int x4), .val (.int (xs.getD i 0))] [(.int v7_0), (.int s1)]) := by
          intro T7 locs7 v7_0 X7 e7 N7 hv7_0
          have hbv7_0 : v7_0 = 0 ∨ v7_0 = 1 := by (subst hv7_0; (repeat' split) <;> first | (left; rfl) | (right; rfl))
          show Go p.tables e below P T7 (mkF m 36 #[.val (.ref oa), .val (.int s1), .val (.ref os), .val (.int nn), .val (.int x4), .val (.int (xs.getD i 0))] [(.int v7_0), (.int s1)])
          refine Go.via (fun t k => XS.iadd X7.here hx rfl (hb hby d10_36) rfl k) ?_
          show Go p.tables e below P T7 (mkF m 37 #[.val (.ref oa), .val (.int s1), .val (.ref os), .val (.int nn), .val (.int x4), .val (.int (xs.getD i 0))] [(.int (s1 + v7_0))])
          refine Go.via (fun t k => XS.istoreN X7.here hx rfl (hb hby d10_37) rfl (l' := #[.val (.ref oa), .val (.int (s1 + v7_0)), .val (.ref os), .val (.int nn), .val (.int x4), .val (.int (xs.getD i 0))]) rfl k) ?_
          show Go p.tables e below P T7 (mkF m 38 #[.val (.ref oa), .val (.int (s1 + v7_0)), .val (.ref os), .val (.int nn), .val (.int x4), .val (.int (xs.getD i 0))] [])
          refine Go.via (fun t k => XS.iinc X7.here hx rfl (hb hby d10_38) rfl (l' := #[.val (.ref oa), .val (.int (s1 + v7_0)), .val (.ref os), .val (.int nn), .val (.int (x4 + (1 : Int32))), .val (.int (xs.getD i 0))]) rfl k) ?_
          show Go p.tables e below P T7 (mkF m 41 #[.val (.ref oa), .val (.int (s1 + v7_0)), .val (.ref os), .val (.int nn), .val (.int (x4 + (1 : Int32))), .val (.int (xs.getD i 0))] [])
          refine Go.via (fun t k => XS.goto X7.here hx rfl (pc0 := 41) (pc' := 13) rfl (hb hby d10_41) (by decide) (by decide) k) ?_
          exact ih3 T7 _ (i + 1) (s1 + v7_0) (x4 + (1 : Int32)) (.val (.int (xs.getD i 0))) X7 e7 N7 hlt (by rw [hv7_0, hs1]; rfl) (by rw [hx4]; exact own_succ i) (Or.inr ⟨_, rfl, rfl⟩) (by omega)
        by_cases hc6 : (xs.getD i 0) = (0 : Int32)
        · refine Go.via (fun t k => XS.ifYes X3.here hx rfl (pc0 := 28) (pc' := 35) rfl (hb hby d10_28) rfl ((if0 _ _).trans (teq hc6).1) (by decide) (by decide) k) ?_
          show Go p.tables e below P T3 (mkF m 35 #[.val (.ref oa), .val (.int s1), .val (.ref os), .val (.int nn), .val (.int x4), .val (.int (xs.getD i 0))] [(.int s1)])
          refine Go.via (fun t k => XS.iconst X3.here hx rfl (hb hby d10_35) k) ?_
          exact J7 T3 _ (0 : Int32) X3 e3 N3 (if_pos hc6).symm
        · refine Go.via (fun t k => XS.ifNo X3.here hx rfl (hb hby d10_28) rfl ((if0 _ _).trans (feq hc6).1) k) ?_
          show Go p.tables e below P T3 (mkF m 31 #[.val (.ref oa), .val (.int s1), .val (.ref os), .val (.int nn), .val (.int x4), .val (.int (xs.getD i 0))] [(.int s1)])
          refine Go.via (fun t k => XS.iconst X3.here hx rfl (hb hby d10_31) k) ?_
          show Go p.tables e below P T3 (mkF m 32 #[.val (.ref oa), .val (.int s1), .val (.ref os), .val (.int nn), .val (.int x4), .val (.int (xs.getD i 0))] [(.int (1 : Int32)), (.int s1)])
          refine Go.via (fun t k => XS.goto X3.here hx rfl (pc0 := 32) (pc' := 36) rfl (hb hby d10_32) (by decide) (by decide) k) ?_
          exact J7 T3 _ (1 : Int32) X3 e3 N3 (if_neg hc6).symm
      · refine Go.via (fun t k => XS.icmpYes X3.here hx rfl (pc0 := 16) (pc' := 44) rfl (hb hby d10_16) rfl (flt hc4).2.1 (by decide) (by decide) k) ?_
        show Go p.tables e below P T3 (mkF m 44 #[.val (.ref oa), .val (.int s1), .val (.ref os), .val (.int nn), .val (.int x4), s3_5] [])
        refine Go.via (fun t k => XS.iloadN X3.here hx rfl (hb hby d10_44) rfl k) ?_
        show Go p.tables e below P T3 (mkF m 45 #[.val (.ref oa), .val (.int s1), .val (.ref os), .val (.int nn), .val (.int x4), s3_5] [(.int s1)])
        have hge : i = mm := (by have q : ¬ i < mm := fun q => hc4 (by rw [hx4, hnn]; exact (own_ltN (by omega) (by omega)).mpr q); omega)
        obtain ⟨fs, hr, hrun, hended, hW, hsame⟩ := X3.leave (v := some (.int (own_sq xs mm))) (fun h => by rw [Bd.returns] at h; cases h)
        refine ⟨_, _, (by have q := retI X3 hx Bd.returns (hb hby d10_45) (z := s1) (rest := []) (pc := 45) (Ls := #[.val (.ref oa), .val (.int s1), .val (.ref os), .val (.int nn), .val (.int x4), s3_5]) (by rw [(show s1 = own_sq xs mm by rw [hs1, hge])]; exact hr); exact q), hrun, hended, hP _ _ ⟨_, _, rfl, ?_, ⟨_, rfl⟩, hW, hsame.mono (by decide) (by decide)⟩⟩
        show Q10 Z oa os kk nn xs mm h0 n0 _ T3.heap _
        rw [e3]
        exact ⟨rfl, N3, rfl⟩
  exact LP3 _ T1 _ 0 (0 : Int32) (0 : Int32) .unset X1 e1 N0 (Nat.zero_le _) rfl rfl (Or.inl rfl) (Nat.lt_succ_self _)
theorem own_pd4 : parseMethodDescriptor "(III)I" = some ⟨[.int, .int, .int], some .int⟩ := by decide +kernel
theorem own_pd5 : parseMethodDescriptor "([Z)V" = some ⟨[(.array .boolean)], none⟩ := by decide +kernel
theorem own_pd6 : parseMethodDescriptor "()I" = some ⟨[], some .int⟩ := by decide +kernel
theorem ef_0 (m : MethodId) (x0 : Int32) (x1 : Int32) : entryFrame m #[(.int x0), (.int x1)] maxLocals = mkF m 0 #[.val (.int x0), .val (.int x1), .unset, .unset, .unset, .unset, .unset, .unset] [] := by first | (simp [entryFrame, mkF, argsToLocals, Value.category, maxLocals]; done) | rfl
def Q0 (Z : State) (ps : Int32) (pf : Int32) (de : Addr) (h0 : Heap) (n0 : Nat) (v : Option Value) (h : Heap) (L : List Loc) : Prop := v = some (.int (1 : Int32)) ∧ Fr n0 L
set_option maxRecDepth 65536 in
set_option maxHeartbeats 40000000 in
theorem rm0 (l : Launch) (Z : State) (a0 : Array Value) (hw : ∀ d ∈ tables_1, d.before a0 Z = true) (ws : List Jvm.Cond) (ps : Int32) (pf : Int32) (de : Addr) (h0 : Heap) (n0 : Nat) (Z0 : n0 ≤ h0.size) (O0 : Old Z n0 h0) (P1 : Sta Z Z.heap "java/util/ArrayList" "DEFAULTCAPACITY_EMPTY_ELEMENTDATA" "[Ljava/lang/Object;" (.ref de)) :
    MetFree l x (head1 (Jvm.Cond.code x code maxLocals ret :: ws) room_1) (fun a U => a = #[(.int ps), (.int pf)] ∧ Z.Warmed39 U.vm ∧ U.heap = h0) (fun _ _ _ _ _ => True) (fun _ U o U' => ∃ v L, o = .returned v ∧ Q0 Z ps pf de h0 n0 v U'.heap L ∧ FrameEnd U o U' L room_1.cells room_1.slots) := by
  refine MetFree.of_bodySF (plainFor_of_name own_pn0) hisR ?_
  intro p e s m args below meth c s₁ Bd hml0 hP hK
  obtain ⟨rfl, hZ, hh⟩ := hP
  have hx := Bd.exec
  have hby := Bd.bytes
  have hml : c.maxLocals = 8 := hml0
  have hown : s.vm.findClass "com/example/numeric_planner/numericplanner/diagram/RowsSquareCountPinLaw" = some m.cls := findClass_of_methodNamed Bd.named
  have hnm := (name_of_methodNamed Bd.named Bd.method).1
  have X0 : Stand p l e room_1 s m #[(.int ps), (.int pf)] below meth c s₁ [] 0 0 := Stand.of_body Bd
  have e0 : s₁.heap = h0 := by rw [← hh, Bd.state]; rfl
  have N0 := Fr.nil n0
  have K0 : Keep h0 h0 [] := Keep.refl _ _
  suffices GO : ∀ P : Outcome → State → Prop, (∀ o U', (∃ v L, o = .returned v ∧ Q0 Z ps pf de h0 n0 v U'.heap L ∧ FrameEnd s o U' L room_1.cells room_1.slots) → P o U') → Go p.tables e below P s₁ (mkF m 0 #[.val (.int ps), .val (.int pf), .unset, .unset, .unset, .unset, .unset, .unset] []) by
    obtain ⟨s2, o, st, r⟩ := GO _ (fun _ _ q => q)
    exact ⟨s2, o, castTop (ef_0 m ps pf) st, r⟩
  clear hh
  intro P hP
  show Go p.tables e below P s₁ (mkF m 0 #[.val (.int ps), .val (.int pf), .unset, .unset, .unset, .unset, .unset, .unset] [])
  refine Go.via (fun t k => XS.iloadN X0.here hx rfl (hb hby at_0) rfl k) ?_
  show Go p.tables e below P s₁ (mkF m 1 #[.val (.int ps), .val (.int pf), .unset, .unset, .unset, .unset, .unset, .unset] [(.int ps)])
  refine Go.via (fun t k => X0.ldcInt hx hown (mvT hZ (hw _ (List.mem_of_getElem? (i := 0) rfl))) (g := (mkF m 1 #[.val (.int ps), .val (.int pf), .unset, .unset, .unset, .unset, .unset, .unset] [(.int ps)])) rfl (hb hby at_1) t k) ?_
  show Go p.tables e below P s₁ (mkF m 3 #[.val (.int ps), .val (.int pf), .unset, .unset, .unset, .unset, .unset, .unset] [(.int (2147483647 : Int32)), (.int ps)])
  refine Go.via (fun t k => XS.iand X0.here hx rfl (hb hby at_3) rfl k) ?_
  show Go p.tables e below P s₁ (mkF m 4 #[.val (.int ps), .val (.int pf), .unset, .unset, .unset, .unset, .unset, .unset] [(.int (ps &&& (2147483647 : Int32)))])
  refine Go.via (fun t k => XS.bipush X0.here hx rfl (hb hby at_4) k) ?_
  show Go p.tables e below P s₁ (mkF m 6 #[.val (.int ps), .val (.int pf), .unset, .unset, .unset, .unset, .unset, .unset] [(.int (9 : Int32)), (.int (ps &&& (2147483647 : Int32)))])
  refine Go.via (fun t k => iremM X0 hx rfl (hb hby at_6) rfl (by decide) k) ?_
  show Go p.tables e below P s₁ (mkF m 7 #[.val (.int ps), .val (.int pf), .unset, .unset, .unset, .unset, .unset, .unset] [(.int ((ps &&& (2147483647 : Int32)) % (9 : Int32)))])
  refine Go.via (fun t k => XS.istoreN X0.here hx rfl (hb hby at_7) rfl (l' := #[.val (.int ps), .val (.int pf), .val (.int ((ps &&& (2147483647 : Int32)) % (9 : Int32))), .unset, .unset, .unset, .unset, .unset]) rfl k) ?_
  show Go p.tables e below P s₁ (mkF m 8 #[.val (.int ps), .val (.int pf), .val (.int ((ps &&& (2147483647 : Int32)) % (9 : Int32))), .unset, .unset, .unset, .unset, .unset] [])
  obtain ⟨nn, hnn⟩ : ∃ z, z = ((ps &&& (2147483647 : Int32)) % (9 : Int32)) := ⟨_, rfl⟩
  rw [← hnn]
  obtain ⟨mm, hmm, hnm'⟩ := own_rem9 ps
  rw [← hnn] at hnm'
  have hc8 : nn.toNatClampNeg ≤ 8 := by rw [hnm', own_clamp (by omega)]; exact hmm
  refine Go.via (fun t k => XS.iloadN X0.here hx rfl (hb hby at_8) rfl k) ?_
  show Go p.tables e below P s₁ (mkF m 9 #[.val (.int ps), .val (.int pf), .val (.int nn), .unset, .unset, .unset, .unset, .unset] [(.int nn)])
  obtain ⟨T1, h1, k1, X1, e1, E1, A1, B1, st1⟩ := newPE X0 hx hZ (hw _ (List.mem_of_getElem? (i := 1) rfl)) e0 (g := (mkF m 9 #[.val (.int ps), .val (.int pf), .val (.int nn), .unset, .unset, .unset, .unset, .unset] [(.int nn)])) rfl (hb hby at_9) rfl (by rw [hnm']; exact own_nneg (by omega)) (cap := 8) hc8 (by decide) (by decide) (by decide) (ad := "[Z") (by decide)
  obtain ⟨b1, g1⟩ : ∃ z, z = h0.size := ⟨_, rfl⟩
  rw [← g1] at A1 B1 st1
  refine Go.via st1 ?_
  have g2 : n0 ≤ b1 := Nat.le_trans Z0 (Nat.le_of_eq g1.symm)
  have sz3 : h0.size ≤ b1 := Nat.le_trans K0.1 (Nat.le_of_eq g1.symm)
  have Z4 : n0 ≤ h1.size := Nat.le_trans Z0 E1.1
  have K5 : Keep h0 h1 [] := K0.ext E1
  have O6 : Old Z n0 h1 := O0.ext E1
  have V1 : Arv Z h1 b1 k1 .boolean nn [(.int (0 : Int32)), (.int (0 : Int32)), (.int (0 : Int32)), (.int (0 : Int32)), (.int (0 : Int32)), (.int (0 : Int32)), (.int (0 : Int32)), (.int (0 : Int32))] (.int (0 : Int32)) := (Arv.new A1 (by rw [hnm']; exact own_nneg (by omega))).pad (pad_rep [] (.int (0 : Int32)) 8)
  show Go p.tables e below P T1 (mkF m 11 #[.val (.int ps), .val (.int pf), .val (.int nn), .unset, .unset, .unset, .unset, .unset] [(.ref b1)])
  refine Go.via (fun t k => XS.astoreN X1.here hx rfl (hb hby at_11) rfl rfl (l' := #[.val (.int ps), .val (.int pf), .val (.int nn), .val (.ref b1), .unset, .unset, .unset, .unset]) rfl k) ?_
  show Go p.tables e below P T1 (mkF m 12 #[.val (.int ps), .val (.int pf), .val (.int nn), .val (.ref b1), .unset, .unset, .unset, .unset] [])
  refine Go.via (fun t k => XS.iloadN X1.here hx rfl (hb hby at_12) rfl k) ?_
  show Go p.tables e below P T1 (mkF m 13 #[.val (.int ps), .val (.int pf), .val (.int nn), .val (.ref b1), .unset, .unset, .unset, .unset] [(.int nn)])
  have LP8 : ∀ (T8 : State) (locs8 : List Loc) (hp8 : Heap) (x0 : Int32), Stand p l e room_1 s m #[(.int ps), (.int pf)] below meth c T8 locs8 1 8 → T8.heap = hp8 → Fr n0 locs8 → n0 ≤ hp8.size → Keep h0 hp8 [] → Old Z n0 hp8 → Arv Z hp8 b1 k1 .boolean nn [(.int x0), (.int (0 : Int32)), (.int (0 : Int32)), (.int (0 : Int32)), (.int (0 : Int32)), (.int (0 : Int32)), (.int (0 : Int32)), (.int (0 : Int32))] (.int (0 : Int32)) → Exa Z hp8 b1 "[Z" → x0 = (if (0 : Int32) < nn then nar .boolean (own_bv pf (0 : Int32)) else (0 : Int32)) → Go p.tables e below P T8 (mkF m 24 #[.val (.int ps), .val (.int pf), .val (.int nn), .val (.ref b1), .unset, .unset, .unset, .unset] []) := by
    intro T8 locs8 hp8 x0 X8 e8 N8 Z8 K8 O8 F8_0 F8_1 hx0
    show Go p.tables e below P T8 (mkF m 24 #[.val (.int ps), .val (.int pf), .val (.int nn), .val (.ref b1), .unset, .unset, .unset, .unset] [])
    refine Go.via (fun t k => XS.iloadN X8.here hx rfl (hb hby at_24) rfl k) ?_
    show Go p.tables e below P T8 (mkF m 25 #[.val (.int ps), .val (.int pf), .val (.int nn), .val (.ref b1), .unset, .unset, .unset, .unset] [(.int nn)])
    refine Go.via (fun t k => XS.iconst X8.here hx rfl (hb hby at_25) k) ?_
    show Go p.tables e below P T8 (mkF m 26 #[.val (.int ps), .val (.int pf), .val (.int nn), .val (.ref b1), .unset, .unset, .unset, .unset] [(.int (1 : Int32)), (.int nn)])
    have LP10 : ∀ (T10 : State) (locs10 : List Loc) (hp10 : Heap) (x1 : Int32), Stand p l e room_1 s m #[(.int ps), (.int pf)] below meth c T10 locs10 1 8 → T10.heap = hp10 → Fr n0 locs10 → n0 ≤ hp10.size → Keep h0 hp10 [] → Old Z n0 hp10 → Arv Z hp10 b1 k1 .boolean nn [(.int x0), (.int x1), (.int (0 : Int32)), (.int (0 : Int32)), (.int (0 : Int32)), (.int (0 : Int32)), (.int (0 : Int32)), (.int (0 : Int32))] (.int (0 : Int32)) → Exa Z hp10 b1 "[Z" → x1 = (if (1 : Int32) < nn then nar .boolean (own_bv pf (1 : Int32)) else (0 : Int32)) → Go p.tables e below P T10 (mkF m 37 #[.val (.int ps), .val (.int pf), .val (.int nn), .val (.ref b1), .unset, .unset, .unset, .unset] []) := by
      intro T10 locs10 hp10 x1 X10 e10 N10 Z10 K10 O10 F10_0 F10_1 hx1
      show Go p.tables e below P T10 (mkF m 37 #[.val (.int ps), .val (.int pf), .val (.int nn), .val (.ref b1), .unset, .unset, .unset, .unset] [])
      refine Go.via (fun t k => XS.iloadN X10.here hx rfl (hb hby at_37) rfl k) ?_
      show Go p.tables e below P T10 (mkF m 38 #[.val (.int ps), .val (.int pf), .val (.int nn), .val (.ref b1), .unset, .unset, .unset, .unset] [(.int nn)])
      refine Go.via (fun t k => XS.iconst X10.here hx rfl (hb hby at_38) k) ?_
      show Go p.tables e below P T10 (mkF m 39 #[.val (.int ps), .val (.int pf), .val (.int nn), .val (.ref b1), .unset, .unset, .unset, .unset] [(.int (2 : Int32)), (.int nn)])
      have LP12 : ∀ (T12 : State) (locs12 : List Loc) (hp12 : Heap) (x2 : Int32), Stand p l e room_1 s m #[(.int ps), (.int pf)] below meth c T12 locs12 1 8 → T12.heap = hp12 → Fr n0 locs12 → n0 ≤ hp12.size → Keep h0 hp12 [] → Old Z n0 hp12 → Arv Z hp12 b1 k1 .boolean nn [(.int x0), (.int x1), (.int x2), (.int (0 : Int32)), (.int (0 : Int32)), (.int (0 : Int32)), (.int (0 : Int32)), (.int (0 : Int32))] (.int (0 : Int32)) → Exa Z hp12 b1 "[Z" → x2 = (if (2 : Int32) < nn then nar .boolean (own_bv pf (2 : Int32)) else (0 : Int32)) → Go p.tables e below P T12 (mkF m 50 #[.val (.int ps), .val (.int pf), .val (.int nn), .val (.ref b1), .unset, .unset, .unset, .unset] []) := by
        intro T12 locs12 hp12 x2 X12 e12 N12 Z12 K12 O12 F12_0 F12_1 hx2
        show Go p.tables e below P T12 (mkF m 50 #[.val (.int ps), .val (.int pf), .val (.int nn), .val (.ref b1), .unset, .unset, .unset, .unset] [])
        refine Go.via (fun t k => XS.iloadN X12.here hx rfl (hb hby at_50) rfl k) ?_
        show Go p.tables e below P T12 (mkF m 51 #[.val (.int ps), .val (.int pf), .val (.int nn), .val (.ref b1), .unset, .unset, .unset, .unset] [(.int nn)])
        refine Go.via (fun t k => XS.iconst X12.here hx rfl (hb hby at_51) k) ?_
        show Go p.tables e below P T12 (mkF m 52 #[.val (.int ps), .val (.int pf), .val (.int nn), .val (.ref b1), .unset, .unset, .unset, .unset] [(.int (3 : Int32)), (.int nn)])
        have LP14 : ∀ (T14 : State) (locs14 : List Loc) (hp14 : Heap) (x3 : Int32), Stand p l e room_1 s m #[(.int ps), (.int pf)] below meth c T14 locs14 1 8 → T14.heap = hp14 → Fr n0 locs14 → n0 ≤ hp14.size → Keep h0 hp14 [] → Old Z n0 hp14 → Arv Z hp14 b1 k1 .boolean nn [(.int x0), (.int x1), (.int x2), (.int x3), (.int (0 : Int32)), (.int (0 : Int32)), (.int (0 : Int32)), (.int (0 : Int32))] (.int (0 : Int32)) → Exa Z hp14 b1 "[Z" → x3 = (if (3 : Int32) < nn then nar .boolean (own_bv pf (3 : Int32)) else (0 : Int32)) → Go p.tables e below P T14 (mkF m 63 #[.val (.int ps), .val (.int pf), .val (.int nn), .val (.ref b1), .unset, .unset, .unset, .unset] []) := by
          intro T14 locs14 hp14 x3 X14 e14 N14 Z14 K14 O14 F14_0 F14_1 hx3
          show Go p.tables e below P T14 (mkF m 63 #[.val (.int ps), .val (.int pf), .val (.int nn), .val (.ref b1), .unset, .unset, .unset, .unset] [])
          refine Go.via (fun t k => XS.iloadN X14.here hx rfl (hb hby at_63) rfl k) ?_
          show Go p.tables e below P T14 (mkF m 64 #[.val (.int ps), .val (.int pf), .val (.int nn), .val (.ref b1), .unset, .unset, .unset, .unset] [(.int nn)])
          refine Go.via (fun t k => XS.iconst X14.here hx rfl (hb hby at_64) k) ?_
          show Go p.tables e below P T14 (mkF m 65 #[.val (.int ps), .val (.int pf), .val (.int nn), .val (.ref b1), .unset, .unset, .unset, .unset] [(.int (4 : Int32)), (.int nn)])
          have LP16 : ∀ (T16 : State) (locs16 : List Loc) (hp16 : Heap) (x4 : Int32), Stand p l e room_1 s m #[(.int ps), (.int pf)] below meth c T16 locs16 1 8 → T16.heap = hp16 → Fr n0 locs16 → n0 ≤ hp16.size → Keep h0 hp16 [] → Old Z n0 hp16 → Arv Z hp16 b1 k1 .boolean nn [(.int x0), (.int x1), (.int x2), (.int x3), (.int x4), (.int (0 : Int32)), (.int (0 : Int32)), (.int (0 : Int32))] (.int (0 : Int32)) → Exa Z hp16 b1 "[Z" → x4 = (if (4 : Int32) < nn then nar .boolean (own_bv pf (4 : Int32)) else (0 : Int32)) → Go p.tables e below P T16 (mkF m 76 #[.val (.int ps), .val (.int pf), .val (.int nn), .val (.ref b1), .unset, .unset, .unset, .unset] []) := by
            intro T16 locs16 hp16 x4 X16 e16 N16 Z16 K16 O16 F16_0 F16_1 hx4
            show Go p.tables e below P T16 (mkF m 76 #[.val (.int ps), .val (.int pf), .val (.int nn), .val (.ref b1), .unset, .unset, .unset, .unset] [])
            refine Go.via (fun t k => XS.iloadN X16.here hx rfl (hb hby at_76) rfl k) ?_
            show Go p.tables e below P T16 (mkF m 77 #[.val (.int ps), .val (.int pf), .val (.int nn), .val (.ref b1), .unset, .unset, .unset, .unset] [(.int nn)])
            refine Go.via (fun t k => XS.iconst X16.here hx rfl (hb hby at_77) k) ?_
            show Go p.tables e below P T16 (mkF m 78 #[.val (.int ps), .val (.int pf), .val (.int nn), .val (.ref b1), .unset, .unset, .unset, .unset] [(.int (5 : Int32)), (.int nn)])
            have LP18 : ∀ (T18 : State) (locs18 : List Loc) (hp18 : Heap) (x5 : Int32), Stand p l e room_1 s m #[(.int ps), (.int pf)] below meth c T18 locs18 1 8 → T18.heap = hp18 → Fr n0 locs18 → n0 ≤ hp18.size → Keep h0 hp18 [] → Old Z n0 hp18 → Arv Z hp18 b1 k1 .boolean nn [(.int x0), (.int x1), (.int x2), (.int x3), (.int x4), (.int x5), (.int (0 : Int32)), (.int (0 : Int32))] (.int (0 : Int32)) → Exa Z hp18 b1 "[Z" → x5 = (if (5 : Int32) < nn then nar .boolean (own_bv pf (5 : Int32)) else (0 : Int32)) → Go p.tables e below P T18 (mkF m 89 #[.val (.int ps), .val (.int pf), .val (.int nn), .val (.ref b1), .unset, .unset, .unset, .unset] []) := by
              intro T18 locs18 hp18 x5 X18 e18 N18 Z18 K18 O18 F18_0 F18_1 hx5
              show Go p.tables e below P T18 (mkF m 89 #[.val (.int ps), .val (.int pf), .val (.int nn), .val (.ref b1), .unset, .unset, .unset, .unset] [])
              refine Go.via (fun t k => XS.iloadN X18.here hx rfl (hb hby at_89) rfl k) ?_
              show Go p.tables e below P T18 (mkF m 90 #[.val (.int ps), .val (.int pf), .val (.int nn), .val (.ref b1), .unset, .unset, .unset, .unset] [(.int nn)])
              refine Go.via (fun t k => XS.bipush X18.here hx rfl (hb hby at_90) k) ?_
              show Go p.tables e below P T18 (mkF m 92 #[.val (.int ps), .val (.int pf), .val (.int nn), .val (.ref b1), .unset, .unset, .unset, .unset] [(.int (6 : Int32)), (.int nn)])
              have LP20 : ∀ (T20 : State) (locs20 : List Loc) (hp20 : Heap) (x6 : Int32), Stand p l e room_1 s m #[(.int ps), (.int pf)] below meth c T20 locs20 1 8 → T20.heap = hp20 → Fr n0 locs20 → n0 ≤ hp20.size → Keep h0 hp20 [] → Old Z n0 hp20 → Arv Z hp20 b1 k1 .boolean nn [(.int x0), (.int x1), (.int x2), (.int x3), (.int x4), (.int x5), (.int x6), (.int (0 : Int32))] (.int (0 : Int32)) → Exa Z hp20 b1 "[Z" → x6 = (if (6 : Int32) < nn then nar .boolean (own_bv pf (6 : Int32)) else (0 : Int32)) → Go p.tables e below P T20 (mkF m 105 #[.val (.int ps), .val (.int pf), .val (.int nn), .val (.ref b1), .unset, .unset, .unset, .unset] []) := by
                intro T20 locs20 hp20 x6 X20 e20 N20 Z20 K20 O20 F20_0 F20_1 hx6
                show Go p.tables e below P T20 (mkF m 105 #[.val (.int ps), .val (.int pf), .val (.int nn), .val (.ref b1), .unset, .unset, .unset, .unset] [])
                refine Go.via (fun t k => XS.iloadN X20.here hx rfl (hb hby at_105) rfl k) ?_
                show Go p.tables e below P T20 (mkF m 106 #[.val (.int ps), .val (.int pf), .val (.int nn), .val (.ref b1), .unset, .unset, .unset, .unset] [(.int nn)])
                refine Go.via (fun t k => XS.bipush X20.here hx rfl (hb hby at_106) k) ?_
                show Go p.tables e below P T20 (mkF m 108 #[.val (.int ps), .val (.int pf), .val (.int nn), .val (.ref b1), .unset, .unset, .unset, .unset] [(.int (7 : Int32)), (.int nn)])
                have LP22 : ∀ (T22 : State) (locs22 : List Loc) (hp22 : Heap) (x7 : Int32), Stand p l e room_1 s m #[(.int ps), (.int pf)] below meth c T22 locs22 1 8 → T22.heap = hp22 → Fr n0 locs22 → n0 ≤ hp22.size → Keep h0 hp22 [] → Old Z n0 hp22 → Arv Z hp22 b1 k1 .boolean nn [(.int x0), (.int x1), (.int x2), (.int x3), (.int x4), (.int x5), (.int x6), (.int x7)] (.int (0 : Int32)) → Exa Z hp22 b1 "[Z" → x7 = (if (7 : Int32) < nn then nar .boolean (own_bv pf (7 : Int32)) else (0 : Int32)) → Go p.tables e below P T22 (mkF m 121 #[.val (.int ps), .val (.int pf), .val (.int nn), .val (.ref b1), .unset, .unset, .unset, .unset] []) := by
                  intro T22 locs22 hp22 x7 X22 e22 N22 Z22 K22 O22 F22_0 F22_1 hx7
                  show Go p.tables e below P T22 (mkF m 121 #[.val (.int ps), .val (.int pf), .val (.int nn), .val (.ref b1), .unset, .unset, .unset, .unset] [])
                  refine Go.via (fun t k => XS.iloadN X22.here hx rfl (hb hby at_121) rfl k) ?_
                  show Go p.tables e below P T22 (mkF m 122 #[.val (.int ps), .val (.int pf), .val (.int nn), .val (.ref b1), .unset, .unset, .unset, .unset] [(.int pf)])
                  refine Go.via (fun t k => XS.iconst X22.here hx rfl (hb hby at_122) k) ?_
                  show Go p.tables e below P T22 (mkF m 123 #[.val (.int ps), .val (.int pf), .val (.int nn), .val (.ref b1), .unset, .unset, .unset, .unset] [(.int (0 : Int32)), (.int pf)])
                  refine Go.via (fun t k => XS.iloadN X22.here hx rfl (hb hby at_123) rfl k) ?_
                  show Go p.tables e below P T22 (mkF m 124 #[.val (.int ps), .val (.int pf), .val (.int nn), .val (.ref b1), .unset, .unset, .unset, .unset] [(.int nn), (.int (0 : Int32)), (.int pf)])
                  obtain ⟨_, _, ⟨T23, L23, k23, n23⟩, -, X23, ⟨Lc23, hQ23, l23, y23, z23⟩, st23⟩ := Jvm.LawKit.callS X22 hx (y := (⟨"com/example/numeric_planner/numericplanner/diagram/RowsSquareCountPinLaw", "one", "(III)I"⟩ : MethodName)) hown (mvT hZ (hw _ (List.mem_of_getElem? (i := 2) rfl))) (mvT hZ (hw _ (List.mem_of_getElem? (i := 3) rfl))) (mvT hZ (hw _ (List.mem_of_getElem? (i := 4) rfl))) (mvT hZ (hw _ (List.mem_of_getElem? (i := 5) rfl))) (by decide) (backOf (W := 0) (rm1 l Z a0 hw [] pf (0 : Int32) nn hp22 n0 Z22 ) hZ (hw _ (List.mem_of_getElem? (i := 5) rfl)) (hw _ (List.mem_of_getElem? (i := 4) rfl)) (by decide) (by decide)) (g := (mkF m 124 #[.val (.int ps), .val (.int pf), .val (.int nn), .val (.ref b1), .unset, .unset, .unset, .unset] [(.int nn), (.int (0 : Int32)), (.int pf)])) rfl (by rw [hml]; rfl) (argsL := [(.int pf), (.int (0 : Int32)), (.int nn)]) (rest := []) (lenOf own_pd4 rfl) rfl (by show 2 * 0 + _ ≤ _; exact Nat.le_of_eq rfl) (hb hby at_124) (fun _ _ => ⟨rfl, e22, (by decide : 1 + 0 ≤ _), (by decide : 8 + 0 ≤ _)⟩)
                  dsimp only [Pt.U, Pt.locs, Pt.cells, Pt.slots] at X23 l23 y23 z23 st23 hQ23
                  subst l23 y23 z23
                  obtain ⟨rfl, Nq23, hh23⟩ := hQ23
                  obtain ⟨lc23, Xh23, N23⟩ := own_hide X23 (Fr.app N22 Nq23)
                  clear X23
                  refine Go.via st23 ?_
                  show Go p.tables e below P T23 (mkF m 127 #[.val (.int ps), .val (.int pf), .val (.int nn), .val (.ref b1), .unset, .unset, .unset, .unset] [(.int (own_one pf (0 : Int32) nn))])
                  refine Go.via (fun t k => XS.iloadN Xh23.here hx rfl (hb hby at_127) rfl k) ?_
                  show Go p.tables e below P T23 (mkF m 128 #[.val (.int ps), .val (.int pf), .val (.int nn), .val (.ref b1), .unset, .unset, .unset, .unset] [(.int pf), (.int (own_one pf (0 : Int32) nn))])
                  refine Go.via (fun t k => XS.iconst Xh23.here hx rfl (hb hby at_128) k) ?_
                  show Go p.tables e below P T23 (mkF m 129 #[.val (.int ps), .val (.int pf), .val (.int nn), .val (.ref b1), .unset, .unset, .unset, .unset] [(.int (1 : Int32)), (.int pf), (.int (own_one pf (0 : Int32) nn))])
                  refine Go.via (fun t k => XS.iloadN Xh23.here hx rfl (hb hby at_129) rfl k) ?_
                  show Go p.tables e below P T23 (mkF m 130 #[.val (.int ps), .val (.int pf), .val (.int nn), .val (.ref b1), .unset, .unset, .unset, .unset] [(.int nn), (.int (1 : Int32)), (.int pf), (.int (own_one pf (0 : Int32) nn))])
                  obtain ⟨_, _, ⟨T24, L24, k24, n24⟩, -, X24, ⟨Lc24, hQ24, l24, y24, z24⟩, st24⟩ := Jvm.LawKit.callS Xh23 hx (y := (⟨"com/example/numeric_planner/numericplanner/diagram/RowsSquareCountPinLaw", "one", "(III)I"⟩ : MethodName)) hown (mvT hZ (hw _ (List.mem_of_getElem? (i := 2) rfl))) (mvT hZ (hw _ (List.mem_of_getElem? (i := 3) rfl))) (mvT hZ (hw _ (List.mem_of_getElem? (i := 4) rfl))) (mvT hZ (hw _ (List.mem_of_getElem? (i := 5) rfl))) (by decide) (backOf (W := 1) (rm1 l Z a0 hw [] pf (1 : Int32) nn hp22 n0 Z22 ) hZ (hw _ (List.mem_of_getElem? (i := 5) rfl)) (hw _ (List.mem_of_getElem? (i := 4) rfl)) (by decide) (by decide)) (g := (mkF m 130 #[.val (.int ps), .val (.int pf), .val (.int nn), .val (.ref b1), .unset, .unset, .unset, .unset] [(.int nn), (.int (1 : Int32)), (.int pf), (.int (own_one pf (0 : Int32) nn))])) rfl (by rw [hml]; rfl) (argsL := [(.int pf), (.int (1 : Int32)), (.int nn)]) (rest := [(.int (own_one pf (0 : Int32) nn))]) (lenOf own_pd4 rfl) rfl (by show 2 * 0 + _ ≤ _; exact Nat.le_of_eq rfl) (hb hby at_130) (fun _ _ => ⟨rfl, hh23, (by decide : 1 + 0 ≤ _), (by decide : 8 + 0 ≤ _)⟩)
                  dsimp only [Pt.U, Pt.locs, Pt.cells, Pt.slots] at X24 l24 y24 z24 st24 hQ24
                  subst l24 y24 z24
                  obtain ⟨rfl, Nq24, hh24⟩ := hQ24
                  obtain ⟨lc24, Xh24, N24⟩ := own_hide X24 (Fr.app N23 Nq24)
                  clear X24
                  refine Go.via st24 ?_
                  show Go p.tables e below P T24 (mkF m 133 #[.val (.int ps), .val (.int pf), .val (.int nn), .val (.ref b1), .unset, .unset, .unset, .unset] [(.int (own_one pf (1 : Int32) nn)), (.int (own_one pf (0 : Int32) nn))])
                  refine Go.via (fun t k => XS.iadd Xh24.here hx rfl (hb hby at_133) rfl k) ?_
                  show Go p.tables e below P T24 (mkF m 134 #[.val (.int ps), .val (.int pf), .val (.int nn), .val (.ref b1), .unset, .unset, .unset, .unset] [(.int ((own_one pf (0 : Int32) nn) + (own_one pf (1 : Int32) nn)))])
                  refine Go.via (fun t k => XS.iloadN Xh24.here hx rfl (hb hby at_134) rfl k) ?_
                  show Go p.tables e below P T24 (mkF m 135 #[.val (.int ps), .val (.int pf), .val (.int nn), .val (.ref b1), .unset, .unset, .unset, .unset] [(.int pf), (.int ((own_one pf (0 : Int32) nn) + (own_one pf (1 : Int32) nn)))])
                  refine Go.via (fun t k => XS.iconst Xh24.here hx rfl (hb hby at_135) k) ?_
                  show Go p.tables e below P T24 (mkF m 136 #[.val (.int ps), .val (.int pf), .val (.int nn), .val (.ref b1), .unset, .unset, .unset, .unset] [(.int (2 : Int32)), (.int pf), (.int ((own_one pf (0 : Int32) nn) + (own_one pf (1 : Int32) nn)))])
                  refine Go.via (fun t k => XS.iloadN Xh24.here hx rfl (hb hby at_136) rfl k) ?_
                  show Go p.tables e below P T24 (mkF m 137 #[.val (.int ps), .val (.int pf), .val (.int nn), .val (.ref b1), .unset, .unset, .unset, .unset] [(.int nn), (.int (2 : Int32)), (.int pf), (.int ((own_one pf (0 : Int32) nn) + (own_one pf (1 : Int32) nn)))])
                  obtain ⟨_, _, ⟨T25, L25, k25, n25⟩, -, X25, ⟨Lc25, hQ25, l25, y25, z25⟩, st25⟩ := Jvm.LawKit.callS Xh24 hx (y := (⟨"com/example/numeric_planner/numericplanner/diagram/RowsSquareCountPinLaw", "one", "(III)I"⟩ : MethodName)) hown (mvT hZ (hw _ (List.mem_of_getElem? (i := 2) rfl))) (mvT hZ (hw _ (List.mem_of_getElem? (i := 3) rfl))) (mvT hZ (hw _ (List.mem_of_getElem? (i := 4) rfl))) (mvT hZ (hw _ (List.mem_of_getElem? (i := 5) rfl))) (by decide) (backOf (W := 1) (rm1 l Z a0 hw [] pf (2 : Int32) nn hp22 n0 Z22 ) hZ (hw _ (List.mem_of_getElem? (i := 5) rfl)) (hw _ (List.mem_of_getElem? (i := 4) rfl)) (by decide) (by decide)) (g := (mkF m 137 #[.val (.int ps), .val (.int pf), .val (.int nn), .val (.ref b1), .unset, .unset, .unset, .unset] [(.int nn), (.int (2 : Int32)), (.int pf), (.int ((own_one pf (0 : Int32) nn) + (own_one pf (1 : Int32) nn)))])) rfl (by rw [hml]; rfl) (argsL := [(.int pf), (.int (2 : Int32)), (.int nn)]) (rest := [(.int ((own_one pf (0 : Int32) nn) + (own_one pf (1 : Int32) nn)))]) (lenOf own_pd4 rfl) rfl (by show 2 * 0 + _ ≤ _; exact Nat.le_of_eq rfl) (hb hby at_137) (fun _ _ => ⟨rfl, hh24, (by decide : 1 + 0 ≤ _), (by decide : 8 + 0 ≤ _)⟩)
                  dsimp only [Pt.U, Pt.locs, Pt.cells, Pt.slots] at X25 l25 y25 z25 st25 hQ25
                  subst l25 y25 z25
                  obtain ⟨rfl, Nq25, hh25⟩ := hQ25
                  obtain ⟨lc25, Xh25, N25⟩ := own_hide X25 (Fr.app N24 Nq25)
                  clear X25
                  refine Go.via st25 ?_
                  show Go p.tables e below P T25 (mkF m 140 #[.val (.int ps), .val (.int pf), .val (.int nn), .val (.ref b1), .unset, .unset, .unset, .unset] [(.int (own_one pf (2 : Int32) nn)), (.int ((own_one pf (0 : Int32) nn) + (own_one pf (1 : Int32) nn)))])
                  refine Go.via (fun t k => XS.iadd Xh25.here hx rfl (hb hby at_140) rfl k) ?_
                  show Go p.tables e below P T25 (mkF m 141 #[.val (.int ps), .val (.int pf), .val (.int nn), .val (.ref b1), .unset, .unset, .unset, .unset] [(.int (((own_one pf (0 : Int32) nn) + (own_one pf (1 : Int32) nn)) + (own_one pf (2 : Int32) nn)))])
                  refine Go.via (fun t k => XS.iloadN Xh25.here hx rfl (hb hby at_141) rfl k) ?_
                  show Go p.tables e below P T25 (mkF m 142 #[.val (.int ps), .val (.int pf), .val (.int nn), .val (.ref b1), .unset, .unset, .unset, .unset] [(.int pf), (.int (((own_one pf (0 : Int32) nn) + (own_one pf (1 : Int32) nn)) + (own_one pf (2 : Int32) nn)))])
                  refine Go.via (fun t k => XS.iconst Xh25.here hx rfl (hb hby at_142) k) ?_
                  show Go p.tables e below P T25 (mkF m 143 #[.val (.int ps), .val (.int pf), .val (.int nn), .val (.ref b1), .unset, .unset, .unset, .unset] [(.int (3 : Int32)), (.int pf), (.int (((own_one pf (0 : Int32) nn) + (own_one pf (1 : Int32) nn)) + (own_one pf (2 : Int32) nn)))])
                  refine Go.via (fun t k => XS.iloadN Xh25.here hx rfl (hb hby at_143) rfl k) ?_
                  show Go p.tables e below P T25 (mkF m 144 #[.val (.int ps), .val (.int pf), .val (.int nn), .val (.ref b1), .unset, .unset, .unset, .unset] [(.int nn), (.int (3 : Int32)), (.int pf), (.int (((own_one pf (0 : Int32) nn) + (own_one pf (1 : Int32) nn)) + (own_one pf (2 : Int32) nn)))])
                  obtain ⟨_, _, ⟨T26, L26, k26, n26⟩, -, X26, ⟨Lc26, hQ26, l26, y26, z26⟩, st26⟩ := Jvm.LawKit.callS Xh25 hx (y := (⟨"com/example/numeric_planner/numericplanner/diagram/RowsSquareCountPinLaw", "one", "(III)I"⟩ : MethodName)) hown (mvT hZ (hw _ (List.mem_of_getElem? (i := 2) rfl))) (mvT hZ (hw _ (List.mem_of_getElem? (i := 3) rfl))) (mvT hZ (hw _ (List.mem_of_getElem? (i := 4) rfl))) (mvT hZ (hw _ (List.mem_of_getElem? (i := 5) rfl))) (by decide) (backOf (W := 1) (rm1 l Z a0 hw [] pf (3 : Int32) nn hp22 n0 Z22 ) hZ (hw _ (List.mem_of_getElem? (i := 5) rfl)) (hw _ (List.mem_of_getElem? (i := 4) rfl)) (by decide) (by decide)) (g := (mkF m 144 #[.val (.int ps), .val (.int pf), .val (.int nn), .val (.ref b1), .unset, .unset, .unset, .unset] [(.int nn), (.int (3 : Int32)), (.int pf), (.int (((own_one pf (0 : Int32) nn) + (own_one pf (1 : Int32) nn)) + (own_one pf (2 : Int32) nn)))])) rfl (by rw [hml]; rfl) (argsL := [(.int pf), (.int (3 : Int32)), (.int nn)]) (rest := [(.int (((own_one pf (0 : Int32) nn) + (own_one pf (1 : Int32) nn)) + (own_one pf (2 : Int32) nn)))]) (lenOf own_pd4 rfl) rfl (by show 2 * 0 + _ ≤ _; exact Nat.le_of_eq rfl) (hb hby at_144) (fun _ _ => ⟨rfl, hh25, (by decide : 1 + 0 ≤ _), (by decide : 8 + 0 ≤ _)⟩)
                  dsimp only [Pt.U, Pt.locs, Pt.cells, Pt.slots] at X26 l26 y26 z26 st26 hQ26
                  subst l26 y26 z26
                  obtain ⟨rfl, Nq26, hh26⟩ := hQ26
                  obtain ⟨lc26, Xh26, N26⟩ := own_hide X26 (Fr.app N25 Nq26)
                  clear X26
                  refine Go.via st26 ?_
                  show Go p.tables e below P T26 (mkF m 147 #[.val (.int ps), .val (.int pf), .val (.int nn), .val (.ref b1), .unset, .unset, .unset, .unset] [(.int (own_one pf (3 : Int32) nn)), (.int (((own_one pf (0 : Int32) nn) + (own_one pf (1 : Int32) nn)) + (own_one pf (2 : Int32) nn)))])
                  refine Go.via (fun t k => XS.iadd Xh26.here hx rfl (hb hby at_147) rfl k) ?_
                  show Go p.tables e below P T26 (mkF m 148 #[.val (.int ps), .val (.int pf), .val (.int nn), .val (.ref b1), .unset, .unset, .unset, .unset] [(.int ((((own_one pf (0 : Int32) nn) + (own_one pf (1 : Int32) nn)) + (own_one pf (2 : Int32) nn)) + (own_one pf (3 : Int32) nn)))])
                  refine Go.via (fun t k => XS.iloadN Xh26.here hx rfl (hb hby at_148) rfl k) ?_
                  show Go p.tables e below P T26 (mkF m 149 #[.val (.int ps), .val (.int pf), .val (.int nn), .val (.ref b1), .unset, .unset, .unset, .unset] [(.int pf), (.int ((((own_one pf (0 : Int32) nn) + (own_one pf (1 : Int32) nn)) + (own_one pf (2 : Int32) nn)) + (own_one pf (3 : Int32) nn)))])
                  refine Go.via (fun t k => XS.iconst Xh26.here hx rfl (hb hby at_149) k) ?_
                  show Go p.tables e below P T26 (mkF m 150 #[.val (.int ps), .val (.int pf), .val (.int nn), .val (.ref b1), .unset, .unset, .unset, .unset] [(.int (4 : Int32)), (.int pf), (.int ((((own_one pf (0 : Int32) nn) + (own_one pf (1 : Int32) nn)) + (own_one pf (2 : Int32) nn)) + (own_one pf (3 : Int32) nn)))])
                  refine Go.via (fun t k => XS.iloadN Xh26.here hx rfl (hb hby at_150) rfl k) ?_
                  show Go p.tables e below P T26 (mkF m 151 #[.val (.int ps), .val (.int pf), .val (.int nn), .val (.ref b1), .unset, .unset, .unset, .unset] [(.int nn), (.int (4 : Int32)), (.int pf), (.int ((((own_one pf (0 : Int32) nn) + (own_one pf (1 : Int32) nn)) + (own_one pf (2 : Int32) nn)) + (own_one pf (3 : Int32) nn)))])
                  obtain ⟨_, _, ⟨T27, L27, k27, n27⟩, -, X27, ⟨Lc27, hQ27, l27, y27, z27⟩, st27⟩ := Jvm.LawKit.callS Xh26 hx (y := (⟨"com/example/numeric_planner/numericplanner/diagram/RowsSquareCountPinLaw", "one", "(III)I"⟩ : MethodName)) hown (mvT hZ (hw _ (List.mem_of_getElem? (i := 2) rfl))) (mvT hZ (hw _ (List.mem_of_getElem? (i := 3) rfl))) (mvT hZ (hw _ (List.mem_of_getElem? (i := 4) rfl))) (mvT hZ (hw _ (List.mem_of_getElem? (i := 5) rfl))) (by decide) (backOf (W := 1) (rm1 l Z a0 hw [] pf (4 : Int32) nn hp22 n0 Z22 ) hZ (hw _ (List.mem_of_getElem? (i := 5) rfl)) (hw _ (List.mem_of_getElem? (i := 4) rfl)) (by decide) (by decide)) (g := (mkF m 151 #[.val (.int ps), .val (.int pf), .val (.int nn), .val (.ref b1), .unset, .unset, .unset, .unset] [(.int nn), (.int (4 : Int32)), (.int pf), (.int ((((own_one pf (0 : Int32) nn) + (own_one pf (1 : Int32) nn)) + (own_one pf (2 : Int32) nn)) + (own_one pf (3 : Int32) nn)))])) rfl (by rw [hml]; rfl) (argsL := [(.int pf), (.int (4 : Int32)), (.int nn)]) (rest := [(.int ((((own_one pf (0 : Int32) nn) + (own_one pf (1 : Int32) nn)) + (own_one pf (2 : Int32) nn)) + (own_one pf (3 : Int32) nn)))]) (lenOf own_pd4 rfl) rfl (by show 2 * 0 + _ ≤ _; exact Nat.le_of_eq rfl) (hb hby at_151) (fun _ _ => ⟨rfl, hh26, (by decide : 1 + 0 ≤ _), (by decide : 8 + 0 ≤ _)⟩)
                  dsimp only [Pt.U, Pt.locs, Pt.cells, Pt.slots] at X27 l27 y27 z27 st27 hQ27
                  subst l27 y27 z27
                  obtain ⟨rfl, Nq27, hh27⟩ := hQ27
                  obtain ⟨lc27, Xh27, N27⟩ := own_hide X27 (Fr.app N26 Nq27)
                  clear X27
                  refine Go.via st27 ?_
                  show Go p.tables e below P T27 (mkF m 154 #[.val (.int ps), .val (.int pf), .val (.int nn), .val (.ref b1), .unset, .unset, .unset, .unset] [(.int (own_one pf (4 : Int32) nn)), (.int ((((own_one pf (0 : Int32) nn) + (own_one pf (1 : Int32) nn)) + (own_one pf (2 : Int32) nn)) + (own_one pf (3 : Int32) nn)))])
                  refine Go.via (fun t k => XS.iadd Xh27.here hx rfl (hb hby at_154) rfl k) ?_
                  show Go p.tables e below P T27 (mkF m 155 #[.val (.int ps), .val (.int pf), .val (.int nn), .val (.ref b1), .unset, .unset, .unset, .unset] [(.int (((((own_one pf (0 : Int32) nn) + (own_one pf (1 : Int32) nn)) + (own_one pf (2 : Int32) nn)) + (own_one pf (3 : Int32) nn)) + (own_one pf (4 : Int32) nn)))])
                  refine Go.via (fun t k => XS.iloadN Xh27.here hx rfl (hb hby at_155) rfl k) ?_
                  show Go p.tables e below P T27 (mkF m 156 #[.val (.int ps), .val (.int pf), .val (.int nn), .val (.ref b1), .unset, .unset, .unset, .unset] [(.int pf), (.int (((((own_one pf (0 : Int32) nn) + (own_one pf (1 : Int32) nn)) + (own_one pf (2 : Int32) nn)) + (own_one pf (3 : Int32) nn)) + (own_one pf (4 : Int32) nn)))])
                  refine Go.via (fun t k => XS.iconst Xh27.here hx rfl (hb hby at_156) k) ?_
                  show Go p.tables e below P T27 (mkF m 157 #[.val (.int ps), .val (.int pf), .val (.int nn), .val (.ref b1), .unset, .unset, .unset, .unset] [(.int (5 : Int32)), (.int pf), (.int (((((own_one pf (0 : Int32) nn) + (own_one pf (1 : Int32) nn)) + (own_one pf (2 : Int32) nn)) + (own_one pf (3 : Int32) nn)) + (own_one pf (4 : Int32) nn)))])
                  refine Go.via (fun t k => XS.iloadN Xh27.here hx rfl (hb hby at_157) rfl k) ?_
                  show Go p.tables e below P T27 (mkF m 158 #[.val (.int ps), .val (.int pf), .val (.int nn), .val (.ref b1), .unset, .unset, .unset, .unset] [(.int nn), (.int (5 : Int32)), (.int pf), (.int (((((own_one pf (0 : Int32) nn) + (own_one pf (1 : Int32) nn)) + (own_one pf (2 : Int32) nn)) + (own_one pf (3 : Int32) nn)) + (own_one pf (4 : Int32) nn)))])
                  obtain ⟨_, _, ⟨T28, L28, k28, n28⟩, -, X28, ⟨Lc28, hQ28, l28, y28, z28⟩, st28⟩ := Jvm.LawKit.callS Xh27 hx (y := (⟨"com/example/numeric_planner/numericplanner/diagram/RowsSquareCountPinLaw", "one", "(III)I"⟩ : MethodName)) hown (mvT hZ (hw _ (List.mem_of_getElem? (i := 2) rfl))) (mvT hZ (hw _ (List.mem_of_getElem? (i := 3) rfl))) (mvT hZ (hw _ (List.mem_of_getElem? (i := 4) rfl))) (mvT hZ (hw _ (List.mem_of_getElem? (i := 5) rfl))) (by decide) (backOf (W := 1) (rm1 l Z a0 hw [] pf (5 : Int32) nn hp22 n0 Z22 ) hZ (hw _ (List.mem_of_getElem? (i := 5) rfl)) (hw _ (List.mem_of_getElem? (i := 4) rfl)) (by decide) (by decide)) (g := (mkF m 158 #[.val (.int ps), .val (.int pf), .val (.int nn), .val (.ref b1), .unset, .unset, .unset, .unset] [(.int nn), (.int (5 : Int32)), (.int pf), (.int (((((own_one pf (0 : Int32) nn) + (own_one pf (1 : Int32) nn)) + (own_one pf (2 : Int32) nn)) + (own_one pf (3 : Int32) nn)) + (own_one pf (4 : Int32) nn)))])) rfl (by rw [hml]; rfl) (argsL := [(.int pf), (.int (5 : Int32)), (.int nn)]) (rest := [(.int (((((own_one pf (0 : Int32) nn) + (own_one pf (1 : Int32) nn)) + (own_one pf (2 : Int32) nn)) + (own_one pf (3 : Int32) nn)) + (own_one pf (4 : Int32) nn)))]) (lenOf own_pd4 rfl) rfl (by show 2 * 0 + _ ≤ _; exact Nat.le_of_eq rfl) (hb hby at_158) (fun _ _ => ⟨rfl, hh27, (by decide : 1 + 0 ≤ _), (by decide : 8 + 0 ≤ _)⟩)
                  dsimp only [Pt.U, Pt.locs, Pt.cells, Pt.slots] at X28 l28 y28 z28 st28 hQ28
                  subst l28 y28 z28
                  obtain ⟨rfl, Nq28, hh28⟩ := hQ28
                  obtain ⟨lc28, Xh28, N28⟩ := own_hide X28 (Fr.app N27 Nq28)
                  clear X28
                  refine Go.via st28 ?_
                  show Go p.tables e below P T28 (mkF m 161 #[.val (.int ps), .val (.int pf), .val (.int nn), .val (.ref b1), .unset, .unset, .unset, .unset] [(.int (own_one pf (5 : Int32) nn)), (.int (((((own_one pf (0 : Int32) nn) + (own_one pf (1 : Int32) nn)) + (own_one pf (2 : Int32) nn)) + (own_one pf (3 : Int32) nn)) + (own_one pf (4 : Int32) nn)))])
                  refine Go.via (fun t k => XS.iadd Xh28.here hx rfl (hb hby at_161) rfl k) ?_
                  show Go p.tables e below P T28 (mkF m 162 #[.val (.int ps), .val (.int pf), .val (.int nn), .val (.ref b1), .unset, .unset, .unset, .unset] [(.int ((((((own_one pf (0 : Int32) nn) + (own_one pf (1 : Int32) nn)) + (own_one pf (2 : Int32) nn)) + (own_one pf (3 : Int32) nn)) + (own_one pf (4 : Int32) nn)) + (own_one pf (5 : Int32) nn)))])
                  refine Go.via (fun t k => XS.iloadN Xh28.here hx rfl (hb hby at_162) rfl k) ?_
                  show Go p.tables e below P T28 (mkF m 163 #[.val (.int ps), .val (.int pf), .val (.int nn), .val (.ref b1), .unset, .unset, .unset, .unset] [(.int pf), (.int ((((((own_one pf (0 : Int32) nn) + (own_one pf (1 : Int32) nn)) + (own_one pf (2 : Int32) nn)) + (own_one pf (3 : Int32) nn)) + (own_one pf (4 : Int32) nn)) + (own_one pf (5 : Int32) nn)))])
                  refine Go.via (fun t k => XS.bipush Xh28.here hx rfl (hb hby at_163) k) ?_
                  show Go p.tables e below P T28 (mkF m 165 #[.val (.int ps), .val (.int pf), .val (.int nn), .val (.ref b1), .unset, .unset, .unset, .unset] [(.int (6 : Int32)), (.int pf), (.int ((((((own_one pf (0 : Int32) nn) + (own_one pf (1 : Int32) nn)) + (own_one pf (2 : Int32) nn)) + (own_one pf (3 : Int32) nn)) + (own_one pf (4 : Int32) nn)) + (own_one pf (5 : Int32) nn)))])
                  refine Go.via (fun t k => XS.iloadN Xh28.here hx rfl (hb hby at_165) rfl k) ?_
                  show Go p.tables e below P T28 (mkF m 166 #[.val (.int ps), .val (.int pf), .val (.int nn), .val (.ref b1), .unset, .unset, .unset, .unset] [(.int nn), (.int (6 : Int32)), (.int pf), (.int ((((((own_one pf (0 : Int32) nn) + (own_one pf (1 : Int32) nn)) + (own_one pf (2 : Int32) nn)) + (own_one pf (3 : Int32) nn)) + (own_one pf (4 : Int32) nn)) + (own_one pf (5 : Int32) nn)))])
                  obtain ⟨_, _, ⟨T29, L29, k29, n29⟩, -, X29, ⟨Lc29, hQ29, l29, y29, z29⟩, st29⟩ := Jvm.LawKit.callS Xh28 hx (y := (⟨"com/example/numeric_planner/numericplanner/diagram/RowsSquareCountPinLaw", "one", "(III)I"⟩ : MethodName)) hown (mvT hZ (hw _ (List.mem_of_getElem? (i := 2) rfl))) (mvT hZ (hw _ (List.mem_of_getElem? (i := 3) rfl))) (mvT hZ (hw _ (List.mem_of_getElem? (i := 4) rfl))) (mvT hZ (hw _ (List.mem_of_getElem? (i := 5) rfl))) (by decide) (backOf (W := 1) (rm1 l Z a0 hw [] pf (6 : Int32) nn hp22 n0 Z22 ) hZ (hw _ (List.mem_of_getElem? (i := 5) rfl)) (hw _ (List.mem_of_getElem? (i := 4) rfl)) (by decide) (by decide)) (g := (mkF m 166 #[.val (.int ps), .val (.int pf), .val (.int nn), .val (.ref b1), .unset, .unset, .unset, .unset] [(.int nn), (.int (6 : Int32)), (.int pf), (.int ((((((own_one pf (0 : Int32) nn) + (own_one pf (1 : Int32) nn)) + (own_one pf (2 : Int32) nn)) + (own_one pf (3 : Int32) nn)) + (own_one pf (4 : Int32) nn)) + (own_one pf (5 : Int32) nn)))])) rfl (by rw [hml]; rfl) (argsL := [(.int pf), (.int (6 : Int32)), (.int nn)]) (rest := [(.int ((((((own_one pf (0 : Int32) nn) + (own_one pf (1 : Int32) nn)) + (own_one pf (2 : Int32) nn)) + (own_one pf (3 : Int32) nn)) + (own_one pf (4 : Int32) nn)) + (own_one pf (5 : Int32) nn)))]) (lenOf own_pd4 rfl) rfl (by show 2 * 0 + _ ≤ _; exact Nat.le_of_eq rfl) (hb hby at_166) (fun _ _ => ⟨rfl, hh28, (by decide : 1 + 0 ≤ _), (by decide : 8 + 0 ≤ _)⟩)
                  dsimp only [Pt.U, Pt.locs, Pt.cells, Pt.slots] at X29 l29 y29 z29 st29 hQ29
                  subst l29 y29 z29
                  obtain ⟨rfl, Nq29, hh29⟩ := hQ29
                  obtain ⟨lc29, Xh29, N29⟩ := own_hide X29 (Fr.app N28 Nq29)
                  clear X29
                  refine Go.via st29 ?_
                  show Go p.tables e below P T29 (mkF m 169 #[.val (.int ps), .val (.int pf), .val (.int nn), .val (.ref b1), .unset, .unset, .unset, .unset] [(.int (own_one pf (6 : Int32) nn)), (.int ((((((own_one pf (0 : Int32) nn) + (own_one pf (1 : Int32) nn)) + (own_one pf (2 : Int32) nn)) + (own_one pf (3 : Int32) nn)) + (own_one pf (4 : Int32) nn)) + (own_one pf (5 : Int32) nn)))])
                  refine Go.via (fun t k => XS.iadd Xh29.here hx rfl (hb hby at_169) rfl k) ?_
                  show Go p.tables e below P T29 (mkF m 170 #[.val (.int ps), .val (.int pf), .val (.int nn), .val (.ref b1), .unset, .unset, .unset, .unset] [(.int (((((((own_one pf (0 : Int32) nn) + (own_one pf (1 : Int32) nn)) + (own_one pf (2 : Int32) nn)) + (own_one pf (3 : Int32) nn)) + (own_one pf (4 : Int32) nn)) + (own_one pf (5 : Int32) nn)) + (own_one pf (6 : Int32) nn)))])
                  refine Go.via (fun t k => XS.iloadN Xh29.here hx rfl (hb hby at_170) rfl k) ?_
                  show Go p.tables e below P T29 (mkF m 171 #[.val (.int ps), .val (.int pf), .val (.int nn), .val (.ref b1), .unset, .unset, .unset, .unset] [(.int pf), (.int (((((((own_one pf (0 : Int32) nn) + (own_one pf (1 : Int32) nn)) + (own_one pf (2 : Int32) nn)) + (own_one pf (3 : Int32) nn)) + (own_one pf (4 : Int32) nn)) + (own_one pf (5 : Int32) nn)) + (own_one pf (6 : Int32) nn)))])
                  refine Go.via (fun t k => XS.bipush Xh29.here hx rfl (hb hby at_171) k) ?_
                  show Go p.tables e below P T29 (mkF m 173 #[.val (.int ps), .val (.int pf), .val (.int nn), .val (.ref b1), .unset, .unset, .unset, .unset] [(.int (7 : Int32)), (.int pf), (.int (((((((own_one pf (0 : Int32) nn) + (own_one pf (1 : Int32) nn)) + (own_one pf (2 : Int32) nn)) + (own_one pf (3 : Int32) nn)) + (own_one pf (4 : Int32) nn)) + (own_one pf (5 : Int32) nn)) + (own_one pf (6 : Int32) nn)))])
                  refine Go.via (fun t k => XS.iloadN Xh29.here hx rfl (hb hby at_173) rfl k) ?_
                  show Go p.tables e below P T29 (mkF m 174 #[.val (.int ps), .val (.int pf), .val (.int nn), .val (.ref b1), .unset, .unset, .unset, .unset] [(.int nn), (.int (7 : Int32)), (.int pf), (.int (((((((own_one pf (0 : Int32) nn) + (own_one pf (1 : Int32) nn)) + (own_one pf (2 : Int32) nn)) + (own_one pf (3 : Int32) nn)) + (own_one pf (4 : Int32) nn)) + (own_one pf (5 : Int32) nn)) + (own_one pf (6 : Int32) nn)))])
                  obtain ⟨_, _, ⟨T30, L30, k30, n30⟩, -, X30, ⟨Lc30, hQ30, l30, y30, z30⟩, st30⟩ := Jvm.LawKit.callS Xh29 hx (y := (⟨"com/example/numeric_planner/numericplanner/diagram/RowsSquareCountPinLaw", "one", "(III)I"⟩ : MethodName)) hown (mvT hZ (hw _ (List.mem_of_getElem? (i := 2) rfl))) (mvT hZ (hw _ (List.mem_of_getElem? (i := 3) rfl))) (mvT hZ (hw _ (List.mem_of_getElem? (i := 4) rfl))) (mvT hZ (hw _ (List.mem_of_getElem? (i := 5) rfl))) (by decide) (backOf (W := 1) (rm1 l Z a0 hw [] pf (7 : Int32) nn hp22 n0 Z22 ) hZ (hw _ (List.mem_of_getElem? (i := 5) rfl)) (hw _ (List.mem_of_getElem? (i := 4) rfl)) (by decide) (by decide)) (g := (mkF m 174 #[.val (.int ps), .val (.int pf), .val (.int nn), .val (.ref b1), .unset, .unset, .unset, .unset] [(.int nn), (.int (7 : Int32)), (.int pf), (.int (((((((own_one pf (0 : Int32) nn) + (own_one pf (1 : Int32) nn)) + (own_one pf (2 : Int32) nn)) + (own_one pf (3 : Int32) nn)) + (own_one pf (4 : Int32) nn)) + (own_one pf (5 : Int32) nn)) + (own_one pf (6 : Int32) nn)))])) rfl (by rw [hml]; rfl) (argsL := [(.int pf), (.int (7 : Int32)), (.int nn)]) (rest := [(.int (((((((own_one pf (0 : Int32) nn) + (own_one pf (1 : Int32) nn)) + (own_one pf (2 : Int32) nn)) + (own_one pf (3 : Int32) nn)) + (own_one pf (4 : Int32) nn)) + (own_one pf (5 : Int32) nn)) + (own_one pf (6 : Int32) nn)))]) (lenOf own_pd4 rfl) rfl (by show 2 * 0 + _ ≤ _; exact Nat.le_of_eq rfl) (hb hby at_174) (fun _ _ => ⟨rfl, hh29, (by decide : 1 + 0 ≤ _), (by decide : 8 + 0 ≤ _)⟩)
                  dsimp only [Pt.U, Pt.locs, Pt.cells, Pt.slots] at X30 l30 y30 z30 st30 hQ30
                  subst l30 y30 z30
                  obtain ⟨rfl, Nq30, hh30⟩ := hQ30
                  obtain ⟨lc30, Xh30, N30⟩ := own_hide X30 (Fr.app N29 Nq30)
                  clear X30
                  refine Go.via st30 ?_
                  show Go p.tables e below P T30 (mkF m 177 #[.val (.int ps), .val (.int pf), .val (.int nn), .val (.ref b1), .unset, .unset, .unset, .unset] [(.int (own_one pf (7 : Int32) nn)), (.int (((((((own_one pf (0 : Int32) nn) + (own_one pf (1 : Int32) nn)) + (own_one pf (2 : Int32) nn)) + (own_one pf (3 : Int32) nn)) + (own_one pf (4 : Int32) nn)) + (own_one pf (5 : Int32) nn)) + (own_one pf (6 : Int32) nn)))])
                  refine Go.via (fun t k => XS.iadd Xh30.here hx rfl (hb hby at_177) rfl k) ?_
                  show Go p.tables e below P T30 (mkF m 178 #[.val (.int ps), .val (.int pf), .val (.int nn), .val (.ref b1), .unset, .unset, .unset, .unset] [(.int ((((((((own_one pf (0 : Int32) nn) + (own_one pf (1 : Int32) nn)) + (own_one pf (2 : Int32) nn)) + (own_one pf (3 : Int32) nn)) + (own_one pf (4 : Int32) nn)) + (own_one pf (5 : Int32) nn)) + (own_one pf (6 : Int32) nn)) + (own_one pf (7 : Int32) nn)))])
                  refine Go.via (fun t k => XS.istore Xh30.here hx rfl (hb hby at_178) rfl (l' := #[.val (.int ps), .val (.int pf), .val (.int nn), .val (.ref b1), .val (.int ((((((((own_one pf (0 : Int32) nn) + (own_one pf (1 : Int32) nn)) + (own_one pf (2 : Int32) nn)) + (own_one pf (3 : Int32) nn)) + (own_one pf (4 : Int32) nn)) + (own_one pf (5 : Int32) nn)) + (own_one pf (6 : Int32) nn)) + (own_one pf (7 : Int32) nn))), .unset, .unset, .unset]) rfl k) ?_
                  show Go p.tables e below P T30 (mkF m 180 #[.val (.int ps), .val (.int pf), .val (.int nn), .val (.ref b1), .val (.int ((((((((own_one pf (0 : Int32) nn) + (own_one pf (1 : Int32) nn)) + (own_one pf (2 : Int32) nn)) + (own_one pf (3 : Int32) nn)) + (own_one pf (4 : Int32) nn)) + (own_one pf (5 : Int32) nn)) + (own_one pf (6 : Int32) nn)) + (own_one pf (7 : Int32) nn))), .unset, .unset, .unset] [])
                  obtain ⟨T31, h31, X31, e31, E31, A31, D31, -, st31⟩ := newO Xh30 hx hZ hown (hw _ (List.mem_of_getElem? (i := 6) rfl)) (hw _ (List.mem_of_getElem? (i := 7) rfl)) (hw _ (List.mem_of_getElem? (i := 8) rfl)) hh30 (g := (mkF m 180 #[.val (.int ps), .val (.int pf), .val (.int nn), .val (.ref b1), .val (.int ((((((((own_one pf (0 : Int32) nn) + (own_one pf (1 : Int32) nn)) + (own_one pf (2 : Int32) nn)) + (own_one pf (3 : Int32) nn)) + (own_one pf (4 : Int32) nn)) + (own_one pf (5 : Int32) nn)) + (own_one pf (6 : Int32) nn)) + (own_one pf (7 : Int32) nn))), .unset, .unset, .unset] [])) rfl (hb hby at_180) (by decide) (by decide)
                  obtain ⟨b31, g31⟩ : ∃ z, z = hp22.size := ⟨_, rfl⟩
                  rw [← g31] at A31 D31 st31
                  refine Go.via st31 ?_
                  have ne32 : b1 ≠ b31 := Nat.ne_of_lt (Nat.lt_of_lt_of_le F22_0.lt (Nat.le_of_eq g31.symm))
                  have g33 : n0 ≤ b31 := Nat.le_trans Z22 (Nat.le_of_eq g31.symm)
                  have sz34 : h0.size ≤ b31 := Nat.le_trans K22.1 (Nat.le_of_eq g31.symm)
                  have Z35 : n0 ≤ h31.size := Nat.le_trans Z22 E31.1
                  have K36 : Keep h0 h31 [] := K22.ext E31
                  have O37 : Old Z n0 h31 := O22.ext E31
                  show Go p.tables e below P T31 (mkF m 183 #[.val (.int ps), .val (.int pf), .val (.int nn), .val (.ref b1), .val (.int ((((((((own_one pf (0 : Int32) nn) + (own_one pf (1 : Int32) nn)) + (own_one pf (2 : Int32) nn)) + (own_one pf (3 : Int32) nn)) + (own_one pf (4 : Int32) nn)) + (own_one pf (5 : Int32) nn)) + (own_one pf (6 : Int32) nn)) + (own_one pf (7 : Int32) nn))), .unset, .unset, .unset] [(.ref b31)])
                  refine Go.via (fun t k => XS.dup X31.here hx rfl (hb hby at_183) rfl rfl k) ?_
                  show Go p.tables e below P T31 (mkF m 184 #[.val (.int ps), .val (.int pf), .val (.int nn), .val (.ref b1), .val (.int ((((((((own_one pf (0 : Int32) nn) + (own_one pf (1 : Int32) nn)) + (own_one pf (2 : Int32) nn)) + (own_one pf (3 : Int32) nn)) + (own_one pf (4 : Int32) nn)) + (own_one pf (5 : Int32) nn)) + (own_one pf (6 : Int32) nn)) + (own_one pf (7 : Int32) nn))), .unset, .unset, .unset] [(.ref b31), (.ref b31)])
                  refine Go.via (fun t k => XS.aloadN X31.here hx rfl (hb hby at_184) rfl rfl k) ?_
                  show Go p.tables e below P T31 (mkF m 185 #[.val (.int ps), .val (.int pf), .val (.int nn), .val (.ref b1), .val (.int ((((((((own_one pf (0 : Int32) nn) + (own_one pf (1 : Int32) nn)) + (own_one pf (2 : Int32) nn)) + (own_one pf (3 : Int32) nn)) + (own_one pf (4 : Int32) nn)) + (own_one pf (5 : Int32) nn)) + (own_one pf (6 : Int32) nn)) + (own_one pf (7 : Int32) nn))), .unset, .unset, .unset] [(.ref b1), (.ref b31), (.ref b31)])
                  have F38 : Exa Z h31 b1 "[Z" := (F22_1.ext E31)
                  have F39 : Arv Z h31 b1 k1 .boolean nn [(.int x0), (.int x1), (.int x2), (.int x3), (.int x4), (.int x5), (.int x6), (.int x7)] (.int (0 : Int32)) := (F22_0.ext E31)
                  obtain ⟨_, _, ⟨T40, L40, k40, n40⟩, -, X40, ⟨Lc40, hQ40, l40, y40, z40⟩, st40⟩ := X31.specialBack hx (y := (⟨"com/example/numeric_planner/numericplanner/diagram/LinearFeasibility$Rows", "<init>", "([Z)V"⟩ : MethodName)) rfl hown (mvT hZ (hw _ (List.mem_of_getElem? (i := 9) rfl))) (mvT hZ (hw _ (List.mem_of_getElem? (i := 10) rfl))) (mvT hZ (hw _ (List.mem_of_getElem? (i := 11) rfl))) (by decide) (backOf (W := 1) (rm2 l Z a0 hw [] b31 b1 de k1 nn [x0, x1, x2, x3, x4, x5, x6, x7] h31 n0 Z35 O37 P1 A31 (D31 (Or.inr (hw _ (List.mem_of_getElem? (i := 40) rfl))) (ty := (.object "java/util/List")) (by decide) : Fld Z h31 b31 "com/example/numeric_planner/numericplanner/diagram/LinearFeasibility$Rows" "small" "Ljava/util/List;" .null) (D31 (Or.inr (hw _ (List.mem_of_getElem? (i := 64) rfl))) (ty := (.object "java/util/BitSet")) (by decide) : Fld Z h31 b31 "com/example/numeric_planner/numericplanner/diagram/LinearFeasibility$Rows" "strict" "Ljava/util/BitSet;" .null) (D31 (Or.inr (hw _ (List.mem_of_getElem? (i := 75) rfl))) (ty := (.array .boolean)) (by decide) : Fld Z h31 b31 "com/example/numeric_planner/numericplanner/diagram/LinearFeasibility$Rows" "squares" "[Z" .null) F38 F39 g33 ne32 hc8) hZ (hw _ (List.mem_of_getElem? (i := 11) rfl)) (hw _ (List.mem_of_getElem? (i := 8) rfl)) (by decide) (by decide)) (g := (mkF m 185 #[.val (.int ps), .val (.int pf), .val (.int nn), .val (.ref b1), .val (.int ((((((((own_one pf (0 : Int32) nn) + (own_one pf (1 : Int32) nn)) + (own_one pf (2 : Int32) nn)) + (own_one pf (3 : Int32) nn)) + (own_one pf (4 : Int32) nn)) + (own_one pf (5 : Int32) nn)) + (own_one pf (6 : Int32) nn)) + (own_one pf (7 : Int32) nn))), .unset, .unset, .unset] [(.ref b1), (.ref b31), (.ref b31)])) rfl (by rw [hml]; rfl) (Steps.refl _) (a := b31) (argsL := [(.ref b1)]) (rest := [(.ref b31)]) (lenOf own_pd5 rfl) rfl (by show 2 * 0 + _ ≤ _; exact Nat.le_of_eq rfl) (hb hby at_185) (fun _ _ => ⟨rfl, e31, (by decide : 2 + 4 ≤ _), (by decide : 12 + 15 ≤ _)⟩)
                  dsimp only [Pt.U, Pt.locs, Pt.cells, Pt.slots] at X40 l40 y40 z40 st40 hQ40
                  subst l40 y40 z40
                  obtain ⟨os_40, rfl, Nq40, K40, fr40_os, u40_0, u40_1, u40_2⟩ := hQ40
                  obtain ⟨lc40, Xh40, N40⟩ := own_hide X40 (Fr.app N30 Nq40)
                  clear X40
                  refine Go.hop st40 ?_
                  have ne41 : b1 ≠ os_40 := Nat.ne_of_lt (Nat.lt_of_lt_of_le F39.lt fr40_os)
                  have ne42 : b31 ≠ os_40 := Nat.ne_of_lt (Nat.lt_of_lt_of_le A31.lt fr40_os)
                  have g43 : n0 ≤ os_40 := Nat.le_trans Z35 fr40_os
                  have sz44 : h0.size ≤ os_40 := Nat.le_trans K36.1 fr40_os
                  have Z45 : n0 ≤ T40.heap.size := Nat.le_trans Z35 K40.1
                  have K46 : Keep h0 T40.heap [] := K36.trans K40 (own_allC (Or.inr sz34) own_all0)
                  have O47 : Old Z n0 T40.heap := O37.keep K40 (own_allC g33 own_all0)
                  show Go p.tables e below P T40 (mkF m 188 #[.val (.int ps), .val (.int pf), .val (.int nn), .val (.ref b1), .val (.int ((((((((own_one pf (0 : Int32) nn) + (own_one pf (1 : Int32) nn)) + (own_one pf (2 : Int32) nn)) + (own_one pf (3 : Int32) nn)) + (own_one pf (4 : Int32) nn)) + (own_one pf (5 : Int32) nn)) + (own_one pf (6 : Int32) nn)) + (own_one pf (7 : Int32) nn))), .unset, .unset, .unset] [(.ref b31)])
                  refine Go.via (fun t k => XS.astore Xh40.here hx rfl (hb hby at_188) rfl rfl (l' := #[.val (.int ps), .val (.int pf), .val (.int nn), .val (.ref b1), .val (.int ((((((((own_one pf (0 : Int32) nn) + (own_one pf (1 : Int32) nn)) + (own_one pf (2 : Int32) nn)) + (own_one pf (3 : Int32) nn)) + (own_one pf (4 : Int32) nn)) + (own_one pf (5 : Int32) nn)) + (own_one pf (6 : Int32) nn)) + (own_one pf (7 : Int32) nn))), .val (.ref b31), .unset, .unset]) rfl k) ?_
                  show Go p.tables e below P T40 (mkF m 190 #[.val (.int ps), .val (.int pf), .val (.int nn), .val (.ref b1), .val (.int ((((((((own_one pf (0 : Int32) nn) + (own_one pf (1 : Int32) nn)) + (own_one pf (2 : Int32) nn)) + (own_one pf (3 : Int32) nn)) + (own_one pf (4 : Int32) nn)) + (own_one pf (5 : Int32) nn)) + (own_one pf (6 : Int32) nn)) + (own_one pf (7 : Int32) nn))), .val (.ref b31), .unset, .unset] [])
                  refine Go.via (fun t k => XS.aload Xh40.here hx rfl (hb hby at_190) rfl rfl k) ?_
                  show Go p.tables e below P T40 (mkF m 192 #[.val (.int ps), .val (.int pf), .val (.int nn), .val (.ref b1), .val (.int ((((((((own_one pf (0 : Int32) nn) + (own_one pf (1 : Int32) nn)) + (own_one pf (2 : Int32) nn)) + (own_one pf (3 : Int32) nn)) + (own_one pf (4 : Int32) nn)) + (own_one pf (5 : Int32) nn)) + (own_one pf (6 : Int32) nn)) + (own_one pf (7 : Int32) nn))), .val (.ref b31), .unset, .unset] [(.ref b31)])
                  have F48 : Arv Z T40.heap b1 k1 .boolean nn [(.int x0), (.int x1), (.int x2), (.int x3), (.int x4), (.int x5), (.int x6), (.int x7)] (.int (0 : Int32)) := (F39.keep K40 (own_ninC ne32 own_nin0))
                  have F49 : Exa Z T40.heap b1 "[Z" := (F38.keep K40)
                  obtain ⟨cq50, kq50, q50a, q50b, q50c⟩ := isOf hZ rfl u40_0
                  obtain ⟨_, _, ⟨T50, L50, k50, n50⟩, -, X50, ⟨Lc50, hQ50, l50, y50, z50⟩, st50⟩ := Xh40.virtualBack hx (y := (⟨"com/example/numeric_planner/numericplanner/diagram/LinearFeasibility$Rows", "squareCount", "()I"⟩ : MethodName)) (z := (⟨"com/example/numeric_planner/numericplanner/diagram/LinearFeasibility$Rows", "squareCount", "()I"⟩ : MethodName)) hown (mvT hZ (hw _ (List.mem_of_getElem? (i := 76) rfl))) (mvT hZ (hw _ (List.mem_of_getElem? (i := 77) rfl))) (notFace_of_selects (args := #[]) (mvT hZ (hw _ (List.mem_of_getElem? (i := 79) rfl)))) (mvT hZ (hw _ (List.mem_of_getElem? (i := 79) rfl))) (mvT hZ (hw _ (List.mem_of_getElem? (i := 78) rfl))) (by decide) (backOf (W := 0) (rm10 l Z a0 hw [] b31 os_40 k1 nn [x0, x1, x2, x3, x4, x5, x6, x7] mm T40.heap n0 Z45 u40_1 u40_2 hmm hnm') hZ (hw _ (List.mem_of_getElem? (i := 80) rfl)) (hw _ (List.mem_of_getElem? (i := 8) rfl)) (by decide) (by decide)) q50a q50c (g := (mkF m 192 #[.val (.int ps), .val (.int pf), .val (.int nn), .val (.ref b1), .val (.int ((((((((own_one pf (0 : Int32) nn) + (own_one pf (1 : Int32) nn)) + (own_one pf (2 : Int32) nn)) + (own_one pf (3 : Int32) nn)) + (own_one pf (4 : Int32) nn)) + (own_one pf (5 : Int32) nn)) + (own_one pf (6 : Int32) nn)) + (own_one pf (7 : Int32) nn))), .val (.ref b31), .unset, .unset] [(.ref b31)])) rfl (by rw [hml]; rfl) (Steps.refl _) (argsL := []) (rest := []) (lenOf own_pd6 rfl) rfl (by show 2 * 0 + _ ≤ _; exact Nat.le_of_eq rfl) (hb hby at_192) (fun _ _ => ⟨rfl, rfl, (by decide : 6 + 0 ≤ _), (by decide : 27 + 0 ≤ _)⟩)
                  dsimp only [Pt.U, Pt.locs, Pt.cells, Pt.slots] at X50 l50 y50 z50 st50 hQ50
                  subst l50 y50 z50
                  obtain ⟨rfl, Nq50, hh50⟩ := hQ50
                  obtain ⟨lc50, Xh50, N50⟩ := own_hide X50 (Fr.app N40 Nq50)
                  clear X50
                  refine Go.hop st50 ?_
                  show Go p.tables e below P T50 (mkF m 195 #[.val (.int ps), .val (.int pf), .val (.int nn), .val (.ref b1), .val (.int ((((((((own_one pf (0 : Int32) nn) + (own_one pf (1 : Int32) nn)) + (own_one pf (2 : Int32) nn)) + (own_one pf (3 : Int32) nn)) + (own_one pf (4 : Int32) nn)) + (own_one pf (5 : Int32) nn)) + (own_one pf (6 : Int32) nn)) + (own_one pf (7 : Int32) nn))), .val (.ref b31), .unset, .unset] [(.int (own_sq [x0, x1, x2, x3, x4, x5, x6, x7] mm))])
                  refine Go.via (fun t k => XS.istore Xh50.here hx rfl (hb hby at_195) rfl (l' := #[.val (.int ps), .val (.int pf), .val (.int nn), .val (.ref b1), .val (.int ((((((((own_one pf (0 : Int32) nn) + (own_one pf (1 : Int32) nn)) + (own_one pf (2 : Int32) nn)) + (own_one pf (3 : Int32) nn)) + (own_one pf (4 : Int32) nn)) + (own_one pf (5 : Int32) nn)) + (own_one pf (6 : Int32) nn)) + (own_one pf (7 : Int32) nn))), .val (.ref b31), .val (.int (own_sq [x0, x1, x2, x3, x4, x5, x6, x7] mm)), .unset]) rfl k) ?_
                  show Go p.tables e below P T50 (mkF m 197 #[.val (.int ps), .val (.int pf), .val (.int nn), .val (.ref b1), .val (.int ((((((((own_one pf (0 : Int32) nn) + (own_one pf (1 : Int32) nn)) + (own_one pf (2 : Int32) nn)) + (own_one pf (3 : Int32) nn)) + (own_one pf (4 : Int32) nn)) + (own_one pf (5 : Int32) nn)) + (own_one pf (6 : Int32) nn)) + (own_one pf (7 : Int32) nn))), .val (.ref b31), .val (.int (own_sq [x0, x1, x2, x3, x4, x5, x6, x7] mm)), .unset] [])
                  refine Go.via (fun t k => XS.iloadN Xh50.here hx rfl (hb hby at_197) rfl k) ?_
                  show Go p.tables e below P T50 (mkF m 198 #[.val (.int ps), .val (.int pf), .val (.int nn), .val (.ref b1), .val (.int ((((((((own_one pf (0 : Int32) nn) + (own_one pf (1 : Int32) nn)) + (own_one pf (2 : Int32) nn)) + (own_one pf (3 : Int32) nn)) + (own_one pf (4 : Int32) nn)) + (own_one pf (5 : Int32) nn)) + (own_one pf (6 : Int32) nn)) + (own_one pf (7 : Int32) nn))), .val (.ref b31), .val (.int (own_sq [x0, x1, x2, x3, x4, x5, x6, x7] mm)), .unset] [(.int nn)])
                  have LP52 : ∀ (T52 : State) (locs52 : List Loc) (hp52 : Heap), Stand p l e room_1 s m #[(.int ps), (.int pf)] below meth c T52 locs52 6 27 → T52.heap = hp52 → Fr n0 locs52 → n0 ≤ hp52.size → Keep h0 hp52 [] → Old Z n0 hp52 → Exa Z hp52 b31 "com/example/numeric_planner/numericplanner/diagram/LinearFeasibility$Rows" → Fld Z hp52 b31 "com/example/numeric_planner/numericplanner/diagram/LinearFeasibility$Rows" "squares" "[Z" (.ref os_40) → Arv Z hp52 os_40 k1 .boolean nn ([x0, x1, x2, x3, x4, x5, x6, x7].map Value.int) (.int (0 : Int32)) → Go p.tables e below P T52 (mkF m 215 #[.val (.int ps), .val (.int pf), .val (.int nn), .val (.ref b1), .val (.int ((((((((own_one pf (0 : Int32) nn) + (own_one pf (1 : Int32) nn)) + (own_one pf (2 : Int32) nn)) + (own_one pf (3 : Int32) nn)) + (own_one pf (4 : Int32) nn)) + (own_one pf (5 : Int32) nn)) + (own_one pf (6 : Int32) nn)) + (own_one pf (7 : Int32) nn))), .val (.ref b31), .val (.int (own_sq [x0, x1, x2, x3, x4, x5, x6, x7] mm)), .unset] []) := by
                    intro T52 locs52 hp52 X52 e52 N52 Z52 K52 O52 F52_0 F52_1 F52_2
                    show Go p.tables e below P T52 (mkF m 215 #[.val (.int ps), .val (.int pf), .val (.int nn), .val (.ref b1), .val (.int ((((((((own_one pf (0 : Int32) nn) + (own_one pf (1 : Int32) nn)) + (own_one pf (2 : Int32) nn)) + (own_one pf (3 : Int32) nn)) + (own_one pf (4 : Int32) nn)) + (own_one pf (5 : Int32) nn)) + (own_one pf (6 : Int32) nn)) + (own_one pf (7 : Int32) nn))), .val (.ref b31), .val (.int (own_sq [x0, x1, x2, x3, x4, x5, x6, x7] mm)), .unset] [])
                    refine Go.via (fun t k => XS.aload X52.here hx rfl (hb hby at_215) rfl rfl k) ?_
                    show Go p.tables e below P T52 (mkF m 217 #[.val (.int ps), .val (.int pf), .val (.int nn), .val (.ref b1), .val (.int ((((((((own_one pf (0 : Int32) nn) + (own_one pf (1 : Int32) nn)) + (own_one pf (2 : Int32) nn)) + (own_one pf (3 : Int32) nn)) + (own_one pf (4 : Int32) nn)) + (own_one pf (5 : Int32) nn)) + (own_one pf (6 : Int32) nn)) + (own_one pf (7 : Int32) nn))), .val (.ref b31), .val (.int (own_sq [x0, x1, x2, x3, x4, x5, x6, x7] mm)), .unset] [(.ref b31)])
                    obtain ⟨cq53, kq53, q53a, q53b, q53c⟩ := isOf hZ e52 F52_0
                    obtain ⟨_, _, ⟨T53, L53, k53, n53⟩, -, X53, ⟨Lc53, hQ53, l53, y53, z53⟩, st53⟩ := X52.virtualBack hx (y := (⟨"com/example/numeric_planner/numericplanner/diagram/LinearFeasibility$Rows", "squareCount", "()I"⟩ : MethodName)) (z := (⟨"com/example/numeric_planner/numericplanner/diagram/LinearFeasibility$Rows", "squareCount", "()I"⟩ : MethodName)) hown (mvT hZ (hw _ (List.mem_of_getElem? (i := 76) rfl))) (mvT hZ (hw _ (List.mem_of_getElem? (i := 77) rfl))) (notFace_of_selects (args := #[]) (mvT hZ (hw _ (List.mem_of_getElem? (i := 79) rfl)))) (mvT hZ (hw _ (List.mem_of_getElem? (i := 79) rfl))) (mvT hZ (hw _ (List.mem_of_getElem? (i := 78) rfl))) (by decide) (backOf (W := 0) (rm10 l Z a0 hw [] b31 os_40 k1 nn [x0, x1, x2, x3, x4, x5, x6, x7] mm hp52 n0 Z52 F52_1 F52_2 hmm hnm') hZ (hw _ (List.mem_of_getElem? (i := 80) rfl)) (hw _ (List.mem_of_getElem? (i := 8) rfl)) (by decide) (by decide)) q53a q53c (g := (mkF m 217 #[.val (.int ps), .val (.int pf), .val (.int nn), .val (.ref b1), .val (.int ((((((((own_one pf (0 : Int32) nn) + (own_one pf (1 : Int32) nn)) + (own_one pf (2 : Int32) nn)) + (own_one pf (3 : Int32) nn)) + (own_one pf (4 : Int32) nn)) + (own_one pf (5 : Int32) nn)) + (own_one pf (6 : Int32) nn)) + (own_one pf (7 : Int32) nn))), .val (.ref b31), .val (.int (own_sq [x0, x1, x2, x3, x4, x5, x6, x7] mm)), .unset] [(.ref b31)])) rfl (by rw [hml]; rfl) (Steps.refl _) (argsL := []) (rest := []) (lenOf own_pd6 rfl) rfl (by show 2 * 0 + _ ≤ _; exact Nat.le_of_eq rfl) (hb hby at_217) (fun _ _ => ⟨rfl, e52, (by decide : 6 + 0 ≤ _), (by decide : 27 + 0 ≤ _)⟩)
                    dsimp only [Pt.U, Pt.locs, Pt.cells, Pt.slots] at X53 l53 y53 z53 st53 hQ53
                    subst l53 y53 z53
                    obtain ⟨rfl, Nq53, hh53⟩ := hQ53
                    obtain ⟨lc53, Xh53, N53⟩ := own_hide X53 (Fr.app N52 Nq53)
                    clear X53
                    refine Go.hop st53 ?_
                    show Go p.tables e below P T53 (mkF m 220 #[.val (.int ps), .val (.int pf), .val (.int nn), .val (.ref b1), .val (.int ((((((((own_one pf (0 : Int32) nn) + (own_one pf (1 : Int32) nn)) + (own_one pf (2 : Int32) nn)) + (own_one pf (3 : Int32) nn)) + (own_one pf (4 : Int32) nn)) + (own_one pf (5 : Int32) nn)) + (own_one pf (6 : Int32) nn)) + (own_one pf (7 : Int32) nn))), .val (.ref b31), .val (.int (own_sq [x0, x1, x2, x3, x4, x5, x6, x7] mm)), .unset] [(.int (own_sq [x0, x1, x2, x3, x4, x5, x6, x7] mm))])
                    refine Go.via (fun t k => XS.istore Xh53.here hx rfl (hb hby at_220) rfl (l' := #[.val (.int ps), .val (.int pf), .val (.int nn), .val (.ref b1), .val (.int ((((((((own_one pf (0 : Int32) nn) + (own_one pf (1 : Int32) nn)) + (own_one pf (2 : Int32) nn)) + (own_one pf (3 : Int32) nn)) + (own_one pf (4 : Int32) nn)) + (own_one pf (5 : Int32) nn)) + (own_one pf (6 : Int32) nn)) + (own_one pf (7 : Int32) nn))), .val (.ref b31), .val (.int (own_sq [x0, x1, x2, x3, x4, x5, x6, x7] mm)), .val (.int (own_sq [x0, x1, x2, x3, x4, x5, x6, x7] mm))]) rfl k) ?_
                    show Go p.tables e below P T53 (mkF m 222 #[.val (.int ps), .val (.int pf), .val (.int nn), .val (.ref b1), .val (.int ((((((((own_one pf (0 : Int32) nn) + (own_one pf (1 : Int32) nn)) + (own_one pf (2 : Int32) nn)) + (own_one pf (3 : Int32) nn)) + (own_one pf (4 : Int32) nn)) + (own_one pf (5 : Int32) nn)) + (own_one pf (6 : Int32) nn)) + (own_one pf (7 : Int32) nn))), .val (.ref b31), .val (.int (own_sq [x0, x1, x2, x3, x4, x5, x6, x7] mm)), .val (.int (own_sq [x0, x1, x2, x3, x4, x5, x6, x7] mm))] [])
                    refine Go.via (fun t k => XS.iload Xh53.here hx rfl (hb hby at_222) rfl k) ?_
                    show Go p.tables e below P T53 (mkF m 224 #[.val (.int ps), .val (.int pf), .val (.int nn), .val (.ref b1), .val (.int ((((((((own_one pf (0 : Int32) nn) + (own_one pf (1 : Int32) nn)) + (own_one pf (2 : Int32) nn)) + (own_one pf (3 : Int32) nn)) + (own_one pf (4 : Int32) nn)) + (own_one pf (5 : Int32) nn)) + (own_one pf (6 : Int32) nn)) + (own_one pf (7 : Int32) nn))), .val (.ref b31), .val (.int (own_sq [x0, x1, x2, x3, x4, x5, x6, x7] mm)), .val (.int (own_sq [x0, x1, x2, x3, x4, x5, x6, x7] mm))] [(.int (own_sq [x0, x1, x2, x3, x4, x5, x6, x7] mm))])
                    refine Go.via (fun t k => XS.iload Xh53.here hx rfl (hb hby at_224) rfl k) ?_
                    show Go p.tables e below P T53 (mkF m 226 #[.val (.int ps), .val (.int pf), .val (.int nn), .val (.ref b1), .val (.int ((((((((own_one pf (0 : Int32) nn) + (own_one pf (1 : Int32) nn)) + (own_one pf (2 : Int32) nn)) + (own_one pf (3 : Int32) nn)) + (own_one pf (4 : Int32) nn)) + (own_one pf (5 : Int32) nn)) + (own_one pf (6 : Int32) nn)) + (own_one pf (7 : Int32) nn))), .val (.ref b31), .val (.int (own_sq [x0, x1, x2, x3, x4, x5, x6, x7] mm)), .val (.int (own_sq [x0, x1, x2, x3, x4, x5, x6, x7] mm))] [(.int ((((((((own_one pf (0 : Int32) nn) + (own_one pf (1 : Int32) nn)) + (own_one pf (2 : Int32) nn)) + (own_one pf (3 : Int32) nn)) + (own_one pf (4 : Int32) nn)) + (own_one pf (5 : Int32) nn)) + (own_one pf (6 : Int32) nn)) + (own_one pf (7 : Int32) nn))), (.int (own_sq [x0, x1, x2, x3, x4, x5, x6, x7] mm))])
                    refine Go.via (fun t k => XS.icmpNo Xh53.here hx rfl (hb hby at_226) rfl (teq (own_law pf nn x0 x1 x2 x3 x4 x5 x6 x7 mm hmm hnm' hx0 hx1 hx2 hx3 hx4 hx5 hx6 hx7)).2 k) ?_
                    show Go p.tables e below P T53 (mkF m 229 #[.val (.int ps), .val (.int pf), .val (.int nn), .val (.ref b1), .val (.int ((((((((own_one pf (0 : Int32) nn) + (own_one pf (1 : Int32) nn)) + (own_one pf (2 : Int32) nn)) + (own_one pf (3 : Int32) nn)) + (own_one pf (4 : Int32) nn)) + (own_one pf (5 : Int32) nn)) + (own_one pf (6 : Int32) nn)) + (own_one pf (7 : Int32) nn))), .val (.ref b31), .val (.int (own_sq [x0, x1, x2, x3, x4, x5, x6, x7] mm)), .val (.int (own_sq [x0, x1, x2, x3, x4, x5, x6, x7] mm))] [])
                    refine Go.via (fun t k => XS.iload Xh53.here hx rfl (hb hby at_229) rfl k) ?_
                    show Go p.tables e below P T53 (mkF m 231 #[.val (.int ps), .val (.int pf), .val (.int nn), .val (.ref b1), .val (.int ((((((((own_one pf (0 : Int32) nn) + (own_one pf (1 : Int32) nn)) + (own_one pf (2 : Int32) nn)) + (own_one pf (3 : Int32) nn)) + (own_one pf (4 : Int32) nn)) + (own_one pf (5 : Int32) nn)) + (own_one pf (6 : Int32) nn)) + (own_one pf (7 : Int32) nn))), .val (.ref b31), .val (.int (own_sq [x0, x1, x2, x3, x4, x5, x6, x7] mm)), .val (.int (own_sq [x0, x1, x2, x3, x4, x5, x6, x7] mm))] [(.int (own_sq [x0, x1, x2, x3, x4, x5, x6, x7] mm))])
                    refine Go.via (fun t k => XS.iload Xh53.here hx rfl (hb hby at_231) rfl k) ?_
                    show Go p.tables e below P T53 (mkF m 233 #[.val (.int ps), .val (.int pf), .val (.int nn), .val (.ref b1), .val (.int ((((((((own_one pf (0 : Int32) nn) + (own_one pf (1 : Int32) nn)) + (own_one pf (2 : Int32) nn)) + (own_one pf (3 : Int32) nn)) + (own_one pf (4 : Int32) nn)) + (own_one pf (5 : Int32) nn)) + (own_one pf (6 : Int32) nn)) + (own_one pf (7 : Int32) nn))), .val (.ref b31), .val (.int (own_sq [x0, x1, x2, x3, x4, x5, x6, x7] mm)), .val (.int (own_sq [x0, x1, x2, x3, x4, x5, x6, x7] mm))] [(.int ((((((((own_one pf (0 : Int32) nn) + (own_one pf (1 : Int32) nn)) + (own_one pf (2 : Int32) nn)) + (own_one pf (3 : Int32) nn)) + (own_one pf (4 : Int32) nn)) + (own_one pf (5 : Int32) nn)) + (own_one pf (6 : Int32) nn)) + (own_one pf (7 : Int32) nn))), (.int (own_sq [x0, x1, x2, x3, x4, x5, x6, x7] mm))])
                    refine Go.via (fun t k => XS.icmpNo Xh53.here hx rfl (hb hby at_233) rfl (teq (own_law pf nn x0 x1 x2 x3 x4 x5 x6 x7 mm hmm hnm' hx0 hx1 hx2 hx3 hx4 hx5 hx6 hx7)).2 k) ?_
                    show Go p.tables e below P T53 (mkF m 236 #[.val (.int ps), .val (.int pf), .val (.int nn), .val (.ref b1), .val (.int ((((((((own_one pf (0 : Int32) nn) + (own_one pf (1 : Int32) nn)) + (own_one pf (2 : Int32) nn)) + (own_one pf (3 : Int32) nn)) + (own_one pf (4 : Int32) nn)) + (own_one pf (5 : Int32) nn)) + (own_one pf (6 : Int32) nn)) + (own_one pf (7 : Int32) nn))), .val (.ref b31), .val (.int (own_sq [x0, x1, x2, x3, x4, x5, x6, x7] mm)), .val (.int (own_sq [x0, x1, x2, x3, x4, x5, x6, x7] mm))] [])
                    refine Go.via (fun t k => XS.iload Xh53.here hx rfl (hb hby at_236) rfl k) ?_
                    show Go p.tables e below P T53 (mkF m 238 #[.val (.int ps), .val (.int pf), .val (.int nn), .val (.ref b1), .val (.int ((((((((own_one pf (0 : Int32) nn) + (own_one pf (1 : Int32) nn)) + (own_one pf (2 : Int32) nn)) + (own_one pf (3 : Int32) nn)) + (own_one pf (4 : Int32) nn)) + (own_one pf (5 : Int32) nn)) + (own_one pf (6 : Int32) nn)) + (own_one pf (7 : Int32) nn))), .val (.ref b31), .val (.int (own_sq [x0, x1, x2, x3, x4, x5, x6, x7] mm)), .val (.int (own_sq [x0, x1, x2, x3, x4, x5, x6, x7] mm))] [(.int (own_sq [x0, x1, x2, x3, x4, x5, x6, x7] mm))])
                    refine Go.via (fun t k => XS.ifNo Xh53.here hx rfl (hb hby at_238) rfl ((if0 _ _).trans (flt (by rw [Int32.lt_iff_toInt_lt]; have := own_sqb [x0, x1, x2, x3, x4, x5, x6, x7] mm hmm; show ¬ _ < (0 : Int); omega)).1) k) ?_
                    show Go p.tables e below P T53 (mkF m 241 #[.val (.int ps), .val (.int pf), .val (.int nn), .val (.ref b1), .val (.int ((((((((own_one pf (0 : Int32) nn) + (own_one pf (1 : Int32) nn)) + (own_one pf (2 : Int32) nn)) + (own_one pf (3 : Int32) nn)) + (own_one pf (4 : Int32) nn)) + (own_one pf (5 : Int32) nn)) + (own_one pf (6 : Int32) nn)) + (own_one pf (7 : Int32) nn))), .val (.ref b31), .val (.int (own_sq [x0, x1, x2, x3, x4, x5, x6, x7] mm)), .val (.int (own_sq [x0, x1, x2, x3, x4, x5, x6, x7] mm))] [])
                    refine Go.via (fun t k => XS.iload Xh53.here hx rfl (hb hby at_241) rfl k) ?_
                    show Go p.tables e below P T53 (mkF m 243 #[.val (.int ps), .val (.int pf), .val (.int nn), .val (.ref b1), .val (.int ((((((((own_one pf (0 : Int32) nn) + (own_one pf (1 : Int32) nn)) + (own_one pf (2 : Int32) nn)) + (own_one pf (3 : Int32) nn)) + (own_one pf (4 : Int32) nn)) + (own_one pf (5 : Int32) nn)) + (own_one pf (6 : Int32) nn)) + (own_one pf (7 : Int32) nn))), .val (.ref b31), .val (.int (own_sq [x0, x1, x2, x3, x4, x5, x6, x7] mm)), .val (.int (own_sq [x0, x1, x2, x3, x4, x5, x6, x7] mm))] [(.int (own_sq [x0, x1, x2, x3, x4, x5, x6, x7] mm))])
                    refine Go.via (fun t k => XS.iloadN Xh53.here hx rfl (hb hby at_243) rfl k) ?_
                    show Go p.tables e below P T53 (mkF m 244 #[.val (.int ps), .val (.int pf), .val (.int nn), .val (.ref b1), .val (.int ((((((((own_one pf (0 : Int32) nn) + (own_one pf (1 : Int32) nn)) + (own_one pf (2 : Int32) nn)) + (own_one pf (3 : Int32) nn)) + (own_one pf (4 : Int32) nn)) + (own_one pf (5 : Int32) nn)) + (own_one pf (6 : Int32) nn)) + (own_one pf (7 : Int32) nn))), .val (.ref b31), .val (.int (own_sq [x0, x1, x2, x3, x4, x5, x6, x7] mm)), .val (.int (own_sq [x0, x1, x2, x3, x4, x5, x6, x7] mm))] [(.int nn), (.int (own_sq [x0, x1, x2, x3, x4, x5, x6, x7] mm))])
                    refine Go.via (fun t k => XS.icmpNo Xh53.here hx rfl (hb hby at_244) rfl (flt (by rw [Int32.lt_iff_toInt_lt, hnm', own_nat (by omega)]; have := own_sqb [x0, x1, x2, x3, x4, x5, x6, x7] mm hmm; omega)).2.2.1 k) ?_
                    show Go p.tables e below P T53 (mkF m 247 #[.val (.int ps), .val (.int pf), .val (.int nn), .val (.ref b1), .val (.int ((((((((own_one pf (0 : Int32) nn) + (own_one pf (1 : Int32) nn)) + (own_one pf (2 : Int32) nn)) + (own_one pf (3 : Int32) nn)) + (own_one pf (4 : Int32) nn)) + (own_one pf (5 : Int32) nn)) + (own_one pf (6 : Int32) nn)) + (own_one pf (7 : Int32) nn))), .val (.ref b31), .val (.int (own_sq [x0, x1, x2, x3, x4, x5, x6, x7] mm)), .val (.int (own_sq [x0, x1, x2, x3, x4, x5, x6, x7] mm))] [])
                    refine Go.via (fun t k => XS.iconst Xh53.here hx rfl (hb hby at_247) k) ?_
                    show Go p.tables e below P T53 (mkF m 248 #[.val (.int ps), .val (.int pf), .val (.int nn), .val (.ref b1), .val (.int ((((((((own_one pf (0 : Int32) nn) + (own_one pf (1 : Int32) nn)) + (own_one pf (2 : Int32) nn)) + (own_one pf (3 : Int32) nn)) + (own_one pf (4 : Int32) nn)) + (own_one pf (5 : Int32) nn)) + (own_one pf (6 : Int32) nn)) + (own_one pf (7 : Int32) nn))), .val (.ref b31), .val (.int (own_sq [x0, x1, x2, x3, x4, x5, x6, x7] mm)), .val (.int (own_sq [x0, x1, x2, x3, x4, x5, x6, x7] mm))] [(.int (1 : Int32))])
                    refine Go.via (fun t k => XS.goto Xh53.here hx rfl (pc0 := 248) (pc' := 252) rfl (hb hby at_248) (by decide) (by decide) k) ?_
                    show Go p.tables e below P T53 (mkF m 252 #[.val (.int ps), .val (.int pf), .val (.int nn), .val (.ref b1), .val (.int ((((((((own_one pf (0 : Int32) nn) + (own_one pf (1 : Int32) nn)) + (own_one pf (2 : Int32) nn)) + (own_one pf (3 : Int32) nn)) + (own_one pf (4 : Int32) nn)) + (own_one pf (5 : Int32) nn)) + (own_one pf (6 : Int32) nn)) + (own_one pf (7 : Int32) nn))), .val (.ref b31), .val (.int (own_sq [x0, x1, x2, x3, x4, x5, x6, x7] mm)), .val (.int (own_sq [x0, x1, x2, x3, x4, x5, x6, x7] mm))] [(.int (1 : Int32))])
                    obtain ⟨fs, hr, hrun, hended, hW, hsame⟩ := Xh53.leave (v := some (.int (1 : Int32))) (fun h => by rw [Bd.returns] at h; cases h)
                    refine ⟨_, _, retZ Xh53 hx (t := .boolean) Bd.returns (by simp) (hb hby at_252) rfl hr, hrun, hended, hP _ _ ⟨_, _, rfl, ?_, ⟨_, rfl⟩, hW, hsame.mono (by decide) (by decide)⟩⟩
                    show Q0 Z ps pf de h0 n0 _ T53.heap _
                    rw [hh53]
                    exact ⟨rfl, N53⟩
                  by_cases hc51 : (0 : Int32) < nn
                  · refine Go.via (fun t k => XS.ifNo Xh50.here hx rfl (hb hby at_198) rfl ((if0 _ _).trans (tlt hc51).2.2.2) k) ?_
                    show Go p.tables e below P T50 (mkF m 201 #[.val (.int ps), .val (.int pf), .val (.int nn), .val (.ref b1), .val (.int ((((((((own_one pf (0 : Int32) nn) + (own_one pf (1 : Int32) nn)) + (own_one pf (2 : Int32) nn)) + (own_one pf (3 : Int32) nn)) + (own_one pf (4 : Int32) nn)) + (own_one pf (5 : Int32) nn)) + (own_one pf (6 : Int32) nn)) + (own_one pf (7 : Int32) nn))), .val (.ref b31), .val (.int (own_sq [x0, x1, x2, x3, x4, x5, x6, x7] mm)), .unset] [])
                    refine Go.via (fun t k => XS.aloadN Xh50.here hx rfl (hb hby at_201) rfl rfl k) ?_
                    show Go p.tables e below P T50 (mkF m 202 #[.val (.int ps), .val (.int pf), .val (.int nn), .val (.ref b1), .val (.int ((((((((own_one pf (0 : Int32) nn) + (own_one pf (1 : Int32) nn)) + (own_one pf (2 : Int32) nn)) + (own_one pf (3 : Int32) nn)) + (own_one pf (4 : Int32) nn)) + (own_one pf (5 : Int32) nn)) + (own_one pf (6 : Int32) nn)) + (own_one pf (7 : Int32) nn))), .val (.ref b31), .val (.int (own_sq [x0, x1, x2, x3, x4, x5, x6, x7] mm)), .unset] [(.ref b1)])
                    refine Go.via (fun t k => XS.iconst Xh50.here hx rfl (hb hby at_202) k) ?_
                    show Go p.tables e below P T50 (mkF m 203 #[.val (.int ps), .val (.int pf), .val (.int nn), .val (.ref b1), .val (.int ((((((((own_one pf (0 : Int32) nn) + (own_one pf (1 : Int32) nn)) + (own_one pf (2 : Int32) nn)) + (own_one pf (3 : Int32) nn)) + (own_one pf (4 : Int32) nn)) + (own_one pf (5 : Int32) nn)) + (own_one pf (6 : Int32) nn)) + (own_one pf (7 : Int32) nn))), .val (.ref b31), .val (.int (own_sq [x0, x1, x2, x3, x4, x5, x6, x7] mm)), .unset] [(.int (0 : Int32)), (.ref b1)])
                    refine Go.via (fun t k => XS.aloadN Xh50.here hx rfl (hb hby at_203) rfl rfl k) ?_
                    show Go p.tables e below P T50 (mkF m 204 #[.val (.int ps), .val (.int pf), .val (.int nn), .val (.ref b1), .val (.int ((((((((own_one pf (0 : Int32) nn) + (own_one pf (1 : Int32) nn)) + (own_one pf (2 : Int32) nn)) + (own_one pf (3 : Int32) nn)) + (own_one pf (4 : Int32) nn)) + (own_one pf (5 : Int32) nn)) + (own_one pf (6 : Int32) nn)) + (own_one pf (7 : Int32) nn))), .val (.ref b31), .val (.int (own_sq [x0, x1, x2, x3, x4, x5, x6, x7] mm)), .unset] [(.ref b1), (.int (0 : Int32)), (.ref b1)])
                    refine Go.via (fun t k => XS.iconst Xh50.here hx rfl (hb hby at_204) k) ?_
                    show Go p.tables e below P T50 (mkF m 205 #[.val (.int ps), .val (.int pf), .val (.int nn), .val (.ref b1), .val (.int ((((((((own_one pf (0 : Int32) nn) + (own_one pf (1 : Int32) nn)) + (own_one pf (2 : Int32) nn)) + (own_one pf (3 : Int32) nn)) + (own_one pf (4 : Int32) nn)) + (own_one pf (5 : Int32) nn)) + (own_one pf (6 : Int32) nn)) + (own_one pf (7 : Int32) nn))), .val (.ref b31), .val (.int (own_sq [x0, x1, x2, x3, x4, x5, x6, x7] mm)), .unset] [(.int (0 : Int32)), (.ref b1), (.int (0 : Int32)), (.ref b1)])
                    obtain ⟨c55, A55, q55, S55, N55, H55, G55⟩ := id F48
                    have hin55 : ¬ ((0 : Int32) < 0 ∨ c55.slots.size ≤ ((0 : Int32)).toNatClampNeg) := inb_of S55 ⟨by decide, hc51⟩
                    have hat55 : c55.slots[((0 : Int32)).toNatClampNeg]? = some (.int x0) := (H55 _ (Nat.lt_of_not_le fun q => hin55 (Or.inr q))).trans (congrArg some rfl)
                    refine Go.via (fun t k => Xh50.baloadBooleans hx (j := (0 : Int32)) (v := (.int x0)) (by rw [hh50]; exact A55.1) (State.isArrayOf_alike hZ.alike A55.2.1) A55.2.2 hin55 hat55 (g := (mkF m 205 #[.val (.int ps), .val (.int pf), .val (.int nn), .val (.ref b1), .val (.int ((((((((own_one pf (0 : Int32) nn) + (own_one pf (1 : Int32) nn)) + (own_one pf (2 : Int32) nn)) + (own_one pf (3 : Int32) nn)) + (own_one pf (4 : Int32) nn)) + (own_one pf (5 : Int32) nn)) + (own_one pf (6 : Int32) nn)) + (own_one pf (7 : Int32) nn))), .val (.ref b31), .val (.int (own_sq [x0, x1, x2, x3, x4, x5, x6, x7] mm)), .unset] [(.int (0 : Int32)), (.ref b1), (.int (0 : Int32)), (.ref b1)])) rfl rfl (hb hby at_205) t k) ?_
                    show Go p.tables e below P T50 (mkF m 206 #[.val (.int ps), .val (.int pf), .val (.int nn), .val (.ref b1), .val (.int ((((((((own_one pf (0 : Int32) nn) + (own_one pf (1 : Int32) nn)) + (own_one pf (2 : Int32) nn)) + (own_one pf (3 : Int32) nn)) + (own_one pf (4 : Int32) nn)) + (own_one pf (5 : Int32) nn)) + (own_one pf (6 : Int32) nn)) + (own_one pf (7 : Int32) nn))), .val (.ref b31), .val (.int (own_sq [x0, x1, x2, x3, x4, x5, x6, x7] mm)), .unset] [(.int x0), (.int (0 : Int32)), (.ref b1)])
                    have J57 : ∀ (T57 : State) (locs57 : List Loc) (v57_0 : Int32), Stand p l e room_1 s m #[(.int ps), (.int pf)] below meth c T57 locs57 6 27 → T57.heap = T40.heap → Fr n0 locs57 → v57_0 = (if x0 = (0 : Int32) then (1 : Int32) else (0 : Int32)) → Go p.tables e below P T57 (mkF m 214 #[.val (.int ps), .val (.int pf), .val (.int nn), .val (.ref b1), .val (.int ((((((((own_one pf (0 : Int32) nn) + (own_one pf (1 : Int32) nn)) + (own_one pf (2 : Int32) nn)) + (own_one pf (3 : Int32) nn)) + (own_one pf (4 : Int32) nn)) + (own_one pf (5 : Int32) nn)) + (own_one pf (6 : Int32) nn)) + (own_one pf (7 : Int32) nn))), .val (.ref b31), .val (.int (own_sq [x0, x1, x2, x3, x4, x5, x6, x7] mm)), .unset] [(.int v57_0), (.int (0 : Int32)), (.ref b1)]) := by
                      intro T57 locs57 v57_0 X57 e57 N57 hv57_0
                      have hbv57_0 : v57_0 = 0 ∨ v57_0 = 1 := by (subst hv57_0; (repeat' split) <;> first | (left; rfl) | (right; rfl))
                      show Go p.tables e below P T57 (mkF m 214 #[.val (.int ps), .val (.int pf), .val (.int nn), .val (.ref b1), .val (.int ((((((((own_one pf (0 : Int32) nn) + (own_one pf (1 : Int32) nn)) + (own_one pf (2 : Int32) nn)) + (own_one pf (3 : Int32) nn)) + (own_one pf (4 : Int32) nn)) + (own_one pf (5 : Int32) nn)) + (own_one pf (6 : Int32) nn)) + (own_one pf (7 : Int32) nn))), .val (.ref b31), .val (.int (own_sq [x0, x1, x2, x3, x4, x5, x6, x7] mm)), .unset] [(.int v57_0), (.int (0 : Int32)), (.ref b1)])
                      obtain ⟨c58, A58, q58, S58, N58, H58, G58⟩ := id F48
                      have hin58 : ¬ ((0 : Int32) < 0 ∨ c58.slots.size ≤ ((0 : Int32)).toNatClampNeg) := inb_of S58 ⟨by decide, hc51⟩
                      obtain ⟨T58, h58, X58, e58, W58, st58⟩ := stZ X57 hx hZ e57 A58 (j := (0 : Int32)) hin58 (g := (mkF m 214 #[.val (.int ps), .val (.int pf), .val (.int nn), .val (.ref b1), .val (.int ((((((((own_one pf (0 : Int32) nn) + (own_one pf (1 : Int32) nn)) + (own_one pf (2 : Int32) nn)) + (own_one pf (3 : Int32) nn)) + (own_one pf (4 : Int32) nn)) + (own_one pf (5 : Int32) nn)) + (own_one pf (6 : Int32) nn)) + (own_one pf (7 : Int32) nn))), .val (.ref b31), .val (.int (own_sq [x0, x1, x2, x3, x4, x5, x6, x7] mm)), .unset] [(.int v57_0), (.int (0 : Int32)), (.ref b1)])) rfl rfl (hb hby at_214)
                      refine Go.via st58 ?_
                      have Z59 : n0 ≤ h58.size := Nat.le_trans Z45 (Nat.le_of_eq W58.size.symm)
                      have K60 : Keep h0 h58 [] := K46.wr W58 (Or.inr sz3)
                      obtain ⟨lc58, Xh58, N61⟩ := own_hide X58 (Fr.snoc X58 N57 g2)
                      clear X58
                      have O62 : Old Z n0 h58 := O47.wr W58 g2
                      have V58 : Arv Z h58 b1 k1 .boolean nn [(.int (nar .boolean v57_0)), (.int x1), (.int x2), (.int x3), (.int x4), (.int x5), (.int x6), (.int x7)] (.int (0 : Int32)) := Arv.set A58 q58 S58 N58 H58 G58 (fits_nar_bool _) W58 0 rfl (Nat.le_of_ble_eq_true rfl)
                      have F63 : Exa Z h58 b31 "com/example/numeric_planner/numericplanner/diagram/LinearFeasibility$Rows" := (u40_0.wr W58)
                      have F64 : Fld Z h58 b31 "com/example/numeric_planner/numericplanner/diagram/LinearFeasibility$Rows" "squares" "[Z" (.ref os_40) := (u40_1.other W58 (Or.inl (Ne.symm ne32)))
                      have F65 : Arv Z h58 os_40 k1 .boolean nn ([x0, x1, x2, x3, x4, x5, x6, x7].map Value.int) (.int (0 : Int32)) := (u40_2.other W58 (Ne.symm ne41))
                      exact LP52 T58 _ h58 Xh58 e58 N61 Z59 K60 O62 F63 F64 F65
                    by_cases hc56 : x0 = (0 : Int32)
                    · refine Go.via (fun t k => XS.ifNo Xh50.here hx rfl (hb hby at_206) rfl ((if0 _ _).trans (teq hc56).2) k) ?_
                      show Go p.tables e below P T50 (mkF m 209 #[.val (.int ps), .val (.int pf), .val (.int nn), .val (.ref b1), .val (.int ((((((((own_one pf (0 : Int32) nn) + (own_one pf (1 : Int32) nn)) + (own_one pf (2 : Int32) nn)) + (own_one pf (3 : Int32) nn)) + (own_one pf (4 : Int32) nn)) + (own_one pf (5 : Int32) nn)) + (own_one pf (6 : Int32) nn)) + (own_one pf (7 : Int32) nn))), .val (.ref b31), .val (.int (own_sq [x0, x1, x2, x3, x4, x5, x6, x7] mm)), .unset] [(.int (0 : Int32)), (.ref b1)])
                      refine Go.via (fun t k => XS.iconst Xh50.here hx rfl (hb hby at_209) k) ?_
                      show Go p.tables e below P T50 (mkF m 210 #[.val (.int ps), .val (.int pf), .val (.int nn), .val (.ref b1), .val (.int ((((((((own_one pf (0 : Int32) nn) + (own_one pf (1 : Int32) nn)) + (own_one pf (2 : Int32) nn)) + (own_one pf (3 : Int32) nn)) + (own_one pf (4 : Int32) nn)) + (own_one pf (5 : Int32) nn)) + (own_one pf (6 : Int32) nn)) + (own_one pf (7 : Int32) nn))), .val (.ref b31), .val (.int (own_sq [x0, x1, x2, x3, x4, x5, x6, x7] mm)), .unset] [(.int (1 : Int32)), (.int (0 : Int32)), (.ref b1)])
                      refine Go.via (fun t k => XS.goto Xh50.here hx rfl (pc0 := 210) (pc' := 214) rfl (hb hby at_210) (by decide) (by decide) k) ?_
                      exact J57 T50 _ (1 : Int32) Xh50 hh50 N50 (if_pos hc56).symm
                    · refine Go.via (fun t k => XS.ifYes Xh50.here hx rfl (pc0 := 206) (pc' := 213) rfl (hb hby at_206) rfl ((if0 _ _).trans (feq hc56).2) (by decide) (by decide) k) ?_
                      show Go p.tables e below P T50 (mkF m 213 #[.val (.int ps), .val (.int pf), .val (.int nn), .val (.ref b1), .val (.int ((((((((own_one pf (0 : Int32) nn) + (own_one pf (1 : Int32) nn)) + (own_one pf (2 : Int32) nn)) + (own_one pf (3 : Int32) nn)) + (own_one pf (4 : Int32) nn)) + (own_one pf (5 : Int32) nn)) + (own_one pf (6 : Int32) nn)) + (own_one pf (7 : Int32) nn))), .val (.ref b31), .val (.int (own_sq [x0, x1, x2, x3, x4, x5, x6, x7] mm)), .unset] [(.int (0 : Int32)), (.ref b1)])
                      refine Go.via (fun t k => XS.iconst Xh50.here hx rfl (hb hby at_213) k) ?_
                      exact J57 T50 _ (0 : Int32) Xh50 hh50 N50 (if_neg hc56).symm
                  · refine Go.via (fun t k => XS.ifYes Xh50.here hx rfl (pc0 := 198) (pc' := 215) rfl (hb hby at_198) rfl ((if0 _ _).trans (flt hc51).2.2.2) (by decide) (by decide) k) ?_
                    exact LP52 T50 _ T40.heap Xh50 hh50 N50 Z45 K46 O47 u40_0 u40_1 u40_2
                by_cases hc21 : (7 : Int32) < nn
                · refine Go.via (fun t k => XS.icmpNo X20.here hx rfl (hb hby at_108) rfl (tlt hc21).2.2.2 k) ?_
                  show Go p.tables e below P T20 (mkF m 111 #[.val (.int ps), .val (.int pf), .val (.int nn), .val (.ref b1), .unset, .unset, .unset, .unset] [])
                  refine Go.via (fun t k => XS.aloadN X20.here hx rfl (hb hby at_111) rfl rfl k) ?_
                  show Go p.tables e below P T20 (mkF m 112 #[.val (.int ps), .val (.int pf), .val (.int nn), .val (.ref b1), .unset, .unset, .unset, .unset] [(.ref b1)])
                  refine Go.via (fun t k => XS.bipush X20.here hx rfl (hb hby at_112) k) ?_
                  show Go p.tables e below P T20 (mkF m 114 #[.val (.int ps), .val (.int pf), .val (.int nn), .val (.ref b1), .unset, .unset, .unset, .unset] [(.int (7 : Int32)), (.ref b1)])
                  refine Go.via (fun t k => XS.iloadN X20.here hx rfl (hb hby at_114) rfl k) ?_
                  show Go p.tables e below P T20 (mkF m 115 #[.val (.int ps), .val (.int pf), .val (.int nn), .val (.ref b1), .unset, .unset, .unset, .unset] [(.int pf), (.int (7 : Int32)), (.ref b1)])
                  refine Go.via (fun t k => XS.bipush X20.here hx rfl (hb hby at_115) k) ?_
                  show Go p.tables e below P T20 (mkF m 117 #[.val (.int ps), .val (.int pf), .val (.int nn), .val (.ref b1), .unset, .unset, .unset, .unset] [(.int (7 : Int32)), (.int pf), (.int (7 : Int32)), (.ref b1)])
                  obtain ⟨_, _, ⟨T66, L66, k66, n66⟩, -, X66, ⟨Lc66, hQ66, l66, y66, z66⟩, st66⟩ := Jvm.LawKit.callS X20 hx (y := (⟨"com/example/numeric_planner/numericplanner/diagram/RowsSquareCountPinLaw", "bit", "(II)Z"⟩ : MethodName)) hown (mvT hZ (hw _ (List.mem_of_getElem? (i := 81) rfl))) (mvT hZ (hw _ (List.mem_of_getElem? (i := 82) rfl))) (mvT hZ (hw _ (List.mem_of_getElem? (i := 4) rfl))) (mvT hZ (hw _ (List.mem_of_getElem? (i := 83) rfl))) (by decide) (backOf (W := 2) (rm11 l Z a0 hw [] pf (7 : Int32) hp20 n0 Z20 ) hZ (hw _ (List.mem_of_getElem? (i := 83) rfl)) (hw _ (List.mem_of_getElem? (i := 4) rfl)) (by decide) (by decide)) (g := (mkF m 117 #[.val (.int ps), .val (.int pf), .val (.int nn), .val (.ref b1), .unset, .unset, .unset, .unset] [(.int (7 : Int32)), (.int pf), (.int (7 : Int32)), (.ref b1)])) rfl (by rw [hml]; rfl) (argsL := [(.int pf), (.int (7 : Int32))]) (rest := [(.int (7 : Int32)), (.ref b1)]) (lenOf own_pd0 rfl) rfl (by show 2 * 0 + _ ≤ _; exact Nat.le_of_eq rfl) (hb hby at_117) (fun _ _ => ⟨rfl, e20, (by decide : 1 + 0 ≤ _), (by decide : 8 + 0 ≤ _)⟩)
                  dsimp only [Pt.U, Pt.locs, Pt.cells, Pt.slots] at X66 l66 y66 z66 st66 hQ66
                  subst l66 y66 z66
                  obtain ⟨rfl, Nq66, hh66⟩ := hQ66
                  obtain ⟨lc66, Xh66, N66⟩ := own_hide X66 (Fr.app N20 Nq66)
                  clear X66
                  refine Go.via st66 ?_
                  show Go p.tables e below P T66 (mkF m 120 #[.val (.int ps), .val (.int pf), .val (.int nn), .val (.ref b1), .unset, .unset, .unset, .unset] [(.int (own_bv pf (7 : Int32))), (.int (7 : Int32)), (.ref b1)])
                  obtain ⟨c67, A67, q67, S67, N67, H67, G67⟩ := id F20_0
                  have hin67 : ¬ ((7 : Int32) < 0 ∨ c67.slots.size ≤ ((7 : Int32)).toNatClampNeg) := inb_of S67 ⟨by decide, hc21⟩
                  obtain ⟨T67, h67, X67, e67, W67, st67⟩ := stZ Xh66 hx hZ hh66 A67 (j := (7 : Int32)) hin67 (g := (mkF m 120 #[.val (.int ps), .val (.int pf), .val (.int nn), .val (.ref b1), .unset, .unset, .unset, .unset] [(.int (own_bv pf (7 : Int32))), (.int (7 : Int32)), (.ref b1)])) rfl rfl (hb hby at_120)
                  refine Go.via st67 ?_
                  have Z68 : n0 ≤ h67.size := Nat.le_trans Z20 (Nat.le_of_eq W67.size.symm)
                  have K69 : Keep h0 h67 [] := K20.wr W67 (Or.inr sz3)
                  obtain ⟨lc67, Xh67, N70⟩ := own_hide X67 (Fr.snoc X67 N66 g2)
                  clear X67
                  have O71 : Old Z n0 h67 := O20.wr W67 g2
                  have V67 : Arv Z h67 b1 k1 .boolean nn [(.int x0), (.int x1), (.int x2), (.int x3), (.int x4), (.int x5), (.int x6), (.int (nar .boolean (own_bv pf (7 : Int32))))] (.int (0 : Int32)) := Arv.set A67 q67 S67 N67 H67 G67 (fits_nar_bool _) W67 7 rfl (Nat.le_of_ble_eq_true rfl)
                  have F72 : Exa Z h67 b1 "[Z" := (F20_1.wr W67)
                  exact LP22 T67 _ h67 (nar .boolean (own_bv pf (7 : Int32))) (ownUp Xh67 (by decide) (by decide)) e67 N70 Z68 K69 O71 V67 F72 (if_pos hc21).symm
                · refine Go.via (fun t k => XS.icmpYes X20.here hx rfl (pc0 := 108) (pc' := 121) rfl (hb hby at_108) rfl (flt hc21).2.2.2 (by decide) (by decide) k) ?_
                  exact LP22 T20 _ hp20 (0 : Int32) (ownUp X20 (by decide) (by decide)) e20 N20 Z20 K20 O20 F20_0 F20_1 (if_neg hc21).symm
              by_cases hc19 : (6 : Int32) < nn
              · refine Go.via (fun t k => XS.icmpNo X18.here hx rfl (hb hby at_92) rfl (tlt hc19).2.2.2 k) ?_
                show Go p.tables e below P T18 (mkF m 95 #[.val (.int ps), .val (.int pf), .val (.int nn), .val (.ref b1), .unset, .unset, .unset, .unset] [])
                refine Go.via (fun t k => XS.aloadN X18.here hx rfl (hb hby at_95) rfl rfl k) ?_
                show Go p.tables e below P T18 (mkF m 96 #[.val (.int ps), .val (.int pf), .val (.int nn), .val (.ref b1), .unset, .unset, .unset, .unset] [(.ref b1)])
                refine Go.via (fun t k => XS.bipush X18.here hx rfl (hb hby at_96) k) ?_
                show Go p.tables e below P T18 (mkF m 98 #[.val (.int ps), .val (.int pf), .val (.int nn), .val (.ref b1), .unset, .unset, .unset, .unset] [(.int (6 : Int32)), (.ref b1)])
                refine Go.via (fun t k => XS.iloadN X18.here hx rfl (hb hby at_98) rfl k) ?_
                show Go p.tables e below P T18 (mkF m 99 #[.val (.int ps), .val (.int pf), .val (.int nn), .val (.ref b1), .unset, .unset, .unset, .unset] [(.int pf), (.int (6 : Int32)), (.ref b1)])
                refine Go.via (fun t k => XS.bipush X18.here hx rfl (hb hby at_99) k) ?_
                show Go p.tables e below P T18 (mkF m 101 #[.val (.int ps), .val (.int pf), .val (.int nn), .val (.ref b1), .unset, .unset, .unset, .unset] [(.int (6 : Int32)), (.int pf), (.int (6 : Int32)), (.ref b1)])
                obtain ⟨_, _, ⟨T73, L73, k73, n73⟩, -, X73, ⟨Lc73, hQ73, l73, y73, z73⟩, st73⟩ := Jvm.LawKit.callS X18 hx (y := (⟨"com/example/numeric_planner/numericplanner/diagram/RowsSquareCountPinLaw", "bit", "(II)Z"⟩ : MethodName)) hown (mvT hZ (hw _ (List.mem_of_getElem? (i := 81) rfl))) (mvT hZ (hw _ (List.mem_of_getElem? (i := 82) rfl))) (mvT hZ (hw _ (List.mem_of_getElem? (i := 4) rfl))) (mvT hZ (hw _ (List.mem_of_getElem? (i := 83) rfl))) (by decide) (backOf (W := 2) (rm11 l Z a0 hw [] pf (6 : Int32) hp18 n0 Z18 ) hZ (hw _ (List.mem_of_getElem? (i := 83) rfl)) (hw _ (List.mem_of_getElem? (i := 4) rfl)) (by decide) (by decide)) (g := (mkF m 101 #[.val (.int ps), .val (.int pf), .val (.int nn), .val (.ref b1), .unset, .unset, .unset, .unset] [(.int (6 : Int32)), (.int pf), (.int (6 : Int32)), (.ref b1)])) rfl (by rw [hml]; rfl) (argsL := [(.int pf), (.int (6 : Int32))]) (rest := [(.int (6 : Int32)), (.ref b1)]) (lenOf own_pd0 rfl) rfl (by show 2 * 0 + _ ≤ _; exact Nat.le_of_eq rfl) (hb hby at_101) (fun _ _ => ⟨rfl, e18, (by decide : 1 + 0 ≤ _), (by decide : 8 + 0 ≤ _)⟩)
                dsimp only [Pt.U, Pt.locs, Pt.cells, Pt.slots] at X73 l73 y73 z73 st73 hQ73
                subst l73 y73 z73
                obtain ⟨rfl, Nq73, hh73⟩ := hQ73
                obtain ⟨lc73, Xh73, N73⟩ := own_hide X73 (Fr.app N18 Nq73)
                clear X73
                refine Go.via st73 ?_
                show Go p.tables e below P T73 (mkF m 104 #[.val (.int ps), .val (.int pf), .val (.int nn), .val (.ref b1), .unset, .unset, .unset, .unset] [(.int (own_bv pf (6 : Int32))), (.int (6 : Int32)), (.ref b1)])
                obtain ⟨c74, A74, q74, S74, N74, H74, G74⟩ := id F18_0
                have hin74 : ¬ ((6 : Int32) < 0 ∨ c74.slots.size ≤ ((6 : Int32)).toNatClampNeg) := inb_of S74 ⟨by decide, hc19⟩
                obtain ⟨T74, h74, X74, e74, W74, st74⟩ := stZ Xh73 hx hZ hh73 A74 (j := (6 : Int32)) hin74 (g := (mkF m 104 #[.val (.int ps), .val (.int pf), .val (.int nn), .val (.ref b1), .unset, .unset, .unset, .unset] [(.int (own_bv pf (6 : Int32))), (.int (6 : Int32)), (.ref b1)])) rfl rfl (hb hby at_104)
                refine Go.via st74 ?_
                have Z75 : n0 ≤ h74.size := Nat.le_trans Z18 (Nat.le_of_eq W74.size.symm)
                have K76 : Keep h0 h74 [] := K18.wr W74 (Or.inr sz3)
                obtain ⟨lc74, Xh74, N77⟩ := own_hide X74 (Fr.snoc X74 N73 g2)
                clear X74
                have O78 : Old Z n0 h74 := O18.wr W74 g2
                have V74 : Arv Z h74 b1 k1 .boolean nn [(.int x0), (.int x1), (.int x2), (.int x3), (.int x4), (.int x5), (.int (nar .boolean (own_bv pf (6 : Int32)))), (.int (0 : Int32))] (.int (0 : Int32)) := Arv.set A74 q74 S74 N74 H74 G74 (fits_nar_bool _) W74 6 rfl (Nat.le_of_ble_eq_true rfl)
                have F79 : Exa Z h74 b1 "[Z" := (F18_1.wr W74)
                exact LP20 T74 _ h74 (nar .boolean (own_bv pf (6 : Int32))) Xh74 e74 N77 Z75 K76 O78 V74 F79 (if_pos hc19).symm
              · refine Go.via (fun t k => XS.icmpYes X18.here hx rfl (pc0 := 92) (pc' := 105) rfl (hb hby at_92) rfl (flt hc19).2.2.2 (by decide) (by decide) k) ?_
                exact LP20 T18 _ hp18 (0 : Int32) X18 e18 N18 Z18 K18 O18 F18_0 F18_1 (if_neg hc19).symm
            by_cases hc17 : (5 : Int32) < nn
            · refine Go.via (fun t k => XS.icmpNo X16.here hx rfl (hb hby at_78) rfl (tlt hc17).2.2.2 k) ?_
              show Go p.tables e below P T16 (mkF m 81 #[.val (.int ps), .val (.int pf), .val (.int nn), .val (.ref b1), .unset, .unset, .unset, .unset] [])
              refine Go.via (fun t k => XS.aloadN X16.here hx rfl (hb hby at_81) rfl rfl k) ?_
              show Go p.tables e below P T16 (mkF m 82 #[.val (.int ps), .val (.int pf), .val (.int nn), .val (.ref b1), .unset, .unset, .unset, .unset] [(.ref b1)])
              refine Go.via (fun t k => XS.iconst X16.here hx rfl (hb hby at_82) k) ?_
              show Go p.tables e below P T16 (mkF m 83 #[.val (.int ps), .val (.int pf), .val (.int nn), .val (.ref b1), .unset, .unset, .unset, .unset] [(.int (5 : Int32)), (.ref b1)])
              refine Go.via (fun t k => XS.iloadN X16.here hx rfl (hb hby at_83) rfl k) ?_
              show Go p.tables e below P T16 (mkF m 84 #[.val (.int ps), .val (.int pf), .val (.int nn), .val (.ref b1), .unset, .unset, .unset, .unset] [(.int pf), (.int (5 : Int32)), (.ref b1)])
              refine Go.via (fun t k => XS.iconst X16.here hx rfl (hb hby at_84) k) ?_
              show Go p.tables e below P T16 (mkF m 85 #[.val (.int ps), .val (.int pf), .val (.int nn), .val (.ref b1), .unset, .unset, .unset, .unset] [(.int (5 : Int32)), (.int pf), (.int (5 : Int32)), (.ref b1)])
              obtain ⟨_, _, ⟨T80, L80, k80, n80⟩, -, X80, ⟨Lc80, hQ80, l80, y80, z80⟩, st80⟩ := Jvm.LawKit.callS X16 hx (y := (⟨"com/example/numeric_planner/numericplanner/diagram/RowsSquareCountPinLaw", "bit", "(II)Z"⟩ : MethodName)) hown (mvT hZ (hw _ (List.mem_of_getElem? (i := 81) rfl))) (mvT hZ (hw _ (List.mem_of_getElem? (i := 82) rfl))) (mvT hZ (hw _ (List.mem_of_getElem? (i := 4) rfl))) (mvT hZ (hw _ (List.mem_of_getElem? (i := 83) rfl))) (by decide) (backOf (W := 2) (rm11 l Z a0 hw [] pf (5 : Int32) hp16 n0 Z16 ) hZ (hw _ (List.mem_of_getElem? (i := 83) rfl)) (hw _ (List.mem_of_getElem? (i := 4) rfl)) (by decide) (by decide)) (g := (mkF m 85 #[.val (.int ps), .val (.int pf), .val (.int nn), .val (.ref b1), .unset, .unset, .unset, .unset] [(.int (5 : Int32)), (.int pf), (.int (5 : Int32)), (.ref b1)])) rfl (by rw [hml]; rfl) (argsL := [(.int pf), (.int (5 : Int32))]) (rest := [(.int (5 : Int32)), (.ref b1)]) (lenOf own_pd0 rfl) rfl (by show 2 * 0 + _ ≤ _; exact Nat.le_of_eq rfl) (hb hby at_85) (fun _ _ => ⟨rfl, e16, (by decide : 1 + 0 ≤ _), (by decide : 8 + 0 ≤ _)⟩)
              dsimp only [Pt.U, Pt.locs, Pt.cells, Pt.slots] at X80 l80 y80 z80 st80 hQ80
              subst l80 y80 z80
              obtain ⟨rfl, Nq80, hh80⟩ := hQ80
              obtain ⟨lc80, Xh80, N80⟩ := own_hide X80 (Fr.app N16 Nq80)
              clear X80
              refine Go.via st80 ?_
              show Go p.tables e below P T80 (mkF m 88 #[.val (.int ps), .val (.int pf), .val (.int nn), .val (.ref b1), .unset, .unset, .unset, .unset] [(.int (own_bv pf (5 : Int32))), (.int (5 : Int32)), (.ref b1)])
              obtain ⟨c81, A81, q81, S81, N81, H81, G81⟩ := id F16_0
              have hin81 : ¬ ((5 : Int32) < 0 ∨ c81.slots.size ≤ ((5 : Int32)).toNatClampNeg) := inb_of S81 ⟨by decide, hc17⟩
              obtain ⟨T81, h81, X81, e81, W81, st81⟩ := stZ Xh80 hx hZ hh80 A81 (j := (5 : Int32)) hin81 (g := (mkF m 88 #[.val (.int ps), .val (.int pf), .val (.int nn), .val (.ref b1), .unset, .unset, .unset, .unset] [(.int (own_bv pf (5 : Int32))), (.int (5 : Int32)), (.ref b1)])) rfl rfl (hb hby at_88)
              refine Go.via st81 ?_
              have Z82 : n0 ≤ h81.size := Nat.le_trans Z16 (Nat.le_of_eq W81.size.symm)
              have K83 : Keep h0 h81 [] := K16.wr W81 (Or.inr sz3)
              obtain ⟨lc81, Xh81, N84⟩ := own_hide X81 (Fr.snoc X81 N80 g2)
              clear X81
              have O85 : Old Z n0 h81 := O16.wr W81 g2
              have V81 : Arv Z h81 b1 k1 .boolean nn [(.int x0), (.int x1), (.int x2), (.int x3), (.int x4), (.int (nar .boolean (own_bv pf (5 : Int32)))), (.int (0 : Int32)), (.int (0 : Int32))] (.int (0 : Int32)) := Arv.set A81 q81 S81 N81 H81 G81 (fits_nar_bool _) W81 5 rfl (Nat.le_of_ble_eq_true rfl)
              have F86 : Exa Z h81 b1 "[Z" := (F16_1.wr W81)
              exact LP18 T81 _ h81 (nar .boolean (own_bv pf (5 : Int32))) Xh81 e81 N84 Z82 K83 O85 V81 F86 (if_pos hc17).symm
            · refine Go.via (fun t k => XS.icmpYes X16.here hx rfl (pc0 := 78) (pc' := 89) rfl (hb hby at_78) rfl (flt hc17).2.2.2 (by decide) (by decide) k) ?_
              exact LP18 T16 _ hp16 (0 : Int32) X16 e16 N16 Z16 K16 O16 F16_0 F16_1 (if_neg hc17).symm
          by_cases hc15 : (4 : Int32) < nn
          · refine Go.via (fun t k => XS.icmpNo X14.here hx rfl (hb hby at_65) rfl (tlt hc15).2.2.2 k) ?_
            show Go p.tables e below P T14 (mkF m 68 #[.val (.int ps), .val (.int pf), .val (.int nn), .val (.ref b1), .unset, .unset, .unset, .unset] [])
            refine Go.via (fun t k => XS.aloadN X14.here hx rfl (hb hby at_68) rfl rfl k) ?_
            show Go p.tables e below P T14 (mkF m 69 #[.val (.int ps), .val (.int pf), .val (.int nn), .val (.ref b1), .unset, .unset, .unset, .unset] [(.ref b1)])
            refine Go.via (fun t k => XS.iconst X14.here hx rfl (hb hby at_69) k) ?_
            show Go p.tables e below P T14 (mkF m 70 #[.val (.int ps), .val (.int pf), .val (.int nn), .val (.ref b1), .unset, .unset, .unset, .unset] [(.int (4 : Int32)), (.ref b1)])
            refine Go.via (fun t k => XS.iloadN X14.here hx rfl (hb hby at_70) rfl k) ?_
            show Go p.tables e below P T14 (mkF m 71 #[.val (.int ps), .val (.int pf), .val (.int nn), .val (.ref b1), .unset, .unset, .unset, .unset] [(.int pf), (.int (4 : Int32)), (.ref b1)])
            refine Go.via (fun t k => XS.iconst X14.here hx rfl (hb hby at_71) k) ?_
            show Go p.tables e below P T14 (mkF m 72 #[.val (.int ps), .val (.int pf), .val (.int nn), .val (.ref b1), .unset, .unset, .unset, .unset] [(.int (4 : Int32)), (.int pf), (.int (4 : Int32)), (.ref b1)])
            obtain ⟨_, _, ⟨T87, L87, k87, n87⟩, -, X87, ⟨Lc87, hQ87, l87, y87, z87⟩, st87⟩ := Jvm.LawKit.callS X14 hx (y := (⟨"com/example/numeric_planner/numericplanner/diagram/RowsSquareCountPinLaw", "bit", "(II)Z"⟩ : MethodName)) hown (mvT hZ (hw _ (List.mem_of_getElem? (i := 81) rfl))) (mvT hZ (hw _ (List.mem_of_getElem? (i := 82) rfl))) (mvT hZ (hw _ (List.mem_of_getElem? (i := 4) rfl))) (mvT hZ (hw _ (List.mem_of_getElem? (i := 83) rfl))) (by decide) (backOf (W := 2) (rm11 l Z a0 hw [] pf (4 : Int32) hp14 n0 Z14 ) hZ (hw _ (List.mem_of_getElem? (i := 83) rfl)) (hw _ (List.mem_of_getElem? (i := 4) rfl)) (by decide) (by decide)) (g := (mkF m 72 #[.val (.int ps), .val (.int pf), .val (.int nn), .val (.ref b1), .unset, .unset, .unset, .unset] [(.int (4 : Int32)), (.int pf), (.int (4 : Int32)), (.ref b1)])) rfl (by rw [hml]; rfl) (argsL := [(.int pf), (.int (4 : Int32))]) (rest := [(.int (4 : Int32)), (.ref b1)]) (lenOf own_pd0 rfl) rfl (by show 2 * 0 + _ ≤ _; exact Nat.le_of_eq rfl) (hb hby at_72) (fun _ _ => ⟨rfl, e14, (by decide : 1 + 0 ≤ _), (by decide : 8 + 0 ≤ _)⟩)
            dsimp only [Pt.U, Pt.locs, Pt.cells, Pt.slots] at X87 l87 y87 z87 st87 hQ87
            subst l87 y87 z87
            obtain ⟨rfl, Nq87, hh87⟩ := hQ87
            obtain ⟨lc87, Xh87, N87⟩ := own_hide X87 (Fr.app N14 Nq87)
            clear X87
            refine Go.via st87 ?_
            show Go p.tables e below P T87 (mkF m 75 #[.val (.int ps), .val (.int pf), .val (.int nn), .val (.ref b1), .unset, .unset, .unset, .unset] [(.int (own_bv pf (4 : Int32))), (.int (4 : Int32)), (.ref b1)])
            obtain ⟨c88, A88, q88, S88, N88, H88, G88⟩ := id F14_0
            have hin88 : ¬ ((4 : Int32) < 0 ∨ c88.slots.size ≤ ((4 : Int32)).toNatClampNeg) := inb_of S88 ⟨by decide, hc15⟩
            obtain ⟨T88, h88, X88, e88, W88, st88⟩ := stZ Xh87 hx hZ hh87 A88 (j := (4 : Int32)) hin88 (g := (mkF m 75 #[.val (.int ps), .val (.int pf), .val (.int nn), .val (.ref b1), .unset, .unset, .unset, .unset] [(.int (own_bv pf (4 : Int32))), (.int (4 : Int32)), (.ref b1)])) rfl rfl (hb hby at_75)
            refine Go.via st88 ?_
            have Z89 : n0 ≤ h88.size := Nat.le_trans Z14 (Nat.le_of_eq W88.size.symm)
            have K90 : Keep h0 h88 [] := K14.wr W88 (Or.inr sz3)
            obtain ⟨lc88, Xh88, N91⟩ := own_hide X88 (Fr.snoc X88 N87 g2)
            clear X88
            have O92 : Old Z n0 h88 := O14.wr W88 g2
            have V88 : Arv Z h88 b1 k1 .boolean nn [(.int x0), (.int x1), (.int x2), (.int x3), (.int (nar .boolean (own_bv pf (4 : Int32)))), (.int (0 : Int32)), (.int (0 : Int32)), (.int (0 : Int32))] (.int (0 : Int32)) := Arv.set A88 q88 S88 N88 H88 G88 (fits_nar_bool _) W88 4 rfl (Nat.le_of_ble_eq_true rfl)
            have F93 : Exa Z h88 b1 "[Z" := (F14_1.wr W88)
            exact LP16 T88 _ h88 (nar .boolean (own_bv pf (4 : Int32))) Xh88 e88 N91 Z89 K90 O92 V88 F93 (if_pos hc15).symm
          · refine Go.via (fun t k => XS.icmpYes X14.here hx rfl (pc0 := 65) (pc' := 76) rfl (hb hby at_65) rfl (flt hc15).2.2.2 (by decide) (by decide) k) ?_
            exact LP16 T14 _ hp14 (0 : Int32) X14 e14 N14 Z14 K14 O14 F14_0 F14_1 (if_neg hc15).symm
        by_cases hc13 : (3 : Int32) < nn
        · refine Go.via (fun t k => XS.icmpNo X12.here hx rfl (hb hby at_52) rfl (tlt hc13).2.2.2 k) ?_
          show Go p.tables e below P T12 (mkF m 55 #[.val (.int ps), .val (.int pf), .val (.int nn), .val (.ref b1), .unset, .unset, .unset, .unset] [])
          refine Go.via (fun t k => XS.aloadN X12.here hx rfl (hb hby at_55) rfl rfl k) ?_
          show Go p.tables e below P T12 (mkF m 56 #[.val (.int ps), .val (.int pf), .val (.int nn), .val (.ref b1), .unset, .unset, .unset, .unset] [(.ref b1)])
          refine Go.via (fun t k => XS.iconst X12.here hx rfl (hb hby at_56) k) ?_
          show Go p.tables e below P T12 (mkF m 57 #[.val (.int ps), .val (.int pf), .val (.int nn), .val (.ref b1), .unset, .unset, .unset, .unset] [(.int (3 : Int32)), (.ref b1)])
          refine Go.via (fun t k => XS.iloadN X12.here hx rfl (hb hby at_57) rfl k) ?_
          show Go p.tables e below P T12 (mkF m 58 #[.val (.int ps), .val (.int pf), .val (.int nn), .val (.ref b1), .unset, .unset, .unset, .unset] [(.int pf), (.int (3 : Int32)), (.ref b1)])
          refine Go.via (fun t k => XS.iconst X12.here hx rfl (hb hby at_58) k) ?_
          show Go p.tables e below P T12 (mkF m 59 #[.val (.int ps), .val (.int pf), .val (.int nn), .val (.ref b1), .unset, .unset, .unset, .unset] [(.int (3 : Int32)), (.int pf), (.int (3 : Int32)), (.ref b1)])
          obtain ⟨_, _, ⟨T94, L94, k94, n94⟩, -, X94, ⟨Lc94, hQ94, l94, y94, z94⟩, st94⟩ := Jvm.LawKit.callS X12 hx (y := (⟨"com/example/numeric_planner/numericplanner/diagram/RowsSquareCountPinLaw", "bit", "(II)Z"⟩ : MethodName)) hown (mvT hZ (hw _ (List.mem_of_getElem? (i := 81) rfl))) (mvT hZ (hw _ (List.mem_of_getElem? (i := 82) rfl))) (mvT hZ (hw _ (List.mem_of_getElem? (i := 4) rfl))) (mvT hZ (hw _ (List.mem_of_getElem? (i := 83) rfl))) (by decide) (backOf (W := 2) (rm11 l Z a0 hw [] pf (3 : Int32) hp12 n0 Z12 ) hZ (hw _ (List.mem_of_getElem? (i := 83) rfl)) (hw _ (List.mem_of_getElem? (i := 4) rfl)) (by decide) (by decide)) (g := (mkF m 59 #[.val (.int ps), .val (.int pf), .val (.int nn), .val (.ref b1), .unset, .unset, .unset, .unset] [(.int (3 : Int32)), (.int pf), (.int (3 : Int32)), (.ref b1)])) rfl (by rw [hml]; rfl) (argsL := [(.int pf), (.int (3 : Int32))]) (rest := [(.int (3 : Int32)), (.ref b1)]) (lenOf own_pd0 rfl) rfl (by show 2 * 0 + _ ≤ _; exact Nat.le_of_eq rfl) (hb hby at_59) (fun _ _ => ⟨rfl, e12, (by decide : 1 + 0 ≤ _), (by decide : 8 + 0 ≤ _)⟩)
          dsimp only [Pt.U, Pt.locs, Pt.cells, Pt.slots] at X94 l94 y94 z94 st94 hQ94
          subst l94 y94 z94
          obtain ⟨rfl, Nq94, hh94⟩ := hQ94
          obtain ⟨lc94, Xh94, N94⟩ := own_hide X94 (Fr.app N12 Nq94)
          clear X94
          refine Go.via st94 ?_
          show Go p.tables e below P T94 (mkF m 62 #[.val (.int ps), .val (.int pf), .val (.int nn), .val (.ref b1), .unset, .unset, .unset, .unset] [(.int (own_bv pf (3 : Int32))), (.int (3 : Int32)), (.ref b1)])
          obtain ⟨c95, A95, q95, S95, N95, H95, G95⟩ := id F12_0
          have hin95 : ¬ ((3 : Int32) < 0 ∨ c95.slots.size ≤ ((3 : Int32)).toNatClampNeg) := inb_of S95 ⟨by decide, hc13⟩
          obtain ⟨T95, h95, X95, e95, W95, st95⟩ := stZ Xh94 hx hZ hh94 A95 (j := (3 : Int32)) hin95 (g := (mkF m 62 #[.val (.int ps), .val (.int pf), .val (.int nn), .val (.ref b1), .unset, .unset, .unset, .unset] [(.int (own_bv pf (3 : Int32))), (.int (3 : Int32)), (.ref b1)])) rfl rfl (hb hby at_62)
          refine Go.via st95 ?_
          have Z96 : n0 ≤ h95.size := Nat.le_trans Z12 (Nat.le_of_eq W95.size.symm)
          have K97 : Keep h0 h95 [] := K12.wr W95 (Or.inr sz3)
          obtain ⟨lc95, Xh95, N98⟩ := own_hide X95 (Fr.snoc X95 N94 g2)
          clear X95
          have O99 : Old Z n0 h95 := O12.wr W95 g2
          have V95 : Arv Z h95 b1 k1 .boolean nn [(.int x0), (.int x1), (.int x2), (.int (nar .boolean (own_bv pf (3 : Int32)))), (.int (0 : Int32)), (.int (0 : Int32)), (.int (0 : Int32)), (.int (0 : Int32))] (.int (0 : Int32)) := Arv.set A95 q95 S95 N95 H95 G95 (fits_nar_bool _) W95 3 rfl (Nat.le_of_ble_eq_true rfl)
          have F100 : Exa Z h95 b1 "[Z" := (F12_1.wr W95)
          exact LP14 T95 _ h95 (nar .boolean (own_bv pf (3 : Int32))) Xh95 e95 N98 Z96 K97 O99 V95 F100 (if_pos hc13).symm
        · refine Go.via (fun t k => XS.icmpYes X12.here hx rfl (pc0 := 52) (pc' := 63) rfl (hb hby at_52) rfl (flt hc13).2.2.2 (by decide) (by decide) k) ?_
          exact LP14 T12 _ hp12 (0 : Int32) X12 e12 N12 Z12 K12 O12 F12_0 F12_1 (if_neg hc13).symm
      by_cases hc11 : (2 : Int32) < nn
      · refine Go.via (fun t k => XS.icmpNo X10.here hx rfl (hb hby at_39) rfl (tlt hc11).2.2.2 k) ?_
        show Go p.tables e below P T10 (mkF m 42 #[.val (.int ps), .val (.int pf), .val (.int nn), .val (.ref b1), .unset, .unset, .unset, .unset] [])
        refine Go.via (fun t k => XS.aloadN X10.here hx rfl (hb hby at_42) rfl rfl k) ?_
        show Go p.tables e below P T10 (mkF m 43 #[.val (.int ps), .val (.int pf), .val (.int nn), .val (.ref b1), .unset, .unset, .unset, .unset] [(.ref b1)])
        refine Go.via (fun t k => XS.iconst X10.here hx rfl (hb hby at_43) k) ?_
        show Go p.tables e below P T10 (mkF m 44 #[.val (.int ps), .val (.int pf), .val (.int nn), .val (.ref b1), .unset, .unset, .unset, .unset] [(.int (2 : Int32)), (.ref b1)])
        refine Go.via (fun t k => XS.iloadN X10.here hx rfl (hb hby at_44) rfl k) ?_
        show Go p.tables e below P T10 (mkF m 45 #[.val (.int ps), .val (.int pf), .val (.int nn), .val (.ref b1), .unset, .unset, .unset, .unset] [(.int pf), (.int (2 : Int32)), (.ref b1)])
        refine Go.via (fun t k => XS.iconst X10.here hx rfl (hb hby at_45) k) ?_
        show Go p.tables e below P T10 (mkF m 46 #[.val (.int ps), .val (.int pf), .val (.int nn), .val (.ref b1), .unset, .unset, .unset, .unset] [(.int (2 : Int32)), (.int pf), (.int (2 : Int32)), (.ref b1)])
        obtain ⟨_, _, ⟨T101, L101, k101, n101⟩, -, X101, ⟨Lc101, hQ101, l101, y101, z101⟩, st101⟩ := Jvm.LawKit.callS X10 hx (y := (⟨"com/example/numeric_planner/numericplanner/diagram/RowsSquareCountPinLaw", "bit", "(II)Z"⟩ : MethodName)) hown (mvT hZ (hw _ (List.mem_of_getElem? (i := 81) rfl))) (mvT hZ (hw _ (List.mem_of_getElem? (i := 82) rfl))) (mvT hZ (hw _ (List.mem_of_getElem? (i := 4) rfl))) (mvT hZ (hw _ (List.mem_of_getElem? (i := 83) rfl))) (by decide) (backOf (W := 2) (rm11 l Z a0 hw [] pf (2 : Int32) hp10 n0 Z10 ) hZ (hw _ (List.mem_of_getElem? (i := 83) rfl)) (hw _ (List.mem_of_getElem? (i := 4) rfl)) (by decide) (by decide)) (g := (mkF m 46 #[.val (.int ps), .val (.int pf), .val (.int nn), .val (.ref b1), .unset, .unset, .unset, .unset] [(.int (2 : Int32)), (.int pf), (.int (2 : Int32)), (.ref b1)])) rfl (by rw [hml]; rfl) (argsL := [(.int pf), (.int (2 : Int32))]) (rest := [(.int (2 : Int32)), (.ref b1)]) (lenOf own_pd0 rfl) rfl (by show 2 * 0 + _ ≤ _; exact Nat.le_of_eq rfl) (hb hby at_46) (fun _ _ => ⟨rfl, e10, (by decide : 1 + 0 ≤ _), (by decide : 8 + 0 ≤ _)⟩)
        dsimp only [Pt.U, Pt.locs, Pt.cells, Pt.slots] at X101 l101 y101 z101 st101 hQ101
        subst l101 y101 z101
        obtain ⟨rfl, Nq101, hh101⟩ := hQ101
        obtain ⟨lc101, Xh101, N101⟩ := own_hide X101 (Fr.app N10 Nq101)
        clear X101
        refine Go.via st101 ?_
        show Go p.tables e below P T101 (mkF m 49 #[.val (.int ps), .val (.int pf), .val (.int nn), .val (.ref b1), .unset, .unset, .unset, .unset] [(.int (own_bv pf (2 : Int32))), (.int (2 : Int32)), (.ref b1)])
        obtain ⟨c102, A102, q102, S102, N102, H102, G102⟩ := id F10_0
        have hin102 : ¬ ((2 : Int32) < 0 ∨ c102.slots.size ≤ ((2 : Int32)).toNatClampNeg) := inb_of S102 ⟨by decide, hc11⟩
        obtain ⟨T102, h102, X102, e102, W102, st102⟩ := stZ Xh101 hx hZ hh101 A102 (j := (2 : Int32)) hin102 (g := (mkF m 49 #[.val (.int ps), .val (.int pf), .val (.int nn), .val (.ref b1), .unset, .unset, .unset, .unset] [(.int (own_bv pf (2 : Int32))), (.int (2 : Int32)), (.ref b1)])) rfl rfl (hb hby at_49)
        refine Go.via st102 ?_
        have Z103 : n0 ≤ h102.size := Nat.le_trans Z10 (Nat.le_of_eq W102.size.symm)
        have K104 : Keep h0 h102 [] := K10.wr W102 (Or.inr sz3)
        obtain ⟨lc102, Xh102, N105⟩ := own_hide X102 (Fr.snoc X102 N101 g2)
        clear X102
        have O106 : Old Z n0 h102 := O10.wr W102 g2
        have V102 : Arv Z h102 b1 k1 .boolean nn [(.int x0), (.int x1), (.int (nar .boolean (own_bv pf (2 : Int32)))), (.int (0 : Int32)), (.int (0 : Int32)), (.int (0 : Int32)), (.int (0 : Int32)), (.int (0 : Int32))] (.int (0 : Int32)) := Arv.set A102 q102 S102 N102 H102 G102 (fits_nar_bool _) W102 2 rfl (Nat.le_of_ble_eq_true rfl)
        have F107 : Exa Z h102 b1 "[Z" := (F10_1.wr W102)
        exact LP12 T102 _ h102 (nar .boolean (own_bv pf (2 : Int32))) Xh102 e102 N105 Z103 K104 O106 V102 F107 (if_pos hc11).symm
      · refine Go.via (fun t k => XS.icmpYes X10.here hx rfl (pc0 := 39) (pc' := 50) rfl (hb hby at_39) rfl (flt hc11).2.2.2 (by decide) (by decide) k) ?_
        exact LP12 T10 _ hp10 (0 : Int32) X10 e10 N10 Z10 K10 O10 F10_0 F10_1 (if_neg hc11).symm
    by_cases hc9 : (1 : Int32) < nn
    · refine Go.via (fun t k => XS.icmpNo X8.here hx rfl (hb hby at_26) rfl (tlt hc9).2.2.2 k) ?_
      show Go p.tables e below P T8 (mkF m 29 #[.val (.int ps), .val (.int pf), .val (.int nn), .val (.ref b1), .unset, .unset, .unset, .unset] [])
      refine Go.via (fun t k => XS.aloadN X8.here hx rfl (hb hby at_29) rfl rfl k) ?_
      show Go p.tables e below P T8 (mkF m 30 #[.val (.int ps), .val (.int pf), .val (.int nn), .val (.ref b1), .unset, .unset, .unset, .unset] [(.ref b1)])
      refine Go.via (fun t k => XS.iconst X8.here hx rfl (hb hby at_30) k) ?_
      show Go p.tables e below P T8 (mkF m 31 #[.val (.int ps), .val (.int pf), .val (.int nn), .val (.ref b1), .unset, .unset, .unset, .unset] [(.int (1 : Int32)), (.ref b1)])
      refine Go.via (fun t k => XS.iloadN X8.here hx rfl (hb hby at_31) rfl k) ?_
      show Go p.tables e below P T8 (mkF m 32 #[.val (.int ps), .val (.int pf), .val (.int nn), .val (.ref b1), .unset, .unset, .unset, .unset] [(.int pf), (.int (1 : Int32)), (.ref b1)])
      refine Go.via (fun t k => XS.iconst X8.here hx rfl (hb hby at_32) k) ?_
      show Go p.tables e below P T8 (mkF m 33 #[.val (.int ps), .val (.int pf), .val (.int nn), .val (.ref b1), .unset, .unset, .unset, .unset] [(.int (1 : Int32)), (.int pf), (.int (1 : Int32)), (.ref b1)])
      obtain ⟨_, _, ⟨T108, L108, k108, n108⟩, -, X108, ⟨Lc108, hQ108, l108, y108, z108⟩, st108⟩ := Jvm.LawKit.callS X8 hx (y := (⟨"com/example/numeric_planner/numericplanner/diagram/RowsSquareCountPinLaw", "bit", "(II)Z"⟩ : MethodName)) hown (mvT hZ (hw _ (List.mem_of_getElem? (i := 81) rfl))) (mvT hZ (hw _ (List.mem_of_getElem? (i := 82) rfl))) (mvT hZ (hw _ (List.mem_of_getElem? (i := 4) rfl))) (mvT hZ (hw _ (List.mem_of_getElem? (i := 83) rfl))) (by decide) (backOf (W := 2) (rm11 l Z a0 hw [] pf (1 : Int32) hp8 n0 Z8 ) hZ (hw _ (List.mem_of_getElem? (i := 83) rfl)) (hw _ (List.mem_of_getElem? (i := 4) rfl)) (by decide) (by decide)) (g := (mkF m 33 #[.val (.int ps), .val (.int pf), .val (.int nn), .val (.ref b1), .unset, .unset, .unset, .unset] [(.int (1 : Int32)), (.int pf), (.int (1 : Int32)), (.ref b1)])) rfl (by rw [hml]; rfl) (argsL := [(.int pf), (.int (1 : Int32))]) (rest := [(.int (1 : Int32)), (.ref b1)]) (lenOf own_pd0 rfl) rfl (by show 2 * 0 + _ ≤ _; exact Nat.le_of_eq rfl) (hb hby at_33) (fun _ _ => ⟨rfl, e8, (by decide : 1 + 0 ≤ _), (by decide : 8 + 0 ≤ _)⟩)
      dsimp only [Pt.U, Pt.locs, Pt.cells, Pt.slots] at X108 l108 y108 z108 st108 hQ108
      subst l108 y108 z108
      obtain ⟨rfl, Nq108, hh108⟩ := hQ108
      obtain ⟨lc108, Xh108, N108⟩ := own_hide X108 (Fr.app N8 Nq108)
      clear X108
      refine Go.via st108 ?_
      show Go p.tables e below P T108 (mkF m 36 #[.val (.int ps), .val (.int pf), .val (.int nn), .val (.ref b1), .unset, .unset, .unset, .unset] [(.int (own_bv pf (1 : Int32))), (.int (1 : Int32)), (.ref b1)])
      obtain ⟨c109, A109, q109, S109, N109, H109, G109⟩ := id F8_0
      have hin109 : ¬ ((1 : Int32) < 0 ∨ c109.slots.size ≤ ((1 : Int32)).toNatClampNeg) := inb_of S109 ⟨by decide, hc9⟩
      obtain ⟨T109, h109, X109, e109, W109, st109⟩ := stZ Xh108 hx hZ hh108 A109 (j := (1 : Int32)) hin109 (g := (mkF m 36 #[.val (.int ps), .val (.int pf), .val (.int nn), .val (.ref b1), .unset, .unset, .unset, .unset] [(.int (own_bv pf (1 : Int32))), (.int (1 : Int32)), (.ref b1)])) rfl rfl (hb hby at_36)
      refine Go.via st109 ?_
      have Z110 : n0 ≤ h109.size := Nat.le_trans Z8 (Nat.le_of_eq W109.size.symm)
      have K111 : Keep h0 h109 [] := K8.wr W109 (Or.inr sz3)
      obtain ⟨lc109, Xh109, N112⟩ := own_hide X109 (Fr.snoc X109 N108 g2)
      clear X109
      have O113 : Old Z n0 h109 := O8.wr W109 g2
      have V109 : Arv Z h109 b1 k1 .boolean nn [(.int x0), (.int (nar .boolean (own_bv pf (1 : Int32)))), (.int (0 : Int32)), (.int (0 : Int32)), (.int (0 : Int32)), (.int (0 : Int32)), (.int (0 : Int32)), (.int (0 : Int32))] (.int (0 : Int32)) := Arv.set A109 q109 S109 N109 H109 G109 (fits_nar_bool _) W109 1 rfl (Nat.le_of_ble_eq_true rfl)
      have F114 : Exa Z h109 b1 "[Z" := (F8_1.wr W109)
      exact LP10 T109 _ h109 (nar .boolean (own_bv pf (1 : Int32))) Xh109 e109 N112 Z110 K111 O113 V109 F114 (if_pos hc9).symm
    · refine Go.via (fun t k => XS.icmpYes X8.here hx rfl (pc0 := 26) (pc' := 37) rfl (hb hby at_26) rfl (flt hc9).2.2.2 (by decide) (by decide) k) ?_
      exact LP10 T8 _ hp8 (0 : Int32) X8 e8 N8 Z8 K8 O8 F8_0 F8_1 (if_neg hc9).symm
  by_cases hc7 : (0 : Int32) < nn
  · refine Go.via (fun t k => XS.ifNo X1.here hx rfl (hb hby at_13) rfl ((if0 _ _).trans (tlt hc7).2.2.2) k) ?_
    show Go p.tables e below P T1 (mkF m 16 #[.val (.int ps), .val (.int pf), .val (.int nn), .val (.ref b1), .unset, .unset, .unset, .unset] [])
    refine Go.via (fun t k => XS.aloadN X1.here hx rfl (hb hby at_16) rfl rfl k) ?_
    show Go p.tables e below P T1 (mkF m 17 #[.val (.int ps), .val (.int pf), .val (.int nn), .val (.ref b1), .unset, .unset, .unset, .unset] [(.ref b1)])
    refine Go.via (fun t k => XS.iconst X1.here hx rfl (hb hby at_17) k) ?_
    show Go p.tables e below P T1 (mkF m 18 #[.val (.int ps), .val (.int pf), .val (.int nn), .val (.ref b1), .unset, .unset, .unset, .unset] [(.int (0 : Int32)), (.ref b1)])
    refine Go.via (fun t k => XS.iloadN X1.here hx rfl (hb hby at_18) rfl k) ?_
    show Go p.tables e below P T1 (mkF m 19 #[.val (.int ps), .val (.int pf), .val (.int nn), .val (.ref b1), .unset, .unset, .unset, .unset] [(.int pf), (.int (0 : Int32)), (.ref b1)])
    refine Go.via (fun t k => XS.iconst X1.here hx rfl (hb hby at_19) k) ?_
    show Go p.tables e below P T1 (mkF m 20 #[.val (.int ps), .val (.int pf), .val (.int nn), .val (.ref b1), .unset, .unset, .unset, .unset] [(.int (0 : Int32)), (.int pf), (.int (0 : Int32)), (.ref b1)])
    obtain ⟨_, _, ⟨T115, L115, k115, n115⟩, -, X115, ⟨Lc115, hQ115, l115, y115, z115⟩, st115⟩ := Jvm.LawKit.callS X1 hx (y := (⟨"com/example/numeric_planner/numericplanner/diagram/RowsSquareCountPinLaw", "bit", "(II)Z"⟩ : MethodName)) hown (mvT hZ (hw _ (List.mem_of_getElem? (i := 81) rfl))) (mvT hZ (hw _ (List.mem_of_getElem? (i := 82) rfl))) (mvT hZ (hw _ (List.mem_of_getElem? (i := 4) rfl))) (mvT hZ (hw _ (List.mem_of_getElem? (i := 83) rfl))) (by decide) (backOf (W := 2) (rm11 l Z a0 hw [] pf (0 : Int32) h1 n0 Z4 ) hZ (hw _ (List.mem_of_getElem? (i := 83) rfl)) (hw _ (List.mem_of_getElem? (i := 4) rfl)) (by decide) (by decide)) (g := (mkF m 20 #[.val (.int ps), .val (.int pf), .val (.int nn), .val (.ref b1), .unset, .unset, .unset, .unset] [(.int (0 : Int32)), (.int pf), (.int (0 : Int32)), (.ref b1)])) rfl (by rw [hml]; rfl) (argsL := [(.int pf), (.int (0 : Int32))]) (rest := [(.int (0 : Int32)), (.ref b1)]) (lenOf own_pd0 rfl) rfl (by show 2 * 0 + _ ≤ _; exact Nat.le_of_eq rfl) (hb hby at_20) (fun _ _ => ⟨rfl, e1, (by decide : 1 + 0 ≤ _), (by decide : 8 + 0 ≤ _)⟩)
    dsimp only [Pt.U, Pt.locs, Pt.cells, Pt.slots] at X115 l115 y115 z115 st115 hQ115
    subst l115 y115 z115
    obtain ⟨rfl, Nq115, hh115⟩ := hQ115
    obtain ⟨lc115, Xh115, N115⟩ := own_hide X115 (Fr.app N0 Nq115)
    clear X115
    refine Go.via st115 ?_
    show Go p.tables e below P T115 (mkF m 23 #[.val (.int ps), .val (.int pf), .val (.int nn), .val (.ref b1), .unset, .unset, .unset, .unset] [(.int (own_bv pf (0 : Int32))), (.int (0 : Int32)), (.ref b1)])
    obtain ⟨c116, A116, q116, S116, N116, H116, G116⟩ := id V1
    have hin116 : ¬ ((0 : Int32) < 0 ∨ c116.slots.size ≤ ((0 : Int32)).toNatClampNeg) := inb_of S116 ⟨by decide, hc7⟩
    obtain ⟨T116, h116, X116, e116, W116, st116⟩ := stZ Xh115 hx hZ hh115 A116 (j := (0 : Int32)) hin116 (g := (mkF m 23 #[.val (.int ps), .val (.int pf), .val (.int nn), .val (.ref b1), .unset, .unset, .unset, .unset] [(.int (own_bv pf (0 : Int32))), (.int (0 : Int32)), (.ref b1)])) rfl rfl (hb hby at_23)
    refine Go.via st116 ?_
    have Z117 : n0 ≤ h116.size := Nat.le_trans Z4 (Nat.le_of_eq W116.size.symm)
    have K118 : Keep h0 h116 [] := K5.wr W116 (Or.inr sz3)
    obtain ⟨lc116, Xh116, N119⟩ := own_hide X116 (Fr.snoc X116 N115 g2)
    clear X116
    have O120 : Old Z n0 h116 := O6.wr W116 g2
    have V116 : Arv Z h116 b1 k1 .boolean nn [(.int (nar .boolean (own_bv pf (0 : Int32)))), (.int (0 : Int32)), (.int (0 : Int32)), (.int (0 : Int32)), (.int (0 : Int32)), (.int (0 : Int32)), (.int (0 : Int32)), (.int (0 : Int32))] (.int (0 : Int32)) := Arv.set A116 q116 S116 N116 H116 G116 (fits_nar_bool _) W116 0 rfl (Nat.le_of_ble_eq_true rfl)
    have F121 : Exa Z h116 b1 "[Z" := (B1.wr W116)
    exact LP8 T116 _ h116 (nar .boolean (own_bv pf (0 : Int32))) Xh116 e116 N119 Z117 K118 O120 V116 F121 (if_pos hc7).symm
  · refine Go.via (fun t k => XS.ifYes X1.here hx rfl (pc0 := 13) (pc' := 24) rfl (hb hby at_13) rfl ((if0 _ _).trans (flt hc7).2.2.2) (by decide) (by decide) k) ?_
    exact LP8 T1 _ h1 (0 : Int32) X1 e1 N0 Z4 K5 O6 V1 B1 (if_neg hc7).symm
set_option maxRecDepth 65536 in
set_option maxHeartbeats 40000000 in
theorem comes_1 {Post : Tables → Env → Array Value → State → Outcome → State → Prop} (hpost : ∀ tb e args s v u, (limb_1_1.after args s (.returned v) u = true ∧ limb_1_2.after args s (.returned v) u = true ∧ True) → FrameEnd s (.returned v) u (Jvm.fieldLocs frame_1_writes args s ++ Jvm.arrayLocs frame_1_arrays args s ++ Jvm.staticLocs frame_1_statics s) 24 128 → Post tb e args s (.returned v) u) :
    ArmFor flags0 classFile x code maxLocals ret World_1 tables_1 room_1 Calls_1 rest_1 Pre_1 Post := by
  intro l hfl _ _ p e ha hc hk s m args below hf hA hF happ hP
  obtain ⟨hcalls, hrest, hpre⟩ := hP
  obtain ⟨-, -, -, hnamed, -, -, -, hat⟩ := (Spec.applies_iff hf).mp happ
  obtain ⟨hg, hn⟩ := and_e (Cond.before_iff.mp (show (Jvm.Cond.and given_1 narrow_1).before args s = true from hpre))
  obtain ⟨hv0, hr0⟩ := and_e hg
  obtain ⟨hv1, hr1⟩ := and_e hr0
  obtain ⟨w0, w1, rfl⟩ : ∃ w0 w1 : Value, args = #[w0, w1] := by
    have hs : args.size = 2 := by simpa [Cond.value, given_1] using hv0
    obtain ⟨L⟩ := args
    match L, hs with
    | [w0, w1], _ => exact ⟨w0, w1, rfl⟩
  have hw := fun d (hd : d ∈ tables_1) => atoms_spec (ws := Jvm.Cond.code x code maxLocals ret :: tables_1) hat d (List.mem_cons_of_mem _ hd)
  have hfit : Fit s := fun {y c} hc i hi => by
    obtain ⟨ha, rfl⟩ := Array.getElem?_eq_some_iff.mp hc
    have q := List.all_eq_true.mp ((Array.all_eq_true_iff_forall_mem.mp hF) _ (Array.getElem_mem ha)) i (List.mem_range.mpr hi)
    simpa [Array.getElem?_eq_getElem hi] using q
  obtain ⟨hsets, hown0⟩ := atoms_of _ (rest_1_c_eq ▸ (show rest_1_c.before _ s = true from hrest))
  have hr00 := Cond.before_iff.mp hown0
  obtain ⟨i0, ei0⟩ := is_v hv1
  obtain rfl : w0 = (.int i0) := Option.some.inj ei0
  obtain ⟨i1, ei1⟩ := is_v hr1
  obtain rfl : w1 = (.int i1) := Option.some.inj ei1
  obtain ⟨de, ede⟩ := exa_v (Cond.before_iff.mp (hsets _ (List.mem_of_getElem? (i := 7) rfl)))
  have Sde : Sta s s.heap "java/util/ArrayList" "DEFAULTCAPACITY_EMPTY_ELEMENTDATA" "[Ljava/lang/Object;" (.ref de) := Sta.start ede (Or.inr ⟨(hw _ (List.mem_of_getElem? (i := 17) rfl)), (hsets _ (List.mem_of_getElem? (i := 2) rfl))⟩)
  obtain ⟨n, o, h1, h2, h3, _, L, rfl, ⟨rfl, N⟩, hq⟩ := rm0 l s _ hw tables_1 i0 i1 de s.heap s.heap.size (Nat.le_refl _) (Old.start s) Sde p e ha hc hk s m _ below hf ((Spec.applies_iff_loose hf).mp happ).1 ⟨rfl, State.Warmed39.refl s, rfl⟩ trivial
  refine ⟨n, _, h1, h2, h3, hpost _ _ _ _ _ _ ⟨Cond.after_iff.mpr rfl, Cond.after_iff.mpr (eq_i res_at (Term.int_eval (1)) rfl), trivial⟩ ⟨hq.1, hq.2.1, (hq.2.2.sift fun y hy => Or.inr (N y hy)).mono (by decide) (by decide)⟩⟩
theorem main_1_1 : Claimed_1_1 := comes_1 fun _ _ _ _ _ _ h hF => ⟨h.1, hF⟩
theorem main_1_2 : Claimed_1_2 := comes_1 fun _ _ _ _ _ _ h hF => ⟨h.2.1, hF⟩
end Jvm.Pilot.@@N@@
namespace Jvm.Pilot.@@N@@
open Jvm Jvm.ClassFile Sem Op Lib Jvm.Free Jvm.Stand Jvm.Pilot.@@N@@.Jvm.D
/-! MADE BY PROGRAM (witnessworld.py) out of the Statement's table words and the real class files: 23 classes; the members and pool entries that the words name. The judged class is class 1, her method 3. -/
namespace start1
open Jvm.ClassFile
def u (s : String) : CpInfo := .utf8 (stringToUtf16 s)
/-- a pool by its gaps: so many unusable entries, then the entry; so many at the end -/
def gap : Nat → List CpInfo → List CpInfo
  | 0, r => r
  | n + 1, r => .unusable :: gap n r
def poolList (es : List (Nat × CpInfo)) (last : Nat) : List CpInfo := es.foldr (fun e r => gap e.1 (e.2 :: r)) (gap last [])
def pool (es : List (Nat × CpInfo)) (last : Nat) : Array CpInfo := ⟨poolList es last⟩
def fileOf (pool : Array CpInfo) (this : Nat) (attrs : Array Attribute := #[]) (ms : Array MethodInfo := #[]) (fl : Nat := 33) (sup : Nat := 0) (ifs : Array Nat := #[]) (fds : Array FieldInfo := #[]) : ClassFile where
  minorVersion := 0
  majorVersion := 65
  constantPool := pool
  accessFlags := fl
  thisClass := this
  superClass := sup
  interfaces := ifs
  fields := fds
  methods := ms
  attributes := attrs
def plain (name : String) (sup : Option ClassId) : Class where
  name := name
  kind := .ordinary
  loader := none
  accessFlags := 33
  super := sup
  interfaces := #[]
  cf := none
  fields := #[]
  methods := #[]
  instanceTypes := #[]
  staticTypes := #[]
  resolved := #[]
  callSites := []
  init := .initialized
  statics := none
  mirror := none

def pool0 : Array CpInfo := pool [(5, u "<init>"), (0, u "()V"), (1, .class_ 10), (1, u "java/lang/Object"), (85, u "clone"), (0, u "()Ljava/lang/Object;")] 26

def k0c0 : Code := { maxStack := 0, maxLocals := 1, code := object_method_1_code, exceptionTable := #[], attributes := #[] }
def k0m0 : Method := { name := "<init>", desc := "()V", sig := { parameters := [], returnType := none }, accessFlags := 1, code := some k0c0 }
def k0m1 : Method := { name := "clone", desc := "()Ljava/lang/Object;", sig := { parameters := [], returnType := some (.object "java/lang/Object") }, accessFlags := 260, code := none }
/-- java/lang/Object -/
def k0 : Class := { plain "java/lang/Object" none with
  accessFlags := 33
  interfaces := #[]
  cf := some (fileOf pool0 8 #[] #[{ accessFlags := 1, nameIndex := 5, descriptorIndex := 6, attributes := #[] }, { accessFlags := 260, nameIndex := 96, descriptorIndex := 97, attributes := #[] }] 33 0 #[] #[])
  fields := #[]
  methods := #[k0m0, k0m1]
  instanceTypes := #[]
  staticTypes := #[]
  resolved := Array.replicate 124 none
  statics := none }

def pool1 : Array CpInfo := pool [(2, .class_ 4), (1, u "java/lang/Object"), (0, u "<init>"), (0, u "()V"), (0, .methodref 8 9), (0, .class_ 10), (0, .nameAndType 11 12), (0, u "com/example/numeric_planner/numericplanner/diagram/RowsSquareCountPinLaw"), (0, u "bit"), (0, u "(II)Z"), (0, .integer 2147483647), (0, .methodref 8 15), (0, .nameAndType 16 17), (0, u "one"), (0, u "(III)I"), (0, .class_ 19), (0, u "com/example/numeric_planner/numericplanner/diagram/LinearFeasibility$Rows"), (0, .methodref 18 21), (0, .nameAndType 5 22), (0, u "([Z)V"), (0, .methodref 18 24), (0, .nameAndType 25 26), (0, u "squareCount"), (0, u "()I"), (3, u "law")] 8

def k1m0 : Method := { name := "<init>", desc := "()V", sig := { parameters := [], returnType := none }, accessFlags := 1, code := none }
def k1c1 : Code := { maxStack := 2, maxLocals := 2, code := method_2_code, exceptionTable := #[], attributes := #[] }
def k1m1 : Method := { name := "bit", desc := "(II)Z", sig := { parameters := [.int, .int], returnType := some .boolean }, accessFlags := 10, code := some k1c1 }
def k1c2 : Code := { maxStack := 2, maxLocals := 3, code := method_3_code, exceptionTable := #[], attributes := #[] }
def k1m2 : Method := { name := "one", desc := "(III)I", sig := { parameters := [.int, .int, .int], returnType := some .int }, accessFlags := 10, code := some k1c2 }
def k1c3 : Code := { maxStack := 4, maxLocals := 8, code := code, exceptionTable := #[], attributes := #[] }
def k1m3 : Method := { name := "law", desc := "(II)Z", sig := { parameters := [.int, .int], returnType := some .boolean }, accessFlags := 9, code := some k1c3 }
/-- com/example/numeric_planner/numericplanner/diagram/RowsSquareCountPinLaw -/
def k1 : Class := { plain "com/example/numeric_planner/numericplanner/diagram/RowsSquareCountPinLaw" (some 0) with
  accessFlags := 49
  interfaces := #[]
  cf := some (fileOf pool1 8 #[] #[{ accessFlags := 1, nameIndex := 5, descriptorIndex := 6, attributes := #[] }, { accessFlags := 10, nameIndex := 11, descriptorIndex := 12, attributes := #[] }, { accessFlags := 10, nameIndex := 16, descriptorIndex := 17, attributes := #[] }, { accessFlags := 9, nameIndex := 30, descriptorIndex := 12, attributes := #[] }] 49 2 #[] #[])
  fields := #[]
  methods := #[k1m0, k1m1, k1m2, k1m3]
  instanceTypes := #[]
  staticTypes := #[]
  resolved := Array.replicate 39 none
  statics := none }

def pool2 : Array CpInfo := pool [(1, .methodref 2 3), (0, .class_ 4), (0, .nameAndType 5 6), (0, u "java/lang/Object"), (0, u "<init>"), (0, u "()V"), (0, .class_ 8), (0, u "java/util/ArrayList"), (0, .methodref 7 3), (0, .fieldref 11 12), (0, .class_ 13), (0, .nameAndType 14 15), (0, u "com/example/numeric_planner/numericplanner/diagram/LinearFeasibility$Rows"), (0, u "small"), (0, u "Ljava/util/List;"), (0, .class_ 17), (0, u "java/util/BitSet"), (0, .methodref 16 3), (0, .fieldref 11 20), (0, .nameAndType 21 22), (0, u "strict"), (0, u "Ljava/util/BitSet;"), (0, .methodref 24 25), (0, .class_ 26), (0, .nameAndType 27 28), (0, u "[Z"), (0, u "clone"), (0, u "()Ljava/lang/Object;"), (0, .fieldref 11 30), (0, .nameAndType 31 26), (0, u "squares"), (2, u "big"), (5, u "()I"), (56, u "([Z)V"), (46, u "squareCount"), (8, .class_ 154), (0, u "com/example/numeric_planner/numericplanner/diagram/LinearFeasibility")] 2

def k2c0 : Code := { maxStack := 3, maxLocals := 2, code := prog_24_method_1_code, exceptionTable := #[], attributes := #[] }
def k2m0 : Method := { name := "<init>", desc := "([Z)V", sig := { parameters := [(.array .boolean)], returnType := none }, accessFlags := 0, code := some k2c0 }
def k2c1 : Code := { maxStack := 2, maxLocals := 6, code := prog_24_method_4_code, exceptionTable := #[], attributes := #[] }
def k2m1 : Method := { name := "squareCount", desc := "()I", sig := { parameters := [], returnType := some .int }, accessFlags := 0, code := some k2c1 }
/-- com/example/numeric_planner/numericplanner/diagram/LinearFeasibility$Rows -/
def k2 : Class := { plain "com/example/numeric_planner/numericplanner/diagram/LinearFeasibility$Rows" (some 0) with
  accessFlags := 48
  interfaces := #[]
  cf := some (fileOf pool2 11 #[.nestHost 153] #[{ accessFlags := 0, nameIndex := 5, descriptorIndex := 97, attributes := #[] }, { accessFlags := 0, nameIndex := 144, descriptorIndex := 40, attributes := #[] }] 48 2 #[] #[{ accessFlags := 18, nameIndex := 31, descriptorIndex := 26, attributes := #[] }, { accessFlags := 18, nameIndex := 14, descriptorIndex := 15, attributes := #[] }, { accessFlags := 2, nameIndex := 34, descriptorIndex := 15, attributes := #[] }, { accessFlags := 18, nameIndex := 21, descriptorIndex := 22, attributes := #[] }])
  fields := #[{ name := "squares", type := (.array .boolean), accessFlags := 18, slot := 0, constantValue := 0 }, { name := "small", type := (.object "java/util/List"), accessFlags := 18, slot := 1, constantValue := 0 }, { name := "big", type := (.object "java/util/List"), accessFlags := 2, slot := 2, constantValue := 0 }, { name := "strict", type := (.object "java/util/BitSet"), accessFlags := 18, slot := 3, constantValue := 0 }]
  methods := #[k2m0, k2m1]
  instanceTypes := #[(.array .boolean), (.object "java/util/List"), (.object "java/util/List"), (.object "java/util/BitSet")]
  staticTypes := #[]
  resolved := Array.replicate 157 none
  statics := none }

def pool3 : Array CpInfo := pool [(8, .class_ 10), (1, u "java/lang/Iterable"), (24, .class_ 36), (0, u "java/lang/Object")] 25

/-- java/lang/Iterable -/
def k3 : Class := { plain "java/lang/Iterable" (some 0) with
  accessFlags := 1537
  interfaces := #[]
  cf := some (fileOf pool3 8 #[] #[] 1537 35 #[] #[])
  fields := #[]
  methods := #[]
  instanceTypes := #[]
  staticTypes := #[]
  resolved := Array.replicate 62 none
  statics := none }

def pool4 : Array CpInfo := pool [(10, .class_ 12), (1, u "java/util/Collection"), (47, .class_ 61), (0, u "java/lang/Object"), (0, .class_ 63), (0, u "java/lang/Iterable")] 51

/-- java/util/Collection -/
def k4 : Class := { plain "java/util/Collection" (some 0) with
  accessFlags := 1537
  interfaces := #[3]
  cf := some (fileOf pool4 10 #[] #[] 1537 60 #[62] #[])
  fields := #[]
  methods := #[]
  instanceTypes := #[]
  staticTypes := #[]
  resolved := Array.replicate 115 none
  statics := none }

def pool5 : Array CpInfo := pool [(1, .methodref 2 3), (0, .class_ 4), (0, .nameAndType 5 6), (0, u "java/lang/Object"), (0, u "<init>"), (0, u "()V"), (1, .class_ 10), (1, u "java/util/AbstractCollection"), (66, .class_ 78), (0, u "java/util/Collection")] 81

def k5c0 : Code := { maxStack := 1, maxLocals := 1, code := jdk_22_method_1_code, exceptionTable := #[], attributes := #[] }
def k5m0 : Method := { name := "<init>", desc := "()V", sig := { parameters := [], returnType := none }, accessFlags := 4, code := some k5c0 }
/-- java/util/AbstractCollection -/
def k5 : Class := { plain "java/util/AbstractCollection" (some 0) with
  accessFlags := 1057
  interfaces := #[4]
  cf := some (fileOf pool5 8 #[] #[{ accessFlags := 4, nameIndex := 5, descriptorIndex := 6, attributes := #[] }] 1057 2 #[77] #[])
  fields := #[]
  methods := #[k5m0]
  instanceTypes := #[]
  staticTypes := #[]
  resolved := Array.replicate 160 none
  statics := none }

def pool6 : Array CpInfo := pool [(8, .class_ 10), (1, u "java/util/SequencedCollection"), (15, .class_ 27), (0, u "java/lang/Object"), (0, .class_ 29), (0, u "java/util/Collection")] 27

/-- java/util/SequencedCollection -/
def k6 : Class := { plain "java/util/SequencedCollection" (some 0) with
  accessFlags := 1537
  interfaces := #[4]
  cf := some (fileOf pool6 8 #[] #[] 1537 26 #[28] #[])
  fields := #[]
  methods := #[]
  instanceTypes := #[]
  staticTypes := #[]
  resolved := Array.replicate 57 none
  statics := none }

def pool7 : Array CpInfo := pool [(8, .class_ 10), (1, u "java/util/List"), (92, .class_ 104), (0, u "java/lang/Object"), (15, .class_ 121), (0, u "java/util/SequencedCollection")] 129

/-- java/util/List -/
def k7 : Class := { plain "java/util/List" (some 0) with
  accessFlags := 1537
  interfaces := #[6]
  cf := some (fileOf pool7 8 #[] #[] 1537 103 #[120] #[])
  fields := #[]
  methods := #[]
  instanceTypes := #[]
  staticTypes := #[]
  resolved := Array.replicate 251 none
  statics := none }

def pool8 : Array CpInfo := pool [(1, .methodref 2 3), (0, .class_ 4), (0, .nameAndType 5 6), (0, u "java/util/AbstractCollection"), (0, u "<init>"), (0, u "()V"), (0, .fieldref 8 9), (0, .class_ 10), (0, .nameAndType 11 12), (0, u "java/util/AbstractList"), (0, u "modCount"), (0, u "I"), (64, .class_ 78), (0, u "java/util/AbstractList$Itr"), (3, .class_ 83), (0, u "java/util/AbstractList$ListItr"), (9, .class_ 94), (0, u "java/util/AbstractList$RandomAccessSubList"), (3, .class_ 99), (0, u "java/util/AbstractList$SubList"), (33, .class_ 134), (0, u "java/util/List"), (73, .class_ 209), (0, u "java/util/AbstractList$SubList$1"), (0, .class_ 211), (0, u "java/util/AbstractList$RandomAccessSpliterator")] 6

def k8c0 : Code := { maxStack := 2, maxLocals := 1, code := jdk_39_method_1_code, exceptionTable := #[], attributes := #[] }
def k8m0 : Method := { name := "<init>", desc := "()V", sig := { parameters := [], returnType := none }, accessFlags := 4, code := some k8c0 }
/-- java/util/AbstractList -/
def k8 : Class := { plain "java/util/AbstractList" (some 5) with
  accessFlags := 1057
  interfaces := #[7]
  cf := some (fileOf pool8 8 #[.nestMembers #[93, 98, 208, 210, 82, 77]] #[{ accessFlags := 4, nameIndex := 5, descriptorIndex := 6, attributes := #[] }] 1057 2 #[133] #[{ accessFlags := 132, nameIndex := 11, descriptorIndex := 12, attributes := #[] }])
  fields := #[{ name := "modCount", type := .int, accessFlags := 132, slot := 0, constantValue := 0 }]
  methods := #[k8m0]
  instanceTypes := #[.int]
  staticTypes := #[]
  resolved := Array.replicate 218 none
  statics := none }

def pool9 : Array CpInfo := pool [(1, .class_ 2), (0, u "java/util/RandomAccess"), (0, .class_ 4), (0, u "java/lang/Object")] 2

/-- java/util/RandomAccess -/
def k9 : Class := { plain "java/util/RandomAccess" (some 0) with
  accessFlags := 1537
  interfaces := #[]
  cf := some (fileOf pool9 1 #[] #[] 1537 3 #[] #[])
  fields := #[]
  methods := #[]
  instanceTypes := #[]
  staticTypes := #[]
  resolved := Array.replicate 7 none
  statics := none }

def pool10 : Array CpInfo := pool [(1, .class_ 2), (0, u "java/lang/Cloneable"), (0, .class_ 4), (0, u "java/lang/Object")] 2

/-- java/lang/Cloneable -/
def k10 : Class := { plain "java/lang/Cloneable" (some 0) with
  accessFlags := 1537
  interfaces := #[]
  cf := some (fileOf pool10 1 #[] #[] 1537 3 #[] #[])
  fields := #[]
  methods := #[]
  instanceTypes := #[]
  staticTypes := #[]
  resolved := Array.replicate 7 none
  statics := none }

def pool11 : Array CpInfo := pool [(1, .class_ 2), (0, u "java/io/Serializable"), (0, .class_ 4), (0, u "java/lang/Object")] 2

/-- java/io/Serializable -/
def k11 : Class := { plain "java/io/Serializable" (some 0) with
  accessFlags := 1537
  interfaces := #[]
  cf := some (fileOf pool11 1 #[] #[] 1537 3 #[] #[])
  fields := #[]
  methods := #[]
  instanceTypes := #[]
  staticTypes := #[]
  resolved := Array.replicate 7 none
  statics := none }

def pool12 : Array CpInfo := pool [(1, .methodref 2 3), (0, .class_ 4), (0, .nameAndType 5 6), (0, u "java/util/AbstractList"), (0, u "<init>"), (0, u "()V"), (2, .fieldref 10 11), (0, .class_ 12), (0, .nameAndType 13 14), (0, u "java/util/ArrayList"), (0, u "elementData"), (0, u "[Ljava/lang/Object;"), (2, u "EMPTY_ELEMENTDATA"), (21, .fieldref 10 40), (0, .nameAndType 41 14), (0, u "DEFAULTCAPACITY_EMPTY_ELEMENTDATA"), (8, u "size"), (0, u "I"), (96, .class_ 149), (0, u "java/util/List"), (112, .class_ 263), (0, u "java/util/ArrayList$ListItr"), (3, .class_ 268), (0, u "java/util/ArrayList$Itr"), (7, .class_ 277), (0, u "java/util/ArrayList$SubList"), (12, .class_ 291), (0, u "java/util/ArrayList$ArrayListSpliterator"), (37, .class_ 330), (0, u "java/util/RandomAccess"), (0, .class_ 332), (0, u "java/lang/Cloneable"), (0, .class_ 334), (0, u "java/io/Serializable"), (0, u "serialVersionUID"), (0, u "J"), (3, u "DEFAULT_CAPACITY"), (159, .class_ 501), (0, u "java/util/ArrayList$SubList$2"), (0, .class_ 503), (0, u "java/util/ArrayList$SubList$1")] 5

def k12c0 : Code := { maxStack := 2, maxLocals := 1, code := jdk_38_method_2_code, exceptionTable := #[], attributes := #[] }
def k12m0 : Method := { name := "<init>", desc := "()V", sig := { parameters := [], returnType := none }, accessFlags := 1, code := some k12c0 }
/-- java/util/ArrayList -/
def k12 : Class := { plain "java/util/ArrayList" (some 8) with
  accessFlags := 33
  interfaces := #[7, 9, 10, 11]
  cf := some (fileOf pool12 10 #[.nestMembers #[290, 276, 500, 502, 262, 267]] #[{ accessFlags := 1, nameIndex := 5, descriptorIndex := 6, attributes := #[] }] 33 2 #[148, 329, 331, 333] #[{ accessFlags := 26, nameIndex := 335, descriptorIndex := 336, attributes := #[] }, { accessFlags := 26, nameIndex := 340, descriptorIndex := 51, attributes := #[] }, { accessFlags := 26, nameIndex := 17, descriptorIndex := 14, attributes := #[] }, { accessFlags := 26, nameIndex := 41, descriptorIndex := 14, attributes := #[] }, { accessFlags := 128, nameIndex := 13, descriptorIndex := 14, attributes := #[] }, { accessFlags := 2, nameIndex := 50, descriptorIndex := 51, attributes := #[] }])
  fields := #[{ name := "serialVersionUID", type := .long, accessFlags := 26, slot := 0, constantValue := 0 }, { name := "DEFAULT_CAPACITY", type := .int, accessFlags := 26, slot := 1, constantValue := 0 }, { name := "EMPTY_ELEMENTDATA", type := (.array (.object "java/lang/Object")), accessFlags := 26, slot := 2, constantValue := 0 }, { name := "DEFAULTCAPACITY_EMPTY_ELEMENTDATA", type := (.array (.object "java/lang/Object")), accessFlags := 26, slot := 3, constantValue := 0 }, { name := "elementData", type := (.array (.object "java/lang/Object")), accessFlags := 128, slot := 1, constantValue := 0 }, { name := "size", type := .int, accessFlags := 2, slot := 2, constantValue := 0 }]
  methods := #[k12m0]
  instanceTypes := #[.int, (.array (.object "java/lang/Object")), .int]
  staticTypes := #[.long, .int, (.array (.object "java/lang/Object")), (.array (.object "java/lang/Object"))]
  resolved := Array.replicate 509 none
  statics := some 0 }

def pool13 : Array CpInfo := pool [(1, .class_ 2), (0, u "java/util/BitSet"), (2, u "$assertionsDisabled"), (0, u "Z"), (0, .fieldref 1 8), (0, .nameAndType 9 10), (0, u "wordsInUse"), (0, u "I"), (0, .fieldref 1 12), (0, .nameAndType 13 14), (0, u "words"), (0, u "[J"), (3, .nameAndType 19 20), (0, u "<init>"), (0, u "()V"), (0, .methodref 22 18), (0, .class_ 23), (0, u "java/lang/Object"), (0, .fieldref 1 25), (0, .nameAndType 26 6), (0, u "sizeIsSticky"), (0, .methodref 1 28), (0, .nameAndType 29 30), (0, u "initWords"), (0, u "(I)V"), (21, .methodref 1 53), (0, .nameAndType 54 55), (0, u "wordIndex"), (0, u "(I)I"), (213, .class_ 270), (0, u "java/util/BitSet$1BitSetSpliterator"), (22, u "serialPersistentFields"), (0, u "[Ljava/io/ObjectStreamField;"), (0, .class_ 296), (0, u "java/lang/Cloneable"), (0, .class_ 298), (0, u "java/io/Serializable"), (0, u "ADDRESS_BITS_PER_WORD"), (2, u "BITS_PER_WORD"), (1, u "BIT_INDEX_MASK"), (1, u "WORD_MASK"), (0, u "J"), (0, u "serialVersionUID")] 108

def k13c0 : Code := { maxStack := 2, maxLocals := 1, code := jdk_92_method_1_code, exceptionTable := #[], attributes := #[] }
def k13m0 : Method := { name := "wordIndex", desc := "(I)I", sig := { parameters := [.int], returnType := some .int }, accessFlags := 10, code := some k13c0 }
def k13c1 : Code := { maxStack := 2, maxLocals := 1, code := jdk_92_method_4_code, exceptionTable := #[], attributes := #[] }
def k13m1 : Method := { name := "<init>", desc := "()V", sig := { parameters := [], returnType := none }, accessFlags := 1, code := some k13c1 }
def k13c2 : Code := { maxStack := 3, maxLocals := 2, code := jdk_92_method_6_code, exceptionTable := #[], attributes := #[] }
def k13m2 : Method := { name := "initWords", desc := "(I)V", sig := { parameters := [.int], returnType := none }, accessFlags := 2, code := some k13c2 }
/-- java/util/BitSet -/
def k13 : Class := { plain "java/util/BitSet" (some 0) with
  accessFlags := 33
  interfaces := #[10, 11]
  cf := some (fileOf pool13 1 #[.nestMembers #[269]] #[{ accessFlags := 10, nameIndex := 54, descriptorIndex := 55, attributes := #[] }, { accessFlags := 1, nameIndex := 19, descriptorIndex := 20, attributes := #[] }, { accessFlags := 2, nameIndex := 29, descriptorIndex := 30, attributes := #[] }] 33 22 #[295, 297] #[{ accessFlags := 26, nameIndex := 299, descriptorIndex := 10, attributes := #[] }, { accessFlags := 26, nameIndex := 302, descriptorIndex := 10, attributes := #[] }, { accessFlags := 26, nameIndex := 304, descriptorIndex := 10, attributes := #[] }, { accessFlags := 26, nameIndex := 306, descriptorIndex := 307, attributes := #[] }, { accessFlags := 26, nameIndex := 293, descriptorIndex := 294, attributes := #[] }, { accessFlags := 2, nameIndex := 13, descriptorIndex := 14, attributes := #[] }, { accessFlags := 130, nameIndex := 9, descriptorIndex := 10, attributes := #[] }, { accessFlags := 130, nameIndex := 26, descriptorIndex := 6, attributes := #[] }, { accessFlags := 26, nameIndex := 308, descriptorIndex := 307, attributes := #[] }, { accessFlags := 4120, nameIndex := 5, descriptorIndex := 6, attributes := #[] }])
  fields := #[{ name := "ADDRESS_BITS_PER_WORD", type := .int, accessFlags := 26, slot := 0, constantValue := 0 }, { name := "BITS_PER_WORD", type := .int, accessFlags := 26, slot := 1, constantValue := 0 }, { name := "BIT_INDEX_MASK", type := .int, accessFlags := 26, slot := 2, constantValue := 0 }, { name := "WORD_MASK", type := .long, accessFlags := 26, slot := 3, constantValue := 0 }, { name := "serialPersistentFields", type := (.array (.object "java/io/ObjectStreamField")), accessFlags := 26, slot := 4, constantValue := 0 }, { name := "words", type := (.array .long), accessFlags := 2, slot := 0, constantValue := 0 }, { name := "wordsInUse", type := .int, accessFlags := 130, slot := 1, constantValue := 0 }, { name := "sizeIsSticky", type := .boolean, accessFlags := 130, slot := 2, constantValue := 0 }, { name := "serialVersionUID", type := .long, accessFlags := 26, slot := 5, constantValue := 0 }, { name := "$assertionsDisabled", type := .boolean, accessFlags := 4120, slot := 6, constantValue := 0 }]
  methods := #[k13m0, k13m1, k13m2]
  instanceTypes := #[(.array .long), .int, .boolean]
  staticTypes := #[.int, .int, .int, .long, (.array (.object "java/io/ObjectStreamField")), .long, .boolean]
  resolved := Array.replicate 417 none
  statics := none }

/-- the primitive boolean -/
def k14 : Class := { plain "boolean" none with kind := .primitive 'Z', accessFlags := 0x411 }
/-- [Z -/
def k15 : Class := { plain "[Z" (some 0) with kind := .array 14 .boolean, interfaces := #[10, 11], accessFlags := 1041 }

/-- the primitive byte -/
def k16 : Class := { plain "byte" none with kind := .primitive 'B', accessFlags := 0x411 }
/-- [B -/
def k17 : Class := { plain "[B" (some 0) with kind := .array 16 .byte, interfaces := #[10, 11], accessFlags := 1041 }

/-- the primitive int -/
def k18 : Class := { plain "int" none with kind := .primitive 'I', accessFlags := 0x411 }
/-- [I -/
def k19 : Class := { plain "[I" (some 0) with kind := .array 18 .int, interfaces := #[10, 11], accessFlags := 1041 }

/-- the primitive long -/
def k20 : Class := { plain "long" none with kind := .primitive 'J', accessFlags := 0x411 }
/-- [J -/
def k21 : Class := { plain "[J" (some 0) with kind := .array 20 .long, interfaces := #[10, 11], accessFlags := 1041 }

/-- [Ljava/lang/Object; -/
def k22 : Class := { plain "[Ljava/lang/Object;" (some 0) with kind := .array 0 (.object "java/lang/Object"), interfaces := #[10, 11], accessFlags := 1041 }

def heap : Heap := #[{ cls := 12, slots := #[.long 0, .int 0, .ref 1, .ref 2], vm := .statics 12 },
  { cls := 22, slots := #[], vm := .none },
  { cls := 22, slots := #[], vm := .none }]
def classes : Array Class := #[k0, k1, k2, k3, k4, k5, k6, k7, k8, k9, k10, k11, k12, k13, k14, k15, k16, k17, k18, k19, k20, k21, k22]
def interned : List (Array UInt16 × Addr) := []
def slotsUsed : Nat := 4
def theMethod : MethodId := ⟨1, 3⟩
def args0 : Array Value := #[.int 5, .int 7]
def aboutOver (below : List Frame) : State where
  vm := { classes := classes, interned := interned.toArray }
  heap := heap
  slotsUsed := slotsUsed
  threads := #[{ frames := .invoking theMethod args0 :: below }]
def below0 : List Frame := [.native { method := ⟨0, 0⟩, args := #[] }]
def about1 : State := aboutOver below0
def p0 : Program := .bare "" "" ""
def e0 : Env := launch0.env 0 0 0
theorem w_frames : about1.frames = Frame.invoking theMethod args0 :: below0 := rfl
set_option maxRecDepth 65536 in
theorem w_args : argsFit about1.vm theMethod args0 = true := by decide +kernel
set_option maxRecDepth 65536 in
theorem w_heap : heapFits about1 = true := by decide +kernel
set_option maxRecDepth 65536 in
theorem w_runnable : about1.curStatus? = some .runnable := by decide +kernel
set_option maxRecDepth 65536 in
theorem w_alone : about1.alone = true := by decide +kernel
set_option maxRecDepth 65536 in
theorem w_named : about1.methodNamed? x = some theMethod := by decide +kernel
set_option maxRecDepth 65536 in
theorem w_hears : about1.hears theMethod below0 = true := by decide +kernel
set_option maxRecDepth 65536 in
theorem w_ripe : about1.ripe theMethod args0 below0 = true := by decide +kernel
theorem w_running : about1.status = .running := rfl
set_option maxRecDepth 65536 in
theorem w_room : about1.hasRoom e0.platform room_1 = true :=
  launch0.hasRoom_least _ room_1 (by decide +kernel) (by decide +kernel) (by decide +kernel) (by decide +kernel) (by decide +kernel) (by decide +kernel)
theorem allAtoms_all (ts : List Jvm.Cond) (a : Array Jvm.Value) (st : Jvm.State) : (allAtoms ts).before a st = ts.all (fun c => c.before a st) := by
  induction ts with
  | nil => rfl
  | cons c t ih =>
    show (Jvm.Cond.and c (allAtoms t)).before a st = _
    rw [Jvm.Cond.before_and, ih, List.all_cons]
def words1 : List Jvm.Cond := Jvm.Cond.code x code maxLocals ret :: tables_1
/-- a 'code' word, met by the world's own term for the bytes: nothing is compared byte by byte -/
theorem code_word {y : MethodName} {bytes : ByteArray} {mx : Nat} {rt : Option FieldType} {a : Array Value} {s : State} {m : MethodId} {meth : Method} {c : Code} (h1 : s.methodNamed? y = some m) (h2 : s.vm.method? m = some meth) (h3 : meth.code = some c) (h4 : c.code = bytes)
    (h5 : (c.maxLocals == mx && c.exceptionTable.isEmpty && decide (c.maxStack ≤ mostOperands) && decide (meth.sig.returnType = rt) && !meth.locks && decide (parseMethodDescriptor y.desc = some meth.sig)) = true) : (Jvm.Cond.code y bytes mx rt).before a s = true := by
  simp only [Bool.and_eq_true, beq_iff_eq, Bool.not_eq_true', decide_eq_true_eq] at h5
  obtain ⟨⟨⟨⟨⟨g1, g2⟩, g3⟩, g4⟩, g5⟩, g6⟩ := h5
  simp [Cond.before, Cond.holds, Cond.value, h1, h2, h3, h4, g1, g2, g3, g4, g5, g6]
def isCode : Jvm.Cond → Bool
  | .code _ _ _ _ => true
  | _ => false
theorem all_split {L : List Jvm.Cond} {P : Jvm.Cond → Bool} (h1 : L.all (fun c => isCode c || P c) = true) (h2 : ∀ c ∈ L.filter isCode, P c = true) : L.all P = true := by
  refine List.all_eq_true.mpr fun c hc => ?_
  have h := List.all_eq_true.mp h1 c hc
  rcases Bool.eq_false_or_eq_true (isCode c) with hi | hi
  · exact h2 c (List.mem_filter.mpr ⟨hc, hi⟩)
  · simpa [hi] using h
set_option maxRecDepth 65536 in
theorem w_c0 : (Jvm.Cond.code x code maxLocals ret).before args0 about1 = true := code_word (m := ⟨1, 3⟩) (meth := k1m3) (c := k1c3) (by decide +kernel) rfl rfl rfl (by decide +kernel)
set_option maxRecDepth 65536 in
theorem w_c1 : (Jvm.Cond.code ({ cls := "com/example/numeric_planner/numericplanner/diagram/RowsSquareCountPinLaw", name := "one", desc := "(III)I" } : Jvm.MethodName) method_3_code (3 : Nat) (Option.some Jvm.ClassFile.FieldType.int)).before args0 about1 = true := code_word (m := ⟨1, 2⟩) (meth := k1m2) (c := k1c2) (by decide +kernel) rfl rfl rfl (by decide +kernel)
set_option maxRecDepth 65536 in
theorem w_c2 : (Jvm.Cond.code ({ cls := "com/example/numeric_planner/numericplanner/diagram/LinearFeasibility$Rows", name := "<init>", desc := "([Z)V" } : Jvm.MethodName) prog_24_method_1_code (2 : Nat) (Option.none : Option Jvm.ClassFile.FieldType)).before args0 about1 = true := code_word (m := ⟨2, 0⟩) (meth := k2m0) (c := k2c0) (by decide +kernel) rfl rfl rfl (by decide +kernel)
set_option maxRecDepth 65536 in
theorem w_c3 : (Jvm.Cond.code ({ cls := "java/lang/Object", name := "<init>", desc := "()V" } : Jvm.MethodName) object_method_1_code (1 : Nat) (Option.none : Option Jvm.ClassFile.FieldType)).before args0 about1 = true := code_word (m := ⟨0, 0⟩) (meth := k0m0) (c := k0c0) (by decide +kernel) rfl rfl rfl (by decide +kernel)
set_option maxRecDepth 65536 in
theorem w_c4 : (Jvm.Cond.code ({ cls := "java/util/ArrayList", name := "<init>", desc := "()V" } : Jvm.MethodName) jdk_38_method_2_code (1 : Nat) (Option.none : Option Jvm.ClassFile.FieldType)).before args0 about1 = true := code_word (m := ⟨12, 0⟩) (meth := k12m0) (c := k12c0) (by decide +kernel) rfl rfl rfl (by decide +kernel)
set_option maxRecDepth 65536 in
theorem w_c5 : (Jvm.Cond.code ({ cls := "java/util/AbstractList", name := "<init>", desc := "()V" } : Jvm.MethodName) jdk_39_method_1_code (1 : Nat) (Option.none : Option Jvm.ClassFile.FieldType)).before args0 about1 = true := code_word (m := ⟨8, 0⟩) (meth := k8m0) (c := k8c0) (by decide +kernel) rfl rfl rfl (by decide +kernel)
set_option maxRecDepth 65536 in
theorem w_c6 : (Jvm.Cond.code ({ cls := "java/util/AbstractCollection", name := "<init>", desc := "()V" } : Jvm.MethodName) jdk_22_method_1_code (1 : Nat) (Option.none : Option Jvm.ClassFile.FieldType)).before args0 about1 = true := code_word (m := ⟨5, 0⟩) (meth := k5m0) (c := k5c0) (by decide +kernel) rfl rfl rfl (by decide +kernel)
set_option maxRecDepth 65536 in
theorem w_c7 : (Jvm.Cond.code ({ cls := "java/util/BitSet", name := "<init>", desc := "()V" } : Jvm.MethodName) jdk_92_method_4_code (1 : Nat) (Option.none : Option Jvm.ClassFile.FieldType)).before args0 about1 = true := code_word (m := ⟨13, 1⟩) (meth := k13m1) (c := k13c1) (by decide +kernel) rfl rfl rfl (by decide +kernel)
set_option maxRecDepth 65536 in
theorem w_c8 : (Jvm.Cond.code ({ cls := "java/util/BitSet", name := "initWords", desc := "(I)V" } : Jvm.MethodName) jdk_92_method_6_code (2 : Nat) (Option.none : Option Jvm.ClassFile.FieldType)).before args0 about1 = true := code_word (m := ⟨13, 2⟩) (meth := k13m2) (c := k13c2) (by decide +kernel) rfl rfl rfl (by decide +kernel)
set_option maxRecDepth 65536 in
theorem w_c9 : (Jvm.Cond.code ({ cls := "java/util/BitSet", name := "wordIndex", desc := "(I)I" } : Jvm.MethodName) jdk_92_method_1_code (1 : Nat) (Option.some Jvm.ClassFile.FieldType.int)).before args0 about1 = true := code_word (m := ⟨13, 0⟩) (meth := k13m0) (c := k13c0) (by decide +kernel) rfl rfl rfl (by decide +kernel)
set_option maxRecDepth 65536 in
theorem w_c10 : (Jvm.Cond.code ({ cls := "com/example/numeric_planner/numericplanner/diagram/LinearFeasibility$Rows", name := "squareCount", desc := "()I" } : Jvm.MethodName) prog_24_method_4_code (6 : Nat) (Option.some Jvm.ClassFile.FieldType.int)).before args0 about1 = true := code_word (m := ⟨2, 1⟩) (meth := k2m1) (c := k2c1) (by decide +kernel) rfl rfl rfl (by decide +kernel)
set_option maxRecDepth 65536 in
theorem w_c11 : (Jvm.Cond.code ({ cls := "com/example/numeric_planner/numericplanner/diagram/RowsSquareCountPinLaw", name := "bit", desc := "(II)Z" } : Jvm.MethodName) method_2_code (2 : Nat) (Option.some Jvm.ClassFile.FieldType.boolean)).before args0 about1 = true := code_word (m := ⟨1, 1⟩) (meth := k1m1) (c := k1c1) (by decide +kernel) rfl rfl rfl (by decide +kernel)
def codes1 : List Jvm.Cond := [Jvm.Cond.code x code maxLocals ret, Jvm.Cond.code ({ cls := "com/example/numeric_planner/numericplanner/diagram/RowsSquareCountPinLaw", name := "one", desc := "(III)I" } : Jvm.MethodName) method_3_code (3 : Nat) (Option.some Jvm.ClassFile.FieldType.int), Jvm.Cond.code ({ cls := "com/example/numeric_planner/numericplanner/diagram/LinearFeasibility$Rows", name := "<init>", desc := "([Z)V" } : Jvm.MethodName) prog_24_method_1_code (2 : Nat) (Option.none : Option Jvm.ClassFile.FieldType), Jvm.Cond.code ({ cls := "java/lang/Object", name := "<init>", desc := "()V" } : Jvm.MethodName) object_method_1_code (1 : Nat) (Option.none : Option Jvm.ClassFile.FieldType), Jvm.Cond.code ({ cls := "java/util/ArrayList", name := "<init>", desc := "()V" } : Jvm.MethodName) jdk_38_method_2_code (1 : Nat) (Option.none : Option Jvm.ClassFile.FieldType), Jvm.Cond.code ({ cls := "java/util/AbstractList", name := "<init>", desc := "()V" } : Jvm.MethodName) jdk_39_method_1_code (1 : Nat) (Option.none : Option Jvm.ClassFile.FieldType), Jvm.Cond.code ({ cls := "java/util/AbstractCollection", name := "<init>", desc := "()V" } : Jvm.MethodName) jdk_22_method_1_code (1 : Nat) (Option.none : Option Jvm.ClassFile.FieldType), Jvm.Cond.code ({ cls := "java/util/BitSet", name := "<init>", desc := "()V" } : Jvm.MethodName) jdk_92_method_4_code (1 : Nat) (Option.none : Option Jvm.ClassFile.FieldType), Jvm.Cond.code ({ cls := "java/util/BitSet", name := "initWords", desc := "(I)V" } : Jvm.MethodName) jdk_92_method_6_code (2 : Nat) (Option.none : Option Jvm.ClassFile.FieldType), Jvm.Cond.code ({ cls := "java/util/BitSet", name := "wordIndex", desc := "(I)I" } : Jvm.MethodName) jdk_92_method_1_code (1 : Nat) (Option.some Jvm.ClassFile.FieldType.int), Jvm.Cond.code ({ cls := "com/example/numeric_planner/numericplanner/diagram/LinearFeasibility$Rows", name := "squareCount", desc := "()I" } : Jvm.MethodName) prog_24_method_4_code (6 : Nat) (Option.some Jvm.ClassFile.FieldType.int), Jvm.Cond.code ({ cls := "com/example/numeric_planner/numericplanner/diagram/RowsSquareCountPinLaw", name := "bit", desc := "(II)Z" } : Jvm.MethodName) method_2_code (2 : Nat) (Option.some Jvm.ClassFile.FieldType.boolean)]
set_option maxRecDepth 65536 in
theorem codes_eq : words1.filter isCode = codes1 := rfl
theorem w_codes : ∀ c ∈ words1.filter isCode, c.before args0 about1 = true := by
  rw [codes_eq]
  intro c hc
  simp only [codes1, List.mem_cons, List.not_mem_nil, or_false] at hc
  rcases hc with rfl | rfl | rfl | rfl | rfl | rfl | rfl | rfl | rfl | rfl | rfl | rfl
  · exact w_c0
  · exact w_c1
  · exact w_c2
  · exact w_c3
  · exact w_c4
  · exact w_c5
  · exact w_c6
  · exact w_c7
  · exact w_c8
  · exact w_c9
  · exact w_c10
  · exact w_c11
set_option maxRecDepth 65536 in
theorem w_t1 : (words1.take 24).all (fun c => isCode c || c.before args0 about1) = true := by decide +kernel
set_option maxRecDepth 65536 in
theorem w_t2 : ((words1.drop 24).take 24).all (fun c => isCode c || c.before args0 about1) = true := by decide +kernel
set_option maxRecDepth 65536 in
theorem w_t3 : (((words1.drop 24).drop 24).take 24).all (fun c => isCode c || c.before args0 about1) = true := by decide +kernel
set_option maxRecDepth 65536 in
theorem w_t4 : (((words1.drop 24).drop 24).drop 24).all (fun c => isCode c || c.before args0 about1) = true := by decide +kernel
theorem w_tables : (allAtoms (Jvm.Cond.code x code maxLocals ret :: tables_1)).before args0 about1 = true := by
  rw [allAtoms_all]
  show words1.all (fun c => c.before args0 about1) = true
  refine all_split ?_ w_codes
  rw [← List.take_append_drop 24 words1, List.all_append, w_t1, ← List.take_append_drop 24 (words1.drop 24), List.all_append, w_t2, ← List.take_append_drop 24 ((words1.drop 24).drop 24), List.all_append, w_t3, w_t4]
  rfl
set_option maxRecDepth 65536 in
theorem w_rest : rest_1_c.before args0 about1 = true := by decide +kernel
set_option maxRecDepth 65536 in
theorem w_case : (Jvm.Cond.and given_1 narrow_1).before args0 about1 = true := by decide +kernel
theorem w_applies : (headSpec (Jvm.Cond.code x code maxLocals ret :: tables_1) room_1).applies x e0.platform about1 = true :=
  (Spec.applies_iff w_frames).mpr ⟨w_running, w_runnable, w_alone, w_named, w_hears, w_ripe, w_room, w_tables⟩
theorem atStart : AtStart classFile x code maxLocals ret World_1 tables_1 room_1 Calls_1 rest_1 Pre_1 launch0 p0 e0 about1 theMethod args0 below0 :=
  ⟨lists_1, trivial, launch0.admits_env _ _ _, launch0.least_env, fairChoices_fair.cas, fairChoices_fair.clock, w_frames, w_args, w_heap, w_applies, trivial, w_rest, w_case⟩
end start1
theorem witness_1 : WitnessClaimed_1 := ⟨start1.p0, start1.e0, start1.about1, start1.theMethod, start1.args0, start1.below0, start1.atStart⟩
end Jvm.Pilot.@@N@@
