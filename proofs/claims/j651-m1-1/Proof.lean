import JvmDerived
import JvmDerived.Pilot.@@N@@Statement
import JvmDerived.Pilot.@@N@@Code
set_option linter.unusedVariables false
set_option linter.unusedSimpArgs false
namespace Jvm.RoadKit
open Sem ClassFile Op Lib Jvm.Stand Jvm.Free Jvm.LawKit
section Own
variable {p : Program} {l : Launch} {e : Env} {R : Room} {s : State} {m : MethodId} {args : Array Value} {below : List Frame} {meth : Method} {c : Code} {T : State} {locs : List Loc} {cells slots : Nat}
theorem retI (X : Stand p l e R s m args below meth c T locs cells slots) (hx : p.tables.exec = Jvm.exec) {pc : Nat} {Ls : Array Slot} {z : Int32} {rest : List Value} (hret : meth.sig.returnType = some .int) (hd : decode c.code pc = .ok (.ireturn, 1)) {fs : List Frame}
    (hl : ∀ (f : JFrame) (acts : List Action), f.method = m → f.locked = none → f.entered = [] → (doReturn e (T.setTop f) acts (some (.int z))).1 = T.setFrames fs) : Steps p.tables e below (T.setTop (mkF m pc Ls (.int z :: rest))) (T.setFrames fs) :=
  retOut X hx hret rfl (Or.inl ⟨rfl, Or.inl rfl, _, rfl⟩) hd hl
theorem retJ (X : Stand p l e R s m args below meth c T locs cells slots) (hx : p.tables.exec = Jvm.exec) {pc : Nat} {Ls : Array Slot} {z : Int64} {rest : List Value} (hret : meth.sig.returnType = some .long) (hd : decode c.code pc = .ok (.lreturn, 1)) {fs : List Frame}
    (hl : ∀ (f : JFrame) (acts : List Action), f.method = m → f.locked = none → f.entered = [] → (doReturn e (T.setTop f) acts (some (.long z))).1 = T.setFrames fs) : Steps p.tables e below (T.setTop (mkF m pc Ls (.long z :: rest))) (T.setFrames fs) :=
  retOut X hx hret rfl (Or.inr (Or.inl ⟨rfl, rfl, _, rfl⟩)) hd hl
theorem retA (X : Stand p l e R s m args below meth c T locs cells slots) (hx : p.tables.exec = Jvm.exec) {pc : Nat} {Ls : Array Slot} {t : FieldType} {z : Value} {rest : List Value} (hret : meth.sig.returnType = some t) (hn : narrow t z = z) (ht : t.isReference = true) (hz : z.isRef = true) (hd : decode c.code pc = .ok (.areturn, 1)) {fs : List Frame}
    (hl : ∀ (f : JFrame) (acts : List Action), f.method = m → f.locked = none → f.entered = [] → (doReturn e (T.setTop f) acts (some z)).1 = T.setFrames fs) : Steps p.tables e below (T.setTop (mkF m pc Ls (z :: rest))) (T.setFrames fs) :=
  retOut X hx hret hn (Or.inr (Or.inr (Or.inr (Or.inr ⟨rfl, ht, hz⟩)))) hd hl
theorem retZ (X : Stand p l e R s m args below meth c T locs cells slots) (hx : p.tables.exec = Jvm.exec) {pc : Nat} {Ls : Array Slot} {z r : Int32} {t : FieldType} {rest : List Value} (hret : meth.sig.returnType = some t) (ht : t = .boolean ∨ t = .byte ∨ t = .char ∨ t = .short)
    (hd : decode c.code pc = .ok (.ireturn, 1)) (hn : nar t z = r) {fs : List Frame} (hl : ∀ (f : JFrame) (acts : List Action), f.method = m → f.locked = none → f.entered = [] → (doReturn e (T.setTop f) acts (some (.int r))).1 = T.setFrames fs) :
    Steps p.tables e below (T.setTop (mkF m pc Ls (.int z :: rest))) (T.setFrames fs) := retN X hx hret ht hd (by rw [hn]; exact hl)
theorem ownUp (X : Stand p l e R s m args below meth c T locs cells slots) {cells' slots' : Nat} (h1 : cells ≤ cells') (h2 : slots ≤ slots') : Stand p l e R s m args below meth c T locs cells' slots' :=
  ⟨X.admits, X.cas, X.clock, X.frames, X.room, X.hears, X.method, X.code, X.here, X.tail, X.warmed, X.limits, X.bytes, X.same.mono h1 h2⟩
end Own
def Go (tb : Tables) (e : Env) (below : List Frame) (P : Outcome → State → Prop) (T : State) (f : JFrame) : Prop :=
  ∃ s₂ o, Steps tb e below (T.setTop f) s₂ ∧ s₂.status = .running ∧ Ended s₂ below o ∧ P o s₂
theorem Go.via {tb : Tables} {e : Env} {below : List Frame} {P : Outcome → State → Prop} {T T' : State} {f f' : JFrame} (st : ∀ t, Steps tb e below (T'.setTop f') t → Steps tb e below (T.setTop f) t) (k : Go tb e below P T' f') : Go tb e below P T f := by
  obtain ⟨s₂, o, h, r⟩ := k; exact ⟨s₂, o, st _ h, r⟩
theorem Go.hop {tb : Tables} {e : Env} {below : List Frame} {P : Outcome → State → Prop} {T T' : State} {f f' : JFrame} (st : Steps tb e below (T.setTop f) (T'.setTop f')) (k : Go tb e below P T' f') : Go tb e below P T f := by
  obtain ⟨s₂, o, h, r⟩ := k; exact ⟨s₂, o, st.trans h, r⟩
theorem own_nin0 {a : Addr} : a ∉ ([] : List Addr) := fun q => nomatch q
theorem own_ninC {a b : Addr} {l : List Addr} (h : a ≠ b) (h' : a ∉ l) : a ∉ b :: l := fun q => (List.mem_cons.mp q).elim h h'
theorem own_nb {x : Int32} (h : x = 0 ∨ x = 1) : nar .boolean x = x := by rcases h with rfl | rfl <;> rfl
theorem own_nnb {x : Int32} (h : x = 0 ∨ x = 1) : narrow .boolean (.int x) = .int x := by rcases h with rfl | rfl <;> rfl
theorem own_fb {x : Int32} (h : x = 0 ∨ x = 1) : fits .boolean (.int x) = true := by rcases h with rfl | rfl <;> rfl
theorem own_all0 {P : Addr → Prop} : ∀ x ∈ ([] : List Addr), P x := fun _ q => nomatch q
theorem own_allC {P : Addr → Prop} {a : Addr} {l : List Addr} (h : P a) (h' : ∀ x ∈ l, P x) : ∀ x ∈ a :: l, P x := fun x q => (List.mem_cons.mp q).elim (fun e => e ▸ h) (h' x)
theorem own_m0 {k : Int32} : ∀ p ∈ ([] : List (Int × Int)), p.1 ≠ k.toInt := fun _ q => nomatch q
theorem own_mC {k x : Int32} {a o : Int} {l : List (Int × Int)} (h : ¬ k = x) (hx : x.toInt = a) (t : ∀ p ∈ l, p.1 ≠ k.toInt) : ∀ p ∈ (a, o) :: l, p.1 ≠ k.toInt := fun p q => (List.mem_cons.mp q).elim (fun e r => h (Int32.toInt_inj.mp (by rw [hx, ← r, e]))) (t p)
theorem own_cat {v : Value} (h : v.isRef = true) : v.category = 1 := by rcases ref_cases h with rfl | ⟨a, rfl⟩ <;> rfl
theorem own_nat {n : Nat} (h : n < 2147483648) : n.toInt32.toInt = n := len_toInt h
theorem own_ltN {i n : Nat} (hi : i < 2147483648) (hn : n < 2147483648) : i.toInt32 < n.toInt32 ↔ i < n := by
  rw [Int32.lt_iff_toInt_lt, own_nat hi, own_nat hn]; omega
theorem own_succ (i : Nat) : i.toInt32 + 1 = (i + 1).toInt32 := (Int32.ofNat_add i 1).symm
theorem own_nneg {i : Nat} (hi : i < 2147483648) : ¬ i.toInt32 < 0 := by
  rw [Int32.lt_iff_toInt_lt, own_nat hi]; simp
theorem own_clamp {i : Nat} (hi : i < 2147483648) : i.toInt32.toNatClampNeg = i := by
  show i.toInt32.toInt.toNat = i
  rw [own_nat hi]; rfl
end Jvm.RoadKit
namespace Jvm.Pilot.@@N@@
open Jvm Jvm.ClassFile Sem Op Lib Jvm.Free Jvm.Stand Jvm.LawKit Jvm.RoadKit Bundle Jvm.Pilot.@@N@@.Jvm.D
def own_acc (xs : List Int32) : Nat → Int64
  | 0 => 0
  | n + 1 => own_acc xs n + ((xs.getD n 0) &&& 255).toInt64
def own_ck (xs : List Int32) (n : Nat) : Int32 := (own_acc xs n % 256).toInt32
theorem own_getD (xs : List Int32) (i : Nat) : (xs.map Value.int).getD i (.int 0) = .int (xs.getD i 0) := by
  induction xs generalizing i with
  | nil => rfl
  | cons x t ih => cases i with
    | zero => rfl
    | succ i => simpa using ih i
theorem own_rem6 (x : Int32) : ∃ m : Nat, m ≤ 5 ∧ ((x &&& (2147483647 : Int32)) % (6 : Int32)) = m.toInt32 := by
  have h1 := (c_and x 2147483647 (by decide)).1
  have h2 := (c_irem (x &&& (2147483647 : Int32)) 6 6 rfl).1 h1
  refine ⟨((x &&& (2147483647 : Int32)).toInt % 6).toNat, by omega, ?_⟩
  rw [← Int32.toInt_inj, own_nat (by omega), h2]
  omega
theorem own_byte (p : Int32) : (nar .byte p.toInt8.toInt32) &&& 255 = p &&& 255 := by
  rw [← Int32.toInt_inj, c_mask _ 255 8 (by decide) (by decide), c_mask _ 255 8 (by decide) (by decide)]
  have h1 := c_i2b p
  have h2 := c_i2b p.toInt8.toInt32
  show (p.toInt8.toInt32.toInt8.toInt32).toInt % _ = _
  omega
theorem own_step {A : Int64} {B y p : Int32} (h : A.toInt = B.toInt) (h0 : 0 ≤ B.toInt) (h1 : B.toInt ≤ 100000) (e : y &&& 255 = p &&& 255) :
    (A + (y &&& 255).toInt64).toInt = (B + (p &&& 255)).toInt ∧ 0 ≤ (B + (p &&& 255)).toInt ∧ (B + (p &&& 255)).toInt ≤ B.toInt + 255 := by
  rw [e]
  have a1 := c_ladd A (p &&& 255).toInt64
  have a2 := c_iadd B (p &&& 255)
  have a3 := c_and p 255 (by decide)
  have a4 : (255 : Int32).toInt = 255 := rfl
  rw [c_i2l] at a1
  have r1 := rng64 (A + (p &&& 255).toInt64)
  have r2 := rng32 (B + (p &&& 255))
  omega
theorem own_fin {A : Int64} {B : Int32} (h : A.toInt = B.toInt) (h0 : 0 ≤ B.toInt) : (A % 256).toInt32 = B &&& 255 := by
  rw [← Int32.toInt_inj, c_mask _ 255 8 (by decide) (by decide)]
  have a1 := c_l2i (A % 256)
  have a2 := (c_lrem A 256 256 rfl).1 (by omega)
  rw [lrem_mod] at a2
  have r := rng32 (A % 256).toInt32
  omega
theorem own_law (p0 p1 p2 p3 p4 en v0 v1 v2 v3 v4 : Int32) (n : Nat) (hn : n ≤ 5) (he : en = n.toInt32)
    (h0 : v0 = if (0 : Int32) < en then (0 : Int32) + (p0 &&& 255) else 0) (h1 : v1 = if (1 : Int32) < en then v0 + (p1 &&& 255) else v0)
    (h2 : v2 = if (2 : Int32) < en then v1 + (p2 &&& 255) else v1) (h3 : v3 = if (3 : Int32) < en then v2 + (p3 &&& 255) else v2)
    (h4 : v4 = if (4 : Int32) < en then v3 + (p4 &&& 255) else v3) :
    own_ck [nar .byte p0.toInt8.toInt32, nar .byte p1.toInt8.toInt32, nar .byte p2.toInt8.toInt32, nar .byte p3.toInt8.toInt32, nar .byte p4.toInt8.toInt32] n = v4 &&& 255 := by
  have z : (0 : Int64).toInt = (0 : Int32).toInt := rfl
  have z0 : (0 : Int32).toInt = 0 := rfl
  have s0 := own_step (y := nar .byte p0.toInt8.toInt32) (p := p0) z (by decide) (by decide) (own_byte p0)
  have s1 := own_step (y := nar .byte p1.toInt8.toInt32) (p := p1) s0.1 s0.2.1 (by omega) (own_byte p1)
  have s2 := own_step (y := nar .byte p2.toInt8.toInt32) (p := p2) s1.1 s1.2.1 (by omega) (own_byte p2)
  have s3 := own_step (y := nar .byte p3.toInt8.toInt32) (p := p3) s2.1 s2.2.1 (by omega) (own_byte p3)
  have s4 := own_step (y := nar .byte p4.toInt8.toInt32) (p := p4) s3.1 s3.2.1 (by omega) (own_byte p4)
  have hc : n = 0 ∨ n = 1 ∨ n = 2 ∨ n = 3 ∨ n = 4 ∨ n = 5 := by omega
  rcases hc with rfl | rfl | rfl | rfl | rfl | rfl <;> subst he
  · rw [if_neg (by decide)] at h0 h1 h2 h3 h4; subst h0 h1 h2 h3 h4; exact own_fin z (by decide)
  · rw [if_pos (by decide)] at h0; rw [if_neg (by decide)] at h1 h2 h3 h4; subst h0 h1 h2 h3 h4; exact own_fin s0.1 s0.2.1
  · rw [if_pos (by decide)] at h0 h1; rw [if_neg (by decide)] at h2 h3 h4; subst h0 h1 h2 h3 h4; exact own_fin s1.1 s1.2.1
  · rw [if_pos (by decide)] at h0 h1 h2; rw [if_neg (by decide)] at h3 h4; subst h0 h1 h2 h3 h4; exact own_fin s2.1 s2.2.1
  · rw [if_pos (by decide)] at h0 h1 h2 h3; rw [if_neg (by decide)] at h4; subst h0 h1 h2 h3 h4; exact own_fin s3.1 s3.2.1
  · rw [if_pos (by decide)] at h0 h1 h2 h3 h4; subst h0 h1 h2 h3 h4; exact own_fin s4.1 s4.2.1
theorem own_pn0 : plainName "com/example/splitbook/splitbook/tagvalue/TagValueMessage" = true := by first | (simp [plainName, overriddenIn]; done) | decide +kernel
theorem d1_0 : decode prog_38_method_6_code 0 = .ok (.lconst 0, 1) := by decide +kernel
theorem d1_1 : decode prog_38_method_6_code 1 = .ok (.lstore_n 2, 1) := by decide +kernel
theorem d1_2 : decode prog_38_method_6_code 2 = .ok (.iconst 0, 1) := by decide +kernel
theorem d1_3 : decode prog_38_method_6_code 3 = .ok (.istore 4, 2) := by decide +kernel
theorem d1_5 : decode prog_38_method_6_code 5 = .ok (.iload 4, 2) := by decide +kernel
theorem d1_7 : decode prog_38_method_6_code 7 = .ok (.iload_n 1, 1) := by decide +kernel
theorem d1_8 : decode prog_38_method_6_code 8 = .ok (.if_icmp .ge 21, 3) := by decide +kernel
theorem d1_11 : decode prog_38_method_6_code 11 = .ok (.lload_n 2, 1) := by decide +kernel
theorem d1_12 : decode prog_38_method_6_code 12 = .ok (.aload_n 0, 1) := by decide +kernel
theorem d1_13 : decode prog_38_method_6_code 13 = .ok (.iload 4, 2) := by decide +kernel
theorem d1_15 : decode prog_38_method_6_code 15 = .ok (.baload, 1) := by decide +kernel
theorem d1_16 : decode prog_38_method_6_code 16 = .ok (.sipush 255, 3) := by decide +kernel
theorem d1_19 : decode prog_38_method_6_code 19 = .ok (.iand, 1) := by decide +kernel
theorem d1_20 : decode prog_38_method_6_code 20 = .ok (.i2l, 1) := by decide +kernel
theorem d1_21 : decode prog_38_method_6_code 21 = .ok (.ladd, 1) := by decide +kernel
theorem d1_22 : decode prog_38_method_6_code 22 = .ok (.lstore_n 2, 1) := by decide +kernel
theorem d1_23 : decode prog_38_method_6_code 23 = .ok (.iinc 4 1, 3) := by decide +kernel
theorem d1_26 : decode prog_38_method_6_code 26 = .ok (.goto (-21), 3) := by decide +kernel
theorem d1_29 : decode prog_38_method_6_code 29 = .ok (.lload_n 2, 1) := by decide +kernel
theorem d1_30 : decode prog_38_method_6_code 30 = .ok (.ldc2_w 130, 3) := by decide +kernel
theorem d1_33 : decode prog_38_method_6_code 33 = .ok (.lrem, 1) := by decide +kernel
theorem d1_34 : decode prog_38_method_6_code 34 = .ok (.l2i, 1) := by decide +kernel
theorem d1_35 : decode prog_38_method_6_code 35 = .ok (.ireturn, 1) := by decide +kernel
theorem ef_1 (m : MethodId) (x0 : Addr) (x1 : Int32) : entryFrame m #[(.ref x0), (.int x1)] 5 = mkF m 0 #[.val (.ref x0), .val (.int x1), .unset, .unset, .unset] [] := by first | (simp [entryFrame, mkF, argsToLocals, Value.category]; done) | rfl
def Q1 (Z : State) (ob : Addr) (en : Int32) (kc : ClassId) (xs : List Int32) (mm : Nat) (h0 : Heap) (n0 : Nat) (v : Option Value) (h : Heap) (L : List Loc) : Prop := v = some (.int (own_ck xs mm)) ∧ Fr n0 L ∧ h = h0
set_option maxRecDepth 65536 in
set_option maxHeartbeats 40000000 in
theorem rm1 (l : Launch) (Z : State) (a0 : Array Value) (hw : ∀ d ∈ tables_1, d.before a0 Z = true) (ws : List Jvm.Cond) (ob : Addr) (en : Int32) (kc : ClassId) (xs : List Int32) (mm : Nat) (h0 : Heap) (n0 : Nat) (Z0 : n0 ≤ h0.size) (P0 : Arv Z h0 ob kc .byte (5 : Int32) (xs.map Value.int) (.int (0 : Int32))) (hmm : mm ≤ 5) (hen : en = mm.toInt32) :
    MetFree l (⟨"com/example/splitbook/splitbook/tagvalue/TagValueMessage", "checkSum", "([BI)I"⟩ : MethodName) (head1 (Jvm.Cond.code (⟨"com/example/splitbook/splitbook/tagvalue/TagValueMessage", "checkSum", "([BI)I"⟩ : MethodName) prog_38_method_6_code 5 (some .int) :: ws) ({ frames := 0, cells := 0, slots := 0, locals := 0 } : Room)) (fun a U => a = #[(.ref ob), (.int en)] ∧ Z.Warmed39 U.vm ∧ U.heap = h0) (fun _ _ _ _ _ => True) (fun _ U o U' => ∃ v L, o = .returned v ∧ Q1 Z ob en kc xs mm h0 n0 v U'.heap L ∧ FrameEnd U o U' L ({ frames := 0, cells := 0, slots := 0, locals := 0 } : Room).cells ({ frames := 0, cells := 0, slots := 0, locals := 0 } : Room).slots) := by
  refine MetFree.of_bodySF (plainFor_of_name own_pn0) hisR ?_
  intro p e s m args below meth c s₁ Bd hml0 hP hK
  obtain ⟨rfl, hZ, hh⟩ := hP
  have hx := Bd.exec
  have hby := Bd.bytes
  have hml : c.maxLocals = 5 := hml0
  have hown : s.vm.findClass "com/example/splitbook/splitbook/tagvalue/TagValueMessage" = some m.cls := findClass_of_methodNamed Bd.named
  have hnm := (name_of_methodNamed Bd.named Bd.method).1
  have X0 : Stand p l e ({ frames := 0, cells := 0, slots := 0, locals := 0 } : Room) s m #[(.ref ob), (.int en)] below meth c s₁ [] 0 0 := Stand.of_body Bd
  have e0 : s₁.heap = h0 := by rw [← hh, Bd.state]; rfl
  have N0 := Fr.nil n0
  have K0 : Keep h0 h0 [] := Keep.refl _ _
  suffices GO : ∀ P : Outcome → State → Prop, (∀ o U', (∃ v L, o = .returned v ∧ Q1 Z ob en kc xs mm h0 n0 v U'.heap L ∧ FrameEnd s o U' L ({ frames := 0, cells := 0, slots := 0, locals := 0 } : Room).cells ({ frames := 0, cells := 0, slots := 0, locals := 0 } : Room).slots) → P o U') → Go p.tables e below P s₁ (mkF m 0 #[.val (.ref ob), .val (.int en), .unset, .unset, .unset] []) by
    obtain ⟨s2, o, st, r⟩ := GO _ (fun _ _ q => q)
    exact ⟨s2, o, castTop (ef_1 m ob en) st, r⟩
  clear hh
  intro P hP
  show Go p.tables e below P s₁ (mkF m 0 #[.val (.ref ob), .val (.int en), .unset, .unset, .unset] [])
  refine Go.via (fun t k => XS.lconst X0.here hx rfl (hb hby d1_0) k) ?_
  show Go p.tables e below P s₁ (mkF m 1 #[.val (.ref ob), .val (.int en), .unset, .unset, .unset] [(.long (0 : Int64))])
  refine Go.via (fun t k => XS.lstoreN X0.here hx rfl (hb hby d1_1) rfl (l' := #[.val (.ref ob), .val (.int en), .val (.long (0 : Int64)), .second, .unset]) rfl k) ?_
  show Go p.tables e below P s₁ (mkF m 2 #[.val (.ref ob), .val (.int en), .val (.long (0 : Int64)), .second, .unset] [])
  refine Go.via (fun t k => XS.iconst X0.here hx rfl (hb hby d1_2) k) ?_
  show Go p.tables e below P s₁ (mkF m 3 #[.val (.ref ob), .val (.int en), .val (.long (0 : Int64)), .second, .unset] [(.int (0 : Int32))])
  refine Go.via (fun t k => XS.istore X0.here hx rfl (hb hby d1_3) rfl (l' := #[.val (.ref ob), .val (.int en), .val (.long (0 : Int64)), .second, .val (.int (0 : Int32))]) rfl k) ?_
  have LP1 : ∀ (k1 : Nat) (T1 : State) (locs1 : List Loc) (i : Nat) (a2 : Int64) (x4 : Int32), Stand p l e ({ frames := 0, cells := 0, slots := 0, locals := 0 } : Room) s m #[(.ref ob), (.int en)] below meth c T1 locs1 0 0 → T1.heap = h0 → Fr n0 locs1 → i ≤ mm → a2 = own_acc xs i → x4 = i.toInt32 → mm - i < k1 → Go p.tables e below P T1 (mkF m 5 #[.val (.ref ob), .val (.int en), .val (.long a2), .second, .val (.int x4)] []) := by
    intro k1
    induction k1 with
    | zero => intro T1 locs1 i a2 x4 X1 e1 N1 hi ha hx4 hk; exact absurd hk (Nat.not_lt_zero _)
    | succ k1 ih1 =>
      intro T1 locs1 i a2 x4 X1 e1 N1 hi ha hx4 hk
      show Go p.tables e below P T1 (mkF m 5 #[.val (.ref ob), .val (.int en), .val (.long a2), .second, .val (.int x4)] [])
      refine Go.via (fun t k => XS.iload X1.here hx rfl (hb hby d1_5) rfl k) ?_
      show Go p.tables e below P T1 (mkF m 7 #[.val (.ref ob), .val (.int en), .val (.long a2), .second, .val (.int x4)] [(.int x4)])
      refine Go.via (fun t k => XS.iloadN X1.here hx rfl (hb hby d1_7) rfl k) ?_
      show Go p.tables e below P T1 (mkF m 8 #[.val (.ref ob), .val (.int en), .val (.long a2), .second, .val (.int x4)] [(.int en), (.int x4)])
      by_cases hc2 : x4 < en
      · refine Go.via (fun t k => XS.icmpNo X1.here hx rfl (hb hby d1_8) rfl (tlt hc2).2.1 k) ?_
        show Go p.tables e below P T1 (mkF m 11 #[.val (.ref ob), .val (.int en), .val (.long a2), .second, .val (.int x4)] [])
        have hlt : i < mm := (own_ltN (by omega) (by omega)).mp (by rw [← hx4, ← hen]; exact hc2)
        refine Go.via (fun t k => XS.lloadN X1.here hx rfl (hb hby d1_11) rfl k) ?_
        show Go p.tables e below P T1 (mkF m 12 #[.val (.ref ob), .val (.int en), .val (.long a2), .second, .val (.int x4)] [(.long a2)])
        refine Go.via (fun t k => XS.aloadN X1.here hx rfl (hb hby d1_12) rfl rfl k) ?_
        show Go p.tables e below P T1 (mkF m 13 #[.val (.ref ob), .val (.int en), .val (.long a2), .second, .val (.int x4)] [(.ref ob), (.long a2)])
        refine Go.via (fun t k => XS.iload X1.here hx rfl (hb hby d1_13) rfl k) ?_
        show Go p.tables e below P T1 (mkF m 15 #[.val (.ref ob), .val (.int en), .val (.long a2), .second, .val (.int x4)] [(.int x4), (.ref ob), (.long a2)])
        obtain ⟨c3, A3, q3, S3, N3, H3, G3⟩ := id P0
        have hin3 : ¬ (x4 < 0 ∨ c3.slots.size ≤ (x4).toNatClampNeg) := inb_of S3 ⟨by rw [hx4]; exact own_nneg (by omega), by rw [hx4]; exact (own_ltN (n := 5) (by omega) (by omega)).mpr (by omega)⟩
        have hat3 : c3.slots[(x4).toNatClampNeg]? = some (.int (xs.getD i 0)) := (H3 _ (Nat.lt_of_not_le fun q => hin3 (Or.inr q))).trans (congrArg some (by rw [hx4, own_clamp (by omega)]; exact own_getD xs i))
        refine Go.via (fun t k => X1.baloadBytes hx (j := x4) (v := (.int (xs.getD i 0))) (by rw [e1]; exact A3.1) (State.isArrayOf_alike hZ.alike A3.2.1) A3.2.2 hin3 hat3 (g := (mkF m 15 #[.val (.ref ob), .val (.int en), .val (.long a2), .second, .val (.int x4)] [(.int x4), (.ref ob), (.long a2)])) rfl rfl (hb hby d1_15) t k) ?_
        show Go p.tables e below P T1 (mkF m 16 #[.val (.ref ob), .val (.int en), .val (.long a2), .second, .val (.int x4)] [(.int (xs.getD i 0)), (.long a2)])
        refine Go.via (fun t k => XS.sipush X1.here hx rfl (hb hby d1_16) k) ?_
        show Go p.tables e below P T1 (mkF m 19 #[.val (.ref ob), .val (.int en), .val (.long a2), .second, .val (.int x4)] [(.int (255 : Int32)), (.int (xs.getD i 0)), (.long a2)])
        refine Go.via (fun t k => XS.iand X1.here hx rfl (hb hby d1_19) rfl k) ?_
        show Go p.tables e below P T1 (mkF m 20 #[.val (.ref ob), .val (.int en), .val (.long a2), .second, .val (.int x4)] [(.int ((xs.getD i 0) &&& (255 : Int32))), (.long a2)])
        refine Go.via (fun t k => XS.i2l X1.here hx rfl (hb hby d1_20) rfl k) ?_
        show Go p.tables e below P T1 (mkF m 21 #[.val (.ref ob), .val (.int en), .val (.long a2), .second, .val (.int x4)] [(.long (((xs.getD i 0) &&& (255 : Int32)).toInt64)), (.long a2)])
        refine Go.via (fun t k => XS.ladd X1.here hx rfl (hb hby d1_21) rfl k) ?_
        show Go p.tables e below P T1 (mkF m 22 #[.val (.ref ob), .val (.int en), .val (.long a2), .second, .val (.int x4)] [(.long (a2 + (((xs.getD i 0) &&& (255 : Int32)).toInt64)))])
        refine Go.via (fun t k => XS.lstoreN X1.here hx rfl (hb hby d1_22) rfl (l' := #[.val (.ref ob), .val (.int en), .val (.long (a2 + (((xs.getD i 0) &&& (255 : Int32)).toInt64))), .second, .val (.int x4)]) rfl k) ?_
        show Go p.tables e below P T1 (mkF m 23 #[.val (.ref ob), .val (.int en), .val (.long (a2 + (((xs.getD i 0) &&& (255 : Int32)).toInt64))), .second, .val (.int x4)] [])
        refine Go.via (fun t k => XS.iinc X1.here hx rfl (hb hby d1_23) rfl (l' := #[.val (.ref ob), .val (.int en), .val (.long (a2 + (((xs.getD i 0) &&& (255 : Int32)).toInt64))), .second, .val (.int (x4 + (1 : Int32)))]) rfl k) ?_
        show Go p.tables e below P T1 (mkF m 26 #[.val (.ref ob), .val (.int en), .val (.long (a2 + (((xs.getD i 0) &&& (255 : Int32)).toInt64))), .second, .val (.int (x4 + (1 : Int32)))] [])
        refine Go.via (fun t k => XS.goto X1.here hx rfl (pc0 := 26) (pc' := 5) rfl (hb hby d1_26) (by decide) (by decide) k) ?_
        exact ih1 T1 _ (i + 1) (a2 + (((xs.getD i 0) &&& (255 : Int32)).toInt64)) (x4 + (1 : Int32)) X1 e1 N1 hlt (by rw [ha]; rfl) (by rw [hx4]; exact own_succ i) (by omega)
      · refine Go.via (fun t k => XS.icmpYes X1.here hx rfl (pc0 := 8) (pc' := 29) rfl (hb hby d1_8) rfl (flt hc2).2.1 (by decide) (by decide) k) ?_
        show Go p.tables e below P T1 (mkF m 29 #[.val (.ref ob), .val (.int en), .val (.long a2), .second, .val (.int x4)] [])
        refine Go.via (fun t k => XS.lloadN X1.here hx rfl (hb hby d1_29) rfl k) ?_
        show Go p.tables e below P T1 (mkF m 30 #[.val (.ref ob), .val (.int en), .val (.long a2), .second, .val (.int x4)] [(.long a2)])
        refine Go.via (fun t k => X1.ldc2Long hx hown (mvT hZ (hw _ (List.mem_of_getElem? (i := 6) rfl))) (g := (mkF m 30 #[.val (.ref ob), .val (.int en), .val (.long a2), .second, .val (.int x4)] [(.long a2)])) rfl (hb hby d1_30) t k) ?_
        show Go p.tables e below P T1 (mkF m 33 #[.val (.ref ob), .val (.int en), .val (.long a2), .second, .val (.int x4)] [(.long (256 : Int64)), (.long a2)])
        refine Go.via (fun t k => XS.lrem X1.here hx rfl (hb hby d1_33) rfl (by decide) (by rw [lrem_mod]; exact k)) ?_
        show Go p.tables e below P T1 (mkF m 34 #[.val (.ref ob), .val (.int en), .val (.long a2), .second, .val (.int x4)] [(.long (a2 % (256 : Int64)))])
        refine Go.via (fun t k => XS.l2i X1.here hx rfl (hb hby d1_34) rfl k) ?_
        show Go p.tables e below P T1 (mkF m 35 #[.val (.ref ob), .val (.int en), .val (.long a2), .second, .val (.int x4)] [(.int ((a2 % (256 : Int64)).toInt32))])
        have hge : i = mm := by
          have q : ¬ i < mm := fun q => hc2 (by rw [hx4, hen]; exact (own_ltN (i := i) (n := mm) (by omega) (by omega)).mpr q)
          omega
        obtain ⟨fs, hr, hrun, hended, hW, hsame⟩ := X1.leave (v := some (.int (own_ck xs mm))) (fun h => by rw [Bd.returns] at h; cases h)
        refine ⟨_, _, (by have q := retI X1 hx Bd.returns (hb hby d1_35) (z := ((a2 % (256 : Int64)).toInt32)) (rest := []) (pc := 35) (Ls := #[.val (.ref ob), .val (.int en), .val (.long a2), .second, .val (.int x4)]) (by rw [(show (a2 % (256 : Int64)).toInt32 = own_ck xs mm by rw [ha, hge]; rfl)]; exact hr); exact q), hrun, hended, hP _ _ ⟨_, _, rfl, ?_, ⟨_, rfl⟩, hW, hsame.mono (by decide) (by decide)⟩⟩
        show Q1 Z ob en kc xs mm h0 n0 _ T1.heap _
        rw [e1]
        exact ⟨rfl, N1, rfl⟩
  exact LP1 _ s₁ _ 0 (0 : Int64) (0 : Int32) X0 e0 N0 (Nat.zero_le _) rfl rfl (Nat.lt_succ_self _)
theorem own_pd0 : parseMethodDescriptor "([BI)I" = some ⟨[(.array .byte), .int], some .int⟩ := by decide +kernel
theorem own_pn1 : plainName "com/example/splitbook/splitbook/tagvalue/TagValueMessageCheckSumPinLaw" = true := by first | (simp [plainName, overriddenIn]; done) | decide +kernel
theorem ef_0 (m : MethodId) (x0 : Int32) (x1 : Int32) (x2 : Int32) (x3 : Int32) (x4 : Int32) (x5 : Int32) : entryFrame m #[(.int x0), (.int x1), (.int x2), (.int x3), (.int x4), (.int x5)] maxLocals = mkF m 0 #[.val (.int x0), .val (.int x1), .val (.int x2), .val (.int x3), .val (.int x4), .val (.int x5), .unset, .unset, .unset, .unset] [] := by first | (simp [entryFrame, mkF, argsToLocals, Value.category, maxLocals]; done) | rfl
def Q0 (Z : State) (p0 : Int32) (p1 : Int32) (p2 : Int32) (p3 : Int32) (p4 : Int32) (pe : Int32) (h0 : Heap) (n0 : Nat) (v : Option Value) (h : Heap) (L : List Loc) : Prop := v = some (.int (1 : Int32)) ∧ Fr n0 L
set_option maxRecDepth 65536 in
set_option maxHeartbeats 40000000 in
theorem rm0 (l : Launch) (Z : State) (a0 : Array Value) (hw : ∀ d ∈ tables_1, d.before a0 Z = true) (ws : List Jvm.Cond) (p0 : Int32) (p1 : Int32) (p2 : Int32) (p3 : Int32) (p4 : Int32) (pe : Int32) (h0 : Heap) (n0 : Nat) (Z0 : n0 ≤ h0.size) :
    MetFree l x (head1 (Jvm.Cond.code x code maxLocals ret :: ws) room_1) (fun a U => a = #[(.int p0), (.int p1), (.int p2), (.int p3), (.int p4), (.int pe)] ∧ Z.Warmed39 U.vm ∧ U.heap = h0) (fun _ _ _ _ _ => True) (fun _ U o U' => ∃ v L, o = .returned v ∧ Q0 Z p0 p1 p2 p3 p4 pe h0 n0 v U'.heap L ∧ FrameEnd U o U' L room_1.cells room_1.slots) := by
  refine MetFree.of_bodySF (plainFor_of_name own_pn1) hisR ?_
  intro p e s m args below meth c s₁ Bd hml0 hP hK
  obtain ⟨rfl, hZ, hh⟩ := hP
  have hx := Bd.exec
  have hby := Bd.bytes
  have hml : c.maxLocals = 10 := hml0
  have hown : s.vm.findClass "com/example/splitbook/splitbook/tagvalue/TagValueMessageCheckSumPinLaw" = some m.cls := findClass_of_methodNamed Bd.named
  have hnm := (name_of_methodNamed Bd.named Bd.method).1
  have X0 : Stand p l e room_1 s m #[(.int p0), (.int p1), (.int p2), (.int p3), (.int p4), (.int pe)] below meth c s₁ [] 0 0 := Stand.of_body Bd
  have e0 : s₁.heap = h0 := by rw [← hh, Bd.state]; rfl
  have N0 := Fr.nil n0
  have K0 : Keep h0 h0 [] := Keep.refl _ _
  suffices GO : ∀ P : Outcome → State → Prop, (∀ o U', (∃ v L, o = .returned v ∧ Q0 Z p0 p1 p2 p3 p4 pe h0 n0 v U'.heap L ∧ FrameEnd s o U' L room_1.cells room_1.slots) → P o U') → Go p.tables e below P s₁ (mkF m 0 #[.val (.int p0), .val (.int p1), .val (.int p2), .val (.int p3), .val (.int p4), .val (.int pe), .unset, .unset, .unset, .unset] []) by
    obtain ⟨s2, o, st, r⟩ := GO _ (fun _ _ q => q)
    exact ⟨s2, o, castTop (ef_0 m p0 p1 p2 p3 p4 pe) st, r⟩
  clear hh
  intro P hP
  show Go p.tables e below P s₁ (mkF m 0 #[.val (.int p0), .val (.int p1), .val (.int p2), .val (.int p3), .val (.int p4), .val (.int pe), .unset, .unset, .unset, .unset] [])
  refine Go.via (fun t k => XS.iconst X0.here hx rfl (hb hby at_0) k) ?_
  show Go p.tables e below P s₁ (mkF m 1 #[.val (.int p0), .val (.int p1), .val (.int p2), .val (.int p3), .val (.int p4), .val (.int pe), .unset, .unset, .unset, .unset] [(.int (5 : Int32))])
  obtain ⟨T1, h1, k1, X1, e1, E1, A1, st1⟩ := newP X0 hx hZ (hw _ (List.mem_of_getElem? (i := 0) rfl)) e0 (g := (mkF m 1 #[.val (.int p0), .val (.int p1), .val (.int p2), .val (.int p3), .val (.int p4), .val (.int pe), .unset, .unset, .unset, .unset] [(.int (5 : Int32))])) rfl (hb hby at_1) rfl (by decide) (cap := 5) (by decide) (by decide) (by decide) (by decide)
  obtain ⟨b1, g1⟩ : ∃ z, z = h0.size := ⟨_, rfl⟩
  rw [← g1] at A1 st1
  refine Go.via st1 ?_
  have g2 : n0 ≤ b1 := Nat.le_trans Z0 (Nat.le_of_eq g1.symm)
  have sz3 : h0.size ≤ b1 := Nat.le_trans K0.1 (Nat.le_of_eq g1.symm)
  have Z4 : n0 ≤ h1.size := Nat.le_trans Z0 E1.1
  have K5 : Keep h0 h1 [] := K0.ext E1
  have V1 : Arv Z h1 b1 k1 .byte (5 : Int32) [(.int (0 : Int32)), (.int (0 : Int32)), (.int (0 : Int32)), (.int (0 : Int32)), (.int (0 : Int32))] (.int (0 : Int32)) := (Arv.new A1 (by decide)).pad (pad_rep [] (.int (0 : Int32)) 5)
  show Go p.tables e below P T1 (mkF m 3 #[.val (.int p0), .val (.int p1), .val (.int p2), .val (.int p3), .val (.int p4), .val (.int pe), .unset, .unset, .unset, .unset] [(.ref b1)])
  refine Go.via (fun t k => XS.dup X1.here hx rfl (hb hby at_3) rfl rfl k) ?_
  show Go p.tables e below P T1 (mkF m 4 #[.val (.int p0), .val (.int p1), .val (.int p2), .val (.int p3), .val (.int p4), .val (.int pe), .unset, .unset, .unset, .unset] [(.ref b1), (.ref b1)])
  refine Go.via (fun t k => XS.iconst X1.here hx rfl (hb hby at_4) k) ?_
  show Go p.tables e below P T1 (mkF m 5 #[.val (.int p0), .val (.int p1), .val (.int p2), .val (.int p3), .val (.int p4), .val (.int pe), .unset, .unset, .unset, .unset] [(.int (0 : Int32)), (.ref b1), (.ref b1)])
  refine Go.via (fun t k => XS.iloadN X1.here hx rfl (hb hby at_5) rfl k) ?_
  show Go p.tables e below P T1 (mkF m 6 #[.val (.int p0), .val (.int p1), .val (.int p2), .val (.int p3), .val (.int p4), .val (.int pe), .unset, .unset, .unset, .unset] [(.int p0), (.int (0 : Int32)), (.ref b1), (.ref b1)])
  refine Go.via (fun t k => XS.i2b X1.here hx rfl (hb hby at_6) rfl k) ?_
  show Go p.tables e below P T1 (mkF m 7 #[.val (.int p0), .val (.int p1), .val (.int p2), .val (.int p3), .val (.int p4), .val (.int pe), .unset, .unset, .unset, .unset] [(.int (p0.toInt8.toInt32)), (.int (0 : Int32)), (.ref b1), (.ref b1)])
  obtain ⟨c6, A6, q6, S6, N6, H6, G6⟩ := id V1
  have hin6 : ¬ ((0 : Int32) < 0 ∨ c6.slots.size ≤ ((0 : Int32)).toNatClampNeg) := inb_of S6 ⟨by decide, by decide⟩
  obtain ⟨T6, h6, X6, e6, W6, st6⟩ := stB X1 hx hZ e1 A6 (j := (0 : Int32)) hin6 (g := (mkF m 7 #[.val (.int p0), .val (.int p1), .val (.int p2), .val (.int p3), .val (.int p4), .val (.int pe), .unset, .unset, .unset, .unset] [(.int (p0.toInt8.toInt32)), (.int (0 : Int32)), (.ref b1), (.ref b1)])) rfl rfl (hb hby at_7)
  refine Go.via st6 ?_
  have Z7 : n0 ≤ h6.size := Nat.le_trans Z4 (Nat.le_of_eq W6.size.symm)
  have K8 : Keep h0 h6 [] := K5.wr W6 (Or.inr sz3)
  have N9 := Fr.snoc X6 N0 g2
  have V6 : Arv Z h6 b1 k1 .byte (5 : Int32) [(.int (nar .byte (p0.toInt8.toInt32))), (.int (0 : Int32)), (.int (0 : Int32)), (.int (0 : Int32)), (.int (0 : Int32))] (.int (0 : Int32)) := Arv.set A6 q6 S6 N6 H6 G6 (fits_nar_byte _) W6 0 rfl (Nat.le_of_ble_eq_true rfl)
  show Go p.tables e below P T6 (mkF m 8 #[.val (.int p0), .val (.int p1), .val (.int p2), .val (.int p3), .val (.int p4), .val (.int pe), .unset, .unset, .unset, .unset] [(.ref b1)])
  refine Go.via (fun t k => XS.dup X6.here hx rfl (hb hby at_8) rfl rfl k) ?_
  show Go p.tables e below P T6 (mkF m 9 #[.val (.int p0), .val (.int p1), .val (.int p2), .val (.int p3), .val (.int p4), .val (.int pe), .unset, .unset, .unset, .unset] [(.ref b1), (.ref b1)])
  refine Go.via (fun t k => XS.iconst X6.here hx rfl (hb hby at_9) k) ?_
  show Go p.tables e below P T6 (mkF m 10 #[.val (.int p0), .val (.int p1), .val (.int p2), .val (.int p3), .val (.int p4), .val (.int pe), .unset, .unset, .unset, .unset] [(.int (1 : Int32)), (.ref b1), (.ref b1)])
  refine Go.via (fun t k => XS.iloadN X6.here hx rfl (hb hby at_10) rfl k) ?_
  show Go p.tables e below P T6 (mkF m 11 #[.val (.int p0), .val (.int p1), .val (.int p2), .val (.int p3), .val (.int p4), .val (.int pe), .unset, .unset, .unset, .unset] [(.int p1), (.int (1 : Int32)), (.ref b1), (.ref b1)])
  refine Go.via (fun t k => XS.i2b X6.here hx rfl (hb hby at_11) rfl k) ?_
  show Go p.tables e below P T6 (mkF m 12 #[.val (.int p0), .val (.int p1), .val (.int p2), .val (.int p3), .val (.int p4), .val (.int pe), .unset, .unset, .unset, .unset] [(.int (p1.toInt8.toInt32)), (.int (1 : Int32)), (.ref b1), (.ref b1)])
  obtain ⟨c10, A10, q10, S10, N10, H10, G10⟩ := id V6
  have hin10 : ¬ ((1 : Int32) < 0 ∨ c10.slots.size ≤ ((1 : Int32)).toNatClampNeg) := inb_of S10 ⟨by decide, by decide⟩
  obtain ⟨T10, h10, X10, e10, W10, st10⟩ := stB X6 hx hZ e6 A10 (j := (1 : Int32)) hin10 (g := (mkF m 12 #[.val (.int p0), .val (.int p1), .val (.int p2), .val (.int p3), .val (.int p4), .val (.int pe), .unset, .unset, .unset, .unset] [(.int (p1.toInt8.toInt32)), (.int (1 : Int32)), (.ref b1), (.ref b1)])) rfl rfl (hb hby at_12)
  refine Go.via st10 ?_
  have Z11 : n0 ≤ h10.size := Nat.le_trans Z7 (Nat.le_of_eq W10.size.symm)
  have K12 : Keep h0 h10 [] := K8.wr W10 (Or.inr sz3)
  have N13 := Fr.snoc X10 N9 g2
  have V10 : Arv Z h10 b1 k1 .byte (5 : Int32) [(.int (nar .byte (p0.toInt8.toInt32))), (.int (nar .byte (p1.toInt8.toInt32))), (.int (0 : Int32)), (.int (0 : Int32)), (.int (0 : Int32))] (.int (0 : Int32)) := Arv.set A10 q10 S10 N10 H10 G10 (fits_nar_byte _) W10 1 rfl (Nat.le_of_ble_eq_true rfl)
  show Go p.tables e below P T10 (mkF m 13 #[.val (.int p0), .val (.int p1), .val (.int p2), .val (.int p3), .val (.int p4), .val (.int pe), .unset, .unset, .unset, .unset] [(.ref b1)])
  refine Go.via (fun t k => XS.dup X10.here hx rfl (hb hby at_13) rfl rfl k) ?_
  show Go p.tables e below P T10 (mkF m 14 #[.val (.int p0), .val (.int p1), .val (.int p2), .val (.int p3), .val (.int p4), .val (.int pe), .unset, .unset, .unset, .unset] [(.ref b1), (.ref b1)])
  refine Go.via (fun t k => XS.iconst X10.here hx rfl (hb hby at_14) k) ?_
  show Go p.tables e below P T10 (mkF m 15 #[.val (.int p0), .val (.int p1), .val (.int p2), .val (.int p3), .val (.int p4), .val (.int pe), .unset, .unset, .unset, .unset] [(.int (2 : Int32)), (.ref b1), (.ref b1)])
  refine Go.via (fun t k => XS.iloadN X10.here hx rfl (hb hby at_15) rfl k) ?_
  show Go p.tables e below P T10 (mkF m 16 #[.val (.int p0), .val (.int p1), .val (.int p2), .val (.int p3), .val (.int p4), .val (.int pe), .unset, .unset, .unset, .unset] [(.int p2), (.int (2 : Int32)), (.ref b1), (.ref b1)])
  refine Go.via (fun t k => XS.i2b X10.here hx rfl (hb hby at_16) rfl k) ?_
  show Go p.tables e below P T10 (mkF m 17 #[.val (.int p0), .val (.int p1), .val (.int p2), .val (.int p3), .val (.int p4), .val (.int pe), .unset, .unset, .unset, .unset] [(.int (p2.toInt8.toInt32)), (.int (2 : Int32)), (.ref b1), (.ref b1)])
  obtain ⟨c14, A14, q14, S14, N14, H14, G14⟩ := id V10
  have hin14 : ¬ ((2 : Int32) < 0 ∨ c14.slots.size ≤ ((2 : Int32)).toNatClampNeg) := inb_of S14 ⟨by decide, by decide⟩
  obtain ⟨T14, h14, X14, e14, W14, st14⟩ := stB X10 hx hZ e10 A14 (j := (2 : Int32)) hin14 (g := (mkF m 17 #[.val (.int p0), .val (.int p1), .val (.int p2), .val (.int p3), .val (.int p4), .val (.int pe), .unset, .unset, .unset, .unset] [(.int (p2.toInt8.toInt32)), (.int (2 : Int32)), (.ref b1), (.ref b1)])) rfl rfl (hb hby at_17)
  refine Go.via st14 ?_
  have Z15 : n0 ≤ h14.size := Nat.le_trans Z11 (Nat.le_of_eq W14.size.symm)
  have K16 : Keep h0 h14 [] := K12.wr W14 (Or.inr sz3)
  have N17 := Fr.snoc X14 N13 g2
  have V14 : Arv Z h14 b1 k1 .byte (5 : Int32) [(.int (nar .byte (p0.toInt8.toInt32))), (.int (nar .byte (p1.toInt8.toInt32))), (.int (nar .byte (p2.toInt8.toInt32))), (.int (0 : Int32)), (.int (0 : Int32))] (.int (0 : Int32)) := Arv.set A14 q14 S14 N14 H14 G14 (fits_nar_byte _) W14 2 rfl (Nat.le_of_ble_eq_true rfl)
  show Go p.tables e below P T14 (mkF m 18 #[.val (.int p0), .val (.int p1), .val (.int p2), .val (.int p3), .val (.int p4), .val (.int pe), .unset, .unset, .unset, .unset] [(.ref b1)])
  refine Go.via (fun t k => XS.dup X14.here hx rfl (hb hby at_18) rfl rfl k) ?_
  show Go p.tables e below P T14 (mkF m 19 #[.val (.int p0), .val (.int p1), .val (.int p2), .val (.int p3), .val (.int p4), .val (.int pe), .unset, .unset, .unset, .unset] [(.ref b1), (.ref b1)])
  refine Go.via (fun t k => XS.iconst X14.here hx rfl (hb hby at_19) k) ?_
  show Go p.tables e below P T14 (mkF m 20 #[.val (.int p0), .val (.int p1), .val (.int p2), .val (.int p3), .val (.int p4), .val (.int pe), .unset, .unset, .unset, .unset] [(.int (3 : Int32)), (.ref b1), (.ref b1)])
  refine Go.via (fun t k => XS.iloadN X14.here hx rfl (hb hby at_20) rfl k) ?_
  show Go p.tables e below P T14 (mkF m 21 #[.val (.int p0), .val (.int p1), .val (.int p2), .val (.int p3), .val (.int p4), .val (.int pe), .unset, .unset, .unset, .unset] [(.int p3), (.int (3 : Int32)), (.ref b1), (.ref b1)])
  refine Go.via (fun t k => XS.i2b X14.here hx rfl (hb hby at_21) rfl k) ?_
  show Go p.tables e below P T14 (mkF m 22 #[.val (.int p0), .val (.int p1), .val (.int p2), .val (.int p3), .val (.int p4), .val (.int pe), .unset, .unset, .unset, .unset] [(.int (p3.toInt8.toInt32)), (.int (3 : Int32)), (.ref b1), (.ref b1)])
  obtain ⟨c18, A18, q18, S18, N18, H18, G18⟩ := id V14
  have hin18 : ¬ ((3 : Int32) < 0 ∨ c18.slots.size ≤ ((3 : Int32)).toNatClampNeg) := inb_of S18 ⟨by decide, by decide⟩
  obtain ⟨T18, h18, X18, e18, W18, st18⟩ := stB X14 hx hZ e14 A18 (j := (3 : Int32)) hin18 (g := (mkF m 22 #[.val (.int p0), .val (.int p1), .val (.int p2), .val (.int p3), .val (.int p4), .val (.int pe), .unset, .unset, .unset, .unset] [(.int (p3.toInt8.toInt32)), (.int (3 : Int32)), (.ref b1), (.ref b1)])) rfl rfl (hb hby at_22)
  refine Go.via st18 ?_
  have Z19 : n0 ≤ h18.size := Nat.le_trans Z15 (Nat.le_of_eq W18.size.symm)
  have K20 : Keep h0 h18 [] := K16.wr W18 (Or.inr sz3)
  have N21 := Fr.snoc X18 N17 g2
  have V18 : Arv Z h18 b1 k1 .byte (5 : Int32) [(.int (nar .byte (p0.toInt8.toInt32))), (.int (nar .byte (p1.toInt8.toInt32))), (.int (nar .byte (p2.toInt8.toInt32))), (.int (nar .byte (p3.toInt8.toInt32))), (.int (0 : Int32))] (.int (0 : Int32)) := Arv.set A18 q18 S18 N18 H18 G18 (fits_nar_byte _) W18 3 rfl (Nat.le_of_ble_eq_true rfl)
  show Go p.tables e below P T18 (mkF m 23 #[.val (.int p0), .val (.int p1), .val (.int p2), .val (.int p3), .val (.int p4), .val (.int pe), .unset, .unset, .unset, .unset] [(.ref b1)])
  refine Go.via (fun t k => XS.dup X18.here hx rfl (hb hby at_23) rfl rfl k) ?_
  show Go p.tables e below P T18 (mkF m 24 #[.val (.int p0), .val (.int p1), .val (.int p2), .val (.int p3), .val (.int p4), .val (.int pe), .unset, .unset, .unset, .unset] [(.ref b1), (.ref b1)])
  refine Go.via (fun t k => XS.iconst X18.here hx rfl (hb hby at_24) k) ?_
  show Go p.tables e below P T18 (mkF m 25 #[.val (.int p0), .val (.int p1), .val (.int p2), .val (.int p3), .val (.int p4), .val (.int pe), .unset, .unset, .unset, .unset] [(.int (4 : Int32)), (.ref b1), (.ref b1)])
  refine Go.via (fun t k => XS.iload X18.here hx rfl (hb hby at_25) rfl k) ?_
  show Go p.tables e below P T18 (mkF m 27 #[.val (.int p0), .val (.int p1), .val (.int p2), .val (.int p3), .val (.int p4), .val (.int pe), .unset, .unset, .unset, .unset] [(.int p4), (.int (4 : Int32)), (.ref b1), (.ref b1)])
  refine Go.via (fun t k => XS.i2b X18.here hx rfl (hb hby at_27) rfl k) ?_
  show Go p.tables e below P T18 (mkF m 28 #[.val (.int p0), .val (.int p1), .val (.int p2), .val (.int p3), .val (.int p4), .val (.int pe), .unset, .unset, .unset, .unset] [(.int (p4.toInt8.toInt32)), (.int (4 : Int32)), (.ref b1), (.ref b1)])
  obtain ⟨c22, A22, q22, S22, N22, H22, G22⟩ := id V18
  have hin22 : ¬ ((4 : Int32) < 0 ∨ c22.slots.size ≤ ((4 : Int32)).toNatClampNeg) := inb_of S22 ⟨by decide, by decide⟩
  obtain ⟨T22, h22, X22, e22, W22, st22⟩ := stB X18 hx hZ e18 A22 (j := (4 : Int32)) hin22 (g := (mkF m 28 #[.val (.int p0), .val (.int p1), .val (.int p2), .val (.int p3), .val (.int p4), .val (.int pe), .unset, .unset, .unset, .unset] [(.int (p4.toInt8.toInt32)), (.int (4 : Int32)), (.ref b1), (.ref b1)])) rfl rfl (hb hby at_28)
  refine Go.via st22 ?_
  have Z23 : n0 ≤ h22.size := Nat.le_trans Z19 (Nat.le_of_eq W22.size.symm)
  have K24 : Keep h0 h22 [] := K20.wr W22 (Or.inr sz3)
  have N25 := Fr.snoc X22 N21 g2
  have V22 : Arv Z h22 b1 k1 .byte (5 : Int32) [(.int (nar .byte (p0.toInt8.toInt32))), (.int (nar .byte (p1.toInt8.toInt32))), (.int (nar .byte (p2.toInt8.toInt32))), (.int (nar .byte (p3.toInt8.toInt32))), (.int (nar .byte (p4.toInt8.toInt32)))] (.int (0 : Int32)) := Arv.set A22 q22 S22 N22 H22 G22 (fits_nar_byte _) W22 4 rfl (Nat.le_of_ble_eq_true rfl)
  show Go p.tables e below P T22 (mkF m 29 #[.val (.int p0), .val (.int p1), .val (.int p2), .val (.int p3), .val (.int p4), .val (.int pe), .unset, .unset, .unset, .unset] [(.ref b1)])
  refine Go.via (fun t k => XS.astore X22.here hx rfl (hb hby at_29) rfl rfl (l' := #[.val (.int p0), .val (.int p1), .val (.int p2), .val (.int p3), .val (.int p4), .val (.int pe), .val (.ref b1), .unset, .unset, .unset]) rfl k) ?_
  show Go p.tables e below P T22 (mkF m 31 #[.val (.int p0), .val (.int p1), .val (.int p2), .val (.int p3), .val (.int p4), .val (.int pe), .val (.ref b1), .unset, .unset, .unset] [])
  refine Go.via (fun t k => XS.iload X22.here hx rfl (hb hby at_31) rfl k) ?_
  show Go p.tables e below P T22 (mkF m 33 #[.val (.int p0), .val (.int p1), .val (.int p2), .val (.int p3), .val (.int p4), .val (.int pe), .val (.ref b1), .unset, .unset, .unset] [(.int pe)])
  refine Go.via (fun t k => X22.ldcInt hx hown (mvT hZ (hw _ (List.mem_of_getElem? (i := 1) rfl))) (g := (mkF m 33 #[.val (.int p0), .val (.int p1), .val (.int p2), .val (.int p3), .val (.int p4), .val (.int pe), .val (.ref b1), .unset, .unset, .unset] [(.int pe)])) rfl (hb hby at_33) t k) ?_
  show Go p.tables e below P T22 (mkF m 35 #[.val (.int p0), .val (.int p1), .val (.int p2), .val (.int p3), .val (.int p4), .val (.int pe), .val (.ref b1), .unset, .unset, .unset] [(.int (2147483647 : Int32)), (.int pe)])
  refine Go.via (fun t k => XS.iand X22.here hx rfl (hb hby at_35) rfl k) ?_
  show Go p.tables e below P T22 (mkF m 36 #[.val (.int p0), .val (.int p1), .val (.int p2), .val (.int p3), .val (.int p4), .val (.int pe), .val (.ref b1), .unset, .unset, .unset] [(.int (pe &&& (2147483647 : Int32)))])
  refine Go.via (fun t k => XS.bipush X22.here hx rfl (hb hby at_36) k) ?_
  show Go p.tables e below P T22 (mkF m 38 #[.val (.int p0), .val (.int p1), .val (.int p2), .val (.int p3), .val (.int p4), .val (.int pe), .val (.ref b1), .unset, .unset, .unset] [(.int (6 : Int32)), (.int (pe &&& (2147483647 : Int32)))])
  refine Go.via (fun t k => iremM X22 hx rfl (hb hby at_38) rfl (by decide) k) ?_
  show Go p.tables e below P T22 (mkF m 39 #[.val (.int p0), .val (.int p1), .val (.int p2), .val (.int p3), .val (.int p4), .val (.int pe), .val (.ref b1), .unset, .unset, .unset] [(.int ((pe &&& (2147483647 : Int32)) % (6 : Int32)))])
  refine Go.via (fun t k => XS.istore X22.here hx rfl (hb hby at_39) rfl (l' := #[.val (.int p0), .val (.int p1), .val (.int p2), .val (.int p3), .val (.int p4), .val (.int pe), .val (.ref b1), .val (.int ((pe &&& (2147483647 : Int32)) % (6 : Int32))), .unset, .unset]) rfl k) ?_
  show Go p.tables e below P T22 (mkF m 41 #[.val (.int p0), .val (.int p1), .val (.int p2), .val (.int p3), .val (.int p4), .val (.int pe), .val (.ref b1), .val (.int ((pe &&& (2147483647 : Int32)) % (6 : Int32))), .unset, .unset] [])
  obtain ⟨en, hen⟩ : ∃ z, z = ((pe &&& (2147483647 : Int32)) % (6 : Int32)) := ⟨_, rfl⟩
  rw [← hen]
  obtain ⟨mm, hmm, hem⟩ := own_rem6 pe
  rw [← hen] at hem
  refine Go.via (fun t k => XS.iconst X22.here hx rfl (hb hby at_41) k) ?_
  show Go p.tables e below P T22 (mkF m 42 #[.val (.int p0), .val (.int p1), .val (.int p2), .val (.int p3), .val (.int p4), .val (.int pe), .val (.ref b1), .val (.int en), .unset, .unset] [(.int (0 : Int32))])
  refine Go.via (fun t k => XS.istore X22.here hx rfl (hb hby at_42) rfl (l' := #[.val (.int p0), .val (.int p1), .val (.int p2), .val (.int p3), .val (.int p4), .val (.int pe), .val (.ref b1), .val (.int en), .val (.int (0 : Int32)), .unset]) rfl k) ?_
  show Go p.tables e below P T22 (mkF m 44 #[.val (.int p0), .val (.int p1), .val (.int p2), .val (.int p3), .val (.int p4), .val (.int pe), .val (.ref b1), .val (.int en), .val (.int (0 : Int32)), .unset] [])
  refine Go.via (fun t k => XS.iload X22.here hx rfl (hb hby at_44) rfl k) ?_
  show Go p.tables e below P T22 (mkF m 46 #[.val (.int p0), .val (.int p1), .val (.int p2), .val (.int p3), .val (.int p4), .val (.int pe), .val (.ref b1), .val (.int en), .val (.int (0 : Int32)), .unset] [(.int en)])
  have J27 : ∀ (T27 : State) (locs27 : List Loc) (v27_0 : Int32), Stand p l e room_1 s m #[(.int p0), (.int p1), (.int p2), (.int p3), (.int p4), (.int pe)] below meth c T27 locs27 1 5 → T27.heap = h22 → Fr n0 locs27 → v27_0 = (if (0 : Int32) < en then ((0 : Int32) + (p0 &&& (255 : Int32))) else (0 : Int32)) → Go p.tables e below P T27 (mkF m 59 #[.val (.int p0), .val (.int p1), .val (.int p2), .val (.int p3), .val (.int p4), .val (.int pe), .val (.ref b1), .val (.int en), .val (.int v27_0), .unset] []) := by
    intro T27 locs27 v27_0 X27 e27 N27 hv27_0
    show Go p.tables e below P T27 (mkF m 59 #[.val (.int p0), .val (.int p1), .val (.int p2), .val (.int p3), .val (.int p4), .val (.int pe), .val (.ref b1), .val (.int en), .val (.int v27_0), .unset] [])
    refine Go.via (fun t k => XS.iload X27.here hx rfl (hb hby at_59) rfl k) ?_
    show Go p.tables e below P T27 (mkF m 61 #[.val (.int p0), .val (.int p1), .val (.int p2), .val (.int p3), .val (.int p4), .val (.int pe), .val (.ref b1), .val (.int en), .val (.int v27_0), .unset] [(.int en)])
    refine Go.via (fun t k => XS.iconst X27.here hx rfl (hb hby at_61) k) ?_
    show Go p.tables e below P T27 (mkF m 62 #[.val (.int p0), .val (.int p1), .val (.int p2), .val (.int p3), .val (.int p4), .val (.int pe), .val (.ref b1), .val (.int en), .val (.int v27_0), .unset] [(.int (1 : Int32)), (.int en)])
    have J29 : ∀ (T29 : State) (locs29 : List Loc) (v29_0 : Int32), Stand p l e room_1 s m #[(.int p0), (.int p1), (.int p2), (.int p3), (.int p4), (.int pe)] below meth c T29 locs29 1 5 → T29.heap = h22 → Fr n0 locs29 → v29_0 = (if (1 : Int32) < en then (v27_0 + (p1 &&& (255 : Int32))) else v27_0) → Go p.tables e below P T29 (mkF m 75 #[.val (.int p0), .val (.int p1), .val (.int p2), .val (.int p3), .val (.int p4), .val (.int pe), .val (.ref b1), .val (.int en), .val (.int v29_0), .unset] []) := by
      intro T29 locs29 v29_0 X29 e29 N29 hv29_0
      show Go p.tables e below P T29 (mkF m 75 #[.val (.int p0), .val (.int p1), .val (.int p2), .val (.int p3), .val (.int p4), .val (.int pe), .val (.ref b1), .val (.int en), .val (.int v29_0), .unset] [])
      refine Go.via (fun t k => XS.iload X29.here hx rfl (hb hby at_75) rfl k) ?_
      show Go p.tables e below P T29 (mkF m 77 #[.val (.int p0), .val (.int p1), .val (.int p2), .val (.int p3), .val (.int p4), .val (.int pe), .val (.ref b1), .val (.int en), .val (.int v29_0), .unset] [(.int en)])
      refine Go.via (fun t k => XS.iconst X29.here hx rfl (hb hby at_77) k) ?_
      show Go p.tables e below P T29 (mkF m 78 #[.val (.int p0), .val (.int p1), .val (.int p2), .val (.int p3), .val (.int p4), .val (.int pe), .val (.ref b1), .val (.int en), .val (.int v29_0), .unset] [(.int (2 : Int32)), (.int en)])
      have J31 : ∀ (T31 : State) (locs31 : List Loc) (v31_0 : Int32), Stand p l e room_1 s m #[(.int p0), (.int p1), (.int p2), (.int p3), (.int p4), (.int pe)] below meth c T31 locs31 1 5 → T31.heap = h22 → Fr n0 locs31 → v31_0 = (if (2 : Int32) < en then (v29_0 + (p2 &&& (255 : Int32))) else v29_0) → Go p.tables e below P T31 (mkF m 91 #[.val (.int p0), .val (.int p1), .val (.int p2), .val (.int p3), .val (.int p4), .val (.int pe), .val (.ref b1), .val (.int en), .val (.int v31_0), .unset] []) := by
        intro T31 locs31 v31_0 X31 e31 N31 hv31_0
        show Go p.tables e below P T31 (mkF m 91 #[.val (.int p0), .val (.int p1), .val (.int p2), .val (.int p3), .val (.int p4), .val (.int pe), .val (.ref b1), .val (.int en), .val (.int v31_0), .unset] [])
        refine Go.via (fun t k => XS.iload X31.here hx rfl (hb hby at_91) rfl k) ?_
        show Go p.tables e below P T31 (mkF m 93 #[.val (.int p0), .val (.int p1), .val (.int p2), .val (.int p3), .val (.int p4), .val (.int pe), .val (.ref b1), .val (.int en), .val (.int v31_0), .unset] [(.int en)])
        refine Go.via (fun t k => XS.iconst X31.here hx rfl (hb hby at_93) k) ?_
        show Go p.tables e below P T31 (mkF m 94 #[.val (.int p0), .val (.int p1), .val (.int p2), .val (.int p3), .val (.int p4), .val (.int pe), .val (.ref b1), .val (.int en), .val (.int v31_0), .unset] [(.int (3 : Int32)), (.int en)])
        have J33 : ∀ (T33 : State) (locs33 : List Loc) (v33_0 : Int32), Stand p l e room_1 s m #[(.int p0), (.int p1), (.int p2), (.int p3), (.int p4), (.int pe)] below meth c T33 locs33 1 5 → T33.heap = h22 → Fr n0 locs33 → v33_0 = (if (3 : Int32) < en then (v31_0 + (p3 &&& (255 : Int32))) else v31_0) → Go p.tables e below P T33 (mkF m 107 #[.val (.int p0), .val (.int p1), .val (.int p2), .val (.int p3), .val (.int p4), .val (.int pe), .val (.ref b1), .val (.int en), .val (.int v33_0), .unset] []) := by
          intro T33 locs33 v33_0 X33 e33 N33 hv33_0
          show Go p.tables e below P T33 (mkF m 107 #[.val (.int p0), .val (.int p1), .val (.int p2), .val (.int p3), .val (.int p4), .val (.int pe), .val (.ref b1), .val (.int en), .val (.int v33_0), .unset] [])
          refine Go.via (fun t k => XS.iload X33.here hx rfl (hb hby at_107) rfl k) ?_
          show Go p.tables e below P T33 (mkF m 109 #[.val (.int p0), .val (.int p1), .val (.int p2), .val (.int p3), .val (.int p4), .val (.int pe), .val (.ref b1), .val (.int en), .val (.int v33_0), .unset] [(.int en)])
          refine Go.via (fun t k => XS.iconst X33.here hx rfl (hb hby at_109) k) ?_
          show Go p.tables e below P T33 (mkF m 110 #[.val (.int p0), .val (.int p1), .val (.int p2), .val (.int p3), .val (.int p4), .val (.int pe), .val (.ref b1), .val (.int en), .val (.int v33_0), .unset] [(.int (4 : Int32)), (.int en)])
          have J35 : ∀ (T35 : State) (locs35 : List Loc) (v35_0 : Int32), Stand p l e room_1 s m #[(.int p0), (.int p1), (.int p2), (.int p3), (.int p4), (.int pe)] below meth c T35 locs35 1 5 → T35.heap = h22 → Fr n0 locs35 → v35_0 = (if (4 : Int32) < en then (v33_0 + (p4 &&& (255 : Int32))) else v33_0) → Go p.tables e below P T35 (mkF m 124 #[.val (.int p0), .val (.int p1), .val (.int p2), .val (.int p3), .val (.int p4), .val (.int pe), .val (.ref b1), .val (.int en), .val (.int v35_0), .unset] []) := by
            intro T35 locs35 v35_0 X35 e35 N35 hv35_0
            show Go p.tables e below P T35 (mkF m 124 #[.val (.int p0), .val (.int p1), .val (.int p2), .val (.int p3), .val (.int p4), .val (.int pe), .val (.ref b1), .val (.int en), .val (.int v35_0), .unset] [])
            refine Go.via (fun t k => XS.iload X35.here hx rfl (hb hby at_124) rfl k) ?_
            show Go p.tables e below P T35 (mkF m 126 #[.val (.int p0), .val (.int p1), .val (.int p2), .val (.int p3), .val (.int p4), .val (.int pe), .val (.ref b1), .val (.int en), .val (.int v35_0), .unset] [(.int v35_0)])
            refine Go.via (fun t k => XS.sipush X35.here hx rfl (hb hby at_126) k) ?_
            show Go p.tables e below P T35 (mkF m 129 #[.val (.int p0), .val (.int p1), .val (.int p2), .val (.int p3), .val (.int p4), .val (.int pe), .val (.ref b1), .val (.int en), .val (.int v35_0), .unset] [(.int (255 : Int32)), (.int v35_0)])
            refine Go.via (fun t k => XS.iand X35.here hx rfl (hb hby at_129) rfl k) ?_
            show Go p.tables e below P T35 (mkF m 130 #[.val (.int p0), .val (.int p1), .val (.int p2), .val (.int p3), .val (.int p4), .val (.int pe), .val (.ref b1), .val (.int en), .val (.int v35_0), .unset] [(.int (v35_0 &&& (255 : Int32)))])
            refine Go.via (fun t k => XS.istore X35.here hx rfl (hb hby at_130) rfl (l' := #[.val (.int p0), .val (.int p1), .val (.int p2), .val (.int p3), .val (.int p4), .val (.int pe), .val (.ref b1), .val (.int en), .val (.int v35_0), .val (.int (v35_0 &&& (255 : Int32)))]) rfl k) ?_
            show Go p.tables e below P T35 (mkF m 132 #[.val (.int p0), .val (.int p1), .val (.int p2), .val (.int p3), .val (.int p4), .val (.int pe), .val (.ref b1), .val (.int en), .val (.int v35_0), .val (.int (v35_0 &&& (255 : Int32)))] [])
            refine Go.via (fun t k => XS.aload X35.here hx rfl (hb hby at_132) rfl rfl k) ?_
            show Go p.tables e below P T35 (mkF m 134 #[.val (.int p0), .val (.int p1), .val (.int p2), .val (.int p3), .val (.int p4), .val (.int pe), .val (.ref b1), .val (.int en), .val (.int v35_0), .val (.int (v35_0 &&& (255 : Int32)))] [(.ref b1)])
            refine Go.via (fun t k => XS.iload X35.here hx rfl (hb hby at_134) rfl k) ?_
            show Go p.tables e below P T35 (mkF m 136 #[.val (.int p0), .val (.int p1), .val (.int p2), .val (.int p3), .val (.int p4), .val (.int pe), .val (.ref b1), .val (.int en), .val (.int v35_0), .val (.int (v35_0 &&& (255 : Int32)))] [(.int en), (.ref b1)])
            obtain ⟨_, _, ⟨T36, L36, k36, n36⟩, -, X36, ⟨Lc36, hQ36, l36, y36, z36⟩, st36⟩ := Jvm.LawKit.callS X35 hx (y := (⟨"com/example/splitbook/splitbook/tagvalue/TagValueMessage", "checkSum", "([BI)I"⟩ : MethodName)) hown (mvT hZ (hw _ (List.mem_of_getElem? (i := 2) rfl))) (mvT hZ (hw _ (List.mem_of_getElem? (i := 3) rfl))) (mvT hZ (hw _ (List.mem_of_getElem? (i := 4) rfl))) (mvT hZ (hw _ (List.mem_of_getElem? (i := 5) rfl))) (by decide) (backOf (W := 0) (rm1 l Z a0 hw [] b1 en k1 [nar .byte p0.toInt8.toInt32, nar .byte p1.toInt8.toInt32, nar .byte p2.toInt8.toInt32, nar .byte p3.toInt8.toInt32, nar .byte p4.toInt8.toInt32] mm h22 n0 Z23 V22 hmm hem) hZ (hw _ (List.mem_of_getElem? (i := 5) rfl)) (hw _ (List.mem_of_getElem? (i := 4) rfl)) (by decide) (by decide)) (g := (mkF m 136 #[.val (.int p0), .val (.int p1), .val (.int p2), .val (.int p3), .val (.int p4), .val (.int pe), .val (.ref b1), .val (.int en), .val (.int v35_0), .val (.int (v35_0 &&& (255 : Int32)))] [(.int en), (.ref b1)])) rfl (by rw [hml]; rfl) (argsL := [(.ref b1), (.int en)]) (rest := []) (lenOf own_pd0 rfl) rfl (by show 2 * 0 + _ ≤ _; exact Nat.le_of_eq rfl) (hb hby at_136) (fun _ _ => ⟨rfl, e35, (by decide : 1 + 0 ≤ _), (by decide : 5 + 0 ≤ _)⟩)
            dsimp only [Pt.U, Pt.locs, Pt.cells, Pt.slots] at X36 l36 y36 z36 st36 hQ36
            subst l36 y36 z36
            obtain ⟨rfl, Nq36, hh36⟩ := hQ36
            have N36 := Fr.app N35 Nq36
            refine Go.via st36 ?_
            show Go p.tables e below P T36 (mkF m 139 #[.val (.int p0), .val (.int p1), .val (.int p2), .val (.int p3), .val (.int p4), .val (.int pe), .val (.ref b1), .val (.int en), .val (.int v35_0), .val (.int (v35_0 &&& (255 : Int32)))] [(.int (own_ck [nar .byte p0.toInt8.toInt32, nar .byte p1.toInt8.toInt32, nar .byte p2.toInt8.toInt32, nar .byte p3.toInt8.toInt32, nar .byte p4.toInt8.toInt32] mm))])
            refine Go.via (fun t k => XS.iload X36.here hx rfl (hb hby at_139) rfl k) ?_
            show Go p.tables e below P T36 (mkF m 141 #[.val (.int p0), .val (.int p1), .val (.int p2), .val (.int p3), .val (.int p4), .val (.int pe), .val (.ref b1), .val (.int en), .val (.int v35_0), .val (.int (v35_0 &&& (255 : Int32)))] [(.int (v35_0 &&& (255 : Int32))), (.int (own_ck [nar .byte p0.toInt8.toInt32, nar .byte p1.toInt8.toInt32, nar .byte p2.toInt8.toInt32, nar .byte p3.toInt8.toInt32, nar .byte p4.toInt8.toInt32] mm))])
            refine Go.via (fun t k => XS.icmpNo X36.here hx rfl (hb hby at_141) rfl (teq (own_law p0 p1 p2 p3 p4 en _ _ _ _ _ mm hmm hem hv27_0 hv29_0 hv31_0 hv33_0 hv35_0)).2 k) ?_
            show Go p.tables e below P T36 (mkF m 144 #[.val (.int p0), .val (.int p1), .val (.int p2), .val (.int p3), .val (.int p4), .val (.int pe), .val (.ref b1), .val (.int en), .val (.int v35_0), .val (.int (v35_0 &&& (255 : Int32)))] [])
            refine Go.via (fun t k => XS.iconst X36.here hx rfl (hb hby at_144) k) ?_
            show Go p.tables e below P T36 (mkF m 145 #[.val (.int p0), .val (.int p1), .val (.int p2), .val (.int p3), .val (.int p4), .val (.int pe), .val (.ref b1), .val (.int en), .val (.int v35_0), .val (.int (v35_0 &&& (255 : Int32)))] [(.int (1 : Int32))])
            refine Go.via (fun t k => XS.goto X36.here hx rfl (pc0 := 145) (pc' := 149) rfl (hb hby at_145) (by decide) (by decide) k) ?_
            show Go p.tables e below P T36 (mkF m 149 #[.val (.int p0), .val (.int p1), .val (.int p2), .val (.int p3), .val (.int p4), .val (.int pe), .val (.ref b1), .val (.int en), .val (.int v35_0), .val (.int (v35_0 &&& (255 : Int32)))] [(.int (1 : Int32))])
            obtain ⟨fs, hr, hrun, hended, hW, hsame⟩ := X36.leave (v := some (.int (1 : Int32))) (fun h => by rw [Bd.returns] at h; cases h)
            refine ⟨_, _, retZ X36 hx (t := .boolean) Bd.returns (by simp) (hb hby at_149) rfl hr, hrun, hended, hP _ _ ⟨_, _, rfl, ?_, ⟨_, rfl⟩, hW, hsame.mono (by decide) (by decide)⟩⟩
            show Q0 Z p0 p1 p2 p3 p4 pe h0 n0 _ T36.heap _
            rw [hh36]
            exact ⟨rfl, N36⟩
          by_cases hc34 : (4 : Int32) < en
          · refine Go.via (fun t k => XS.icmpNo X33.here hx rfl (hb hby at_110) rfl (tlt hc34).2.2.2 k) ?_
            show Go p.tables e below P T33 (mkF m 113 #[.val (.int p0), .val (.int p1), .val (.int p2), .val (.int p3), .val (.int p4), .val (.int pe), .val (.ref b1), .val (.int en), .val (.int v33_0), .unset] [])
            refine Go.via (fun t k => XS.iload X33.here hx rfl (hb hby at_113) rfl k) ?_
            show Go p.tables e below P T33 (mkF m 115 #[.val (.int p0), .val (.int p1), .val (.int p2), .val (.int p3), .val (.int p4), .val (.int pe), .val (.ref b1), .val (.int en), .val (.int v33_0), .unset] [(.int v33_0)])
            refine Go.via (fun t k => XS.iload X33.here hx rfl (hb hby at_115) rfl k) ?_
            show Go p.tables e below P T33 (mkF m 117 #[.val (.int p0), .val (.int p1), .val (.int p2), .val (.int p3), .val (.int p4), .val (.int pe), .val (.ref b1), .val (.int en), .val (.int v33_0), .unset] [(.int p4), (.int v33_0)])
            refine Go.via (fun t k => XS.sipush X33.here hx rfl (hb hby at_117) k) ?_
            show Go p.tables e below P T33 (mkF m 120 #[.val (.int p0), .val (.int p1), .val (.int p2), .val (.int p3), .val (.int p4), .val (.int pe), .val (.ref b1), .val (.int en), .val (.int v33_0), .unset] [(.int (255 : Int32)), (.int p4), (.int v33_0)])
            refine Go.via (fun t k => XS.iand X33.here hx rfl (hb hby at_120) rfl k) ?_
            show Go p.tables e below P T33 (mkF m 121 #[.val (.int p0), .val (.int p1), .val (.int p2), .val (.int p3), .val (.int p4), .val (.int pe), .val (.ref b1), .val (.int en), .val (.int v33_0), .unset] [(.int (p4 &&& (255 : Int32))), (.int v33_0)])
            refine Go.via (fun t k => XS.iadd X33.here hx rfl (hb hby at_121) rfl k) ?_
            show Go p.tables e below P T33 (mkF m 122 #[.val (.int p0), .val (.int p1), .val (.int p2), .val (.int p3), .val (.int p4), .val (.int pe), .val (.ref b1), .val (.int en), .val (.int v33_0), .unset] [(.int (v33_0 + (p4 &&& (255 : Int32))))])
            refine Go.via (fun t k => XS.istore X33.here hx rfl (hb hby at_122) rfl (l' := #[.val (.int p0), .val (.int p1), .val (.int p2), .val (.int p3), .val (.int p4), .val (.int pe), .val (.ref b1), .val (.int en), .val (.int (v33_0 + (p4 &&& (255 : Int32)))), .unset]) rfl k) ?_
            exact J35 T33 _ (v33_0 + (p4 &&& (255 : Int32))) X33 e33 N33 (if_pos hc34).symm
          · refine Go.via (fun t k => XS.icmpYes X33.here hx rfl (pc0 := 110) (pc' := 124) rfl (hb hby at_110) rfl (flt hc34).2.2.2 (by decide) (by decide) k) ?_
            exact J35 T33 _ v33_0 X33 e33 N33 (if_neg hc34).symm
        by_cases hc32 : (3 : Int32) < en
        · refine Go.via (fun t k => XS.icmpNo X31.here hx rfl (hb hby at_94) rfl (tlt hc32).2.2.2 k) ?_
          show Go p.tables e below P T31 (mkF m 97 #[.val (.int p0), .val (.int p1), .val (.int p2), .val (.int p3), .val (.int p4), .val (.int pe), .val (.ref b1), .val (.int en), .val (.int v31_0), .unset] [])
          refine Go.via (fun t k => XS.iload X31.here hx rfl (hb hby at_97) rfl k) ?_
          show Go p.tables e below P T31 (mkF m 99 #[.val (.int p0), .val (.int p1), .val (.int p2), .val (.int p3), .val (.int p4), .val (.int pe), .val (.ref b1), .val (.int en), .val (.int v31_0), .unset] [(.int v31_0)])
          refine Go.via (fun t k => XS.iloadN X31.here hx rfl (hb hby at_99) rfl k) ?_
          show Go p.tables e below P T31 (mkF m 100 #[.val (.int p0), .val (.int p1), .val (.int p2), .val (.int p3), .val (.int p4), .val (.int pe), .val (.ref b1), .val (.int en), .val (.int v31_0), .unset] [(.int p3), (.int v31_0)])
          refine Go.via (fun t k => XS.sipush X31.here hx rfl (hb hby at_100) k) ?_
          show Go p.tables e below P T31 (mkF m 103 #[.val (.int p0), .val (.int p1), .val (.int p2), .val (.int p3), .val (.int p4), .val (.int pe), .val (.ref b1), .val (.int en), .val (.int v31_0), .unset] [(.int (255 : Int32)), (.int p3), (.int v31_0)])
          refine Go.via (fun t k => XS.iand X31.here hx rfl (hb hby at_103) rfl k) ?_
          show Go p.tables e below P T31 (mkF m 104 #[.val (.int p0), .val (.int p1), .val (.int p2), .val (.int p3), .val (.int p4), .val (.int pe), .val (.ref b1), .val (.int en), .val (.int v31_0), .unset] [(.int (p3 &&& (255 : Int32))), (.int v31_0)])
          refine Go.via (fun t k => XS.iadd X31.here hx rfl (hb hby at_104) rfl k) ?_
          show Go p.tables e below P T31 (mkF m 105 #[.val (.int p0), .val (.int p1), .val (.int p2), .val (.int p3), .val (.int p4), .val (.int pe), .val (.ref b1), .val (.int en), .val (.int v31_0), .unset] [(.int (v31_0 + (p3 &&& (255 : Int32))))])
          refine Go.via (fun t k => XS.istore X31.here hx rfl (hb hby at_105) rfl (l' := #[.val (.int p0), .val (.int p1), .val (.int p2), .val (.int p3), .val (.int p4), .val (.int pe), .val (.ref b1), .val (.int en), .val (.int (v31_0 + (p3 &&& (255 : Int32)))), .unset]) rfl k) ?_
          exact J33 T31 _ (v31_0 + (p3 &&& (255 : Int32))) X31 e31 N31 (if_pos hc32).symm
        · refine Go.via (fun t k => XS.icmpYes X31.here hx rfl (pc0 := 94) (pc' := 107) rfl (hb hby at_94) rfl (flt hc32).2.2.2 (by decide) (by decide) k) ?_
          exact J33 T31 _ v31_0 X31 e31 N31 (if_neg hc32).symm
      by_cases hc30 : (2 : Int32) < en
      · refine Go.via (fun t k => XS.icmpNo X29.here hx rfl (hb hby at_78) rfl (tlt hc30).2.2.2 k) ?_
        show Go p.tables e below P T29 (mkF m 81 #[.val (.int p0), .val (.int p1), .val (.int p2), .val (.int p3), .val (.int p4), .val (.int pe), .val (.ref b1), .val (.int en), .val (.int v29_0), .unset] [])
        refine Go.via (fun t k => XS.iload X29.here hx rfl (hb hby at_81) rfl k) ?_
        show Go p.tables e below P T29 (mkF m 83 #[.val (.int p0), .val (.int p1), .val (.int p2), .val (.int p3), .val (.int p4), .val (.int pe), .val (.ref b1), .val (.int en), .val (.int v29_0), .unset] [(.int v29_0)])
        refine Go.via (fun t k => XS.iloadN X29.here hx rfl (hb hby at_83) rfl k) ?_
        show Go p.tables e below P T29 (mkF m 84 #[.val (.int p0), .val (.int p1), .val (.int p2), .val (.int p3), .val (.int p4), .val (.int pe), .val (.ref b1), .val (.int en), .val (.int v29_0), .unset] [(.int p2), (.int v29_0)])
        refine Go.via (fun t k => XS.sipush X29.here hx rfl (hb hby at_84) k) ?_
        show Go p.tables e below P T29 (mkF m 87 #[.val (.int p0), .val (.int p1), .val (.int p2), .val (.int p3), .val (.int p4), .val (.int pe), .val (.ref b1), .val (.int en), .val (.int v29_0), .unset] [(.int (255 : Int32)), (.int p2), (.int v29_0)])
        refine Go.via (fun t k => XS.iand X29.here hx rfl (hb hby at_87) rfl k) ?_
        show Go p.tables e below P T29 (mkF m 88 #[.val (.int p0), .val (.int p1), .val (.int p2), .val (.int p3), .val (.int p4), .val (.int pe), .val (.ref b1), .val (.int en), .val (.int v29_0), .unset] [(.int (p2 &&& (255 : Int32))), (.int v29_0)])
        refine Go.via (fun t k => XS.iadd X29.here hx rfl (hb hby at_88) rfl k) ?_
        show Go p.tables e below P T29 (mkF m 89 #[.val (.int p0), .val (.int p1), .val (.int p2), .val (.int p3), .val (.int p4), .val (.int pe), .val (.ref b1), .val (.int en), .val (.int v29_0), .unset] [(.int (v29_0 + (p2 &&& (255 : Int32))))])
        refine Go.via (fun t k => XS.istore X29.here hx rfl (hb hby at_89) rfl (l' := #[.val (.int p0), .val (.int p1), .val (.int p2), .val (.int p3), .val (.int p4), .val (.int pe), .val (.ref b1), .val (.int en), .val (.int (v29_0 + (p2 &&& (255 : Int32)))), .unset]) rfl k) ?_
        exact J31 T29 _ (v29_0 + (p2 &&& (255 : Int32))) X29 e29 N29 (if_pos hc30).symm
      · refine Go.via (fun t k => XS.icmpYes X29.here hx rfl (pc0 := 78) (pc' := 91) rfl (hb hby at_78) rfl (flt hc30).2.2.2 (by decide) (by decide) k) ?_
        exact J31 T29 _ v29_0 X29 e29 N29 (if_neg hc30).symm
    by_cases hc28 : (1 : Int32) < en
    · refine Go.via (fun t k => XS.icmpNo X27.here hx rfl (hb hby at_62) rfl (tlt hc28).2.2.2 k) ?_
      show Go p.tables e below P T27 (mkF m 65 #[.val (.int p0), .val (.int p1), .val (.int p2), .val (.int p3), .val (.int p4), .val (.int pe), .val (.ref b1), .val (.int en), .val (.int v27_0), .unset] [])
      refine Go.via (fun t k => XS.iload X27.here hx rfl (hb hby at_65) rfl k) ?_
      show Go p.tables e below P T27 (mkF m 67 #[.val (.int p0), .val (.int p1), .val (.int p2), .val (.int p3), .val (.int p4), .val (.int pe), .val (.ref b1), .val (.int en), .val (.int v27_0), .unset] [(.int v27_0)])
      refine Go.via (fun t k => XS.iloadN X27.here hx rfl (hb hby at_67) rfl k) ?_
      show Go p.tables e below P T27 (mkF m 68 #[.val (.int p0), .val (.int p1), .val (.int p2), .val (.int p3), .val (.int p4), .val (.int pe), .val (.ref b1), .val (.int en), .val (.int v27_0), .unset] [(.int p1), (.int v27_0)])
      refine Go.via (fun t k => XS.sipush X27.here hx rfl (hb hby at_68) k) ?_
      show Go p.tables e below P T27 (mkF m 71 #[.val (.int p0), .val (.int p1), .val (.int p2), .val (.int p3), .val (.int p4), .val (.int pe), .val (.ref b1), .val (.int en), .val (.int v27_0), .unset] [(.int (255 : Int32)), (.int p1), (.int v27_0)])
      refine Go.via (fun t k => XS.iand X27.here hx rfl (hb hby at_71) rfl k) ?_
      show Go p.tables e below P T27 (mkF m 72 #[.val (.int p0), .val (.int p1), .val (.int p2), .val (.int p3), .val (.int p4), .val (.int pe), .val (.ref b1), .val (.int en), .val (.int v27_0), .unset] [(.int (p1 &&& (255 : Int32))), (.int v27_0)])
      refine Go.via (fun t k => XS.iadd X27.here hx rfl (hb hby at_72) rfl k) ?_
      show Go p.tables e below P T27 (mkF m 73 #[.val (.int p0), .val (.int p1), .val (.int p2), .val (.int p3), .val (.int p4), .val (.int pe), .val (.ref b1), .val (.int en), .val (.int v27_0), .unset] [(.int (v27_0 + (p1 &&& (255 : Int32))))])
      refine Go.via (fun t k => XS.istore X27.here hx rfl (hb hby at_73) rfl (l' := #[.val (.int p0), .val (.int p1), .val (.int p2), .val (.int p3), .val (.int p4), .val (.int pe), .val (.ref b1), .val (.int en), .val (.int (v27_0 + (p1 &&& (255 : Int32)))), .unset]) rfl k) ?_
      exact J29 T27 _ (v27_0 + (p1 &&& (255 : Int32))) X27 e27 N27 (if_pos hc28).symm
    · refine Go.via (fun t k => XS.icmpYes X27.here hx rfl (pc0 := 62) (pc' := 75) rfl (hb hby at_62) rfl (flt hc28).2.2.2 (by decide) (by decide) k) ?_
      exact J29 T27 _ v27_0 X27 e27 N27 (if_neg hc28).symm
  by_cases hc26 : (0 : Int32) < en
  · refine Go.via (fun t k => XS.ifNo X22.here hx rfl (hb hby at_46) rfl ((if0 _ _).trans (tlt hc26).2.2.2) k) ?_
    show Go p.tables e below P T22 (mkF m 49 #[.val (.int p0), .val (.int p1), .val (.int p2), .val (.int p3), .val (.int p4), .val (.int pe), .val (.ref b1), .val (.int en), .val (.int (0 : Int32)), .unset] [])
    refine Go.via (fun t k => XS.iload X22.here hx rfl (hb hby at_49) rfl k) ?_
    show Go p.tables e below P T22 (mkF m 51 #[.val (.int p0), .val (.int p1), .val (.int p2), .val (.int p3), .val (.int p4), .val (.int pe), .val (.ref b1), .val (.int en), .val (.int (0 : Int32)), .unset] [(.int (0 : Int32))])
    refine Go.via (fun t k => XS.iloadN X22.here hx rfl (hb hby at_51) rfl k) ?_
    show Go p.tables e below P T22 (mkF m 52 #[.val (.int p0), .val (.int p1), .val (.int p2), .val (.int p3), .val (.int p4), .val (.int pe), .val (.ref b1), .val (.int en), .val (.int (0 : Int32)), .unset] [(.int p0), (.int (0 : Int32))])
    refine Go.via (fun t k => XS.sipush X22.here hx rfl (hb hby at_52) k) ?_
    show Go p.tables e below P T22 (mkF m 55 #[.val (.int p0), .val (.int p1), .val (.int p2), .val (.int p3), .val (.int p4), .val (.int pe), .val (.ref b1), .val (.int en), .val (.int (0 : Int32)), .unset] [(.int (255 : Int32)), (.int p0), (.int (0 : Int32))])
    refine Go.via (fun t k => XS.iand X22.here hx rfl (hb hby at_55) rfl k) ?_
    show Go p.tables e below P T22 (mkF m 56 #[.val (.int p0), .val (.int p1), .val (.int p2), .val (.int p3), .val (.int p4), .val (.int pe), .val (.ref b1), .val (.int en), .val (.int (0 : Int32)), .unset] [(.int (p0 &&& (255 : Int32))), (.int (0 : Int32))])
    refine Go.via (fun t k => XS.iadd X22.here hx rfl (hb hby at_56) rfl k) ?_
    show Go p.tables e below P T22 (mkF m 57 #[.val (.int p0), .val (.int p1), .val (.int p2), .val (.int p3), .val (.int p4), .val (.int pe), .val (.ref b1), .val (.int en), .val (.int (0 : Int32)), .unset] [(.int ((0 : Int32) + (p0 &&& (255 : Int32))))])
    refine Go.via (fun t k => XS.istore X22.here hx rfl (hb hby at_57) rfl (l' := #[.val (.int p0), .val (.int p1), .val (.int p2), .val (.int p3), .val (.int p4), .val (.int pe), .val (.ref b1), .val (.int en), .val (.int ((0 : Int32) + (p0 &&& (255 : Int32)))), .unset]) rfl k) ?_
    exact J27 T22 _ ((0 : Int32) + (p0 &&& (255 : Int32))) X22 e22 N25 (if_pos hc26).symm
  · refine Go.via (fun t k => XS.ifYes X22.here hx rfl (pc0 := 46) (pc' := 59) rfl (hb hby at_46) rfl ((if0 _ _).trans (flt hc26).2.2.2) (by decide) (by decide) k) ?_
    exact J27 T22 _ (0 : Int32) X22 e22 N25 (if_neg hc26).symm
set_option maxRecDepth 65536 in
set_option maxHeartbeats 40000000 in
theorem comes_1 {Post : Tables → Env → Array Value → State → Outcome → State → Prop} (hpost : ∀ tb e args s v u, (limb_1_1.after args s (.returned v) u = true ∧ limb_1_2.after args s (.returned v) u = true ∧ True) → FrameEnd s (.returned v) u (Jvm.fieldLocs frame_1_writes args s ++ Jvm.arrayLocs frame_1_arrays args s ++ Jvm.staticLocs frame_1_statics s) 16 128 → Post tb e args s (.returned v) u) :
    ArmFor flags0 classFile x code maxLocals ret World_1 tables_1 room_1 Calls_1 rest_1 Pre_1 Post := by
  intro l hfl _ _ p e ha hc hk s m args below hf hA hF happ hP
  obtain ⟨hcalls, hrest, hpre⟩ := hP
  obtain ⟨-, -, -, hnamed, -, -, -, hat⟩ := (Spec.applies_iff hf).mp happ
  obtain ⟨hg, hn⟩ := and_e (Cond.before_iff.mp (show (Jvm.Cond.and given_1 narrow_1).before args s = true from hpre))
  obtain ⟨hv0, hr0⟩ := and_e hg
  obtain ⟨hv1, hr1⟩ := and_e hr0
  obtain ⟨hv2, hr2⟩ := and_e hr1
  obtain ⟨hv3, hr3⟩ := and_e hr2
  obtain ⟨hv4, hr4⟩ := and_e hr3
  obtain ⟨hv5, hr5⟩ := and_e hr4
  obtain ⟨w0, w1, w2, w3, w4, w5, rfl⟩ : ∃ w0 w1 w2 w3 w4 w5 : Value, args = #[w0, w1, w2, w3, w4, w5] := by
    have hs : args.size = 6 := by simpa [Cond.value, given_1] using hv0
    obtain ⟨L⟩ := args
    match L, hs with
    | [w0, w1, w2, w3, w4, w5], _ => exact ⟨w0, w1, w2, w3, w4, w5, rfl⟩
  have hw := fun d (hd : d ∈ tables_1) => atoms_spec (ws := Jvm.Cond.code x code maxLocals ret :: tables_1) hat d (List.mem_cons_of_mem _ hd)
  have hfit : Fit s := fun {y c} hc i hi => by
    obtain ⟨ha, rfl⟩ := Array.getElem?_eq_some_iff.mp hc
    have q := List.all_eq_true.mp ((Array.all_eq_true_iff_forall_mem.mp hF) _ (Array.getElem_mem ha)) i (List.mem_range.mpr hi)
    simpa [Array.getElem?_eq_getElem hi] using q
  obtain ⟨i0, ei0⟩ := is_v hv1
  obtain rfl : w0 = (.int i0) := Option.some.inj ei0
  obtain ⟨i1, ei1⟩ := is_v hv2
  obtain rfl : w1 = (.int i1) := Option.some.inj ei1
  obtain ⟨i2, ei2⟩ := is_v hv3
  obtain rfl : w2 = (.int i2) := Option.some.inj ei2
  obtain ⟨i3, ei3⟩ := is_v hv4
  obtain rfl : w3 = (.int i3) := Option.some.inj ei3
  obtain ⟨i4, ei4⟩ := is_v hv5
  obtain rfl : w4 = (.int i4) := Option.some.inj ei4
  obtain ⟨i5, ei5⟩ := is_v hr5
  obtain rfl : w5 = (.int i5) := Option.some.inj ei5
  obtain ⟨n, o, h1, h2, h3, _, L, rfl, ⟨rfl, N⟩, hq⟩ := rm0 l s _ hw tables_1 i0 i1 i2 i3 i4 i5 s.heap s.heap.size (Nat.le_refl _)  p e ha hc hk s m _ below hf ((Spec.applies_iff_loose hf).mp happ).1 ⟨rfl, State.Warmed39.refl s, rfl⟩ trivial
  refine ⟨n, _, h1, h2, h3, hpost _ _ _ _ _ _ ⟨Cond.after_iff.mpr rfl, Cond.after_iff.mpr (eq_i res_at (Term.int_eval (1)) rfl), trivial⟩ ⟨hq.1, hq.2.1, (hq.2.2.sift fun y hy => Or.inr (N y hy)).mono (by decide) (by decide)⟩⟩
theorem main_1_1 : Claimed_1_1 := comes_1 fun _ _ _ _ _ _ h hF => ⟨h.1, hF⟩
theorem main_1_2 : Claimed_1_2 := comes_1 fun _ _ _ _ _ _ h hF => ⟨h.2.1, hF⟩
end Jvm.Pilot.@@N@@
namespace Jvm.Pilot.@@N@@
open Jvm Jvm.ClassFile Sem Op Lib Jvm.Free Jvm.Stand Jvm.Pilot.@@N@@.Jvm.D
/-! MADE BY PROGRAM (witnessworld.py) out of the Statement's table words and the real class files: 9 classes; the members and pool entries that the words name. The judged class is class 1, her method 1. -/
namespace start1
open Jvm.ClassFile
def u (s : String) : CpInfo := .utf8 (stringToUtf16 s)
/-- a pool by its gaps: so many unusable entries, then the entry; so many at the end -/
def gap : Nat → List CpInfo → List CpInfo
  | 0, r => r
  | n + 1, r => .unusable :: gap n r
def poolList (es : List (Nat × CpInfo)) (last : Nat) : List CpInfo := es.foldr (fun e r => gap e.1 (e.2 :: r)) (gap last [])
def pool (es : List (Nat × CpInfo)) (last : Nat) : Array CpInfo := ⟨poolList es last⟩
def fileOf (pool : Array CpInfo) (this : Nat) (attrs : Array Attribute := #[]) (ms : Array MethodInfo := #[]) (fl : Nat := 33) (sup : Nat := 0) (ifs : Array Nat := #[]) (fds : Array FieldInfo := #[]) : ClassFile where
  minorVersion := 0
  majorVersion := 65
  constantPool := pool
  accessFlags := fl
  thisClass := this
  superClass := sup
  interfaces := ifs
  fields := fds
  methods := ms
  attributes := attrs
def plain (name : String) (sup : Option ClassId) : Class where
  name := name
  kind := .ordinary
  loader := none
  accessFlags := 33
  super := sup
  interfaces := #[]
  cf := none
  fields := #[]
  methods := #[]
  instanceTypes := #[]
  staticTypes := #[]
  resolved := #[]
  callSites := []
  init := .initialized
  statics := none
  mirror := none

def pool0 : Array CpInfo := pool [(5, u "<init>"), (0, u "()V"), (1, .class_ 10), (1, u "java/lang/Object")] 113

def k0m0 : Method := { name := "<init>", desc := "()V", sig := { parameters := [], returnType := none }, accessFlags := 1, code := none }
/-- java/lang/Object -/
def k0 : Class := { plain "java/lang/Object" none with
  accessFlags := 33
  interfaces := #[]
  cf := some (fileOf pool0 8 #[] #[{ accessFlags := 1, nameIndex := 5, descriptorIndex := 6, attributes := #[] }] 33 0 #[] #[])
  fields := #[]
  methods := #[k0m0]
  instanceTypes := #[]
  staticTypes := #[]
  resolved := Array.replicate 124 none
  statics := none }

def pool1 : Array CpInfo := pool [(2, .class_ 4), (1, u "java/lang/Object"), (0, u "<init>"), (0, u "()V"), (0, .integer 2147483647), (0, .methodref 9 10), (0, .class_ 11), (0, .nameAndType 12 13), (0, u "com/example/splitbook/splitbook/tagvalue/TagValueMessage"), (0, u "checkSum"), (0, u "([BI)I"), (0, .class_ 15), (0, u "com/example/splitbook/splitbook/tagvalue/TagValueMessageCheckSumPinLaw"), (2, u "law"), (0, u "(IIIIII)Z")] 5

def k1m0 : Method := { name := "<init>", desc := "()V", sig := { parameters := [], returnType := none }, accessFlags := 1, code := none }
def k1c1 : Code := { maxStack := 4, maxLocals := 10, code := code, exceptionTable := #[], attributes := #[] }
def k1m1 : Method := { name := "law", desc := "(IIIIII)Z", sig := { parameters := [.int, .int, .int, .int, .int, .int], returnType := some .boolean }, accessFlags := 9, code := some k1c1 }
/-- com/example/splitbook/splitbook/tagvalue/TagValueMessageCheckSumPinLaw -/
def k1 : Class := { plain "com/example/splitbook/splitbook/tagvalue/TagValueMessageCheckSumPinLaw" (some 0) with
  accessFlags := 49
  interfaces := #[]
  cf := some (fileOf pool1 14 #[] #[{ accessFlags := 1, nameIndex := 5, descriptorIndex := 6, attributes := #[] }, { accessFlags := 9, nameIndex := 18, descriptorIndex := 19, attributes := #[] }] 49 2 #[] #[])
  fields := #[]
  methods := #[k1m0, k1m1]
  instanceTypes := #[]
  staticTypes := #[]
  resolved := Array.replicate 25 none
  statics := none }

def pool2 : Array CpInfo := pool [(4, .class_ 6), (1, u "java/lang/Object"), (3, .class_ 12), (1, u "com/example/splitbook/splitbook/tagvalue/TagValueMessage"), (0, u "bytes"), (0, u "[B"), (2, u "tags"), (0, u "[I"), (2, u "valueStarts"), (2, u "valueEnds"), (92, u "checkSum"), (0, u "([BI)I"), (11, .long 256), (35, u "SOH"), (0, u "B"), (2, u "BEGIN_STRING"), (0, u "I"), (1, u "BODY_LENGTH"), (1, u "MSG_TYPE"), (1, u "CHECK_SUM"), (1, u "BEYOND_INT"), (0, u "J")] 42

def k2c0 : Code := { maxStack := 4, maxLocals := 5, code := prog_38_method_6_code, exceptionTable := #[], attributes := #[] }
def k2m0 : Method := { name := "checkSum", desc := "([BI)I", sig := { parameters := [(.array .byte), .int], returnType := some .int }, accessFlags := 8, code := some k2c0 }
/-- com/example/splitbook/splitbook/tagvalue/TagValueMessage -/
def k2 : Class := { plain "com/example/splitbook/splitbook/tagvalue/TagValueMessage" (some 0) with
  accessFlags := 49
  interfaces := #[]
  cf := some (fileOf pool2 10 #[] #[{ accessFlags := 8, nameIndex := 117, descriptorIndex := 118, attributes := #[] }] 49 4 #[] #[{ accessFlags := 25, nameIndex := 166, descriptorIndex := 167, attributes := #[] }, { accessFlags := 24, nameIndex := 170, descriptorIndex := 171, attributes := #[] }, { accessFlags := 24, nameIndex := 173, descriptorIndex := 171, attributes := #[] }, { accessFlags := 24, nameIndex := 175, descriptorIndex := 171, attributes := #[] }, { accessFlags := 24, nameIndex := 177, descriptorIndex := 171, attributes := #[] }, { accessFlags := 26, nameIndex := 179, descriptorIndex := 180, attributes := #[] }, { accessFlags := 18, nameIndex := 13, descriptorIndex := 14, attributes := #[] }, { accessFlags := 18, nameIndex := 17, descriptorIndex := 18, attributes := #[] }, { accessFlags := 18, nameIndex := 21, descriptorIndex := 18, attributes := #[] }, { accessFlags := 18, nameIndex := 24, descriptorIndex := 18, attributes := #[] }])
  fields := #[{ name := "SOH", type := .byte, accessFlags := 25, slot := 0, constantValue := 0 }, { name := "BEGIN_STRING", type := .int, accessFlags := 24, slot := 1, constantValue := 0 }, { name := "BODY_LENGTH", type := .int, accessFlags := 24, slot := 2, constantValue := 0 }, { name := "MSG_TYPE", type := .int, accessFlags := 24, slot := 3, constantValue := 0 }, { name := "CHECK_SUM", type := .int, accessFlags := 24, slot := 4, constantValue := 0 }, { name := "BEYOND_INT", type := .long, accessFlags := 26, slot := 5, constantValue := 0 }, { name := "bytes", type := (.array .byte), accessFlags := 18, slot := 0, constantValue := 0 }, { name := "tags", type := (.array .int), accessFlags := 18, slot := 1, constantValue := 0 }, { name := "valueStarts", type := (.array .int), accessFlags := 18, slot := 2, constantValue := 0 }, { name := "valueEnds", type := (.array .int), accessFlags := 18, slot := 3, constantValue := 0 }]
  methods := #[k2m0]
  instanceTypes := #[(.array .byte), (.array .int), (.array .int), (.array .int)]
  staticTypes := #[.byte, .int, .int, .int, .int, .long]
  resolved := Array.replicate 223 none
  statics := none }

def pool3 : Array CpInfo := pool [(1, u "java/lang/Cloneable"), (0, .class_ 1), (0, u "java/lang/Object"), (0, .class_ 3)] 3

/-- java/lang/Cloneable -/
def k3 : Class := { plain "java/lang/Cloneable" (some 0) with
  accessFlags := 1537
  interfaces := #[]
  cf := some (fileOf pool3 2 #[] #[] 1537 4 #[] #[])
  fields := #[]
  methods := #[]
  instanceTypes := #[]
  staticTypes := #[]
  resolved := Array.replicate 8 none
  statics := none }

def pool4 : Array CpInfo := pool [(1, u "java/io/Serializable"), (0, .class_ 1), (0, u "java/lang/Object"), (0, .class_ 3)] 3

/-- java/io/Serializable -/
def k4 : Class := { plain "java/io/Serializable" (some 0) with
  accessFlags := 1537
  interfaces := #[]
  cf := some (fileOf pool4 2 #[] #[] 1537 4 #[] #[])
  fields := #[]
  methods := #[]
  instanceTypes := #[]
  staticTypes := #[]
  resolved := Array.replicate 8 none
  statics := none }

/-- the primitive byte -/
def k5 : Class := { plain "byte" none with kind := .primitive 'B', accessFlags := 0x411 }
/-- [B -/
def k6 : Class := { plain "[B" (some 0) with kind := .array 5 .byte, interfaces := #[3, 4], accessFlags := 1041 }

/-- the primitive int -/
def k7 : Class := { plain "int" none with kind := .primitive 'I', accessFlags := 0x411 }
/-- [I -/
def k8 : Class := { plain "[I" (some 0) with kind := .array 7 .int, interfaces := #[3, 4], accessFlags := 1041 }

def heap : Heap := #[]
def classes : Array Class := #[k0, k1, k2, k3, k4, k5, k6, k7, k8]
def interned : List (Array UInt16 × Addr) := []
def slotsUsed : Nat := 0
def theMethod : MethodId := ⟨1, 1⟩
def args0 : Array Value := #[.int 5, .int 7, .int 300, .int 4, .int 2, .int 3]
def aboutOver (below : List Frame) : State where
  vm := { classes := classes, interned := interned.toArray }
  heap := heap
  slotsUsed := slotsUsed
  threads := #[{ frames := .invoking theMethod args0 :: below }]
def below0 : List Frame := [.native { method := ⟨0, 0⟩, args := #[] }]
def about1 : State := aboutOver below0
def p0 : Program := .bare "" "" ""
def e0 : Env := launch0.env 0 0 0
theorem w_frames : about1.frames = Frame.invoking theMethod args0 :: below0 := rfl
set_option maxRecDepth 65536 in
theorem w_args : argsFit about1.vm theMethod args0 = true := by decide +kernel
set_option maxRecDepth 65536 in
theorem w_heap : heapFits about1 = true := by decide +kernel
set_option maxRecDepth 65536 in
theorem w_runnable : about1.curStatus? = some .runnable := by decide +kernel
set_option maxRecDepth 65536 in
theorem w_alone : about1.alone = true := by decide +kernel
set_option maxRecDepth 65536 in
theorem w_named : about1.methodNamed? x = some theMethod := by decide +kernel
set_option maxRecDepth 65536 in
theorem w_hears : about1.hears theMethod below0 = true := by decide +kernel
set_option maxRecDepth 65536 in
theorem w_ripe : about1.ripe theMethod args0 below0 = true := by decide +kernel
theorem w_running : about1.status = .running := rfl
set_option maxRecDepth 65536 in
theorem w_room : about1.hasRoom e0.platform room_1 = true :=
  launch0.hasRoom_least _ room_1 (by decide +kernel) (by decide +kernel) (by decide +kernel) (by decide +kernel) (by decide +kernel) (by decide +kernel)
theorem allAtoms_all (ts : List Jvm.Cond) (a : Array Jvm.Value) (st : Jvm.State) : (allAtoms ts).before a st = ts.all (fun c => c.before a st) := by
  induction ts with
  | nil => rfl
  | cons c t ih =>
    show (Jvm.Cond.and c (allAtoms t)).before a st = _
    rw [Jvm.Cond.before_and, ih, List.all_cons]
def words1 : List Jvm.Cond := Jvm.Cond.code x code maxLocals ret :: tables_1
/-- a 'code' word, met by the world's own term for the bytes: nothing is compared byte by byte -/
theorem code_word {y : MethodName} {bytes : ByteArray} {mx : Nat} {rt : Option FieldType} {a : Array Value} {s : State} {m : MethodId} {meth : Method} {c : Code} (h1 : s.methodNamed? y = some m) (h2 : s.vm.method? m = some meth) (h3 : meth.code = some c) (h4 : c.code = bytes)
    (h5 : (c.maxLocals == mx && c.exceptionTable.isEmpty && decide (c.maxStack ≤ mostOperands) && decide (meth.sig.returnType = rt) && !meth.locks && decide (parseMethodDescriptor y.desc = some meth.sig)) = true) : (Jvm.Cond.code y bytes mx rt).before a s = true := by
  simp only [Bool.and_eq_true, beq_iff_eq, Bool.not_eq_true', decide_eq_true_eq] at h5
  obtain ⟨⟨⟨⟨⟨g1, g2⟩, g3⟩, g4⟩, g5⟩, g6⟩ := h5
  simp [Cond.before, Cond.holds, Cond.value, h1, h2, h3, h4, g1, g2, g3, g4, g5, g6]
def isCode : Jvm.Cond → Bool
  | .code _ _ _ _ => true
  | _ => false
theorem all_split {L : List Jvm.Cond} {P : Jvm.Cond → Bool} (h1 : L.all (fun c => isCode c || P c) = true) (h2 : ∀ c ∈ L.filter isCode, P c = true) : L.all P = true := by
  refine List.all_eq_true.mpr fun c hc => ?_
  have h := List.all_eq_true.mp h1 c hc
  rcases Bool.eq_false_or_eq_true (isCode c) with hi | hi
  · exact h2 c (List.mem_filter.mpr ⟨hc, hi⟩)
  · simpa [hi] using h
set_option maxRecDepth 65536 in
theorem w_c0 : (Jvm.Cond.code x code maxLocals ret).before args0 about1 = true := code_word (m := ⟨1, 1⟩) (meth := k1m1) (c := k1c1) (by decide +kernel) rfl rfl rfl (by decide +kernel)
set_option maxRecDepth 65536 in
theorem w_c1 : (Jvm.Cond.code ({ cls := "com/example/splitbook/splitbook/tagvalue/TagValueMessage", name := "checkSum", desc := "([BI)I" } : Jvm.MethodName) prog_38_method_6_code (5 : Nat) (Option.some Jvm.ClassFile.FieldType.int)).before args0 about1 = true := code_word (m := ⟨2, 0⟩) (meth := k2m0) (c := k2c0) (by decide +kernel) rfl rfl rfl (by decide +kernel)
def codes1 : List Jvm.Cond := [Jvm.Cond.code x code maxLocals ret, Jvm.Cond.code ({ cls := "com/example/splitbook/splitbook/tagvalue/TagValueMessage", name := "checkSum", desc := "([BI)I" } : Jvm.MethodName) prog_38_method_6_code (5 : Nat) (Option.some Jvm.ClassFile.FieldType.int)]
set_option maxRecDepth 65536 in
theorem codes_eq : words1.filter isCode = codes1 := rfl
theorem w_codes : ∀ c ∈ words1.filter isCode, c.before args0 about1 = true := by
  rw [codes_eq]
  intro c hc
  simp only [codes1, List.mem_cons, List.not_mem_nil, or_false] at hc
  rcases hc with rfl | rfl
  · exact w_c0
  · exact w_c1
set_option maxRecDepth 65536 in
theorem w_t1 : words1.all (fun c => isCode c || c.before args0 about1) = true := by decide +kernel
theorem w_tables : (allAtoms (Jvm.Cond.code x code maxLocals ret :: tables_1)).before args0 about1 = true := by
  rw [allAtoms_all]
  show words1.all (fun c => c.before args0 about1) = true
  refine all_split ?_ w_codes
  rw [w_t1]
set_option maxRecDepth 65536 in
theorem w_case : (Jvm.Cond.and given_1 narrow_1).before args0 about1 = true := by decide +kernel
theorem w_applies : (headSpec (Jvm.Cond.code x code maxLocals ret :: tables_1) room_1).applies x e0.platform about1 = true :=
  (Spec.applies_iff w_frames).mpr ⟨w_running, w_runnable, w_alone, w_named, w_hears, w_ripe, w_room, w_tables⟩
theorem atStart : AtStart classFile x code maxLocals ret World_1 tables_1 room_1 Calls_1 rest_1 Pre_1 launch0 p0 e0 about1 theMethod args0 below0 :=
  ⟨lists_1, trivial, launch0.admits_env _ _ _, launch0.least_env, fairChoices_fair.cas, fairChoices_fair.clock, w_frames, w_args, w_heap, w_applies, trivial, trivial, w_case⟩
end start1
theorem witness_1 : WitnessClaimed_1 := ⟨start1.p0, start1.e0, start1.about1, start1.theMethod, start1.args0, start1.below0, start1.atStart⟩
end Jvm.Pilot.@@N@@
