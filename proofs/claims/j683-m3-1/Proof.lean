import JvmDerived
import JvmDerived.Pilot.@@N@@Statement
import JvmDerived.Pilot.@@N@@Code
set_option linter.unusedVariables false
set_option linter.unusedSimpArgs false
namespace Jvm.RoadKit
open Sem ClassFile Op Lib Jvm.Stand Jvm.Free Jvm.LawKit
section Own
variable {p : Program} {l : Launch} {e : Env} {R : Room} {s : State} {m : MethodId} {args : Array Value} {below : List Frame} {meth : Method} {c : Code} {T : State} {locs : List Loc} {cells slots : Nat}
theorem retI (X : Stand p l e R s m args below meth c T locs cells slots) (hx : p.tables.exec = Jvm.exec) {pc : Nat} {Ls : Array Slot} {z : Int32} {rest : List Value} (hret : meth.sig.returnType = some .int) (hd : decode c.code pc = .ok (.ireturn, 1)) {fs : List Frame}
    (hl : ∀ (f : JFrame) (acts : List Action), f.method = m → f.locked = none → f.entered = [] → (doReturn e (T.setTop f) acts (some (.int z))).1 = T.setFrames fs) : Steps p.tables e below (T.setTop (mkF m pc Ls (.int z :: rest))) (T.setFrames fs) :=
  retOut X hx hret rfl (Or.inl ⟨rfl, Or.inl rfl, _, rfl⟩) hd hl
theorem retJ (X : Stand p l e R s m args below meth c T locs cells slots) (hx : p.tables.exec = Jvm.exec) {pc : Nat} {Ls : Array Slot} {z : Int64} {rest : List Value} (hret : meth.sig.returnType = some .long) (hd : decode c.code pc = .ok (.lreturn, 1)) {fs : List Frame}
    (hl : ∀ (f : JFrame) (acts : List Action), f.method = m → f.locked = none → f.entered = [] → (doReturn e (T.setTop f) acts (some (.long z))).1 = T.setFrames fs) : Steps p.tables e below (T.setTop (mkF m pc Ls (.long z :: rest))) (T.setFrames fs) :=
  retOut X hx hret rfl (Or.inr (Or.inl ⟨rfl, rfl, _, rfl⟩)) hd hl
theorem retA (X : Stand p l e R s m args below meth c T locs cells slots) (hx : p.tables.exec = Jvm.exec) {pc : Nat} {Ls : Array Slot} {t : FieldType} {z : Value} {rest : List Value} (hret : meth.sig.returnType = some t) (hn : narrow t z = z) (ht : t.isReference = true) (hz : z.isRef = true) (hd : decode c.code pc = .ok (.areturn, 1)) {fs : List Frame}
    (hl : ∀ (f : JFrame) (acts : List Action), f.method = m → f.locked = none → f.entered = [] → (doReturn e (T.setTop f) acts (some z)).1 = T.setFrames fs) : Steps p.tables e below (T.setTop (mkF m pc Ls (z :: rest))) (T.setFrames fs) :=
  retOut X hx hret hn (Or.inr (Or.inr (Or.inr (Or.inr ⟨rfl, ht, hz⟩)))) hd hl
theorem retZ (X : Stand p l e R s m args below meth c T locs cells slots) (hx : p.tables.exec = Jvm.exec) {pc : Nat} {Ls : Array Slot} {z r : Int32} {t : FieldType} {rest : List Value} (hret : meth.sig.returnType = some t) (ht : t = .boolean ∨ t = .byte ∨ t = .char ∨ t = .short)
    (hd : decode c.code pc = .ok (.ireturn, 1)) (hn : nar t z = r) {fs : List Frame} (hl : ∀ (f : JFrame) (acts : List Action), f.method = m → f.locked = none → f.entered = [] → (doReturn e (T.setTop f) acts (some (.int r))).1 = T.setFrames fs) :
    Steps p.tables e below (T.setTop (mkF m pc Ls (.int z :: rest))) (T.setFrames fs) := retN X hx hret ht hd (by rw [hn]; exact hl)
theorem ownUp (X : Stand p l e R s m args below meth c T locs cells slots) {cells' slots' : Nat} (h1 : cells ≤ cells') (h2 : slots ≤ slots') : Stand p l e R s m args below meth c T locs cells' slots' :=
  ⟨X.admits, X.cas, X.clock, X.frames, X.room, X.hears, X.method, X.code, X.here, X.tail, X.warmed, X.limits, X.bytes, X.same.mono h1 h2⟩
end Own
def Go (tb : Tables) (e : Env) (below : List Frame) (P : Outcome → State → Prop) (T : State) (f : JFrame) : Prop :=
  ∃ s₂ o, Steps tb e below (T.setTop f) s₂ ∧ s₂.status = .running ∧ Ended s₂ below o ∧ P o s₂
theorem Go.via {tb : Tables} {e : Env} {below : List Frame} {P : Outcome → State → Prop} {T T' : State} {f f' : JFrame} (st : ∀ t, Steps tb e below (T'.setTop f') t → Steps tb e below (T.setTop f) t) (k : Go tb e below P T' f') : Go tb e below P T f := by
  obtain ⟨s₂, o, h, r⟩ := k; exact ⟨s₂, o, st _ h, r⟩
theorem Go.hop {tb : Tables} {e : Env} {below : List Frame} {P : Outcome → State → Prop} {T T' : State} {f f' : JFrame} (st : Steps tb e below (T.setTop f) (T'.setTop f')) (k : Go tb e below P T' f') : Go tb e below P T f := by
  obtain ⟨s₂, o, h, r⟩ := k; exact ⟨s₂, o, st.trans h, r⟩
theorem own_nin0 {a : Addr} : a ∉ ([] : List Addr) := fun q => nomatch q
theorem own_ninC {a b : Addr} {l : List Addr} (h : a ≠ b) (h' : a ∉ l) : a ∉ b :: l := fun q => (List.mem_cons.mp q).elim h h'
theorem own_nb {x : Int32} (h : x = 0 ∨ x = 1) : nar .boolean x = x := by rcases h with rfl | rfl <;> rfl
theorem own_nnb {x : Int32} (h : x = 0 ∨ x = 1) : narrow .boolean (.int x) = .int x := by rcases h with rfl | rfl <;> rfl
theorem own_fb {x : Int32} (h : x = 0 ∨ x = 1) : fits .boolean (.int x) = true := by rcases h with rfl | rfl <;> rfl
theorem own_all0 {P : Addr → Prop} : ∀ x ∈ ([] : List Addr), P x := fun _ q => nomatch q
theorem own_allC {P : Addr → Prop} {a : Addr} {l : List Addr} (h : P a) (h' : ∀ x ∈ l, P x) : ∀ x ∈ a :: l, P x := fun x q => (List.mem_cons.mp q).elim (fun e => e ▸ h) (h' x)
theorem own_m0 {k : Int32} : ∀ p ∈ ([] : List (Int × Int)), p.1 ≠ k.toInt := fun _ q => nomatch q
theorem own_mC {k x : Int32} {a o : Int} {l : List (Int × Int)} (h : ¬ k = x) (hx : x.toInt = a) (t : ∀ p ∈ l, p.1 ≠ k.toInt) : ∀ p ∈ (a, o) :: l, p.1 ≠ k.toInt := fun p q => (List.mem_cons.mp q).elim (fun e r => h (Int32.toInt_inj.mp (by rw [hx, ← r, e]))) (t p)
theorem own_cat {v : Value} (h : v.isRef = true) : v.category = 1 := by rcases ref_cases h with rfl | ⟨a, rfl⟩ <;> rfl
theorem own_nat {n : Nat} (h : n < 2147483648) : n.toInt32.toInt = n := len_toInt h
theorem own_ltN {i n : Nat} (hi : i < 2147483648) (hn : n < 2147483648) : i.toInt32 < n.toInt32 ↔ i < n := by
  rw [Int32.lt_iff_toInt_lt, own_nat hi, own_nat hn]; omega
theorem own_succ (i : Nat) : i.toInt32 + 1 = (i + 1).toInt32 := (Int32.ofNat_add i 1).symm
theorem own_nneg {i : Nat} (hi : i < 2147483648) : ¬ i.toInt32 < 0 := by
  rw [Int32.lt_iff_toInt_lt, own_nat hi]; simp
theorem own_clamp {i : Nat} (hi : i < 2147483648) : i.toInt32.toNatClampNeg = i := by
  show i.toInt32.toInt.toNat = i
  rw [own_nat hi]; rfl
end Jvm.RoadKit
namespace Jvm.Pilot.@@N@@
open Jvm Jvm.ClassFile Sem Op Lib Jvm.Free Jvm.Stand Jvm.LawKit Jvm.RoadKit Bundle Jvm.Pilot.@@N@@.Jvm.D
theorem own_mono {a b : Int32} (h : ¬ b < a) (h2 : ¬ (if (0 : Int32) < a then (1 : Int32) else (0 : Int32)) = (0 : Int32)) : ¬ (if (0 : Int32) < b then (1 : Int32) else (0 : Int32)) = (0 : Int32) := by
  by_cases ha : (0 : Int32) < a
  · have hb : (0 : Int32) < b := by rw [Int32.lt_iff_toInt_lt] at *; omega
    rw [if_pos hb]; decide
  · rw [if_neg ha] at h2; exact absurd rfl h2
theorem own_ch1 (c : Int32) : ¬ ((255 : Int32) < (c &&& (255 : Int32)).toUInt32.toUInt16.toUInt32.toInt32) := by
  rw [i2c_mask, Int32.lt_iff_toInt_lt]
  have := c_and c 255 (by decide)
  omega
theorem own_pn0 : plainName "java/lang/StringLatin1" = true := by first | (simp [plainName, overriddenIn]; done) | decide +kernel
theorem d2_0 : decode jdk_43_method_3_code 0 = .ok (.iload_n 0, 1) := by decide +kernel
theorem d2_1 : decode jdk_43_method_3_code 1 = .ok (.sipush 255, 3) := by decide +kernel
theorem d2_4 : decode jdk_43_method_3_code 4 = .ok (.if_icmp .gt 7, 3) := by decide +kernel
theorem d2_7 : decode jdk_43_method_3_code 7 = .ok (.iconst 1, 1) := by decide +kernel
theorem d2_8 : decode jdk_43_method_3_code 8 = .ok (.goto 4, 3) := by decide +kernel
theorem d2_12 : decode jdk_43_method_3_code 12 = .ok (.ireturn, 1) := by decide +kernel
theorem ef_2 (m : MethodId) (x0 : Int32) : entryFrame m #[(.int x0)] 1 = mkF m 0 #[.val (.int x0)] [] := by first | (simp [entryFrame, mkF, argsToLocals, Value.category]; done) | rfl
def Q2 (Z : State) (ch : Int32) (h0 : Heap) (n0 : Nat) (v : Option Value) (h : Heap) (L : List Loc) : Prop := v = some (.int (1 : Int32)) ∧ Fr n0 L ∧ h = h0
set_option maxRecDepth 65536 in
set_option maxHeartbeats 40000000 in
theorem rm2 (l : Launch) (Z : State) (a0 : Array Value) (hw : ∀ d ∈ tables_1, d.before a0 Z = true) (ws : List Jvm.Cond) (ch : Int32) (h0 : Heap) (n0 : Nat) (Z0 : n0 ≤ h0.size) (hch : ¬ ((255 : Int32) < ch)) :
    MetFree l (⟨"java/lang/StringLatin1", "canEncode", "(C)Z"⟩ : MethodName) (head1 (Jvm.Cond.code (⟨"java/lang/StringLatin1", "canEncode", "(C)Z"⟩ : MethodName) jdk_43_method_3_code 1 (some .boolean) :: ws) ({ frames := 0, cells := 0, slots := 0, locals := 0 } : Room)) (fun a U => a = #[(.int ch)] ∧ Z.Warmed39 U.vm ∧ U.heap = h0) (fun _ _ _ _ _ => True) (fun _ U o U' => ∃ v L, o = .returned v ∧ Q2 Z ch h0 n0 v U'.heap L ∧ FrameEnd U o U' L ({ frames := 0, cells := 0, slots := 0, locals := 0 } : Room).cells ({ frames := 0, cells := 0, slots := 0, locals := 0 } : Room).slots) := by
  refine MetFree.of_bodySF (plainFor_of_name own_pn0) hisR ?_
  intro p e s m args below meth c s₁ Bd hml0 hP hK
  obtain ⟨rfl, hZ, hh⟩ := hP
  have hx := Bd.exec
  have hby := Bd.bytes
  have hml : c.maxLocals = 1 := hml0
  have hown : s.vm.findClass "java/lang/StringLatin1" = some m.cls := findClass_of_methodNamed Bd.named
  have hnm := (name_of_methodNamed Bd.named Bd.method).1
  have X0 : Stand p l e ({ frames := 0, cells := 0, slots := 0, locals := 0 } : Room) s m #[(.int ch)] below meth c s₁ [] 0 0 := Stand.of_body Bd
  have e0 : s₁.heap = h0 := by rw [← hh, Bd.state]; rfl
  have N0 := Fr.nil n0
  have K0 : Keep h0 h0 [] := Keep.refl _ _
  suffices GO : ∀ P : Outcome → State → Prop, (∀ o U', (∃ v L, o = .returned v ∧ Q2 Z ch h0 n0 v U'.heap L ∧ FrameEnd s o U' L ({ frames := 0, cells := 0, slots := 0, locals := 0 } : Room).cells ({ frames := 0, cells := 0, slots := 0, locals := 0 } : Room).slots) → P o U') → Go p.tables e below P s₁ (mkF m 0 #[.val (.int ch)] []) by
    obtain ⟨s2, o, st, r⟩ := GO _ (fun _ _ q => q)
    exact ⟨s2, o, castTop (ef_2 m ch) st, r⟩
  clear hh
  intro P hP
  show Go p.tables e below P s₁ (mkF m 0 #[.val (.int ch)] [])
  refine Go.via (fun t k => XS.iloadN X0.here hx rfl (hb hby d2_0) rfl k) ?_
  show Go p.tables e below P s₁ (mkF m 1 #[.val (.int ch)] [(.int ch)])
  refine Go.via (fun t k => XS.sipush X0.here hx rfl (hb hby d2_1) k) ?_
  show Go p.tables e below P s₁ (mkF m 4 #[.val (.int ch)] [(.int (255 : Int32)), (.int ch)])
  refine Go.via (fun t k => XS.icmpNo X0.here hx rfl (hb hby d2_4) rfl (flt hch).2.2.1 k) ?_
  show Go p.tables e below P s₁ (mkF m 7 #[.val (.int ch)] [])
  refine Go.via (fun t k => XS.iconst X0.here hx rfl (hb hby d2_7) k) ?_
  show Go p.tables e below P s₁ (mkF m 8 #[.val (.int ch)] [(.int (1 : Int32))])
  refine Go.via (fun t k => XS.goto X0.here hx rfl (pc0 := 8) (pc' := 12) rfl (hb hby d2_8) (by decide) (by decide) k) ?_
  show Go p.tables e below P s₁ (mkF m 12 #[.val (.int ch)] [(.int (1 : Int32))])
  obtain ⟨fs, hr, hrun, hended, hW, hsame⟩ := X0.leave (v := some (.int (1 : Int32))) (fun h => by rw [Bd.returns] at h; cases h)
  refine ⟨_, _, retZ X0 hx (t := .boolean) Bd.returns (by simp) (hb hby d2_12) rfl hr, hrun, hended, hP _ _ ⟨_, _, rfl, ?_, ⟨_, rfl⟩, hW, hsame.mono (by decide) (by decide)⟩⟩
  show Q2 Z ch h0 n0 _ s₁.heap _
  rw [e0]
  exact ⟨rfl, N0, rfl⟩
theorem d3_0 : decode jdk_43_method_46_code 0 = .ok (.iconst 1, 1) := by decide +kernel
theorem d3_1 : decode jdk_43_method_46_code 1 = .ok (.newarray .byte, 2) := by decide +kernel
theorem d3_3 : decode jdk_43_method_46_code 3 = .ok (.dup, 1) := by decide +kernel
theorem d3_4 : decode jdk_43_method_46_code 4 = .ok (.iconst 0, 1) := by decide +kernel
theorem d3_5 : decode jdk_43_method_46_code 5 = .ok (.iload_n 0, 1) := by decide +kernel
theorem d3_6 : decode jdk_43_method_46_code 6 = .ok (.i2b, 1) := by decide +kernel
theorem d3_7 : decode jdk_43_method_46_code 7 = .ok (.bastore, 1) := by decide +kernel
theorem d3_8 : decode jdk_43_method_46_code 8 = .ok (.areturn, 1) := by decide +kernel
theorem ef_3 (m : MethodId) (x0 : Int32) : entryFrame m #[(.int x0)] 1 = mkF m 0 #[.val (.int x0)] [] := by first | (simp [entryFrame, mkF, argsToLocals, Value.category]; done) | rfl
def Q3 (Z : State) (ch : Int32) (h0 : Heap) (n0 : Nat) (v : Option Value) (h : Heap) (L : List Loc) : Prop := ∃ (r : Addr) (kk : ClassId), v = some (.ref r) ∧ Fr n0 L ∧ Keep h0 h [] ∧ h0.size ≤ r ∧ Arv Z h r kk .byte (1 : Int32) [(.int (nar .byte (ch.toInt8.toInt32)))] (.int (0 : Int32))
set_option maxRecDepth 65536 in
set_option maxHeartbeats 40000000 in
theorem rm3 (l : Launch) (Z : State) (a0 : Array Value) (hw : ∀ d ∈ tables_1, d.before a0 Z = true) (ws : List Jvm.Cond) (ch : Int32) (h0 : Heap) (n0 : Nat) (Z0 : n0 ≤ h0.size) :
    MetFree l (⟨"java/lang/StringLatin1", "toBytes", "(C)[B"⟩ : MethodName) (head1 (Jvm.Cond.code (⟨"java/lang/StringLatin1", "toBytes", "(C)[B"⟩ : MethodName) jdk_43_method_46_code 1 (some (.array .byte)) :: ws) ({ frames := 0, cells := 1, slots := 1, locals := 0 } : Room)) (fun a U => a = #[(.int ch)] ∧ Z.Warmed39 U.vm ∧ U.heap = h0) (fun _ _ _ _ _ => True) (fun _ U o U' => ∃ v L, o = .returned v ∧ Q3 Z ch h0 n0 v U'.heap L ∧ FrameEnd U o U' L ({ frames := 0, cells := 1, slots := 1, locals := 0 } : Room).cells ({ frames := 0, cells := 1, slots := 1, locals := 0 } : Room).slots) := by
  refine MetFree.of_bodySF (plainFor_of_name own_pn0) hisR ?_
  intro p e s m args below meth c s₁ Bd hml0 hP hK
  obtain ⟨rfl, hZ, hh⟩ := hP
  have hx := Bd.exec
  have hby := Bd.bytes
  have hml : c.maxLocals = 1 := hml0
  have hown : s.vm.findClass "java/lang/StringLatin1" = some m.cls := findClass_of_methodNamed Bd.named
  have hnm := (name_of_methodNamed Bd.named Bd.method).1
  have X0 : Stand p l e ({ frames := 0, cells := 1, slots := 1, locals := 0 } : Room) s m #[(.int ch)] below meth c s₁ [] 0 0 := Stand.of_body Bd
  have e0 : s₁.heap = h0 := by rw [← hh, Bd.state]; rfl
  have N0 := Fr.nil n0
  have K0 : Keep h0 h0 [] := Keep.refl _ _
  suffices GO : ∀ P : Outcome → State → Prop, (∀ o U', (∃ v L, o = .returned v ∧ Q3 Z ch h0 n0 v U'.heap L ∧ FrameEnd s o U' L ({ frames := 0, cells := 1, slots := 1, locals := 0 } : Room).cells ({ frames := 0, cells := 1, slots := 1, locals := 0 } : Room).slots) → P o U') → Go p.tables e below P s₁ (mkF m 0 #[.val (.int ch)] []) by
    obtain ⟨s2, o, st, r⟩ := GO _ (fun _ _ q => q)
    exact ⟨s2, o, castTop (ef_3 m ch) st, r⟩
  clear hh
  intro P hP
  show Go p.tables e below P s₁ (mkF m 0 #[.val (.int ch)] [])
  refine Go.via (fun t k => XS.iconst X0.here hx rfl (hb hby d3_0) k) ?_
  show Go p.tables e below P s₁ (mkF m 1 #[.val (.int ch)] [(.int (1 : Int32))])
  obtain ⟨T1, h1, k1, X1, e1, E1, A1, st1⟩ := newP X0 hx hZ (hw _ (List.mem_of_getElem? (i := 14) rfl)) e0 (g := (mkF m 1 #[.val (.int ch)] [(.int (1 : Int32))])) rfl (hb hby d3_1) rfl (by decide) (cap := 1) (by decide) (by decide) (by decide) (by decide)
  obtain ⟨b1, g1⟩ : ∃ z, z = h0.size := ⟨_, rfl⟩
  rw [← g1] at A1 st1
  refine Go.via st1 ?_
  have g2 : n0 ≤ b1 := Nat.le_trans Z0 (Nat.le_of_eq g1.symm)
  have sz3 : h0.size ≤ b1 := Nat.le_trans K0.1 (Nat.le_of_eq g1.symm)
  have Z4 : n0 ≤ h1.size := Nat.le_trans Z0 E1.1
  have K5 : Keep h0 h1 [] := K0.ext E1
  have V1 : Arv Z h1 b1 k1 .byte (1 : Int32) [(.int (0 : Int32))] (.int (0 : Int32)) := (Arv.new A1 (by decide)).pad (pad_rep [] (.int (0 : Int32)) 1)
  show Go p.tables e below P T1 (mkF m 3 #[.val (.int ch)] [(.ref b1)])
  refine Go.via (fun t k => XS.dup X1.here hx rfl (hb hby d3_3) rfl rfl k) ?_
  show Go p.tables e below P T1 (mkF m 4 #[.val (.int ch)] [(.ref b1), (.ref b1)])
  refine Go.via (fun t k => XS.iconst X1.here hx rfl (hb hby d3_4) k) ?_
  show Go p.tables e below P T1 (mkF m 5 #[.val (.int ch)] [(.int (0 : Int32)), (.ref b1), (.ref b1)])
  refine Go.via (fun t k => XS.iloadN X1.here hx rfl (hb hby d3_5) rfl k) ?_
  show Go p.tables e below P T1 (mkF m 6 #[.val (.int ch)] [(.int ch), (.int (0 : Int32)), (.ref b1), (.ref b1)])
  refine Go.via (fun t k => XS.i2b X1.here hx rfl (hb hby d3_6) rfl k) ?_
  show Go p.tables e below P T1 (mkF m 7 #[.val (.int ch)] [(.int (ch.toInt8.toInt32)), (.int (0 : Int32)), (.ref b1), (.ref b1)])
  obtain ⟨c6, A6, q6, S6, N6, H6, G6⟩ := id V1
  have hin6 : ¬ ((0 : Int32) < 0 ∨ c6.slots.size ≤ ((0 : Int32)).toNatClampNeg) := inb_of S6 ⟨by decide, by decide⟩
  obtain ⟨T6, h6, X6, e6, W6, st6⟩ := stB X1 hx hZ e1 A6 (j := (0 : Int32)) hin6 (g := (mkF m 7 #[.val (.int ch)] [(.int (ch.toInt8.toInt32)), (.int (0 : Int32)), (.ref b1), (.ref b1)])) rfl rfl (hb hby d3_7)
  refine Go.via st6 ?_
  have Z7 : n0 ≤ h6.size := Nat.le_trans Z4 (Nat.le_of_eq W6.size.symm)
  have K8 : Keep h0 h6 [] := K5.wr W6 (Or.inr sz3)
  have N9 := Fr.snoc X6 N0 g2
  have V6 : Arv Z h6 b1 k1 .byte (1 : Int32) [(.int (nar .byte (ch.toInt8.toInt32)))] (.int (0 : Int32)) := Arv.set A6 q6 S6 N6 H6 G6 (fits_nar_byte _) W6 0 rfl (Nat.le_of_ble_eq_true rfl)
  show Go p.tables e below P T6 (mkF m 8 #[.val (.int ch)] [(.ref b1)])
  obtain ⟨fs, hr, hrun, hended, hW, hsame⟩ := X6.leave (v := some (.ref b1)) (fun h => by rw [Bd.returns] at h; cases h)
  refine ⟨_, _, retA X6 hx Bd.returns rfl rfl rfl (hb hby d3_8) hr, hrun, hended, hP _ _ ⟨_, _, rfl, ?_, ⟨_, rfl⟩, hW, hsame.mono (by decide) (by decide)⟩⟩
  show Q3 Z ch h0 n0 _ T6.heap _
  rw [e6]
  exact ⟨b1, k1, rfl, N9, K8, sz3, V6⟩
theorem own_pn1 : plainName "java/lang/String" = true := by first | (simp [plainName, overriddenIn]; done) | decide +kernel
theorem d4_0 : decode jdk_42_method_151_code 0 = .ok (.aload_n 0, 1) := by decide +kernel
theorem d4_1 : decode jdk_42_method_151_code 1 = .ok (.invokespecial 1, 3) := by decide +kernel
theorem d4_4 : decode jdk_42_method_151_code 4 = .ok (.aload_n 0, 1) := by decide +kernel
theorem d4_5 : decode jdk_42_method_151_code 5 = .ok (.aload_n 1, 1) := by decide +kernel
theorem d4_6 : decode jdk_42_method_151_code 6 = .ok (.putfield 9, 3) := by decide +kernel
theorem d4_9 : decode jdk_42_method_151_code 9 = .ok (.aload_n 0, 1) := by decide +kernel
theorem d4_10 : decode jdk_42_method_151_code 10 = .ok (.iload_n 2, 1) := by decide +kernel
theorem d4_11 : decode jdk_42_method_151_code 11 = .ok (.putfield 15, 3) := by decide +kernel
theorem d4_14 : decode jdk_42_method_151_code 14 = .ok (.return_, 1) := by decide +kernel
theorem ef_4 (m : MethodId) (x0 : Addr) (x1 : Addr) : entryFrame m #[(.ref x0), (.ref x1), (.int (0 : Int32))] 3 = mkF m 0 #[.val (.ref x0), .val (.ref x1), .val (.int (0 : Int32))] [] := by first | (simp [entryFrame, mkF, argsToLocals, Value.category]; done) | rfl
def Q4 (Z : State) (oa : Addr) (ob : Addr) (h0 : Heap) (n0 : Nat) (v : Option Value) (h : Heap) (L : List Loc) : Prop := v = none ∧ Fr n0 L ∧ Keep h0 h [oa] ∧ Exa Z h oa "java/lang/String" ∧ Fld Z h oa "java/lang/String" "value" "[B" (.ref ob) ∧ Fld Z h oa "java/lang/String" "coder" "B" (.int (0 : Int32))
set_option maxRecDepth 65536 in
set_option maxHeartbeats 40000000 in
theorem rm4 (l : Launch) (Z : State) (a0 : Array Value) (hw : ∀ d ∈ tables_1, d.before a0 Z = true) (ws : List Jvm.Cond) (oa : Addr) (ob : Addr) (h0 : Heap) (n0 : Nat) (Z0 : n0 ≤ h0.size) (P0 : Exa Z h0 oa "java/lang/String") (P1 : Fld Z h0 oa "java/lang/String" "value" "[B" .null) (P2 : Fld Z h0 oa "java/lang/String" "coder" "B" (.int (0 : Int32))) (ga : n0 ≤ oa) :
    MetFree l (⟨"java/lang/String", "<init>", "([BB)V"⟩ : MethodName) (head1 (Jvm.Cond.code (⟨"java/lang/String", "<init>", "([BB)V"⟩ : MethodName) jdk_42_method_151_code 3 none :: ws) ({ frames := 1, cells := 0, slots := 0, locals := 12 } : Room)) (fun a U => a = #[(.ref oa), (.ref ob), (.int (0 : Int32))] ∧ Z.Warmed39 U.vm ∧ U.heap = h0) (fun _ _ _ _ _ => True) (fun _ U o U' => ∃ v L, o = .returned v ∧ Q4 Z oa ob h0 n0 v U'.heap L ∧ FrameEnd U o U' L ({ frames := 1, cells := 0, slots := 0, locals := 12 } : Room).cells ({ frames := 1, cells := 0, slots := 0, locals := 12 } : Room).slots) := by
  refine MetFree.of_bodySF (plainFor_of_name own_pn1) hisR ?_
  intro p e s m args below meth c s₁ Bd hml0 hP hK
  obtain ⟨rfl, hZ, hh⟩ := hP
  have hx := Bd.exec
  have hby := Bd.bytes
  have hml : c.maxLocals = 3 := hml0
  have hown : s.vm.findClass "java/lang/String" = some m.cls := findClass_of_methodNamed Bd.named
  have hnm := (name_of_methodNamed Bd.named Bd.method).1
  have X0 : Stand p l e ({ frames := 1, cells := 0, slots := 0, locals := 12 } : Room) s m #[(.ref oa), (.ref ob), (.int (0 : Int32))] below meth c s₁ [] 0 0 := Stand.of_body Bd
  have e0 : s₁.heap = h0 := by rw [← hh, Bd.state]; rfl
  have N0 := Fr.nil n0
  have K0 : Keep h0 h0 [oa] := Keep.refl _ _
  suffices GO : ∀ P : Outcome → State → Prop, (∀ o U', (∃ v L, o = .returned v ∧ Q4 Z oa ob h0 n0 v U'.heap L ∧ FrameEnd s o U' L ({ frames := 1, cells := 0, slots := 0, locals := 12 } : Room).cells ({ frames := 1, cells := 0, slots := 0, locals := 12 } : Room).slots) → P o U') → Go p.tables e below P s₁ (mkF m 0 #[.val (.ref oa), .val (.ref ob), .val (.int (0 : Int32))] []) by
    obtain ⟨s2, o, st, r⟩ := GO _ (fun _ _ q => q)
    exact ⟨s2, o, castTop (ef_4 m oa ob) st, r⟩
  clear hh
  intro P hP
  show Go p.tables e below P s₁ (mkF m 0 #[.val (.ref oa), .val (.ref ob), .val (.int (0 : Int32))] [])
  refine Go.via (fun t k => XS.aloadN X0.here hx rfl (hb hby d4_0) rfl rfl k) ?_
  show Go p.tables e below P s₁ (mkF m 1 #[.val (.ref oa), .val (.ref ob), .val (.int (0 : Int32))] [(.ref oa)])
  obtain ⟨T1, X1, e1, st1⟩ := initO X0 hx hZ hown (hw _ (List.mem_of_getElem? (i := 19) rfl)) (hw _ (List.mem_of_getElem? (i := 20) rfl)) (hw _ (List.mem_of_getElem? (i := 21) rfl)) e0 (g := (mkF m 1 #[.val (.ref oa), .val (.ref ob), .val (.int (0 : Int32))] [(.ref oa)])) rfl (by rw [hml]; rfl) rfl (hb hby d4_1) (by decide) (W := 0) (by show 2 * 0 + _ ≤ _; exact Nat.le_of_eq rfl) (by decide)
  refine Go.via st1 ?_
  show Go p.tables e below P T1 (mkF m 4 #[.val (.ref oa), .val (.ref ob), .val (.int (0 : Int32))] [])
  refine Go.via (fun t k => XS.aloadN X1.here hx rfl (hb hby d4_4) rfl rfl k) ?_
  show Go p.tables e below P T1 (mkF m 5 #[.val (.ref oa), .val (.ref ob), .val (.int (0 : Int32))] [(.ref oa)])
  refine Go.via (fun t k => XS.aloadN X1.here hx rfl (hb hby d4_5) rfl rfl k) ?_
  show Go p.tables e below P T1 (mkF m 6 #[.val (.ref oa), .val (.ref ob), .val (.int (0 : Int32))] [(.ref ob), (.ref oa)])
  obtain ⟨T2, h2, X2, e2, W2, st2⟩ := putF X1 hx hZ hown (host := "") (Or.inl (hw _ (List.mem_of_getElem? (i := 22) rfl))) Via.refl e1 P1 P0 (Or.inr ⟨(hw _ (List.mem_of_getElem? (i := 23) rfl)), rfl, hnm⟩) (hw _ (List.mem_of_getElem? (i := 10) rfl)) (ty := (.array .byte)) (by decide) rfl rfl (g := (mkF m 6 #[.val (.ref oa), .val (.ref ob), .val (.int (0 : Int32))] [(.ref ob), (.ref oa)])) rfl rfl (hb hby d4_6)
  refine Go.via st2 ?_
  have Z3 : n0 ≤ h2.size := Nat.le_trans Z0 (Nat.le_of_eq W2.size.symm)
  have K4 : Keep h0 h2 [oa] := K0.wr W2 (Or.inl (List.mem_of_getElem? (i := 0) rfl))
  have N5 := Fr.snoc X2 N0 ga
  have Fw2 := P1.same W2
  show Go p.tables e below P T2 (mkF m 9 #[.val (.ref oa), .val (.ref ob), .val (.int (0 : Int32))] [])
  refine Go.via (fun t k => XS.aloadN X2.here hx rfl (hb hby d4_9) rfl rfl k) ?_
  show Go p.tables e below P T2 (mkF m 10 #[.val (.ref oa), .val (.ref ob), .val (.int (0 : Int32))] [(.ref oa)])
  refine Go.via (fun t k => XS.iloadN X2.here hx rfl (hb hby d4_10) rfl k) ?_
  show Go p.tables e below P T2 (mkF m 11 #[.val (.ref oa), .val (.ref ob), .val (.int (0 : Int32))] [(.int (0 : Int32)), (.ref oa)])
  have F6 : Exa Z h2 oa "java/lang/String" := (P0.wr W2)
  have F7 : Fld Z h2 oa "java/lang/String" "coder" "B" (.int (0 : Int32)) := (P2.other W2 (Or.inr (slot_ne (Or.inr (hw _ (List.mem_of_getElem? (i := 25) rfl))) (Or.inr (hw _ (List.mem_of_getElem? (i := 23) rfl))) (by decide) (t := .byte) (t' := (.array .byte)) (by decide) (by decide))))
  obtain ⟨T8, h8, X8, e8, W8, st8⟩ := putF X2 hx hZ hown (host := "") (Or.inl (hw _ (List.mem_of_getElem? (i := 24) rfl))) Via.refl e2 F7 F6 (Or.inr ⟨(hw _ (List.mem_of_getElem? (i := 25) rfl)), rfl, hnm⟩) (hw _ (List.mem_of_getElem? (i := 10) rfl)) (ty := .byte) (by decide) rfl rfl (g := (mkF m 11 #[.val (.ref oa), .val (.ref ob), .val (.int (0 : Int32))] [(.int (0 : Int32)), (.ref oa)])) rfl rfl (hb hby d4_11)
  refine Go.via st8 ?_
  have Z9 : n0 ≤ h8.size := Nat.le_trans Z3 (Nat.le_of_eq W8.size.symm)
  have K10 : Keep h0 h8 [oa] := K4.wr W8 (Or.inl (List.mem_of_getElem? (i := 0) rfl))
  have N11 := Fr.snoc X8 N5 ga
  have Fw8 := F7.same W8
  show Go p.tables e below P T8 (mkF m 14 #[.val (.ref oa), .val (.ref ob), .val (.int (0 : Int32))] [])
  obtain ⟨fs, hr, hrun, hended, hW, hsame⟩ := X8.leave (v := none) (fun _ => rfl)
  have F13 : Exa Z h8 oa "java/lang/String" := (F6.wr W8)
  have F14 : Fld Z h8 oa "java/lang/String" "value" "[B" (.ref ob) := (Fw2.other W8 (Or.inr (slot_ne (Or.inr (hw _ (List.mem_of_getElem? (i := 23) rfl))) (Or.inr (hw _ (List.mem_of_getElem? (i := 25) rfl))) (by decide) (t := (.array .byte)) (t' := .byte) (by decide) (by decide))))
  refine ⟨_, _, X8.returnOut hx Bd.returns (hb hby d4_14) hr, hrun, hended, hP _ _ ⟨_, _, rfl, ?_, ⟨_, rfl⟩, hW, hsame.mono (by decide) (by decide)⟩⟩
  show Q4 Z oa ob h0 n0 _ T8.heap _
  rw [e8]
  exact ⟨rfl, N11, K10, F13, F14, Fw8⟩
theorem own_pd0 : parseMethodDescriptor "(C)Z" = some ⟨[.char], some .boolean⟩ := by decide +kernel
theorem own_pd1 : parseMethodDescriptor "(C)[B" = some ⟨[.char], some (.array .byte)⟩ := by decide +kernel
theorem own_pd2 : parseMethodDescriptor "([BB)V" = some ⟨[(.array .byte), .byte], none⟩ := by decide +kernel
theorem d1_0 : decode jdk_42_method_139_code 0 = .ok (.getstatic 38, 3) := by decide +kernel
theorem d1_3 : decode jdk_42_method_139_code 3 = .ok (.ifCond .eq 23, 3) := by decide +kernel
theorem d1_6 : decode jdk_42_method_139_code 6 = .ok (.iload_n 0, 1) := by decide +kernel
theorem d1_7 : decode jdk_42_method_139_code 7 = .ok (.invokestatic 1015, 3) := by decide +kernel
theorem d1_10 : decode jdk_42_method_139_code 10 = .ok (.ifCond .eq 16, 3) := by decide +kernel
theorem d1_13 : decode jdk_42_method_139_code 13 = .ok (.new 10, 3) := by decide +kernel
theorem d1_16 : decode jdk_42_method_139_code 16 = .ok (.dup, 1) := by decide +kernel
theorem d1_17 : decode jdk_42_method_139_code 17 = .ok (.iload_n 0, 1) := by decide +kernel
theorem d1_18 : decode jdk_42_method_139_code 18 = .ok (.invokestatic 1018, 3) := by decide +kernel
theorem d1_21 : decode jdk_42_method_139_code 21 = .ok (.iconst 0, 1) := by decide +kernel
theorem d1_22 : decode jdk_42_method_139_code 22 = .ok (.invokespecial 209, 3) := by decide +kernel
theorem d1_25 : decode jdk_42_method_139_code 25 = .ok (.areturn, 1) := by decide +kernel
theorem ef_1 (m : MethodId) (x0 : Int32) : entryFrame m #[(.int x0)] 1 = mkF m 0 #[.val (.int x0)] [] := by first | (simp [entryFrame, mkF, argsToLocals, Value.category]; done) | rfl
def Q1 (Z : State) (ch : Int32) (cs : Int32) (h0 : Heap) (n0 : Nat) (v : Option Value) (h : Heap) (L : List Loc) : Prop := ∃ (r : Addr) (tb : Addr) (kk : ClassId), v = some (.ref r) ∧ Fr n0 L ∧ Keep h0 h [] ∧ h0.size ≤ r ∧ h0.size ≤ tb ∧ Exa Z h r "java/lang/String" ∧ Fld Z h r "java/lang/String" "value" "[B" (.ref tb) ∧ Fld Z h r "java/lang/String" "coder" "B" (.int (0 : Int32)) ∧ Arv Z h tb kk .byte (1 : Int32) [(.int (nar .byte (ch.toInt8.toInt32)))] (.int (0 : Int32)) ∧ (r ≠ tb)
set_option maxRecDepth 65536 in
set_option maxHeartbeats 40000000 in
theorem rm1 (l : Launch) (Z : State) (a0 : Array Value) (hw : ∀ d ∈ tables_1, d.before a0 Z = true) (ws : List Jvm.Cond) (ch : Int32) (cs : Int32) (h0 : Heap) (n0 : Nat) (Z0 : n0 ≤ h0.size) (O0 : Old Z n0 h0) (P1 : Sta Z Z.heap "java/lang/String" "COMPACT_STRINGS" "Z" (.int cs)) (hcs : ¬ cs = (0 : Int32)) (hch : ¬ ((255 : Int32) < ch)) :
    MetFree l (⟨"java/lang/String", "valueOf", "(C)Ljava/lang/String;"⟩ : MethodName) (head1 (Jvm.Cond.code (⟨"java/lang/String", "valueOf", "(C)Ljava/lang/String;"⟩ : MethodName) jdk_42_method_139_code 1 (some (.object "java/lang/String")) :: ws) ({ frames := 2, cells := 2, slots := 5, locals := 27 } : Room)) (fun a U => a = #[(.int ch)] ∧ Z.Warmed39 U.vm ∧ U.heap = h0) (fun _ _ _ _ _ => True) (fun _ U o U' => ∃ v L, o = .returned v ∧ Q1 Z ch cs h0 n0 v U'.heap L ∧ FrameEnd U o U' L ({ frames := 2, cells := 2, slots := 5, locals := 27 } : Room).cells ({ frames := 2, cells := 2, slots := 5, locals := 27 } : Room).slots) := by
  refine MetFree.of_bodySF (plainFor_of_name own_pn1) hisR ?_
  intro p e s m args below meth c s₁ Bd hml0 hP hK
  obtain ⟨rfl, hZ, hh⟩ := hP
  have hx := Bd.exec
  have hby := Bd.bytes
  have hml : c.maxLocals = 1 := hml0
  have hown : s.vm.findClass "java/lang/String" = some m.cls := findClass_of_methodNamed Bd.named
  have hnm := (name_of_methodNamed Bd.named Bd.method).1
  have X0 : Stand p l e ({ frames := 2, cells := 2, slots := 5, locals := 27 } : Room) s m #[(.int ch)] below meth c s₁ [] 0 0 := Stand.of_body Bd
  have e0 : s₁.heap = h0 := by rw [← hh, Bd.state]; rfl
  have N0 := Fr.nil n0
  have K0 : Keep h0 h0 [] := Keep.refl _ _
  suffices GO : ∀ P : Outcome → State → Prop, (∀ o U', (∃ v L, o = .returned v ∧ Q1 Z ch cs h0 n0 v U'.heap L ∧ FrameEnd s o U' L ({ frames := 2, cells := 2, slots := 5, locals := 27 } : Room).cells ({ frames := 2, cells := 2, slots := 5, locals := 27 } : Room).slots) → P o U') → Go p.tables e below P s₁ (mkF m 0 #[.val (.int ch)] []) by
    obtain ⟨s2, o, st, r⟩ := GO _ (fun _ _ q => q)
    exact ⟨s2, o, castTop (ef_1 m ch) st, r⟩
  clear hh
  intro P hP
  show Go p.tables e below P s₁ (mkF m 0 #[.val (.int ch)] [])
  obtain ⟨T1, X1, e1, st1⟩ := getS2 X0 hx hZ hown (host := "") (Or.inl (hw _ (List.mem_of_getElem? (i := 4) rfl))) Via.refl e0 (P1.ext O0.2) (g := (mkF m 0 #[.val (.int ch)] [])) rfl (hb hby d1_0)
  refine Go.via st1 ?_
  show Go p.tables e below P T1 (mkF m 3 #[.val (.int ch)] [(.int cs)])
  refine Go.via (fun t k => XS.ifNo X1.here hx rfl (hb hby d1_3) rfl ((if0 _ _).trans (feq hcs).1) k) ?_
  show Go p.tables e below P T1 (mkF m 6 #[.val (.int ch)] [])
  refine Go.via (fun t k => XS.iloadN X1.here hx rfl (hb hby d1_6) rfl k) ?_
  show Go p.tables e below P T1 (mkF m 7 #[.val (.int ch)] [(.int ch)])
  obtain ⟨_, _, ⟨T2, L2, k2, n2⟩, -, X2, ⟨Lc2, hQ2, l2, y2, z2⟩, st2⟩ := Jvm.LawKit.callS X1 hx (y := (⟨"java/lang/StringLatin1", "canEncode", "(C)Z"⟩ : MethodName)) hown (mvT hZ (hw _ (List.mem_of_getElem? (i := 5) rfl))) (mvT hZ (hw _ (List.mem_of_getElem? (i := 6) rfl))) (mvT hZ (hw _ (List.mem_of_getElem? (i := 7) rfl))) (mvT hZ (hw _ (List.mem_of_getElem? (i := 8) rfl))) (by decide) (backOf (W := 0) (rm2 l Z a0 hw [] ch h0 n0 Z0 (by first | assumption | decide | omega : ¬ ((255 : Int32) < ch))) hZ (hw _ (List.mem_of_getElem? (i := 8) rfl)) (hw _ (List.mem_of_getElem? (i := 7) rfl)) (by decide) (by decide)) (g := (mkF m 7 #[.val (.int ch)] [(.int ch)])) rfl (by rw [hml]; rfl) (argsL := [(.int ch)]) (rest := []) (lenOf own_pd0 rfl) rfl (by show 2 * 0 + _ ≤ _; exact Nat.le_of_eq rfl) (hb hby d1_7) (fun _ _ => ⟨rfl, e1, (by decide : 0 + 0 ≤ _), (by decide : 0 + 0 ≤ _)⟩)
  dsimp only [Pt.U, Pt.locs, Pt.cells, Pt.slots] at X2 l2 y2 z2 st2 hQ2
  subst l2 y2 z2
  obtain ⟨rfl, Nq2, hh2⟩ := hQ2
  have N2 := Fr.app N0 Nq2
  refine Go.via st2 ?_
  show Go p.tables e below P T2 (mkF m 10 #[.val (.int ch)] [(.int (1 : Int32))])
  refine Go.via (fun t k => XS.ifNo X2.here hx rfl (hb hby d1_10) rfl ((if0 _ _).trans (feq (by decide : ¬ ((1 : Int32) = (0 : Int32)))).1) k) ?_
  show Go p.tables e below P T2 (mkF m 13 #[.val (.int ch)] [])
  obtain ⟨T3, h3, X3, e3, E3, A3, D3, -, st3⟩ := newO X2 hx hZ hown (hw _ (List.mem_of_getElem? (i := 9) rfl)) (hw _ (List.mem_of_getElem? (i := 10) rfl)) (hw _ (List.mem_of_getElem? (i := 2) rfl)) hh2 (g := (mkF m 13 #[.val (.int ch)] [])) rfl (hb hby d1_13) (by decide) (by decide)
  obtain ⟨b3, g3⟩ : ∃ z, z = h0.size := ⟨_, rfl⟩
  rw [← g3] at A3 D3 st3
  refine Go.via st3 ?_
  have g4 : n0 ≤ b3 := Nat.le_trans Z0 (Nat.le_of_eq g3.symm)
  have sz5 : h0.size ≤ b3 := Nat.le_trans K0.1 (Nat.le_of_eq g3.symm)
  have Z6 : n0 ≤ h3.size := Nat.le_trans Z0 E3.1
  have K7 : Keep h0 h3 [] := K0.ext E3
  have O8 : Old Z n0 h3 := O0.ext E3
  show Go p.tables e below P T3 (mkF m 16 #[.val (.int ch)] [(.ref b3)])
  refine Go.via (fun t k => XS.dup X3.here hx rfl (hb hby d1_16) rfl rfl k) ?_
  show Go p.tables e below P T3 (mkF m 17 #[.val (.int ch)] [(.ref b3), (.ref b3)])
  refine Go.via (fun t k => XS.iloadN X3.here hx rfl (hb hby d1_17) rfl k) ?_
  show Go p.tables e below P T3 (mkF m 18 #[.val (.int ch)] [(.int ch), (.ref b3), (.ref b3)])
  obtain ⟨_, _, ⟨T9, L9, k9, n9⟩, -, X9, ⟨Lc9, hQ9, l9, y9, z9⟩, st9⟩ := Jvm.LawKit.callS X3 hx (y := (⟨"java/lang/StringLatin1", "toBytes", "(C)[B"⟩ : MethodName)) hown (mvT hZ (hw _ (List.mem_of_getElem? (i := 11) rfl))) (mvT hZ (hw _ (List.mem_of_getElem? (i := 12) rfl))) (mvT hZ (hw _ (List.mem_of_getElem? (i := 7) rfl))) (mvT hZ (hw _ (List.mem_of_getElem? (i := 13) rfl))) (by decide) (backOf (W := 2) (rm3 l Z a0 hw [] ch h3 n0 Z6 ) hZ (hw _ (List.mem_of_getElem? (i := 13) rfl)) (hw _ (List.mem_of_getElem? (i := 7) rfl)) (by decide) (by decide)) (g := (mkF m 18 #[.val (.int ch)] [(.int ch), (.ref b3), (.ref b3)])) rfl (by rw [hml]; rfl) (argsL := [(.int ch)]) (rest := [(.ref b3), (.ref b3)]) (lenOf own_pd1 rfl) rfl (by show 2 * 0 + _ ≤ _; exact Nat.le_of_eq rfl) (hb hby d1_18) (fun _ _ => ⟨rfl, e3, (by decide : 1 + 1 ≤ _), (by decide : 4 + 1 ≤ _)⟩)
  dsimp only [Pt.U, Pt.locs, Pt.cells, Pt.slots] at X9 l9 y9 z9 st9 hQ9
  subst l9 y9 z9
  obtain ⟨r_9, kk_9, rfl, Nq9, K9, fr9_r, u9_0⟩ := hQ9
  have N9 := Fr.app N2 Nq9
  refine Go.via st9 ?_
  have ne10 : b3 ≠ r_9 := Nat.ne_of_lt (Nat.lt_of_lt_of_le A3.lt fr9_r)
  have g11 : n0 ≤ r_9 := Nat.le_trans Z6 fr9_r
  have sz12 : h0.size ≤ r_9 := Nat.le_trans K7.1 fr9_r
  have Z13 : n0 ≤ T9.heap.size := Nat.le_trans Z6 K9.1
  have K14 : Keep h0 T9.heap [] := K7.trans K9 own_all0
  have O15 : Old Z n0 T9.heap := O8.keep K9 own_all0
  show Go p.tables e below P T9 (mkF m 21 #[.val (.int ch)] [(.ref r_9), (.ref b3), (.ref b3)])
  refine Go.via (fun t k => XS.iconst X9.here hx rfl (hb hby d1_21) k) ?_
  show Go p.tables e below P T9 (mkF m 22 #[.val (.int ch)] [(.int (0 : Int32)), (.ref r_9), (.ref b3), (.ref b3)])
  have F16 : Exa Z T9.heap b3 "java/lang/String" := (A3.keep K9)
  have F17 : Fld Z T9.heap b3 "java/lang/String" "value" "[B" .null := ((D3 (Or.inr (hw _ (List.mem_of_getElem? (i := 23) rfl))) (ty := (.array .byte)) (by decide) : Fld Z h3 b3 "java/lang/String" "value" "[B" .null).keep K9 own_nin0)
  have F18 : Fld Z T9.heap b3 "java/lang/String" "coder" "B" (.int (0 : Int32)) := ((D3 (Or.inr (hw _ (List.mem_of_getElem? (i := 25) rfl))) (ty := .byte) (by decide) : Fld Z h3 b3 "java/lang/String" "coder" "B" (.int (0 : Int32))).keep K9 own_nin0)
  obtain ⟨_, _, ⟨T19, L19, k19, n19⟩, -, X19, ⟨Lc19, hQ19, l19, y19, z19⟩, st19⟩ := X9.specialBack hx (y := (⟨"java/lang/String", "<init>", "([BB)V"⟩ : MethodName)) rfl hown (mvT hZ (hw _ (List.mem_of_getElem? (i := 15) rfl))) (mvT hZ (hw _ (List.mem_of_getElem? (i := 16) rfl))) (mvT hZ (hw _ (List.mem_of_getElem? (i := 18) rfl))) (by decide) (backOf (W := 1) (rm4 l Z a0 hw [] b3 r_9 T9.heap n0 Z13 F16 F17 F18 g4) hZ (hw _ (List.mem_of_getElem? (i := 18) rfl)) (hw _ (List.mem_of_getElem? (i := 2) rfl)) (by decide) (by decide)) (g := (mkF m 22 #[.val (.int ch)] [(.int (0 : Int32)), (.ref r_9), (.ref b3), (.ref b3)])) rfl (by rw [hml]; rfl) (Steps.refl _) (a := b3) (argsL := [(.ref r_9), (.int (0 : Int32))]) (rest := [(.ref b3)]) (lenOf own_pd2 rfl) rfl (by show 2 * 0 + _ ≤ _; exact Nat.le_of_eq rfl) (hb hby d1_22) (fun _ _ => ⟨rfl, rfl, (by decide : 2 + 0 ≤ _), (by decide : 5 + 0 ≤ _)⟩)
  dsimp only [Pt.U, Pt.locs, Pt.cells, Pt.slots] at X19 l19 y19 z19 st19 hQ19
  subst l19 y19 z19
  obtain ⟨rfl, Nq19, K19, u19_0, u19_1, u19_2⟩ := hQ19
  have N19 := Fr.app N9 Nq19
  refine Go.hop st19 ?_
  have Z20 : n0 ≤ T19.heap.size := Nat.le_trans Z13 K19.1
  have K21 : Keep h0 T19.heap [] := K14.trans K19 (own_allC (Or.inr sz5) own_all0)
  have O22 : Old Z n0 T19.heap := O15.keep K19 (own_allC g4 own_all0)
  show Go p.tables e below P T19 (mkF m 25 #[.val (.int ch)] [(.ref b3)])
  obtain ⟨fs, hr, hrun, hended, hW, hsame⟩ := X19.leave (v := some (.ref b3)) (fun h => by rw [Bd.returns] at h; cases h)
  have F24 : Arv Z T19.heap r_9 kk_9 .byte (1 : Int32) [(.int (nar .byte (ch.toInt8.toInt32)))] (.int (0 : Int32)) := (u9_0.keep K19 (own_ninC (Ne.symm ne10) own_nin0))
  refine ⟨_, _, retA X19 hx Bd.returns rfl rfl rfl (hb hby d1_25) hr, hrun, hended, hP _ _ ⟨_, _, rfl, ?_, ⟨_, rfl⟩, hW, hsame.mono (by decide) (by decide)⟩⟩
  show Q1 Z ch cs h0 n0 _ T19.heap _
  exact ⟨b3, r_9, kk_9, rfl, N19, K21, sz5, sz12, u19_0, u19_1, u19_2, F24, ne10⟩
theorem own_pn2 : plainName "java/lang/Record" = true := by first | (simp [plainName, overriddenIn]; done) | decide +kernel
theorem d7_0 : decode jdk_30_method_1_code 0 = .ok (.aload_n 0, 1) := by decide +kernel
theorem d7_1 : decode jdk_30_method_1_code 1 = .ok (.invokespecial 1, 3) := by decide +kernel
theorem d7_4 : decode jdk_30_method_1_code 4 = .ok (.return_, 1) := by decide +kernel
theorem ef_7 (m : MethodId) (x0 : Addr) : entryFrame m #[(.ref x0)] 1 = mkF m 0 #[.val (.ref x0)] [] := by first | (simp [entryFrame, mkF, argsToLocals, Value.category]; done) | rfl
def Q7 (Z : State) (oa : Addr) (h0 : Heap) (n0 : Nat) (v : Option Value) (h : Heap) (L : List Loc) : Prop := v = none ∧ Fr n0 L ∧ h = h0
set_option maxRecDepth 65536 in
set_option maxHeartbeats 40000000 in
theorem rm7 (l : Launch) (Z : State) (a0 : Array Value) (hw : ∀ d ∈ tables_1, d.before a0 Z = true) (ws : List Jvm.Cond) (oa : Addr) (h0 : Heap) (n0 : Nat) (Z0 : n0 ≤ h0.size) :
    MetFree l (⟨"java/lang/Record", "<init>", "()V"⟩ : MethodName) (head1 (Jvm.Cond.code (⟨"java/lang/Record", "<init>", "()V"⟩ : MethodName) jdk_30_method_1_code 1 none :: ws) ({ frames := 1, cells := 0, slots := 0, locals := 12 } : Room)) (fun a U => a = #[(.ref oa)] ∧ Z.Warmed39 U.vm ∧ U.heap = h0) (fun _ _ _ _ _ => True) (fun _ U o U' => ∃ v L, o = .returned v ∧ Q7 Z oa h0 n0 v U'.heap L ∧ FrameEnd U o U' L ({ frames := 1, cells := 0, slots := 0, locals := 12 } : Room).cells ({ frames := 1, cells := 0, slots := 0, locals := 12 } : Room).slots) := by
  refine MetFree.of_bodySF (plainFor_of_name own_pn2) hisR ?_
  intro p e s m args below meth c s₁ Bd hml0 hP hK
  obtain ⟨rfl, hZ, hh⟩ := hP
  have hx := Bd.exec
  have hby := Bd.bytes
  have hml : c.maxLocals = 1 := hml0
  have hown : s.vm.findClass "java/lang/Record" = some m.cls := findClass_of_methodNamed Bd.named
  have hnm := (name_of_methodNamed Bd.named Bd.method).1
  have X0 : Stand p l e ({ frames := 1, cells := 0, slots := 0, locals := 12 } : Room) s m #[(.ref oa)] below meth c s₁ [] 0 0 := Stand.of_body Bd
  have e0 : s₁.heap = h0 := by rw [← hh, Bd.state]; rfl
  have N0 := Fr.nil n0
  have K0 : Keep h0 h0 [] := Keep.refl _ _
  suffices GO : ∀ P : Outcome → State → Prop, (∀ o U', (∃ v L, o = .returned v ∧ Q7 Z oa h0 n0 v U'.heap L ∧ FrameEnd s o U' L ({ frames := 1, cells := 0, slots := 0, locals := 12 } : Room).cells ({ frames := 1, cells := 0, slots := 0, locals := 12 } : Room).slots) → P o U') → Go p.tables e below P s₁ (mkF m 0 #[.val (.ref oa)] []) by
    obtain ⟨s2, o, st, r⟩ := GO _ (fun _ _ q => q)
    exact ⟨s2, o, castTop (ef_7 m oa) st, r⟩
  clear hh
  intro P hP
  show Go p.tables e below P s₁ (mkF m 0 #[.val (.ref oa)] [])
  refine Go.via (fun t k => XS.aloadN X0.here hx rfl (hb hby d7_0) rfl rfl k) ?_
  show Go p.tables e below P s₁ (mkF m 1 #[.val (.ref oa)] [(.ref oa)])
  obtain ⟨T1, X1, e1, st1⟩ := initO X0 hx hZ hown (hw _ (List.mem_of_getElem? (i := 37) rfl)) (hw _ (List.mem_of_getElem? (i := 20) rfl)) (hw _ (List.mem_of_getElem? (i := 21) rfl)) e0 (g := (mkF m 1 #[.val (.ref oa)] [(.ref oa)])) rfl (by rw [hml]; rfl) rfl (hb hby d7_1) (by decide) (W := 0) (by show 2 * 0 + _ ≤ _; exact Nat.le_of_eq rfl) (by decide)
  refine Go.via st1 ?_
  show Go p.tables e below P T1 (mkF m 4 #[.val (.ref oa)] [])
  obtain ⟨fs, hr, hrun, hended, hW, hsame⟩ := X1.leave (v := none) (fun _ => rfl)
  refine ⟨_, _, X1.returnOut hx Bd.returns (hb hby d7_4) hr, hrun, hended, hP _ _ ⟨_, _, rfl, ?_, ⟨_, rfl⟩, hW, hsame.mono (by decide) (by decide)⟩⟩
  show Q7 Z oa h0 n0 _ T1.heap _
  rw [e1]
  exact ⟨rfl, N0, rfl⟩
theorem own_pd3 : parseMethodDescriptor "()V" = some ⟨[], none⟩ := by decide +kernel
theorem own_pn3 : plainName "com/example/fort_river/fortriver/trec/Judgment" = true := by first | (simp [plainName, overriddenIn]; done) | decide +kernel
theorem d6_0 : decode prog_46_method_1_code 0 = .ok (.aload_n 0, 1) := by decide +kernel
theorem d6_1 : decode prog_46_method_1_code 1 = .ok (.invokespecial 1, 3) := by decide +kernel
theorem d6_4 : decode prog_46_method_1_code 4 = .ok (.aload_n 0, 1) := by decide +kernel
theorem d6_5 : decode prog_46_method_1_code 5 = .ok (.aload_n 1, 1) := by decide +kernel
theorem d6_6 : decode prog_46_method_1_code 6 = .ok (.putfield 7, 3) := by decide +kernel
theorem d6_9 : decode prog_46_method_1_code 9 = .ok (.aload_n 0, 1) := by decide +kernel
theorem d6_10 : decode prog_46_method_1_code 10 = .ok (.aload_n 2, 1) := by decide +kernel
theorem d6_11 : decode prog_46_method_1_code 11 = .ok (.putfield 13, 3) := by decide +kernel
theorem d6_14 : decode prog_46_method_1_code 14 = .ok (.aload_n 0, 1) := by decide +kernel
theorem d6_15 : decode prog_46_method_1_code 15 = .ok (.aload_n 3, 1) := by decide +kernel
theorem d6_16 : decode prog_46_method_1_code 16 = .ok (.putfield 16, 3) := by decide +kernel
theorem d6_19 : decode prog_46_method_1_code 19 = .ok (.aload_n 0, 1) := by decide +kernel
theorem d6_20 : decode prog_46_method_1_code 20 = .ok (.iload 4, 2) := by decide +kernel
theorem d6_22 : decode prog_46_method_1_code 22 = .ok (.putfield 19, 3) := by decide +kernel
theorem d6_25 : decode prog_46_method_1_code 25 = .ok (.return_, 1) := by decide +kernel
theorem ef_6 (m : MethodId) (x0 : Addr) (x1 : Addr) (x2 : Addr) (x3 : Addr) (x4 : Int32) : entryFrame m #[(.ref x0), (.ref x1), (.ref x2), (.ref x3), (.int x4)] 5 = mkF m 0 #[.val (.ref x0), .val (.ref x1), .val (.ref x2), .val (.ref x3), .val (.int x4)] [] := by first | (simp [entryFrame, mkF, argsToLocals, Value.category]; done) | rfl
def Q6 (Z : State) (oa : Addr) (o1 : Addr) (o2 : Addr) (o3 : Addr) (rl : Int32) (h0 : Heap) (n0 : Nat) (v : Option Value) (h : Heap) (L : List Loc) : Prop := v = none ∧ Fr n0 L ∧ Keep h0 h [oa] ∧ Exa Z h oa "com/example/fort_river/fortriver/trec/Judgment" ∧ Fld Z h oa "com/example/fort_river/fortriver/trec/Judgment" "relevance" "I" (.int rl)
set_option maxRecDepth 65536 in
set_option maxHeartbeats 40000000 in
theorem rm6 (l : Launch) (Z : State) (a0 : Array Value) (hw : ∀ d ∈ tables_1, d.before a0 Z = true) (ws : List Jvm.Cond) (oa : Addr) (o1 : Addr) (o2 : Addr) (o3 : Addr) (rl : Int32) (h0 : Heap) (n0 : Nat) (Z0 : n0 ≤ h0.size) (P0 : Exa Z h0 oa "com/example/fort_river/fortriver/trec/Judgment") (P1 : Fld Z h0 oa "com/example/fort_river/fortriver/trec/Judgment" "topic" "Ljava/lang/String;" .null) (P2 : Fld Z h0 oa "com/example/fort_river/fortriver/trec/Judgment" "iteration" "Ljava/lang/String;" .null) (P3 : Fld Z h0 oa "com/example/fort_river/fortriver/trec/Judgment" "docno" "Ljava/lang/String;" .null) (P4 : Fld Z h0 oa "com/example/fort_river/fortriver/trec/Judgment" "relevance" "I" (.int (0 : Int32))) (ga : n0 ≤ oa) :
    MetFree l (⟨"com/example/fort_river/fortriver/trec/Judgment", "<init>", "(Ljava/lang/String;Ljava/lang/String;Ljava/lang/String;I)V"⟩ : MethodName) (head1 (Jvm.Cond.code (⟨"com/example/fort_river/fortriver/trec/Judgment", "<init>", "(Ljava/lang/String;Ljava/lang/String;Ljava/lang/String;I)V"⟩ : MethodName) prog_46_method_1_code 5 none :: ws) ({ frames := 2, cells := 0, slots := 0, locals := 24 } : Room)) (fun a U => a = #[(.ref oa), (.ref o1), (.ref o2), (.ref o3), (.int rl)] ∧ Z.Warmed39 U.vm ∧ U.heap = h0) (fun _ _ _ _ _ => True) (fun _ U o U' => ∃ v L, o = .returned v ∧ Q6 Z oa o1 o2 o3 rl h0 n0 v U'.heap L ∧ FrameEnd U o U' L ({ frames := 2, cells := 0, slots := 0, locals := 24 } : Room).cells ({ frames := 2, cells := 0, slots := 0, locals := 24 } : Room).slots) := by
  refine MetFree.of_bodySF (plainFor_of_name own_pn3) hisR ?_
  intro p e s m args below meth c s₁ Bd hml0 hP hK
  obtain ⟨rfl, hZ, hh⟩ := hP
  have hx := Bd.exec
  have hby := Bd.bytes
  have hml : c.maxLocals = 5 := hml0
  have hown : s.vm.findClass "com/example/fort_river/fortriver/trec/Judgment" = some m.cls := findClass_of_methodNamed Bd.named
  have hnm := (name_of_methodNamed Bd.named Bd.method).1
  have X0 : Stand p l e ({ frames := 2, cells := 0, slots := 0, locals := 24 } : Room) s m #[(.ref oa), (.ref o1), (.ref o2), (.ref o3), (.int rl)] below meth c s₁ [] 0 0 := Stand.of_body Bd
  have e0 : s₁.heap = h0 := by rw [← hh, Bd.state]; rfl
  have N0 := Fr.nil n0
  have K0 : Keep h0 h0 [oa] := Keep.refl _ _
  suffices GO : ∀ P : Outcome → State → Prop, (∀ o U', (∃ v L, o = .returned v ∧ Q6 Z oa o1 o2 o3 rl h0 n0 v U'.heap L ∧ FrameEnd s o U' L ({ frames := 2, cells := 0, slots := 0, locals := 24 } : Room).cells ({ frames := 2, cells := 0, slots := 0, locals := 24 } : Room).slots) → P o U') → Go p.tables e below P s₁ (mkF m 0 #[.val (.ref oa), .val (.ref o1), .val (.ref o2), .val (.ref o3), .val (.int rl)] []) by
    obtain ⟨s2, o, st, r⟩ := GO _ (fun _ _ q => q)
    exact ⟨s2, o, castTop (ef_6 m oa o1 o2 o3 rl) st, r⟩
  clear hh
  intro P hP
  show Go p.tables e below P s₁ (mkF m 0 #[.val (.ref oa), .val (.ref o1), .val (.ref o2), .val (.ref o3), .val (.int rl)] [])
  refine Go.via (fun t k => XS.aloadN X0.here hx rfl (hb hby d6_0) rfl rfl k) ?_
  show Go p.tables e below P s₁ (mkF m 1 #[.val (.ref oa), .val (.ref o1), .val (.ref o2), .val (.ref o3), .val (.int rl)] [(.ref oa)])
  obtain ⟨_, _, ⟨T1, L1, k1, n1⟩, -, X1, ⟨Lc1, hQ1, l1, y1, z1⟩, st1⟩ := X0.specialBack hx (y := (⟨"java/lang/Record", "<init>", "()V"⟩ : MethodName)) rfl hown (mvT hZ (hw _ (List.mem_of_getElem? (i := 32) rfl))) (mvT hZ (hw _ (List.mem_of_getElem? (i := 33) rfl))) (mvT hZ (hw _ (List.mem_of_getElem? (i := 36) rfl))) (by decide) (backOf (W := 0) (rm7 l Z a0 hw [] oa h0 n0 Z0 ) hZ (hw _ (List.mem_of_getElem? (i := 36) rfl)) (hw _ (List.mem_of_getElem? (i := 35) rfl)) (by decide) (by decide)) (g := (mkF m 1 #[.val (.ref oa), .val (.ref o1), .val (.ref o2), .val (.ref o3), .val (.int rl)] [(.ref oa)])) rfl (by rw [hml]; rfl) (Steps.refl _) (a := oa) (argsL := []) (rest := []) (lenOf own_pd3 rfl) rfl (by show 2 * 0 + _ ≤ _; exact Nat.le_of_eq rfl) (hb hby d6_1) (fun _ _ => ⟨rfl, e0, (by decide : 0 + 0 ≤ _), (by decide : 0 + 0 ≤ _)⟩)
  dsimp only [Pt.U, Pt.locs, Pt.cells, Pt.slots] at X1 l1 y1 z1 st1 hQ1
  subst l1 y1 z1
  obtain ⟨rfl, Nq1, hh1⟩ := hQ1
  have N1 := Fr.app N0 Nq1
  refine Go.hop st1 ?_
  show Go p.tables e below P T1 (mkF m 4 #[.val (.ref oa), .val (.ref o1), .val (.ref o2), .val (.ref o3), .val (.int rl)] [])
  refine Go.via (fun t k => XS.aloadN X1.here hx rfl (hb hby d6_4) rfl rfl k) ?_
  show Go p.tables e below P T1 (mkF m 5 #[.val (.ref oa), .val (.ref o1), .val (.ref o2), .val (.ref o3), .val (.int rl)] [(.ref oa)])
  refine Go.via (fun t k => XS.aloadN X1.here hx rfl (hb hby d6_5) rfl rfl k) ?_
  show Go p.tables e below P T1 (mkF m 6 #[.val (.ref oa), .val (.ref o1), .val (.ref o2), .val (.ref o3), .val (.int rl)] [(.ref o1), (.ref oa)])
  obtain ⟨T2, h2, X2, e2, W2, st2⟩ := putF X1 hx hZ hown (host := "") (Or.inl (hw _ (List.mem_of_getElem? (i := 38) rfl))) Via.refl hh1 P1 P0 (Or.inr ⟨(hw _ (List.mem_of_getElem? (i := 39) rfl)), rfl, hnm⟩) (hw _ (List.mem_of_getElem? (i := 27) rfl)) (ty := (.object "java/lang/String")) (by decide) rfl rfl (g := (mkF m 6 #[.val (.ref oa), .val (.ref o1), .val (.ref o2), .val (.ref o3), .val (.int rl)] [(.ref o1), (.ref oa)])) rfl rfl (hb hby d6_6)
  refine Go.via st2 ?_
  have Z3 : n0 ≤ h2.size := Nat.le_trans Z0 (Nat.le_of_eq W2.size.symm)
  have K4 : Keep h0 h2 [oa] := K0.wr W2 (Or.inl (List.mem_of_getElem? (i := 0) rfl))
  have N5 := Fr.snoc X2 N1 ga
  have Fw2 := P1.same W2
  show Go p.tables e below P T2 (mkF m 9 #[.val (.ref oa), .val (.ref o1), .val (.ref o2), .val (.ref o3), .val (.int rl)] [])
  refine Go.via (fun t k => XS.aloadN X2.here hx rfl (hb hby d6_9) rfl rfl k) ?_
  show Go p.tables e below P T2 (mkF m 10 #[.val (.ref oa), .val (.ref o1), .val (.ref o2), .val (.ref o3), .val (.int rl)] [(.ref oa)])
  refine Go.via (fun t k => XS.aloadN X2.here hx rfl (hb hby d6_10) rfl rfl k) ?_
  show Go p.tables e below P T2 (mkF m 11 #[.val (.ref oa), .val (.ref o1), .val (.ref o2), .val (.ref o3), .val (.int rl)] [(.ref o2), (.ref oa)])
  have F6 : Exa Z h2 oa "com/example/fort_river/fortriver/trec/Judgment" := (P0.wr W2)
  have F7 : Fld Z h2 oa "com/example/fort_river/fortriver/trec/Judgment" "iteration" "Ljava/lang/String;" .null := (P2.other W2 (Or.inr (slot_ne (Or.inr (hw _ (List.mem_of_getElem? (i := 41) rfl))) (Or.inr (hw _ (List.mem_of_getElem? (i := 39) rfl))) (by decide) (t := (.object "java/lang/String")) (t' := (.object "java/lang/String")) (by decide) (by decide))))
  have F8 : Fld Z h2 oa "com/example/fort_river/fortriver/trec/Judgment" "docno" "Ljava/lang/String;" .null := (P3.other W2 (Or.inr (slot_ne (Or.inr (hw _ (List.mem_of_getElem? (i := 43) rfl))) (Or.inr (hw _ (List.mem_of_getElem? (i := 39) rfl))) (by decide) (t := (.object "java/lang/String")) (t' := (.object "java/lang/String")) (by decide) (by decide))))
  have F9 : Fld Z h2 oa "com/example/fort_river/fortriver/trec/Judgment" "relevance" "I" (.int (0 : Int32)) := (P4.other W2 (Or.inr (slot_ne (Or.inr (hw _ (List.mem_of_getElem? (i := 45) rfl))) (Or.inr (hw _ (List.mem_of_getElem? (i := 39) rfl))) (by decide) (t := .int) (t' := (.object "java/lang/String")) (by decide) (by decide))))
  obtain ⟨T10, h10, X10, e10, W10, st10⟩ := putF X2 hx hZ hown (host := "") (Or.inl (hw _ (List.mem_of_getElem? (i := 40) rfl))) Via.refl e2 F7 F6 (Or.inr ⟨(hw _ (List.mem_of_getElem? (i := 41) rfl)), rfl, hnm⟩) (hw _ (List.mem_of_getElem? (i := 27) rfl)) (ty := (.object "java/lang/String")) (by decide) rfl rfl (g := (mkF m 11 #[.val (.ref oa), .val (.ref o1), .val (.ref o2), .val (.ref o3), .val (.int rl)] [(.ref o2), (.ref oa)])) rfl rfl (hb hby d6_11)
  refine Go.via st10 ?_
  have Z11 : n0 ≤ h10.size := Nat.le_trans Z3 (Nat.le_of_eq W10.size.symm)
  have K12 : Keep h0 h10 [oa] := K4.wr W10 (Or.inl (List.mem_of_getElem? (i := 0) rfl))
  have N13 := Fr.snoc X10 N5 ga
  have Fw10 := F7.same W10
  show Go p.tables e below P T10 (mkF m 14 #[.val (.ref oa), .val (.ref o1), .val (.ref o2), .val (.ref o3), .val (.int rl)] [])
  refine Go.via (fun t k => XS.aloadN X10.here hx rfl (hb hby d6_14) rfl rfl k) ?_
  show Go p.tables e below P T10 (mkF m 15 #[.val (.ref oa), .val (.ref o1), .val (.ref o2), .val (.ref o3), .val (.int rl)] [(.ref oa)])
  refine Go.via (fun t k => XS.aloadN X10.here hx rfl (hb hby d6_15) rfl rfl k) ?_
  show Go p.tables e below P T10 (mkF m 16 #[.val (.ref oa), .val (.ref o1), .val (.ref o2), .val (.ref o3), .val (.int rl)] [(.ref o3), (.ref oa)])
  have F14 : Exa Z h10 oa "com/example/fort_river/fortriver/trec/Judgment" := (F6.wr W10)
  have F15 : Fld Z h10 oa "com/example/fort_river/fortriver/trec/Judgment" "docno" "Ljava/lang/String;" .null := (F8.other W10 (Or.inr (slot_ne (Or.inr (hw _ (List.mem_of_getElem? (i := 43) rfl))) (Or.inr (hw _ (List.mem_of_getElem? (i := 41) rfl))) (by decide) (t := (.object "java/lang/String")) (t' := (.object "java/lang/String")) (by decide) (by decide))))
  have F16 : Fld Z h10 oa "com/example/fort_river/fortriver/trec/Judgment" "topic" "Ljava/lang/String;" (.ref o1) := (Fw2.other W10 (Or.inr (slot_ne (Or.inr (hw _ (List.mem_of_getElem? (i := 39) rfl))) (Or.inr (hw _ (List.mem_of_getElem? (i := 41) rfl))) (by decide) (t := (.object "java/lang/String")) (t' := (.object "java/lang/String")) (by decide) (by decide))))
  have F17 : Fld Z h10 oa "com/example/fort_river/fortriver/trec/Judgment" "relevance" "I" (.int (0 : Int32)) := (F9.other W10 (Or.inr (slot_ne (Or.inr (hw _ (List.mem_of_getElem? (i := 45) rfl))) (Or.inr (hw _ (List.mem_of_getElem? (i := 41) rfl))) (by decide) (t := .int) (t' := (.object "java/lang/String")) (by decide) (by decide))))
  obtain ⟨T18, h18, X18, e18, W18, st18⟩ := putF X10 hx hZ hown (host := "") (Or.inl (hw _ (List.mem_of_getElem? (i := 42) rfl))) Via.refl e10 F15 F14 (Or.inr ⟨(hw _ (List.mem_of_getElem? (i := 43) rfl)), rfl, hnm⟩) (hw _ (List.mem_of_getElem? (i := 27) rfl)) (ty := (.object "java/lang/String")) (by decide) rfl rfl (g := (mkF m 16 #[.val (.ref oa), .val (.ref o1), .val (.ref o2), .val (.ref o3), .val (.int rl)] [(.ref o3), (.ref oa)])) rfl rfl (hb hby d6_16)
  refine Go.via st18 ?_
  have Z19 : n0 ≤ h18.size := Nat.le_trans Z11 (Nat.le_of_eq W18.size.symm)
  have K20 : Keep h0 h18 [oa] := K12.wr W18 (Or.inl (List.mem_of_getElem? (i := 0) rfl))
  have N21 := Fr.snoc X18 N13 ga
  have Fw18 := F15.same W18
  show Go p.tables e below P T18 (mkF m 19 #[.val (.ref oa), .val (.ref o1), .val (.ref o2), .val (.ref o3), .val (.int rl)] [])
  refine Go.via (fun t k => XS.aloadN X18.here hx rfl (hb hby d6_19) rfl rfl k) ?_
  show Go p.tables e below P T18 (mkF m 20 #[.val (.ref oa), .val (.ref o1), .val (.ref o2), .val (.ref o3), .val (.int rl)] [(.ref oa)])
  refine Go.via (fun t k => XS.iload X18.here hx rfl (hb hby d6_20) rfl k) ?_
  show Go p.tables e below P T18 (mkF m 22 #[.val (.ref oa), .val (.ref o1), .val (.ref o2), .val (.ref o3), .val (.int rl)] [(.int rl), (.ref oa)])
  have F22 : Exa Z h18 oa "com/example/fort_river/fortriver/trec/Judgment" := (F14.wr W18)
  have F23 : Fld Z h18 oa "com/example/fort_river/fortriver/trec/Judgment" "relevance" "I" (.int (0 : Int32)) := (F17.other W18 (Or.inr (slot_ne (Or.inr (hw _ (List.mem_of_getElem? (i := 45) rfl))) (Or.inr (hw _ (List.mem_of_getElem? (i := 43) rfl))) (by decide) (t := .int) (t' := (.object "java/lang/String")) (by decide) (by decide))))
  have F24 : Fld Z h18 oa "com/example/fort_river/fortriver/trec/Judgment" "topic" "Ljava/lang/String;" (.ref o1) := (F16.other W18 (Or.inr (slot_ne (Or.inr (hw _ (List.mem_of_getElem? (i := 39) rfl))) (Or.inr (hw _ (List.mem_of_getElem? (i := 43) rfl))) (by decide) (t := (.object "java/lang/String")) (t' := (.object "java/lang/String")) (by decide) (by decide))))
  have F25 : Fld Z h18 oa "com/example/fort_river/fortriver/trec/Judgment" "iteration" "Ljava/lang/String;" (.ref o2) := (Fw10.other W18 (Or.inr (slot_ne (Or.inr (hw _ (List.mem_of_getElem? (i := 41) rfl))) (Or.inr (hw _ (List.mem_of_getElem? (i := 43) rfl))) (by decide) (t := (.object "java/lang/String")) (t' := (.object "java/lang/String")) (by decide) (by decide))))
  obtain ⟨T26, h26, X26, e26, W26, st26⟩ := putF X18 hx hZ hown (host := "") (Or.inl (hw _ (List.mem_of_getElem? (i := 44) rfl))) Via.refl e18 F23 F22 (Or.inr ⟨(hw _ (List.mem_of_getElem? (i := 45) rfl)), rfl, hnm⟩) (hw _ (List.mem_of_getElem? (i := 27) rfl)) (ty := .int) (by decide) rfl rfl (g := (mkF m 22 #[.val (.ref oa), .val (.ref o1), .val (.ref o2), .val (.ref o3), .val (.int rl)] [(.int rl), (.ref oa)])) rfl rfl (hb hby d6_22)
  refine Go.via st26 ?_
  have Z27 : n0 ≤ h26.size := Nat.le_trans Z19 (Nat.le_of_eq W26.size.symm)
  have K28 : Keep h0 h26 [oa] := K20.wr W26 (Or.inl (List.mem_of_getElem? (i := 0) rfl))
  have N29 := Fr.snoc X26 N21 ga
  have Fw26 := F23.same W26
  show Go p.tables e below P T26 (mkF m 25 #[.val (.ref oa), .val (.ref o1), .val (.ref o2), .val (.ref o3), .val (.int rl)] [])
  obtain ⟨fs, hr, hrun, hended, hW, hsame⟩ := X26.leave (v := none) (fun _ => rfl)
  have F31 : Exa Z h26 oa "com/example/fort_river/fortriver/trec/Judgment" := (F22.wr W26)
  refine ⟨_, _, X26.returnOut hx Bd.returns (hb hby d6_25) hr, hrun, hended, hP _ _ ⟨_, _, rfl, ?_, ⟨_, rfl⟩, hW, hsame.mono (by decide) (by decide)⟩⟩
  show Q6 Z oa o1 o2 o3 rl h0 n0 _ T26.heap _
  rw [e26]
  exact ⟨rfl, N29, K28, F31, Fw26⟩
theorem d8_0 : decode prog_46_method_3_code 0 = .ok (.aload_n 0, 1) := by decide +kernel
theorem d8_1 : decode prog_46_method_3_code 1 = .ok (.getfield 19, 3) := by decide +kernel
theorem d8_4 : decode prog_46_method_3_code 4 = .ok (.ifCond .le 7, 3) := by decide +kernel
theorem d8_7 : decode prog_46_method_3_code 7 = .ok (.iconst 1, 1) := by decide +kernel
theorem d8_8 : decode prog_46_method_3_code 8 = .ok (.goto 4, 3) := by decide +kernel
theorem d8_11 : decode prog_46_method_3_code 11 = .ok (.iconst 0, 1) := by decide +kernel
theorem d8_12 : decode prog_46_method_3_code 12 = .ok (.ireturn, 1) := by decide +kernel
theorem ef_8 (m : MethodId) (x0 : Addr) : entryFrame m #[(.ref x0)] 1 = mkF m 0 #[.val (.ref x0)] [] := by first | (simp [entryFrame, mkF, argsToLocals, Value.category]; done) | rfl
def Q8 (Z : State) (oa : Addr) (w : Int32) (h0 : Heap) (n0 : Nat) (v : Option Value) (h : Heap) (L : List Loc) : Prop := v = some (.int (if (0 : Int32) < w then (1 : Int32) else (0 : Int32))) ∧ Fr n0 L ∧ h = h0
set_option maxRecDepth 65536 in
set_option maxHeartbeats 40000000 in
theorem rm8 (l : Launch) (Z : State) (a0 : Array Value) (hw : ∀ d ∈ tables_1, d.before a0 Z = true) (ws : List Jvm.Cond) (oa : Addr) (w : Int32) (h0 : Heap) (n0 : Nat) (Z0 : n0 ≤ h0.size) (P0 : Fld Z h0 oa "com/example/fort_river/fortriver/trec/Judgment" "relevance" "I" (.int w)) :
    MetFree l (⟨"com/example/fort_river/fortriver/trec/Judgment", "isRelevant", "()Z"⟩ : MethodName) (head1 (Jvm.Cond.code (⟨"com/example/fort_river/fortriver/trec/Judgment", "isRelevant", "()Z"⟩ : MethodName) prog_46_method_3_code 1 (some .boolean) :: ws) ({ frames := 0, cells := 0, slots := 0, locals := 0 } : Room)) (fun a U => a = #[(.ref oa)] ∧ Z.Warmed39 U.vm ∧ U.heap = h0) (fun _ _ _ _ _ => True) (fun _ U o U' => ∃ v L, o = .returned v ∧ Q8 Z oa w h0 n0 v U'.heap L ∧ FrameEnd U o U' L ({ frames := 0, cells := 0, slots := 0, locals := 0 } : Room).cells ({ frames := 0, cells := 0, slots := 0, locals := 0 } : Room).slots) := by
  refine MetFree.of_bodySF (plainFor_of_name own_pn3) hisR ?_
  intro p e s m args below meth c s₁ Bd hml0 hP hK
  obtain ⟨rfl, hZ, hh⟩ := hP
  have hx := Bd.exec
  have hby := Bd.bytes
  have hml : c.maxLocals = 1 := hml0
  have hown : s.vm.findClass "com/example/fort_river/fortriver/trec/Judgment" = some m.cls := findClass_of_methodNamed Bd.named
  have hnm := (name_of_methodNamed Bd.named Bd.method).1
  have X0 : Stand p l e ({ frames := 0, cells := 0, slots := 0, locals := 0 } : Room) s m #[(.ref oa)] below meth c s₁ [] 0 0 := Stand.of_body Bd
  have e0 : s₁.heap = h0 := by rw [← hh, Bd.state]; rfl
  have N0 := Fr.nil n0
  have K0 : Keep h0 h0 [] := Keep.refl _ _
  suffices GO : ∀ P : Outcome → State → Prop, (∀ o U', (∃ v L, o = .returned v ∧ Q8 Z oa w h0 n0 v U'.heap L ∧ FrameEnd s o U' L ({ frames := 0, cells := 0, slots := 0, locals := 0 } : Room).cells ({ frames := 0, cells := 0, slots := 0, locals := 0 } : Room).slots) → P o U') → Go p.tables e below P s₁ (mkF m 0 #[.val (.ref oa)] []) by
    obtain ⟨s2, o, st, r⟩ := GO _ (fun _ _ q => q)
    exact ⟨s2, o, castTop (ef_8 m oa) st, r⟩
  clear hh
  intro P hP
  show Go p.tables e below P s₁ (mkF m 0 #[.val (.ref oa)] [])
  refine Go.via (fun t k => XS.aloadN X0.here hx rfl (hb hby d8_0) rfl rfl k) ?_
  show Go p.tables e below P s₁ (mkF m 1 #[.val (.ref oa)] [(.ref oa)])
  obtain ⟨T1, X1, e1, st1⟩ := getF X0 hx hZ hown (host := "") (Or.inl (hw _ (List.mem_of_getElem? (i := 44) rfl))) Via.refl e0 P0 (g := (mkF m 1 #[.val (.ref oa)] [(.ref oa)])) rfl rfl (hb hby d8_1)
  refine Go.via st1 ?_
  show Go p.tables e below P T1 (mkF m 4 #[.val (.ref oa)] [(.int w)])
  have J3 : ∀ (T3 : State) (locs3 : List Loc) (v3_0 : Int32), Stand p l e ({ frames := 0, cells := 0, slots := 0, locals := 0 } : Room) s m #[(.ref oa)] below meth c T3 locs3 0 0 → T3.heap = h0 → Fr n0 locs3 → v3_0 = (if (0 : Int32) < w then (1 : Int32) else (0 : Int32)) → Go p.tables e below P T3 (mkF m 12 #[.val (.ref oa)] [(.int v3_0)]) := by
    intro T3 locs3 v3_0 X3 e3 N3 hv3_0
    have hbv3_0 : v3_0 = 0 ∨ v3_0 = 1 := by (subst hv3_0; (repeat' split) <;> first | (left; rfl) | (right; rfl))
    show Go p.tables e below P T3 (mkF m 12 #[.val (.ref oa)] [(.int v3_0)])
    obtain ⟨fs, hr, hrun, hended, hW, hsame⟩ := X3.leave (v := some (.int (if (0 : Int32) < w then (1 : Int32) else (0 : Int32)))) (fun h => by rw [Bd.returns] at h; cases h)
    refine ⟨_, _, retZ X3 hx (t := .boolean) Bd.returns (by simp) (hb hby d8_12) ((own_nb hbv3_0).trans hv3_0) hr, hrun, hended, hP _ _ ⟨_, _, rfl, ?_, ⟨_, rfl⟩, hW, hsame.mono (by decide) (by decide)⟩⟩
    show Q8 Z oa w h0 n0 _ T3.heap _
    rw [e3]
    exact ⟨rfl, N3, rfl⟩
  by_cases hc2 : (0 : Int32) < w
  · refine Go.via (fun t k => XS.ifNo X1.here hx rfl (hb hby d8_4) rfl ((if0 _ _).trans (tlt hc2).2.2.2) k) ?_
    show Go p.tables e below P T1 (mkF m 7 #[.val (.ref oa)] [])
    refine Go.via (fun t k => XS.iconst X1.here hx rfl (hb hby d8_7) k) ?_
    show Go p.tables e below P T1 (mkF m 8 #[.val (.ref oa)] [(.int (1 : Int32))])
    refine Go.via (fun t k => XS.goto X1.here hx rfl (pc0 := 8) (pc' := 12) rfl (hb hby d8_8) (by decide) (by decide) k) ?_
    exact J3 T1 _ (1 : Int32) X1 e1 N0 (if_pos hc2).symm
  · refine Go.via (fun t k => XS.ifYes X1.here hx rfl (pc0 := 4) (pc' := 11) rfl (hb hby d8_4) rfl ((if0 _ _).trans (flt hc2).2.2.2) (by decide) (by decide) k) ?_
    show Go p.tables e below P T1 (mkF m 11 #[.val (.ref oa)] [])
    refine Go.via (fun t k => XS.iconst X1.here hx rfl (hb hby d8_11) k) ?_
    exact J3 T1 _ (0 : Int32) X1 e1 N0 (if_neg hc2).symm
theorem own_pd4 : parseMethodDescriptor "(C)Ljava/lang/String;" = some ⟨[.char], some (.object "java/lang/String")⟩ := by decide +kernel
theorem own_pd5 : parseMethodDescriptor "(Ljava/lang/String;Ljava/lang/String;Ljava/lang/String;I)V" = some ⟨[(.object "java/lang/String"), (.object "java/lang/String"), (.object "java/lang/String"), .int], none⟩ := by decide +kernel
theorem own_pd6 : parseMethodDescriptor "()Z" = some ⟨[], some .boolean⟩ := by decide +kernel
theorem own_pn4 : plainName "com/example/fort_river/fortriver/trec/JudgmentIsRelevantPinLaw" = true := by first | (simp [plainName, overriddenIn]; done) | decide +kernel
theorem ef_0 (m : MethodId) (x0 : Int32) (x1 : Int32) (x2 : Int32) : entryFrame m #[(.int x0), (.int x1), (.int x2)] maxLocals = mkF m 0 #[.val (.int x0), .val (.int x1), .val (.int x2), .unset, .unset, .unset, .unset, .unset, .unset, .unset, .unset, .unset, .unset] [] := by first | (simp [entryFrame, mkF, argsToLocals, Value.category, maxLocals]; done) | rfl
def Q0 (Z : State) (p1 : Int32) (p2 : Int32) (pc : Int32) (cs : Int32) (h0 : Heap) (n0 : Nat) (v : Option Value) (h : Heap) (L : List Loc) : Prop := v = some (.int (1 : Int32)) ∧ Fr n0 L
set_option maxRecDepth 65536 in
set_option maxHeartbeats 40000000 in
theorem rm0 (l : Launch) (Z : State) (a0 : Array Value) (hw : ∀ d ∈ tables_1, d.before a0 Z = true) (ws : List Jvm.Cond) (p1 : Int32) (p2 : Int32) (pc : Int32) (cs : Int32) (h0 : Heap) (n0 : Nat) (Z0 : n0 ≤ h0.size) (O0 : Old Z n0 h0) (P1 : Sta Z Z.heap "java/lang/String" "COMPACT_STRINGS" "Z" (.int cs)) (hcs : ¬ cs = (0 : Int32)) :
    MetFree l x (head1 (Jvm.Cond.code x code maxLocals ret :: ws) room_1) (fun a U => a = #[(.int p1), (.int p2), (.int pc)] ∧ Z.Warmed39 U.vm ∧ U.heap = h0) (fun _ _ _ _ _ => True) (fun _ U o U' => ∃ v L, o = .returned v ∧ Q0 Z p1 p2 pc cs h0 n0 v U'.heap L ∧ FrameEnd U o U' L room_1.cells room_1.slots) := by
  refine MetFree.of_bodySF (plainFor_of_name own_pn4) hisR ?_
  intro p e s m args below meth c s₁ Bd hml0 hP hK
  obtain ⟨rfl, hZ, hh⟩ := hP
  have hx := Bd.exec
  have hby := Bd.bytes
  have hml : c.maxLocals = 13 := hml0
  have hown : s.vm.findClass "com/example/fort_river/fortriver/trec/JudgmentIsRelevantPinLaw" = some m.cls := findClass_of_methodNamed Bd.named
  have hnm := (name_of_methodNamed Bd.named Bd.method).1
  have X0 : Stand p l e room_1 s m #[(.int p1), (.int p2), (.int pc)] below meth c s₁ [] 0 0 := Stand.of_body Bd
  have e0 : s₁.heap = h0 := by rw [← hh, Bd.state]; rfl
  have N0 := Fr.nil n0
  have K0 : Keep h0 h0 [] := Keep.refl _ _
  suffices GO : ∀ P : Outcome → State → Prop, (∀ o U', (∃ v L, o = .returned v ∧ Q0 Z p1 p2 pc cs h0 n0 v U'.heap L ∧ FrameEnd s o U' L room_1.cells room_1.slots) → P o U') → Go p.tables e below P s₁ (mkF m 0 #[.val (.int p1), .val (.int p2), .val (.int pc), .unset, .unset, .unset, .unset, .unset, .unset, .unset, .unset, .unset, .unset] []) by
    obtain ⟨s2, o, st, r⟩ := GO _ (fun _ _ q => q)
    exact ⟨s2, o, castTop (ef_0 m p1 p2 pc) st, r⟩
  clear hh
  intro P hP
  show Go p.tables e below P s₁ (mkF m 0 #[.val (.int p1), .val (.int p2), .val (.int pc), .unset, .unset, .unset, .unset, .unset, .unset, .unset, .unset, .unset, .unset] [])
  refine Go.via (fun t k => XS.iloadN X0.here hx rfl (hb hby at_0) rfl k) ?_
  show Go p.tables e below P s₁ (mkF m 1 #[.val (.int p1), .val (.int p2), .val (.int pc), .unset, .unset, .unset, .unset, .unset, .unset, .unset, .unset, .unset, .unset] [(.int pc)])
  refine Go.via (fun t k => XS.sipush X0.here hx rfl (hb hby at_1) k) ?_
  show Go p.tables e below P s₁ (mkF m 4 #[.val (.int p1), .val (.int p2), .val (.int pc), .unset, .unset, .unset, .unset, .unset, .unset, .unset, .unset, .unset, .unset] [(.int (255 : Int32)), (.int pc)])
  refine Go.via (fun t k => XS.iand X0.here hx rfl (hb hby at_4) rfl k) ?_
  show Go p.tables e below P s₁ (mkF m 5 #[.val (.int p1), .val (.int p2), .val (.int pc), .unset, .unset, .unset, .unset, .unset, .unset, .unset, .unset, .unset, .unset] [(.int (pc &&& (255 : Int32)))])
  refine Go.via (fun t k => XS.i2c X0.here hx rfl (hb hby at_5) rfl k) ?_
  show Go p.tables e below P s₁ (mkF m 6 #[.val (.int p1), .val (.int p2), .val (.int pc), .unset, .unset, .unset, .unset, .unset, .unset, .unset, .unset, .unset, .unset] [(.int ((pc &&& (255 : Int32)).toUInt32.toUInt16.toUInt32.toInt32))])
  obtain ⟨_, _, ⟨T1, L1, k1, n1⟩, -, X1, ⟨Lc1, hQ1, l1, y1, z1⟩, st1⟩ := Jvm.LawKit.callS X0 hx (y := (⟨"java/lang/String", "valueOf", "(C)Ljava/lang/String;"⟩ : MethodName)) hown (mvT hZ (hw _ (List.mem_of_getElem? (i := 0) rfl))) (mvT hZ (hw _ (List.mem_of_getElem? (i := 1) rfl))) (mvT hZ (hw _ (List.mem_of_getElem? (i := 2) rfl))) (mvT hZ (hw _ (List.mem_of_getElem? (i := 3) rfl))) (by decide) (backOf (W := 0) (rm1 l Z a0 hw [] ((pc &&& (255 : Int32)).toUInt32.toUInt16.toUInt32.toInt32) cs h0 n0 Z0 O0 P1 (by first | assumption | decide | omega : ¬ cs = (0 : Int32)) (own_ch1 _)) hZ (hw _ (List.mem_of_getElem? (i := 3) rfl)) (hw _ (List.mem_of_getElem? (i := 2) rfl)) (by decide) (by decide)) (g := (mkF m 6 #[.val (.int p1), .val (.int p2), .val (.int pc), .unset, .unset, .unset, .unset, .unset, .unset, .unset, .unset, .unset, .unset] [(.int ((pc &&& (255 : Int32)).toUInt32.toUInt16.toUInt32.toInt32))])) rfl (by rw [hml]; rfl) (argsL := [(.int ((pc &&& (255 : Int32)).toUInt32.toUInt16.toUInt32.toInt32))]) (rest := []) (lenOf own_pd4 rfl) rfl (by show 2 * 0 + _ ≤ _; exact Nat.le_of_eq rfl) (hb hby at_6) (fun _ _ => ⟨rfl, e0, (by decide : 0 + 2 ≤ _), (by decide : 0 + 5 ≤ _)⟩)
  dsimp only [Pt.U, Pt.locs, Pt.cells, Pt.slots] at X1 l1 y1 z1 st1 hQ1
  subst l1 y1 z1
  obtain ⟨r_1, tb_1, kk_1, rfl, Nq1, K1, fr1_r, fr1_tb, u1_0, u1_1, u1_2, u1_3, u1_4⟩ := hQ1
  have N1 := Fr.app N0 Nq1
  refine Go.via st1 ?_
  have g2 : n0 ≤ r_1 := Nat.le_trans Z0 fr1_r
  have sz3 : h0.size ≤ r_1 := Nat.le_trans K0.1 fr1_r
  have g4 : n0 ≤ tb_1 := Nat.le_trans Z0 fr1_tb
  have sz5 : h0.size ≤ tb_1 := Nat.le_trans K0.1 fr1_tb
  have Z6 : n0 ≤ T1.heap.size := Nat.le_trans Z0 K1.1
  have K7 : Keep h0 T1.heap [] := K0.trans K1 own_all0
  have O8 : Old Z n0 T1.heap := O0.keep K1 own_all0
  show Go p.tables e below P T1 (mkF m 9 #[.val (.int p1), .val (.int p2), .val (.int pc), .unset, .unset, .unset, .unset, .unset, .unset, .unset, .unset, .unset, .unset] [(.ref r_1)])
  refine Go.via (fun t k => XS.astoreN X1.here hx rfl (hb hby at_9) rfl rfl (l' := #[.val (.int p1), .val (.int p2), .val (.int pc), .val (.ref r_1), .unset, .unset, .unset, .unset, .unset, .unset, .unset, .unset, .unset]) rfl k) ?_
  show Go p.tables e below P T1 (mkF m 10 #[.val (.int p1), .val (.int p2), .val (.int pc), .val (.ref r_1), .unset, .unset, .unset, .unset, .unset, .unset, .unset, .unset, .unset] [])
  refine Go.via (fun t k => XS.iloadN X1.here hx rfl (hb hby at_10) rfl k) ?_
  show Go p.tables e below P T1 (mkF m 11 #[.val (.int p1), .val (.int p2), .val (.int pc), .val (.ref r_1), .unset, .unset, .unset, .unset, .unset, .unset, .unset, .unset, .unset] [(.int pc)])
  refine Go.via (fun t k => XS.bipush X1.here hx rfl (hb hby at_11) k) ?_
  show Go p.tables e below P T1 (mkF m 13 #[.val (.int p1), .val (.int p2), .val (.int pc), .val (.ref r_1), .unset, .unset, .unset, .unset, .unset, .unset, .unset, .unset, .unset] [(.int (8 : Int32)), (.int pc)])
  refine Go.via (fun t k => XS.iushr X1.here hx rfl (hb hby at_13) rfl k) ?_
  show Go p.tables e below P T1 (mkF m 14 #[.val (.int p1), .val (.int p2), .val (.int pc), .val (.ref r_1), .unset, .unset, .unset, .unset, .unset, .unset, .unset, .unset, .unset] [(.int ((pc.toUInt32 >>> ((8 : Int32) &&& 31).toUInt32).toInt32))])
  refine Go.via (fun t k => XS.sipush X1.here hx rfl (hb hby at_14) k) ?_
  show Go p.tables e below P T1 (mkF m 17 #[.val (.int p1), .val (.int p2), .val (.int pc), .val (.ref r_1), .unset, .unset, .unset, .unset, .unset, .unset, .unset, .unset, .unset] [(.int (255 : Int32)), (.int ((pc.toUInt32 >>> ((8 : Int32) &&& 31).toUInt32).toInt32))])
  refine Go.via (fun t k => XS.iand X1.here hx rfl (hb hby at_17) rfl k) ?_
  show Go p.tables e below P T1 (mkF m 18 #[.val (.int p1), .val (.int p2), .val (.int pc), .val (.ref r_1), .unset, .unset, .unset, .unset, .unset, .unset, .unset, .unset, .unset] [(.int (((pc.toUInt32 >>> ((8 : Int32) &&& 31).toUInt32).toInt32) &&& (255 : Int32)))])
  refine Go.via (fun t k => XS.i2c X1.here hx rfl (hb hby at_18) rfl k) ?_
  show Go p.tables e below P T1 (mkF m 19 #[.val (.int p1), .val (.int p2), .val (.int pc), .val (.ref r_1), .unset, .unset, .unset, .unset, .unset, .unset, .unset, .unset, .unset] [(.int ((((pc.toUInt32 >>> ((8 : Int32) &&& 31).toUInt32).toInt32) &&& (255 : Int32)).toUInt32.toUInt16.toUInt32.toInt32))])
  obtain ⟨_, _, ⟨T9, L9, k9, n9⟩, -, X9, ⟨Lc9, hQ9, l9, y9, z9⟩, st9⟩ := Jvm.LawKit.callS X1 hx (y := (⟨"java/lang/String", "valueOf", "(C)Ljava/lang/String;"⟩ : MethodName)) hown (mvT hZ (hw _ (List.mem_of_getElem? (i := 0) rfl))) (mvT hZ (hw _ (List.mem_of_getElem? (i := 1) rfl))) (mvT hZ (hw _ (List.mem_of_getElem? (i := 2) rfl))) (mvT hZ (hw _ (List.mem_of_getElem? (i := 3) rfl))) (by decide) (backOf (W := 0) (rm1 l Z a0 hw [] ((((pc.toUInt32 >>> ((8 : Int32) &&& 31).toUInt32).toInt32) &&& (255 : Int32)).toUInt32.toUInt16.toUInt32.toInt32) cs T1.heap n0 Z6 O8 P1 (by first | assumption | decide | omega : ¬ cs = (0 : Int32)) (own_ch1 _)) hZ (hw _ (List.mem_of_getElem? (i := 3) rfl)) (hw _ (List.mem_of_getElem? (i := 2) rfl)) (by decide) (by decide)) (g := (mkF m 19 #[.val (.int p1), .val (.int p2), .val (.int pc), .val (.ref r_1), .unset, .unset, .unset, .unset, .unset, .unset, .unset, .unset, .unset] [(.int ((((pc.toUInt32 >>> ((8 : Int32) &&& 31).toUInt32).toInt32) &&& (255 : Int32)).toUInt32.toUInt16.toUInt32.toInt32))])) rfl (by rw [hml]; rfl) (argsL := [(.int ((((pc.toUInt32 >>> ((8 : Int32) &&& 31).toUInt32).toInt32) &&& (255 : Int32)).toUInt32.toUInt16.toUInt32.toInt32))]) (rest := []) (lenOf own_pd4 rfl) rfl (by show 2 * 0 + _ ≤ _; exact Nat.le_of_eq rfl) (hb hby at_19) (fun _ _ => ⟨rfl, rfl, (by decide : 2 + 2 ≤ _), (by decide : 5 + 5 ≤ _)⟩)
  dsimp only [Pt.U, Pt.locs, Pt.cells, Pt.slots] at X9 l9 y9 z9 st9 hQ9
  subst l9 y9 z9
  obtain ⟨r_9, tb_9, kk_9, rfl, Nq9, K9, fr9_r, fr9_tb, u9_0, u9_1, u9_2, u9_3, u9_4⟩ := hQ9
  have N9 := Fr.app N1 Nq9
  refine Go.via st9 ?_
  have ne10 : r_1 ≠ r_9 := Nat.ne_of_lt (Nat.lt_of_lt_of_le u1_0.lt fr9_r)
  have ne11 : tb_1 ≠ r_9 := Nat.ne_of_lt (Nat.lt_of_lt_of_le u1_3.lt fr9_r)
  have g12 : n0 ≤ r_9 := Nat.le_trans Z6 fr9_r
  have sz13 : h0.size ≤ r_9 := Nat.le_trans K7.1 fr9_r
  have ne14 : r_1 ≠ tb_9 := Nat.ne_of_lt (Nat.lt_of_lt_of_le u1_0.lt fr9_tb)
  have ne15 : tb_1 ≠ tb_9 := Nat.ne_of_lt (Nat.lt_of_lt_of_le u1_3.lt fr9_tb)
  have g16 : n0 ≤ tb_9 := Nat.le_trans Z6 fr9_tb
  have sz17 : h0.size ≤ tb_9 := Nat.le_trans K7.1 fr9_tb
  have Z18 : n0 ≤ T9.heap.size := Nat.le_trans Z6 K9.1
  have K19 : Keep h0 T9.heap [] := K7.trans K9 own_all0
  have O20 : Old Z n0 T9.heap := O8.keep K9 own_all0
  show Go p.tables e below P T9 (mkF m 22 #[.val (.int p1), .val (.int p2), .val (.int pc), .val (.ref r_1), .unset, .unset, .unset, .unset, .unset, .unset, .unset, .unset, .unset] [(.ref r_9)])
  refine Go.via (fun t k => XS.astore X9.here hx rfl (hb hby at_22) rfl rfl (l' := #[.val (.int p1), .val (.int p2), .val (.int pc), .val (.ref r_1), .val (.ref r_9), .unset, .unset, .unset, .unset, .unset, .unset, .unset, .unset]) rfl k) ?_
  show Go p.tables e below P T9 (mkF m 24 #[.val (.int p1), .val (.int p2), .val (.int pc), .val (.ref r_1), .val (.ref r_9), .unset, .unset, .unset, .unset, .unset, .unset, .unset, .unset] [])
  refine Go.via (fun t k => XS.iloadN X9.here hx rfl (hb hby at_24) rfl k) ?_
  show Go p.tables e below P T9 (mkF m 25 #[.val (.int p1), .val (.int p2), .val (.int pc), .val (.ref r_1), .val (.ref r_9), .unset, .unset, .unset, .unset, .unset, .unset, .unset, .unset] [(.int pc)])
  refine Go.via (fun t k => XS.bipush X9.here hx rfl (hb hby at_25) k) ?_
  show Go p.tables e below P T9 (mkF m 27 #[.val (.int p1), .val (.int p2), .val (.int pc), .val (.ref r_1), .val (.ref r_9), .unset, .unset, .unset, .unset, .unset, .unset, .unset, .unset] [(.int (16 : Int32)), (.int pc)])
  refine Go.via (fun t k => XS.iushr X9.here hx rfl (hb hby at_27) rfl k) ?_
  show Go p.tables e below P T9 (mkF m 28 #[.val (.int p1), .val (.int p2), .val (.int pc), .val (.ref r_1), .val (.ref r_9), .unset, .unset, .unset, .unset, .unset, .unset, .unset, .unset] [(.int ((pc.toUInt32 >>> ((16 : Int32) &&& 31).toUInt32).toInt32))])
  refine Go.via (fun t k => XS.sipush X9.here hx rfl (hb hby at_28) k) ?_
  show Go p.tables e below P T9 (mkF m 31 #[.val (.int p1), .val (.int p2), .val (.int pc), .val (.ref r_1), .val (.ref r_9), .unset, .unset, .unset, .unset, .unset, .unset, .unset, .unset] [(.int (255 : Int32)), (.int ((pc.toUInt32 >>> ((16 : Int32) &&& 31).toUInt32).toInt32))])
  refine Go.via (fun t k => XS.iand X9.here hx rfl (hb hby at_31) rfl k) ?_
  show Go p.tables e below P T9 (mkF m 32 #[.val (.int p1), .val (.int p2), .val (.int pc), .val (.ref r_1), .val (.ref r_9), .unset, .unset, .unset, .unset, .unset, .unset, .unset, .unset] [(.int (((pc.toUInt32 >>> ((16 : Int32) &&& 31).toUInt32).toInt32) &&& (255 : Int32)))])
  refine Go.via (fun t k => XS.i2c X9.here hx rfl (hb hby at_32) rfl k) ?_
  show Go p.tables e below P T9 (mkF m 33 #[.val (.int p1), .val (.int p2), .val (.int pc), .val (.ref r_1), .val (.ref r_9), .unset, .unset, .unset, .unset, .unset, .unset, .unset, .unset] [(.int ((((pc.toUInt32 >>> ((16 : Int32) &&& 31).toUInt32).toInt32) &&& (255 : Int32)).toUInt32.toUInt16.toUInt32.toInt32))])
  have F21 : Exa Z T9.heap r_1 "java/lang/String" := (u1_0.keep K9)
  have F22 : Fld Z T9.heap r_1 "java/lang/String" "value" "[B" (.ref tb_1) := (u1_1.keep K9 own_nin0)
  have F23 : Fld Z T9.heap r_1 "java/lang/String" "coder" "B" (.int (0 : Int32)) := (u1_2.keep K9 own_nin0)
  have F24 : Arv Z T9.heap tb_1 kk_1 .byte (1 : Int32) [(.int (nar .byte (((pc &&& (255 : Int32)).toUInt32.toUInt16.toUInt32.toInt32).toInt8.toInt32)))] (.int (0 : Int32)) := (u1_3.keep K9 own_nin0)
  obtain ⟨_, _, ⟨T25, L25, k25, n25⟩, -, X25, ⟨Lc25, hQ25, l25, y25, z25⟩, st25⟩ := Jvm.LawKit.callS X9 hx (y := (⟨"java/lang/String", "valueOf", "(C)Ljava/lang/String;"⟩ : MethodName)) hown (mvT hZ (hw _ (List.mem_of_getElem? (i := 0) rfl))) (mvT hZ (hw _ (List.mem_of_getElem? (i := 1) rfl))) (mvT hZ (hw _ (List.mem_of_getElem? (i := 2) rfl))) (mvT hZ (hw _ (List.mem_of_getElem? (i := 3) rfl))) (by decide) (backOf (W := 0) (rm1 l Z a0 hw [] ((((pc.toUInt32 >>> ((16 : Int32) &&& 31).toUInt32).toInt32) &&& (255 : Int32)).toUInt32.toUInt16.toUInt32.toInt32) cs T9.heap n0 Z18 O20 P1 (by first | assumption | decide | omega : ¬ cs = (0 : Int32)) (own_ch1 _)) hZ (hw _ (List.mem_of_getElem? (i := 3) rfl)) (hw _ (List.mem_of_getElem? (i := 2) rfl)) (by decide) (by decide)) (g := (mkF m 33 #[.val (.int p1), .val (.int p2), .val (.int pc), .val (.ref r_1), .val (.ref r_9), .unset, .unset, .unset, .unset, .unset, .unset, .unset, .unset] [(.int ((((pc.toUInt32 >>> ((16 : Int32) &&& 31).toUInt32).toInt32) &&& (255 : Int32)).toUInt32.toUInt16.toUInt32.toInt32))])) rfl (by rw [hml]; rfl) (argsL := [(.int ((((pc.toUInt32 >>> ((16 : Int32) &&& 31).toUInt32).toInt32) &&& (255 : Int32)).toUInt32.toUInt16.toUInt32.toInt32))]) (rest := []) (lenOf own_pd4 rfl) rfl (by show 2 * 0 + _ ≤ _; exact Nat.le_of_eq rfl) (hb hby at_33) (fun _ _ => ⟨rfl, rfl, (by decide : 4 + 2 ≤ _), (by decide : 10 + 5 ≤ _)⟩)
  dsimp only [Pt.U, Pt.locs, Pt.cells, Pt.slots] at X25 l25 y25 z25 st25 hQ25
  subst l25 y25 z25
  obtain ⟨r_25, tb_25, kk_25, rfl, Nq25, K25, fr25_r, fr25_tb, u25_0, u25_1, u25_2, u25_3, u25_4⟩ := hQ25
  have N25 := Fr.app N9 Nq25
  refine Go.via st25 ?_
  have ne26 : r_1 ≠ r_25 := Nat.ne_of_lt (Nat.lt_of_lt_of_le F21.lt fr25_r)
  have ne27 : tb_1 ≠ r_25 := Nat.ne_of_lt (Nat.lt_of_lt_of_le F24.lt fr25_r)
  have ne28 : r_9 ≠ r_25 := Nat.ne_of_lt (Nat.lt_of_lt_of_le u9_0.lt fr25_r)
  have ne29 : tb_9 ≠ r_25 := Nat.ne_of_lt (Nat.lt_of_lt_of_le u9_3.lt fr25_r)
  have g30 : n0 ≤ r_25 := Nat.le_trans Z18 fr25_r
  have sz31 : h0.size ≤ r_25 := Nat.le_trans K19.1 fr25_r
  have ne32 : r_1 ≠ tb_25 := Nat.ne_of_lt (Nat.lt_of_lt_of_le F21.lt fr25_tb)
  have ne33 : tb_1 ≠ tb_25 := Nat.ne_of_lt (Nat.lt_of_lt_of_le F24.lt fr25_tb)
  have ne34 : r_9 ≠ tb_25 := Nat.ne_of_lt (Nat.lt_of_lt_of_le u9_0.lt fr25_tb)
  have ne35 : tb_9 ≠ tb_25 := Nat.ne_of_lt (Nat.lt_of_lt_of_le u9_3.lt fr25_tb)
  have g36 : n0 ≤ tb_25 := Nat.le_trans Z18 fr25_tb
  have sz37 : h0.size ≤ tb_25 := Nat.le_trans K19.1 fr25_tb
  have Z38 : n0 ≤ T25.heap.size := Nat.le_trans Z18 K25.1
  have K39 : Keep h0 T25.heap [] := K19.trans K25 own_all0
  have O40 : Old Z n0 T25.heap := O20.keep K25 own_all0
  show Go p.tables e below P T25 (mkF m 36 #[.val (.int p1), .val (.int p2), .val (.int pc), .val (.ref r_1), .val (.ref r_9), .unset, .unset, .unset, .unset, .unset, .unset, .unset, .unset] [(.ref r_25)])
  refine Go.via (fun t k => XS.astore X25.here hx rfl (hb hby at_36) rfl rfl (l' := #[.val (.int p1), .val (.int p2), .val (.int pc), .val (.ref r_1), .val (.ref r_9), .val (.ref r_25), .unset, .unset, .unset, .unset, .unset, .unset, .unset]) rfl k) ?_
  show Go p.tables e below P T25 (mkF m 38 #[.val (.int p1), .val (.int p2), .val (.int pc), .val (.ref r_1), .val (.ref r_9), .val (.ref r_25), .unset, .unset, .unset, .unset, .unset, .unset, .unset] [])
  refine Go.via (fun t k => XS.iloadN X25.here hx rfl (hb hby at_38) rfl k) ?_
  show Go p.tables e below P T25 (mkF m 39 #[.val (.int p1), .val (.int p2), .val (.int pc), .val (.ref r_1), .val (.ref r_9), .val (.ref r_25), .unset, .unset, .unset, .unset, .unset, .unset, .unset] [(.int pc)])
  refine Go.via (fun t k => XS.bipush X25.here hx rfl (hb hby at_39) k) ?_
  show Go p.tables e below P T25 (mkF m 41 #[.val (.int p1), .val (.int p2), .val (.int pc), .val (.ref r_1), .val (.ref r_9), .val (.ref r_25), .unset, .unset, .unset, .unset, .unset, .unset, .unset] [(.int (24 : Int32)), (.int pc)])
  refine Go.via (fun t k => XS.iushr X25.here hx rfl (hb hby at_41) rfl k) ?_
  show Go p.tables e below P T25 (mkF m 42 #[.val (.int p1), .val (.int p2), .val (.int pc), .val (.ref r_1), .val (.ref r_9), .val (.ref r_25), .unset, .unset, .unset, .unset, .unset, .unset, .unset] [(.int ((pc.toUInt32 >>> ((24 : Int32) &&& 31).toUInt32).toInt32))])
  refine Go.via (fun t k => XS.sipush X25.here hx rfl (hb hby at_42) k) ?_
  show Go p.tables e below P T25 (mkF m 45 #[.val (.int p1), .val (.int p2), .val (.int pc), .val (.ref r_1), .val (.ref r_9), .val (.ref r_25), .unset, .unset, .unset, .unset, .unset, .unset, .unset] [(.int (255 : Int32)), (.int ((pc.toUInt32 >>> ((24 : Int32) &&& 31).toUInt32).toInt32))])
  refine Go.via (fun t k => XS.iand X25.here hx rfl (hb hby at_45) rfl k) ?_
  show Go p.tables e below P T25 (mkF m 46 #[.val (.int p1), .val (.int p2), .val (.int pc), .val (.ref r_1), .val (.ref r_9), .val (.ref r_25), .unset, .unset, .unset, .unset, .unset, .unset, .unset] [(.int (((pc.toUInt32 >>> ((24 : Int32) &&& 31).toUInt32).toInt32) &&& (255 : Int32)))])
  refine Go.via (fun t k => XS.i2c X25.here hx rfl (hb hby at_46) rfl k) ?_
  show Go p.tables e below P T25 (mkF m 47 #[.val (.int p1), .val (.int p2), .val (.int pc), .val (.ref r_1), .val (.ref r_9), .val (.ref r_25), .unset, .unset, .unset, .unset, .unset, .unset, .unset] [(.int ((((pc.toUInt32 >>> ((24 : Int32) &&& 31).toUInt32).toInt32) &&& (255 : Int32)).toUInt32.toUInt16.toUInt32.toInt32))])
  have F41 : Exa Z T25.heap r_1 "java/lang/String" := (F21.keep K25)
  have F42 : Fld Z T25.heap r_1 "java/lang/String" "value" "[B" (.ref tb_1) := (F22.keep K25 own_nin0)
  have F43 : Fld Z T25.heap r_1 "java/lang/String" "coder" "B" (.int (0 : Int32)) := (F23.keep K25 own_nin0)
  have F44 : Arv Z T25.heap tb_1 kk_1 .byte (1 : Int32) [(.int (nar .byte (((pc &&& (255 : Int32)).toUInt32.toUInt16.toUInt32.toInt32).toInt8.toInt32)))] (.int (0 : Int32)) := (F24.keep K25 own_nin0)
  have F45 : Exa Z T25.heap r_9 "java/lang/String" := (u9_0.keep K25)
  have F46 : Fld Z T25.heap r_9 "java/lang/String" "value" "[B" (.ref tb_9) := (u9_1.keep K25 own_nin0)
  have F47 : Fld Z T25.heap r_9 "java/lang/String" "coder" "B" (.int (0 : Int32)) := (u9_2.keep K25 own_nin0)
  have F48 : Arv Z T25.heap tb_9 kk_9 .byte (1 : Int32) [(.int (nar .byte (((((pc.toUInt32 >>> ((8 : Int32) &&& 31).toUInt32).toInt32) &&& (255 : Int32)).toUInt32.toUInt16.toUInt32.toInt32).toInt8.toInt32)))] (.int (0 : Int32)) := (u9_3.keep K25 own_nin0)
  obtain ⟨_, _, ⟨T49, L49, k49, n49⟩, -, X49, ⟨Lc49, hQ49, l49, y49, z49⟩, st49⟩ := Jvm.LawKit.callS X25 hx (y := (⟨"java/lang/String", "valueOf", "(C)Ljava/lang/String;"⟩ : MethodName)) hown (mvT hZ (hw _ (List.mem_of_getElem? (i := 0) rfl))) (mvT hZ (hw _ (List.mem_of_getElem? (i := 1) rfl))) (mvT hZ (hw _ (List.mem_of_getElem? (i := 2) rfl))) (mvT hZ (hw _ (List.mem_of_getElem? (i := 3) rfl))) (by decide) (backOf (W := 0) (rm1 l Z a0 hw [] ((((pc.toUInt32 >>> ((24 : Int32) &&& 31).toUInt32).toInt32) &&& (255 : Int32)).toUInt32.toUInt16.toUInt32.toInt32) cs T25.heap n0 Z38 O40 P1 (by first | assumption | decide | omega : ¬ cs = (0 : Int32)) (own_ch1 _)) hZ (hw _ (List.mem_of_getElem? (i := 3) rfl)) (hw _ (List.mem_of_getElem? (i := 2) rfl)) (by decide) (by decide)) (g := (mkF m 47 #[.val (.int p1), .val (.int p2), .val (.int pc), .val (.ref r_1), .val (.ref r_9), .val (.ref r_25), .unset, .unset, .unset, .unset, .unset, .unset, .unset] [(.int ((((pc.toUInt32 >>> ((24 : Int32) &&& 31).toUInt32).toInt32) &&& (255 : Int32)).toUInt32.toUInt16.toUInt32.toInt32))])) rfl (by rw [hml]; rfl) (argsL := [(.int ((((pc.toUInt32 >>> ((24 : Int32) &&& 31).toUInt32).toInt32) &&& (255 : Int32)).toUInt32.toUInt16.toUInt32.toInt32))]) (rest := []) (lenOf own_pd4 rfl) rfl (by show 2 * 0 + _ ≤ _; exact Nat.le_of_eq rfl) (hb hby at_47) (fun _ _ => ⟨rfl, rfl, (by decide : 6 + 2 ≤ _), (by decide : 15 + 5 ≤ _)⟩)
  dsimp only [Pt.U, Pt.locs, Pt.cells, Pt.slots] at X49 l49 y49 z49 st49 hQ49
  subst l49 y49 z49
  obtain ⟨r_49, tb_49, kk_49, rfl, Nq49, K49, fr49_r, fr49_tb, u49_0, u49_1, u49_2, u49_3, u49_4⟩ := hQ49
  have N49 := Fr.app N25 Nq49
  refine Go.via st49 ?_
  have ne50 : r_1 ≠ r_49 := Nat.ne_of_lt (Nat.lt_of_lt_of_le F41.lt fr49_r)
  have ne51 : tb_1 ≠ r_49 := Nat.ne_of_lt (Nat.lt_of_lt_of_le F44.lt fr49_r)
  have ne52 : r_9 ≠ r_49 := Nat.ne_of_lt (Nat.lt_of_lt_of_le F45.lt fr49_r)
  have ne53 : tb_9 ≠ r_49 := Nat.ne_of_lt (Nat.lt_of_lt_of_le F48.lt fr49_r)
  have ne54 : r_25 ≠ r_49 := Nat.ne_of_lt (Nat.lt_of_lt_of_le u25_0.lt fr49_r)
  have ne55 : tb_25 ≠ r_49 := Nat.ne_of_lt (Nat.lt_of_lt_of_le u25_3.lt fr49_r)
  have g56 : n0 ≤ r_49 := Nat.le_trans Z38 fr49_r
  have sz57 : h0.size ≤ r_49 := Nat.le_trans K39.1 fr49_r
  have ne58 : r_1 ≠ tb_49 := Nat.ne_of_lt (Nat.lt_of_lt_of_le F41.lt fr49_tb)
  have ne59 : tb_1 ≠ tb_49 := Nat.ne_of_lt (Nat.lt_of_lt_of_le F44.lt fr49_tb)
  have ne60 : r_9 ≠ tb_49 := Nat.ne_of_lt (Nat.lt_of_lt_of_le F45.lt fr49_tb)
  have ne61 : tb_9 ≠ tb_49 := Nat.ne_of_lt (Nat.lt_of_lt_of_le F48.lt fr49_tb)
  have ne62 : r_25 ≠ tb_49 := Nat.ne_of_lt (Nat.lt_of_lt_of_le u25_0.lt fr49_tb)
  have ne63 : tb_25 ≠ tb_49 := Nat.ne_of_lt (Nat.lt_of_lt_of_le u25_3.lt fr49_tb)
  have g64 : n0 ≤ tb_49 := Nat.le_trans Z38 fr49_tb
  have sz65 : h0.size ≤ tb_49 := Nat.le_trans K39.1 fr49_tb
  have Z66 : n0 ≤ T49.heap.size := Nat.le_trans Z38 K49.1
  have K67 : Keep h0 T49.heap [] := K39.trans K49 own_all0
  have O68 : Old Z n0 T49.heap := O40.keep K49 own_all0
  show Go p.tables e below P T49 (mkF m 50 #[.val (.int p1), .val (.int p2), .val (.int pc), .val (.ref r_1), .val (.ref r_9), .val (.ref r_25), .unset, .unset, .unset, .unset, .unset, .unset, .unset] [(.ref r_49)])
  refine Go.via (fun t k => XS.astore X49.here hx rfl (hb hby at_50) rfl rfl (l' := #[.val (.int p1), .val (.int p2), .val (.int pc), .val (.ref r_1), .val (.ref r_9), .val (.ref r_25), .val (.ref r_49), .unset, .unset, .unset, .unset, .unset, .unset]) rfl k) ?_
  show Go p.tables e below P T49 (mkF m 52 #[.val (.int p1), .val (.int p2), .val (.int pc), .val (.ref r_1), .val (.ref r_9), .val (.ref r_25), .val (.ref r_49), .unset, .unset, .unset, .unset, .unset, .unset] [])
  have F70 : Exa Z T49.heap r_1 "java/lang/String" := (F41.keep K49)
  have F71 : Fld Z T49.heap r_1 "java/lang/String" "value" "[B" (.ref tb_1) := (F42.keep K49 own_nin0)
  have F72 : Fld Z T49.heap r_1 "java/lang/String" "coder" "B" (.int (0 : Int32)) := (F43.keep K49 own_nin0)
  have F73 : Arv Z T49.heap tb_1 kk_1 .byte (1 : Int32) [(.int (nar .byte (((pc &&& (255 : Int32)).toUInt32.toUInt16.toUInt32.toInt32).toInt8.toInt32)))] (.int (0 : Int32)) := (F44.keep K49 own_nin0)
  have F74 : Exa Z T49.heap r_9 "java/lang/String" := (F45.keep K49)
  have F75 : Fld Z T49.heap r_9 "java/lang/String" "value" "[B" (.ref tb_9) := (F46.keep K49 own_nin0)
  have F76 : Fld Z T49.heap r_9 "java/lang/String" "coder" "B" (.int (0 : Int32)) := (F47.keep K49 own_nin0)
  have F77 : Arv Z T49.heap tb_9 kk_9 .byte (1 : Int32) [(.int (nar .byte (((((pc.toUInt32 >>> ((8 : Int32) &&& 31).toUInt32).toInt32) &&& (255 : Int32)).toUInt32.toUInt16.toUInt32.toInt32).toInt8.toInt32)))] (.int (0 : Int32)) := (F48.keep K49 own_nin0)
  have F78 : Exa Z T49.heap r_25 "java/lang/String" := (u25_0.keep K49)
  have F79 : Fld Z T49.heap r_25 "java/lang/String" "value" "[B" (.ref tb_25) := (u25_1.keep K49 own_nin0)
  have F80 : Fld Z T49.heap r_25 "java/lang/String" "coder" "B" (.int (0 : Int32)) := (u25_2.keep K49 own_nin0)
  have F81 : Arv Z T49.heap tb_25 kk_25 .byte (1 : Int32) [(.int (nar .byte (((((pc.toUInt32 >>> ((16 : Int32) &&& 31).toUInt32).toInt32) &&& (255 : Int32)).toUInt32.toUInt16.toUInt32.toInt32).toInt8.toInt32)))] (.int (0 : Int32)) := (u25_3.keep K49 own_nin0)
  obtain ⟨T69, h69, X69, e69, E69, A69, D69, -, st69⟩ := newO X49 hx hZ hown (hw _ (List.mem_of_getElem? (i := 26) rfl)) (hw _ (List.mem_of_getElem? (i := 27) rfl)) (hw _ (List.mem_of_getElem? (i := 28) rfl)) rfl (g := (mkF m 52 #[.val (.int p1), .val (.int p2), .val (.int pc), .val (.ref r_1), .val (.ref r_9), .val (.ref r_25), .val (.ref r_49), .unset, .unset, .unset, .unset, .unset, .unset] [])) rfl (hb hby at_52) (by decide) (by decide)
  obtain ⟨b69, g69⟩ : ∃ z, z = T49.heap.size := ⟨_, rfl⟩
  rw [← g69] at A69 D69 st69
  refine Go.via st69 ?_
  have ne82 : r_1 ≠ b69 := Nat.ne_of_lt (Nat.lt_of_lt_of_le F70.lt (Nat.le_of_eq g69.symm))
  have ne83 : tb_1 ≠ b69 := Nat.ne_of_lt (Nat.lt_of_lt_of_le F73.lt (Nat.le_of_eq g69.symm))
  have ne84 : r_9 ≠ b69 := Nat.ne_of_lt (Nat.lt_of_lt_of_le F74.lt (Nat.le_of_eq g69.symm))
  have ne85 : tb_9 ≠ b69 := Nat.ne_of_lt (Nat.lt_of_lt_of_le F77.lt (Nat.le_of_eq g69.symm))
  have ne86 : r_25 ≠ b69 := Nat.ne_of_lt (Nat.lt_of_lt_of_le F78.lt (Nat.le_of_eq g69.symm))
  have ne87 : tb_25 ≠ b69 := Nat.ne_of_lt (Nat.lt_of_lt_of_le F81.lt (Nat.le_of_eq g69.symm))
  have ne88 : r_49 ≠ b69 := Nat.ne_of_lt (Nat.lt_of_lt_of_le u49_0.lt (Nat.le_of_eq g69.symm))
  have ne89 : tb_49 ≠ b69 := Nat.ne_of_lt (Nat.lt_of_lt_of_le u49_3.lt (Nat.le_of_eq g69.symm))
  have g90 : n0 ≤ b69 := Nat.le_trans Z66 (Nat.le_of_eq g69.symm)
  have sz91 : h0.size ≤ b69 := Nat.le_trans K67.1 (Nat.le_of_eq g69.symm)
  have Z92 : n0 ≤ h69.size := Nat.le_trans Z66 E69.1
  have K93 : Keep h0 h69 [] := K67.ext E69
  have O94 : Old Z n0 h69 := O68.ext E69
  show Go p.tables e below P T69 (mkF m 55 #[.val (.int p1), .val (.int p2), .val (.int pc), .val (.ref r_1), .val (.ref r_9), .val (.ref r_25), .val (.ref r_49), .unset, .unset, .unset, .unset, .unset, .unset] [(.ref b69)])
  refine Go.via (fun t k => XS.dup X69.here hx rfl (hb hby at_55) rfl rfl k) ?_
  show Go p.tables e below P T69 (mkF m 56 #[.val (.int p1), .val (.int p2), .val (.int pc), .val (.ref r_1), .val (.ref r_9), .val (.ref r_25), .val (.ref r_49), .unset, .unset, .unset, .unset, .unset, .unset] [(.ref b69), (.ref b69)])
  refine Go.via (fun t k => XS.aloadN X69.here hx rfl (hb hby at_56) rfl rfl k) ?_
  show Go p.tables e below P T69 (mkF m 57 #[.val (.int p1), .val (.int p2), .val (.int pc), .val (.ref r_1), .val (.ref r_9), .val (.ref r_25), .val (.ref r_49), .unset, .unset, .unset, .unset, .unset, .unset] [(.ref r_1), (.ref b69), (.ref b69)])
  refine Go.via (fun t k => XS.aload X69.here hx rfl (hb hby at_57) rfl rfl k) ?_
  show Go p.tables e below P T69 (mkF m 59 #[.val (.int p1), .val (.int p2), .val (.int pc), .val (.ref r_1), .val (.ref r_9), .val (.ref r_25), .val (.ref r_49), .unset, .unset, .unset, .unset, .unset, .unset] [(.ref r_9), (.ref r_1), (.ref b69), (.ref b69)])
  refine Go.via (fun t k => XS.aload X69.here hx rfl (hb hby at_59) rfl rfl k) ?_
  show Go p.tables e below P T69 (mkF m 61 #[.val (.int p1), .val (.int p2), .val (.int pc), .val (.ref r_1), .val (.ref r_9), .val (.ref r_25), .val (.ref r_49), .unset, .unset, .unset, .unset, .unset, .unset] [(.ref r_25), (.ref r_9), (.ref r_1), (.ref b69), (.ref b69)])
  refine Go.via (fun t k => XS.iloadN X69.here hx rfl (hb hby at_61) rfl k) ?_
  show Go p.tables e below P T69 (mkF m 62 #[.val (.int p1), .val (.int p2), .val (.int pc), .val (.ref r_1), .val (.ref r_9), .val (.ref r_25), .val (.ref r_49), .unset, .unset, .unset, .unset, .unset, .unset] [(.int p1), (.ref r_25), (.ref r_9), (.ref r_1), (.ref b69), (.ref b69)])
  have F95 : Exa Z h69 r_1 "java/lang/String" := (F70.ext E69)
  have F96 : Fld Z h69 r_1 "java/lang/String" "value" "[B" (.ref tb_1) := (F71.ext E69)
  have F97 : Fld Z h69 r_1 "java/lang/String" "coder" "B" (.int (0 : Int32)) := (F72.ext E69)
  have F98 : Arv Z h69 tb_1 kk_1 .byte (1 : Int32) [(.int (nar .byte (((pc &&& (255 : Int32)).toUInt32.toUInt16.toUInt32.toInt32).toInt8.toInt32)))] (.int (0 : Int32)) := (F73.ext E69)
  have F99 : Exa Z h69 r_9 "java/lang/String" := (F74.ext E69)
  have F100 : Fld Z h69 r_9 "java/lang/String" "value" "[B" (.ref tb_9) := (F75.ext E69)
  have F101 : Fld Z h69 r_9 "java/lang/String" "coder" "B" (.int (0 : Int32)) := (F76.ext E69)
  have F102 : Arv Z h69 tb_9 kk_9 .byte (1 : Int32) [(.int (nar .byte (((((pc.toUInt32 >>> ((8 : Int32) &&& 31).toUInt32).toInt32) &&& (255 : Int32)).toUInt32.toUInt16.toUInt32.toInt32).toInt8.toInt32)))] (.int (0 : Int32)) := (F77.ext E69)
  have F103 : Exa Z h69 r_25 "java/lang/String" := (F78.ext E69)
  have F104 : Fld Z h69 r_25 "java/lang/String" "value" "[B" (.ref tb_25) := (F79.ext E69)
  have F105 : Fld Z h69 r_25 "java/lang/String" "coder" "B" (.int (0 : Int32)) := (F80.ext E69)
  have F106 : Arv Z h69 tb_25 kk_25 .byte (1 : Int32) [(.int (nar .byte (((((pc.toUInt32 >>> ((16 : Int32) &&& 31).toUInt32).toInt32) &&& (255 : Int32)).toUInt32.toUInt16.toUInt32.toInt32).toInt8.toInt32)))] (.int (0 : Int32)) := (F81.ext E69)
  have F107 : Exa Z h69 r_49 "java/lang/String" := (u49_0.ext E69)
  have F108 : Fld Z h69 r_49 "java/lang/String" "value" "[B" (.ref tb_49) := (u49_1.ext E69)
  have F109 : Fld Z h69 r_49 "java/lang/String" "coder" "B" (.int (0 : Int32)) := (u49_2.ext E69)
  have F110 : Arv Z h69 tb_49 kk_49 .byte (1 : Int32) [(.int (nar .byte (((((pc.toUInt32 >>> ((24 : Int32) &&& 31).toUInt32).toInt32) &&& (255 : Int32)).toUInt32.toUInt16.toUInt32.toInt32).toInt8.toInt32)))] (.int (0 : Int32)) := (u49_3.ext E69)
  obtain ⟨_, _, ⟨T111, L111, k111, n111⟩, -, X111, ⟨Lc111, hQ111, l111, y111, z111⟩, st111⟩ := X69.specialBack hx (y := (⟨"com/example/fort_river/fortriver/trec/Judgment", "<init>", "(Ljava/lang/String;Ljava/lang/String;Ljava/lang/String;I)V"⟩ : MethodName)) rfl hown (mvT hZ (hw _ (List.mem_of_getElem? (i := 29) rfl))) (mvT hZ (hw _ (List.mem_of_getElem? (i := 30) rfl))) (mvT hZ (hw _ (List.mem_of_getElem? (i := 31) rfl))) (by decide) (backOf (W := 1) (rm6 l Z a0 hw [] b69 r_1 r_9 r_25 p1 h69 n0 Z92 A69 (D69 (Or.inr (hw _ (List.mem_of_getElem? (i := 39) rfl))) (ty := (.object "java/lang/String")) (by decide) : Fld Z h69 b69 "com/example/fort_river/fortriver/trec/Judgment" "topic" "Ljava/lang/String;" .null) (D69 (Or.inr (hw _ (List.mem_of_getElem? (i := 41) rfl))) (ty := (.object "java/lang/String")) (by decide) : Fld Z h69 b69 "com/example/fort_river/fortriver/trec/Judgment" "iteration" "Ljava/lang/String;" .null) (D69 (Or.inr (hw _ (List.mem_of_getElem? (i := 43) rfl))) (ty := (.object "java/lang/String")) (by decide) : Fld Z h69 b69 "com/example/fort_river/fortriver/trec/Judgment" "docno" "Ljava/lang/String;" .null) (D69 (Or.inr (hw _ (List.mem_of_getElem? (i := 45) rfl))) (ty := .int) (by decide) : Fld Z h69 b69 "com/example/fort_river/fortriver/trec/Judgment" "relevance" "I" (.int (0 : Int32))) g90) hZ (hw _ (List.mem_of_getElem? (i := 31) rfl)) (hw _ (List.mem_of_getElem? (i := 28) rfl)) (by decide) (by decide)) (g := (mkF m 62 #[.val (.int p1), .val (.int p2), .val (.int pc), .val (.ref r_1), .val (.ref r_9), .val (.ref r_25), .val (.ref r_49), .unset, .unset, .unset, .unset, .unset, .unset] [(.int p1), (.ref r_25), (.ref r_9), (.ref r_1), (.ref b69), (.ref b69)])) rfl (by rw [hml]; rfl) (Steps.refl _) (a := b69) (argsL := [(.ref r_1), (.ref r_9), (.ref r_25), (.int p1)]) (rest := [(.ref b69)]) (lenOf own_pd5 rfl) rfl (by show 2 * 0 + _ ≤ _; exact Nat.le_of_eq rfl) (hb hby at_62) (fun _ _ => ⟨rfl, e69, (by decide : 9 + 0 ≤ _), (by decide : 24 + 0 ≤ _)⟩)
  dsimp only [Pt.U, Pt.locs, Pt.cells, Pt.slots] at X111 l111 y111 z111 st111 hQ111
  subst l111 y111 z111
  obtain ⟨rfl, Nq111, K111, u111_0, u111_1⟩ := hQ111
  have N111 := Fr.app N49 Nq111
  refine Go.hop st111 ?_
  have Z112 : n0 ≤ T111.heap.size := Nat.le_trans Z92 K111.1
  have K113 : Keep h0 T111.heap [] := K93.trans K111 (own_allC (Or.inr sz91) own_all0)
  have O114 : Old Z n0 T111.heap := O94.keep K111 (own_allC g90 own_all0)
  show Go p.tables e below P T111 (mkF m 65 #[.val (.int p1), .val (.int p2), .val (.int pc), .val (.ref r_1), .val (.ref r_9), .val (.ref r_25), .val (.ref r_49), .unset, .unset, .unset, .unset, .unset, .unset] [(.ref b69)])
  refine Go.via (fun t k => XS.astore X111.here hx rfl (hb hby at_65) rfl rfl (l' := #[.val (.int p1), .val (.int p2), .val (.int pc), .val (.ref r_1), .val (.ref r_9), .val (.ref r_25), .val (.ref r_49), .val (.ref b69), .unset, .unset, .unset, .unset, .unset]) rfl k) ?_
  show Go p.tables e below P T111 (mkF m 67 #[.val (.int p1), .val (.int p2), .val (.int pc), .val (.ref r_1), .val (.ref r_9), .val (.ref r_25), .val (.ref r_49), .val (.ref b69), .unset, .unset, .unset, .unset, .unset] [])
  have F116 : Exa Z T111.heap r_1 "java/lang/String" := (F95.keep K111)
  have F117 : Fld Z T111.heap r_1 "java/lang/String" "value" "[B" (.ref tb_1) := (F96.keep K111 (own_ninC ne82 own_nin0))
  have F118 : Fld Z T111.heap r_1 "java/lang/String" "coder" "B" (.int (0 : Int32)) := (F97.keep K111 (own_ninC ne82 own_nin0))
  have F119 : Arv Z T111.heap tb_1 kk_1 .byte (1 : Int32) [(.int (nar .byte (((pc &&& (255 : Int32)).toUInt32.toUInt16.toUInt32.toInt32).toInt8.toInt32)))] (.int (0 : Int32)) := (F98.keep K111 (own_ninC ne83 own_nin0))
  have F120 : Exa Z T111.heap r_9 "java/lang/String" := (F99.keep K111)
  have F121 : Fld Z T111.heap r_9 "java/lang/String" "value" "[B" (.ref tb_9) := (F100.keep K111 (own_ninC ne84 own_nin0))
  have F122 : Fld Z T111.heap r_9 "java/lang/String" "coder" "B" (.int (0 : Int32)) := (F101.keep K111 (own_ninC ne84 own_nin0))
  have F123 : Arv Z T111.heap tb_9 kk_9 .byte (1 : Int32) [(.int (nar .byte (((((pc.toUInt32 >>> ((8 : Int32) &&& 31).toUInt32).toInt32) &&& (255 : Int32)).toUInt32.toUInt16.toUInt32.toInt32).toInt8.toInt32)))] (.int (0 : Int32)) := (F102.keep K111 (own_ninC ne85 own_nin0))
  have F124 : Exa Z T111.heap r_25 "java/lang/String" := (F103.keep K111)
  have F125 : Fld Z T111.heap r_25 "java/lang/String" "value" "[B" (.ref tb_25) := (F104.keep K111 (own_ninC ne86 own_nin0))
  have F126 : Fld Z T111.heap r_25 "java/lang/String" "coder" "B" (.int (0 : Int32)) := (F105.keep K111 (own_ninC ne86 own_nin0))
  have F127 : Arv Z T111.heap tb_25 kk_25 .byte (1 : Int32) [(.int (nar .byte (((((pc.toUInt32 >>> ((16 : Int32) &&& 31).toUInt32).toInt32) &&& (255 : Int32)).toUInt32.toUInt16.toUInt32.toInt32).toInt8.toInt32)))] (.int (0 : Int32)) := (F106.keep K111 (own_ninC ne87 own_nin0))
  have F128 : Exa Z T111.heap r_49 "java/lang/String" := (F107.keep K111)
  have F129 : Fld Z T111.heap r_49 "java/lang/String" "value" "[B" (.ref tb_49) := (F108.keep K111 (own_ninC ne88 own_nin0))
  have F130 : Fld Z T111.heap r_49 "java/lang/String" "coder" "B" (.int (0 : Int32)) := (F109.keep K111 (own_ninC ne88 own_nin0))
  have F131 : Arv Z T111.heap tb_49 kk_49 .byte (1 : Int32) [(.int (nar .byte (((((pc.toUInt32 >>> ((24 : Int32) &&& 31).toUInt32).toInt32) &&& (255 : Int32)).toUInt32.toUInt16.toUInt32.toInt32).toInt8.toInt32)))] (.int (0 : Int32)) := (F110.keep K111 (own_ninC ne89 own_nin0))
  obtain ⟨T115, h115, X115, e115, E115, A115, D115, -, st115⟩ := newO X111 hx hZ hown (hw _ (List.mem_of_getElem? (i := 26) rfl)) (hw _ (List.mem_of_getElem? (i := 27) rfl)) (hw _ (List.mem_of_getElem? (i := 28) rfl)) rfl (g := (mkF m 67 #[.val (.int p1), .val (.int p2), .val (.int pc), .val (.ref r_1), .val (.ref r_9), .val (.ref r_25), .val (.ref r_49), .val (.ref b69), .unset, .unset, .unset, .unset, .unset] [])) rfl (hb hby at_67) (by decide) (by decide)
  obtain ⟨b115, g115⟩ : ∃ z, z = T111.heap.size := ⟨_, rfl⟩
  rw [← g115] at A115 D115 st115
  refine Go.via st115 ?_
  have ne132 : r_1 ≠ b115 := Nat.ne_of_lt (Nat.lt_of_lt_of_le F116.lt (Nat.le_of_eq g115.symm))
  have ne133 : tb_1 ≠ b115 := Nat.ne_of_lt (Nat.lt_of_lt_of_le F119.lt (Nat.le_of_eq g115.symm))
  have ne134 : r_9 ≠ b115 := Nat.ne_of_lt (Nat.lt_of_lt_of_le F120.lt (Nat.le_of_eq g115.symm))
  have ne135 : tb_9 ≠ b115 := Nat.ne_of_lt (Nat.lt_of_lt_of_le F123.lt (Nat.le_of_eq g115.symm))
  have ne136 : r_25 ≠ b115 := Nat.ne_of_lt (Nat.lt_of_lt_of_le F124.lt (Nat.le_of_eq g115.symm))
  have ne137 : tb_25 ≠ b115 := Nat.ne_of_lt (Nat.lt_of_lt_of_le F127.lt (Nat.le_of_eq g115.symm))
  have ne138 : r_49 ≠ b115 := Nat.ne_of_lt (Nat.lt_of_lt_of_le F128.lt (Nat.le_of_eq g115.symm))
  have ne139 : tb_49 ≠ b115 := Nat.ne_of_lt (Nat.lt_of_lt_of_le F131.lt (Nat.le_of_eq g115.symm))
  have ne140 : b69 ≠ b115 := Nat.ne_of_lt (Nat.lt_of_lt_of_le u111_0.lt (Nat.le_of_eq g115.symm))
  have g141 : n0 ≤ b115 := Nat.le_trans Z112 (Nat.le_of_eq g115.symm)
  have sz142 : h0.size ≤ b115 := Nat.le_trans K113.1 (Nat.le_of_eq g115.symm)
  have Z143 : n0 ≤ h115.size := Nat.le_trans Z112 E115.1
  have K144 : Keep h0 h115 [] := K113.ext E115
  have O145 : Old Z n0 h115 := O114.ext E115
  show Go p.tables e below P T115 (mkF m 70 #[.val (.int p1), .val (.int p2), .val (.int pc), .val (.ref r_1), .val (.ref r_9), .val (.ref r_25), .val (.ref r_49), .val (.ref b69), .unset, .unset, .unset, .unset, .unset] [(.ref b115)])
  refine Go.via (fun t k => XS.dup X115.here hx rfl (hb hby at_70) rfl rfl k) ?_
  show Go p.tables e below P T115 (mkF m 71 #[.val (.int p1), .val (.int p2), .val (.int pc), .val (.ref r_1), .val (.ref r_9), .val (.ref r_25), .val (.ref r_49), .val (.ref b69), .unset, .unset, .unset, .unset, .unset] [(.ref b115), (.ref b115)])
  refine Go.via (fun t k => XS.aload X115.here hx rfl (hb hby at_71) rfl rfl k) ?_
  show Go p.tables e below P T115 (mkF m 73 #[.val (.int p1), .val (.int p2), .val (.int pc), .val (.ref r_1), .val (.ref r_9), .val (.ref r_25), .val (.ref r_49), .val (.ref b69), .unset, .unset, .unset, .unset, .unset] [(.ref r_49), (.ref b115), (.ref b115)])
  refine Go.via (fun t k => XS.aload X115.here hx rfl (hb hby at_73) rfl rfl k) ?_
  show Go p.tables e below P T115 (mkF m 75 #[.val (.int p1), .val (.int p2), .val (.int pc), .val (.ref r_1), .val (.ref r_9), .val (.ref r_25), .val (.ref r_49), .val (.ref b69), .unset, .unset, .unset, .unset, .unset] [(.ref r_25), (.ref r_49), (.ref b115), (.ref b115)])
  refine Go.via (fun t k => XS.aload X115.here hx rfl (hb hby at_75) rfl rfl k) ?_
  show Go p.tables e below P T115 (mkF m 77 #[.val (.int p1), .val (.int p2), .val (.int pc), .val (.ref r_1), .val (.ref r_9), .val (.ref r_25), .val (.ref r_49), .val (.ref b69), .unset, .unset, .unset, .unset, .unset] [(.ref r_9), (.ref r_25), (.ref r_49), (.ref b115), (.ref b115)])
  refine Go.via (fun t k => XS.iloadN X115.here hx rfl (hb hby at_77) rfl k) ?_
  show Go p.tables e below P T115 (mkF m 78 #[.val (.int p1), .val (.int p2), .val (.int pc), .val (.ref r_1), .val (.ref r_9), .val (.ref r_25), .val (.ref r_49), .val (.ref b69), .unset, .unset, .unset, .unset, .unset] [(.int p2), (.ref r_9), (.ref r_25), (.ref r_49), (.ref b115), (.ref b115)])
  have F146 : Exa Z h115 r_1 "java/lang/String" := (F116.ext E115)
  have F147 : Fld Z h115 r_1 "java/lang/String" "value" "[B" (.ref tb_1) := (F117.ext E115)
  have F148 : Fld Z h115 r_1 "java/lang/String" "coder" "B" (.int (0 : Int32)) := (F118.ext E115)
  have F149 : Arv Z h115 tb_1 kk_1 .byte (1 : Int32) [(.int (nar .byte (((pc &&& (255 : Int32)).toUInt32.toUInt16.toUInt32.toInt32).toInt8.toInt32)))] (.int (0 : Int32)) := (F119.ext E115)
  have F150 : Exa Z h115 r_9 "java/lang/String" := (F120.ext E115)
  have F151 : Fld Z h115 r_9 "java/lang/String" "value" "[B" (.ref tb_9) := (F121.ext E115)
  have F152 : Fld Z h115 r_9 "java/lang/String" "coder" "B" (.int (0 : Int32)) := (F122.ext E115)
  have F153 : Arv Z h115 tb_9 kk_9 .byte (1 : Int32) [(.int (nar .byte (((((pc.toUInt32 >>> ((8 : Int32) &&& 31).toUInt32).toInt32) &&& (255 : Int32)).toUInt32.toUInt16.toUInt32.toInt32).toInt8.toInt32)))] (.int (0 : Int32)) := (F123.ext E115)
  have F154 : Exa Z h115 r_25 "java/lang/String" := (F124.ext E115)
  have F155 : Fld Z h115 r_25 "java/lang/String" "value" "[B" (.ref tb_25) := (F125.ext E115)
  have F156 : Fld Z h115 r_25 "java/lang/String" "coder" "B" (.int (0 : Int32)) := (F126.ext E115)
  have F157 : Arv Z h115 tb_25 kk_25 .byte (1 : Int32) [(.int (nar .byte (((((pc.toUInt32 >>> ((16 : Int32) &&& 31).toUInt32).toInt32) &&& (255 : Int32)).toUInt32.toUInt16.toUInt32.toInt32).toInt8.toInt32)))] (.int (0 : Int32)) := (F127.ext E115)
  have F158 : Exa Z h115 r_49 "java/lang/String" := (F128.ext E115)
  have F159 : Fld Z h115 r_49 "java/lang/String" "value" "[B" (.ref tb_49) := (F129.ext E115)
  have F160 : Fld Z h115 r_49 "java/lang/String" "coder" "B" (.int (0 : Int32)) := (F130.ext E115)
  have F161 : Arv Z h115 tb_49 kk_49 .byte (1 : Int32) [(.int (nar .byte (((((pc.toUInt32 >>> ((24 : Int32) &&& 31).toUInt32).toInt32) &&& (255 : Int32)).toUInt32.toUInt16.toUInt32.toInt32).toInt8.toInt32)))] (.int (0 : Int32)) := (F131.ext E115)
  have F162 : Exa Z h115 b69 "com/example/fort_river/fortriver/trec/Judgment" := (u111_0.ext E115)
  have F163 : Fld Z h115 b69 "com/example/fort_river/fortriver/trec/Judgment" "relevance" "I" (.int p1) := (u111_1.ext E115)
  obtain ⟨_, _, ⟨T164, L164, k164, n164⟩, -, X164, ⟨Lc164, hQ164, l164, y164, z164⟩, st164⟩ := X115.specialBack hx (y := (⟨"com/example/fort_river/fortriver/trec/Judgment", "<init>", "(Ljava/lang/String;Ljava/lang/String;Ljava/lang/String;I)V"⟩ : MethodName)) rfl hown (mvT hZ (hw _ (List.mem_of_getElem? (i := 29) rfl))) (mvT hZ (hw _ (List.mem_of_getElem? (i := 30) rfl))) (mvT hZ (hw _ (List.mem_of_getElem? (i := 31) rfl))) (by decide) (backOf (W := 1) (rm6 l Z a0 hw [] b115 r_49 r_25 r_9 p2 h115 n0 Z143 A115 (D115 (Or.inr (hw _ (List.mem_of_getElem? (i := 39) rfl))) (ty := (.object "java/lang/String")) (by decide) : Fld Z h115 b115 "com/example/fort_river/fortriver/trec/Judgment" "topic" "Ljava/lang/String;" .null) (D115 (Or.inr (hw _ (List.mem_of_getElem? (i := 41) rfl))) (ty := (.object "java/lang/String")) (by decide) : Fld Z h115 b115 "com/example/fort_river/fortriver/trec/Judgment" "iteration" "Ljava/lang/String;" .null) (D115 (Or.inr (hw _ (List.mem_of_getElem? (i := 43) rfl))) (ty := (.object "java/lang/String")) (by decide) : Fld Z h115 b115 "com/example/fort_river/fortriver/trec/Judgment" "docno" "Ljava/lang/String;" .null) (D115 (Or.inr (hw _ (List.mem_of_getElem? (i := 45) rfl))) (ty := .int) (by decide) : Fld Z h115 b115 "com/example/fort_river/fortriver/trec/Judgment" "relevance" "I" (.int (0 : Int32))) g141) hZ (hw _ (List.mem_of_getElem? (i := 31) rfl)) (hw _ (List.mem_of_getElem? (i := 28) rfl)) (by decide) (by decide)) (g := (mkF m 78 #[.val (.int p1), .val (.int p2), .val (.int pc), .val (.ref r_1), .val (.ref r_9), .val (.ref r_25), .val (.ref r_49), .val (.ref b69), .unset, .unset, .unset, .unset, .unset] [(.int p2), (.ref r_9), (.ref r_25), (.ref r_49), (.ref b115), (.ref b115)])) rfl (by rw [hml]; rfl) (Steps.refl _) (a := b115) (argsL := [(.ref r_49), (.ref r_25), (.ref r_9), (.int p2)]) (rest := [(.ref b115)]) (lenOf own_pd5 rfl) rfl (by show 2 * 0 + _ ≤ _; exact Nat.le_of_eq rfl) (hb hby at_78) (fun _ _ => ⟨rfl, e115, (by decide : 10 + 0 ≤ _), (by decide : 28 + 0 ≤ _)⟩)
  dsimp only [Pt.U, Pt.locs, Pt.cells, Pt.slots] at X164 l164 y164 z164 st164 hQ164
  subst l164 y164 z164
  obtain ⟨rfl, Nq164, K164, u164_0, u164_1⟩ := hQ164
  have N164 := Fr.app N111 Nq164
  refine Go.hop st164 ?_
  have Z165 : n0 ≤ T164.heap.size := Nat.le_trans Z143 K164.1
  have K166 : Keep h0 T164.heap [] := K144.trans K164 (own_allC (Or.inr sz142) own_all0)
  have O167 : Old Z n0 T164.heap := O145.keep K164 (own_allC g141 own_all0)
  show Go p.tables e below P T164 (mkF m 81 #[.val (.int p1), .val (.int p2), .val (.int pc), .val (.ref r_1), .val (.ref r_9), .val (.ref r_25), .val (.ref r_49), .val (.ref b69), .unset, .unset, .unset, .unset, .unset] [(.ref b115)])
  refine Go.via (fun t k => XS.astore X164.here hx rfl (hb hby at_81) rfl rfl (l' := #[.val (.int p1), .val (.int p2), .val (.int pc), .val (.ref r_1), .val (.ref r_9), .val (.ref r_25), .val (.ref r_49), .val (.ref b69), .val (.ref b115), .unset, .unset, .unset, .unset]) rfl k) ?_
  show Go p.tables e below P T164 (mkF m 83 #[.val (.int p1), .val (.int p2), .val (.int pc), .val (.ref r_1), .val (.ref r_9), .val (.ref r_25), .val (.ref r_49), .val (.ref b69), .val (.ref b115), .unset, .unset, .unset, .unset] [])
  have F169 : Exa Z T164.heap r_1 "java/lang/String" := (F146.keep K164)
  have F170 : Fld Z T164.heap r_1 "java/lang/String" "value" "[B" (.ref tb_1) := (F147.keep K164 (own_ninC ne132 own_nin0))
  have F171 : Fld Z T164.heap r_1 "java/lang/String" "coder" "B" (.int (0 : Int32)) := (F148.keep K164 (own_ninC ne132 own_nin0))
  have F172 : Arv Z T164.heap tb_1 kk_1 .byte (1 : Int32) [(.int (nar .byte (((pc &&& (255 : Int32)).toUInt32.toUInt16.toUInt32.toInt32).toInt8.toInt32)))] (.int (0 : Int32)) := (F149.keep K164 (own_ninC ne133 own_nin0))
  have F173 : Exa Z T164.heap r_9 "java/lang/String" := (F150.keep K164)
  have F174 : Fld Z T164.heap r_9 "java/lang/String" "value" "[B" (.ref tb_9) := (F151.keep K164 (own_ninC ne134 own_nin0))
  have F175 : Fld Z T164.heap r_9 "java/lang/String" "coder" "B" (.int (0 : Int32)) := (F152.keep K164 (own_ninC ne134 own_nin0))
  have F176 : Arv Z T164.heap tb_9 kk_9 .byte (1 : Int32) [(.int (nar .byte (((((pc.toUInt32 >>> ((8 : Int32) &&& 31).toUInt32).toInt32) &&& (255 : Int32)).toUInt32.toUInt16.toUInt32.toInt32).toInt8.toInt32)))] (.int (0 : Int32)) := (F153.keep K164 (own_ninC ne135 own_nin0))
  have F177 : Exa Z T164.heap r_25 "java/lang/String" := (F154.keep K164)
  have F178 : Fld Z T164.heap r_25 "java/lang/String" "value" "[B" (.ref tb_25) := (F155.keep K164 (own_ninC ne136 own_nin0))
  have F179 : Fld Z T164.heap r_25 "java/lang/String" "coder" "B" (.int (0 : Int32)) := (F156.keep K164 (own_ninC ne136 own_nin0))
  have F180 : Arv Z T164.heap tb_25 kk_25 .byte (1 : Int32) [(.int (nar .byte (((((pc.toUInt32 >>> ((16 : Int32) &&& 31).toUInt32).toInt32) &&& (255 : Int32)).toUInt32.toUInt16.toUInt32.toInt32).toInt8.toInt32)))] (.int (0 : Int32)) := (F157.keep K164 (own_ninC ne137 own_nin0))
  have F181 : Exa Z T164.heap r_49 "java/lang/String" := (F158.keep K164)
  have F182 : Fld Z T164.heap r_49 "java/lang/String" "value" "[B" (.ref tb_49) := (F159.keep K164 (own_ninC ne138 own_nin0))
  have F183 : Fld Z T164.heap r_49 "java/lang/String" "coder" "B" (.int (0 : Int32)) := (F160.keep K164 (own_ninC ne138 own_nin0))
  have F184 : Arv Z T164.heap tb_49 kk_49 .byte (1 : Int32) [(.int (nar .byte (((((pc.toUInt32 >>> ((24 : Int32) &&& 31).toUInt32).toInt32) &&& (255 : Int32)).toUInt32.toUInt16.toUInt32.toInt32).toInt8.toInt32)))] (.int (0 : Int32)) := (F161.keep K164 (own_ninC ne139 own_nin0))
  have F185 : Exa Z T164.heap b69 "com/example/fort_river/fortriver/trec/Judgment" := (F162.keep K164)
  have F186 : Fld Z T164.heap b69 "com/example/fort_river/fortriver/trec/Judgment" "relevance" "I" (.int p1) := (F163.keep K164 (own_ninC ne140 own_nin0))
  obtain ⟨T168, h168, X168, e168, E168, A168, D168, -, st168⟩ := newO X164 hx hZ hown (hw _ (List.mem_of_getElem? (i := 26) rfl)) (hw _ (List.mem_of_getElem? (i := 27) rfl)) (hw _ (List.mem_of_getElem? (i := 28) rfl)) rfl (g := (mkF m 83 #[.val (.int p1), .val (.int p2), .val (.int pc), .val (.ref r_1), .val (.ref r_9), .val (.ref r_25), .val (.ref r_49), .val (.ref b69), .val (.ref b115), .unset, .unset, .unset, .unset] [])) rfl (hb hby at_83) (by decide) (by decide)
  obtain ⟨b168, g168⟩ : ∃ z, z = T164.heap.size := ⟨_, rfl⟩
  rw [← g168] at A168 D168 st168
  refine Go.via st168 ?_
  have ne187 : r_1 ≠ b168 := Nat.ne_of_lt (Nat.lt_of_lt_of_le F169.lt (Nat.le_of_eq g168.symm))
  have ne188 : tb_1 ≠ b168 := Nat.ne_of_lt (Nat.lt_of_lt_of_le F172.lt (Nat.le_of_eq g168.symm))
  have ne189 : r_9 ≠ b168 := Nat.ne_of_lt (Nat.lt_of_lt_of_le F173.lt (Nat.le_of_eq g168.symm))
  have ne190 : tb_9 ≠ b168 := Nat.ne_of_lt (Nat.lt_of_lt_of_le F176.lt (Nat.le_of_eq g168.symm))
  have ne191 : r_25 ≠ b168 := Nat.ne_of_lt (Nat.lt_of_lt_of_le F177.lt (Nat.le_of_eq g168.symm))
  have ne192 : tb_25 ≠ b168 := Nat.ne_of_lt (Nat.lt_of_lt_of_le F180.lt (Nat.le_of_eq g168.symm))
  have ne193 : r_49 ≠ b168 := Nat.ne_of_lt (Nat.lt_of_lt_of_le F181.lt (Nat.le_of_eq g168.symm))
  have ne194 : tb_49 ≠ b168 := Nat.ne_of_lt (Nat.lt_of_lt_of_le F184.lt (Nat.le_of_eq g168.symm))
  have ne195 : b69 ≠ b168 := Nat.ne_of_lt (Nat.lt_of_lt_of_le F185.lt (Nat.le_of_eq g168.symm))
  have ne196 : b115 ≠ b168 := Nat.ne_of_lt (Nat.lt_of_lt_of_le u164_0.lt (Nat.le_of_eq g168.symm))
  have g197 : n0 ≤ b168 := Nat.le_trans Z165 (Nat.le_of_eq g168.symm)
  have sz198 : h0.size ≤ b168 := Nat.le_trans K166.1 (Nat.le_of_eq g168.symm)
  have Z199 : n0 ≤ h168.size := Nat.le_trans Z165 E168.1
  have K200 : Keep h0 h168 [] := K166.ext E168
  have O201 : Old Z n0 h168 := O167.ext E168
  show Go p.tables e below P T168 (mkF m 86 #[.val (.int p1), .val (.int p2), .val (.int pc), .val (.ref r_1), .val (.ref r_9), .val (.ref r_25), .val (.ref r_49), .val (.ref b69), .val (.ref b115), .unset, .unset, .unset, .unset] [(.ref b168)])
  refine Go.via (fun t k => XS.dup X168.here hx rfl (hb hby at_86) rfl rfl k) ?_
  show Go p.tables e below P T168 (mkF m 87 #[.val (.int p1), .val (.int p2), .val (.int pc), .val (.ref r_1), .val (.ref r_9), .val (.ref r_25), .val (.ref r_49), .val (.ref b69), .val (.ref b115), .unset, .unset, .unset, .unset] [(.ref b168), (.ref b168)])
  refine Go.via (fun t k => XS.aloadN X168.here hx rfl (hb hby at_87) rfl rfl k) ?_
  show Go p.tables e below P T168 (mkF m 88 #[.val (.int p1), .val (.int p2), .val (.int pc), .val (.ref r_1), .val (.ref r_9), .val (.ref r_25), .val (.ref r_49), .val (.ref b69), .val (.ref b115), .unset, .unset, .unset, .unset] [(.ref r_1), (.ref b168), (.ref b168)])
  refine Go.via (fun t k => XS.aload X168.here hx rfl (hb hby at_88) rfl rfl k) ?_
  show Go p.tables e below P T168 (mkF m 90 #[.val (.int p1), .val (.int p2), .val (.int pc), .val (.ref r_1), .val (.ref r_9), .val (.ref r_25), .val (.ref r_49), .val (.ref b69), .val (.ref b115), .unset, .unset, .unset, .unset] [(.ref r_9), (.ref r_1), (.ref b168), (.ref b168)])
  refine Go.via (fun t k => XS.aload X168.here hx rfl (hb hby at_90) rfl rfl k) ?_
  show Go p.tables e below P T168 (mkF m 92 #[.val (.int p1), .val (.int p2), .val (.int pc), .val (.ref r_1), .val (.ref r_9), .val (.ref r_25), .val (.ref r_49), .val (.ref b69), .val (.ref b115), .unset, .unset, .unset, .unset] [(.ref r_25), (.ref r_9), (.ref r_1), (.ref b168), (.ref b168)])
  refine Go.via (fun t k => XS.iconst X168.here hx rfl (hb hby at_92) k) ?_
  show Go p.tables e below P T168 (mkF m 93 #[.val (.int p1), .val (.int p2), .val (.int pc), .val (.ref r_1), .val (.ref r_9), .val (.ref r_25), .val (.ref r_49), .val (.ref b69), .val (.ref b115), .unset, .unset, .unset, .unset] [(.int (0 : Int32)), (.ref r_25), (.ref r_9), (.ref r_1), (.ref b168), (.ref b168)])
  have F202 : Exa Z h168 r_1 "java/lang/String" := (F169.ext E168)
  have F203 : Fld Z h168 r_1 "java/lang/String" "value" "[B" (.ref tb_1) := (F170.ext E168)
  have F204 : Fld Z h168 r_1 "java/lang/String" "coder" "B" (.int (0 : Int32)) := (F171.ext E168)
  have F205 : Arv Z h168 tb_1 kk_1 .byte (1 : Int32) [(.int (nar .byte (((pc &&& (255 : Int32)).toUInt32.toUInt16.toUInt32.toInt32).toInt8.toInt32)))] (.int (0 : Int32)) := (F172.ext E168)
  have F206 : Exa Z h168 r_9 "java/lang/String" := (F173.ext E168)
  have F207 : Fld Z h168 r_9 "java/lang/String" "value" "[B" (.ref tb_9) := (F174.ext E168)
  have F208 : Fld Z h168 r_9 "java/lang/String" "coder" "B" (.int (0 : Int32)) := (F175.ext E168)
  have F209 : Arv Z h168 tb_9 kk_9 .byte (1 : Int32) [(.int (nar .byte (((((pc.toUInt32 >>> ((8 : Int32) &&& 31).toUInt32).toInt32) &&& (255 : Int32)).toUInt32.toUInt16.toUInt32.toInt32).toInt8.toInt32)))] (.int (0 : Int32)) := (F176.ext E168)
  have F210 : Exa Z h168 r_25 "java/lang/String" := (F177.ext E168)
  have F211 : Fld Z h168 r_25 "java/lang/String" "value" "[B" (.ref tb_25) := (F178.ext E168)
  have F212 : Fld Z h168 r_25 "java/lang/String" "coder" "B" (.int (0 : Int32)) := (F179.ext E168)
  have F213 : Arv Z h168 tb_25 kk_25 .byte (1 : Int32) [(.int (nar .byte (((((pc.toUInt32 >>> ((16 : Int32) &&& 31).toUInt32).toInt32) &&& (255 : Int32)).toUInt32.toUInt16.toUInt32.toInt32).toInt8.toInt32)))] (.int (0 : Int32)) := (F180.ext E168)
  have F214 : Exa Z h168 r_49 "java/lang/String" := (F181.ext E168)
  have F215 : Fld Z h168 r_49 "java/lang/String" "value" "[B" (.ref tb_49) := (F182.ext E168)
  have F216 : Fld Z h168 r_49 "java/lang/String" "coder" "B" (.int (0 : Int32)) := (F183.ext E168)
  have F217 : Arv Z h168 tb_49 kk_49 .byte (1 : Int32) [(.int (nar .byte (((((pc.toUInt32 >>> ((24 : Int32) &&& 31).toUInt32).toInt32) &&& (255 : Int32)).toUInt32.toUInt16.toUInt32.toInt32).toInt8.toInt32)))] (.int (0 : Int32)) := (F184.ext E168)
  have F218 : Exa Z h168 b69 "com/example/fort_river/fortriver/trec/Judgment" := (F185.ext E168)
  have F219 : Fld Z h168 b69 "com/example/fort_river/fortriver/trec/Judgment" "relevance" "I" (.int p1) := (F186.ext E168)
  have F220 : Exa Z h168 b115 "com/example/fort_river/fortriver/trec/Judgment" := (u164_0.ext E168)
  have F221 : Fld Z h168 b115 "com/example/fort_river/fortriver/trec/Judgment" "relevance" "I" (.int p2) := (u164_1.ext E168)
  obtain ⟨_, _, ⟨T222, L222, k222, n222⟩, -, X222, ⟨Lc222, hQ222, l222, y222, z222⟩, st222⟩ := X168.specialBack hx (y := (⟨"com/example/fort_river/fortriver/trec/Judgment", "<init>", "(Ljava/lang/String;Ljava/lang/String;Ljava/lang/String;I)V"⟩ : MethodName)) rfl hown (mvT hZ (hw _ (List.mem_of_getElem? (i := 29) rfl))) (mvT hZ (hw _ (List.mem_of_getElem? (i := 30) rfl))) (mvT hZ (hw _ (List.mem_of_getElem? (i := 31) rfl))) (by decide) (backOf (W := 1) (rm6 l Z a0 hw [] b168 r_1 r_9 r_25 (0 : Int32) h168 n0 Z199 A168 (D168 (Or.inr (hw _ (List.mem_of_getElem? (i := 39) rfl))) (ty := (.object "java/lang/String")) (by decide) : Fld Z h168 b168 "com/example/fort_river/fortriver/trec/Judgment" "topic" "Ljava/lang/String;" .null) (D168 (Or.inr (hw _ (List.mem_of_getElem? (i := 41) rfl))) (ty := (.object "java/lang/String")) (by decide) : Fld Z h168 b168 "com/example/fort_river/fortriver/trec/Judgment" "iteration" "Ljava/lang/String;" .null) (D168 (Or.inr (hw _ (List.mem_of_getElem? (i := 43) rfl))) (ty := (.object "java/lang/String")) (by decide) : Fld Z h168 b168 "com/example/fort_river/fortriver/trec/Judgment" "docno" "Ljava/lang/String;" .null) (D168 (Or.inr (hw _ (List.mem_of_getElem? (i := 45) rfl))) (ty := .int) (by decide) : Fld Z h168 b168 "com/example/fort_river/fortriver/trec/Judgment" "relevance" "I" (.int (0 : Int32))) g197) hZ (hw _ (List.mem_of_getElem? (i := 31) rfl)) (hw _ (List.mem_of_getElem? (i := 28) rfl)) (by decide) (by decide)) (g := (mkF m 93 #[.val (.int p1), .val (.int p2), .val (.int pc), .val (.ref r_1), .val (.ref r_9), .val (.ref r_25), .val (.ref r_49), .val (.ref b69), .val (.ref b115), .unset, .unset, .unset, .unset] [(.int (0 : Int32)), (.ref r_25), (.ref r_9), (.ref r_1), (.ref b168), (.ref b168)])) rfl (by rw [hml]; rfl) (Steps.refl _) (a := b168) (argsL := [(.ref r_1), (.ref r_9), (.ref r_25), (.int (0 : Int32))]) (rest := [(.ref b168)]) (lenOf own_pd5 rfl) rfl (by show 2 * 0 + _ ≤ _; exact Nat.le_of_eq rfl) (hb hby at_93) (fun _ _ => ⟨rfl, e168, (by decide : 11 + 0 ≤ _), (by decide : 32 + 0 ≤ _)⟩)
  dsimp only [Pt.U, Pt.locs, Pt.cells, Pt.slots] at X222 l222 y222 z222 st222 hQ222
  subst l222 y222 z222
  obtain ⟨rfl, Nq222, K222, u222_0, u222_1⟩ := hQ222
  have N222 := Fr.app N164 Nq222
  refine Go.hop st222 ?_
  have Z223 : n0 ≤ T222.heap.size := Nat.le_trans Z199 K222.1
  have K224 : Keep h0 T222.heap [] := K200.trans K222 (own_allC (Or.inr sz198) own_all0)
  have O225 : Old Z n0 T222.heap := O201.keep K222 (own_allC g197 own_all0)
  show Go p.tables e below P T222 (mkF m 96 #[.val (.int p1), .val (.int p2), .val (.int pc), .val (.ref r_1), .val (.ref r_9), .val (.ref r_25), .val (.ref r_49), .val (.ref b69), .val (.ref b115), .unset, .unset, .unset, .unset] [(.ref b168)])
  refine Go.via (fun t k => XS.astore X222.here hx rfl (hb hby at_96) rfl rfl (l' := #[.val (.int p1), .val (.int p2), .val (.int pc), .val (.ref r_1), .val (.ref r_9), .val (.ref r_25), .val (.ref r_49), .val (.ref b69), .val (.ref b115), .val (.ref b168), .unset, .unset, .unset]) rfl k) ?_
  show Go p.tables e below P T222 (mkF m 98 #[.val (.int p1), .val (.int p2), .val (.int pc), .val (.ref r_1), .val (.ref r_9), .val (.ref r_25), .val (.ref r_49), .val (.ref b69), .val (.ref b115), .val (.ref b168), .unset, .unset, .unset] [])
  have F227 : Exa Z T222.heap r_1 "java/lang/String" := (F202.keep K222)
  have F228 : Fld Z T222.heap r_1 "java/lang/String" "value" "[B" (.ref tb_1) := (F203.keep K222 (own_ninC ne187 own_nin0))
  have F229 : Fld Z T222.heap r_1 "java/lang/String" "coder" "B" (.int (0 : Int32)) := (F204.keep K222 (own_ninC ne187 own_nin0))
  have F230 : Arv Z T222.heap tb_1 kk_1 .byte (1 : Int32) [(.int (nar .byte (((pc &&& (255 : Int32)).toUInt32.toUInt16.toUInt32.toInt32).toInt8.toInt32)))] (.int (0 : Int32)) := (F205.keep K222 (own_ninC ne188 own_nin0))
  have F231 : Exa Z T222.heap r_9 "java/lang/String" := (F206.keep K222)
  have F232 : Fld Z T222.heap r_9 "java/lang/String" "value" "[B" (.ref tb_9) := (F207.keep K222 (own_ninC ne189 own_nin0))
  have F233 : Fld Z T222.heap r_9 "java/lang/String" "coder" "B" (.int (0 : Int32)) := (F208.keep K222 (own_ninC ne189 own_nin0))
  have F234 : Arv Z T222.heap tb_9 kk_9 .byte (1 : Int32) [(.int (nar .byte (((((pc.toUInt32 >>> ((8 : Int32) &&& 31).toUInt32).toInt32) &&& (255 : Int32)).toUInt32.toUInt16.toUInt32.toInt32).toInt8.toInt32)))] (.int (0 : Int32)) := (F209.keep K222 (own_ninC ne190 own_nin0))
  have F235 : Exa Z T222.heap r_25 "java/lang/String" := (F210.keep K222)
  have F236 : Fld Z T222.heap r_25 "java/lang/String" "value" "[B" (.ref tb_25) := (F211.keep K222 (own_ninC ne191 own_nin0))
  have F237 : Fld Z T222.heap r_25 "java/lang/String" "coder" "B" (.int (0 : Int32)) := (F212.keep K222 (own_ninC ne191 own_nin0))
  have F238 : Arv Z T222.heap tb_25 kk_25 .byte (1 : Int32) [(.int (nar .byte (((((pc.toUInt32 >>> ((16 : Int32) &&& 31).toUInt32).toInt32) &&& (255 : Int32)).toUInt32.toUInt16.toUInt32.toInt32).toInt8.toInt32)))] (.int (0 : Int32)) := (F213.keep K222 (own_ninC ne192 own_nin0))
  have F239 : Exa Z T222.heap r_49 "java/lang/String" := (F214.keep K222)
  have F240 : Fld Z T222.heap r_49 "java/lang/String" "value" "[B" (.ref tb_49) := (F215.keep K222 (own_ninC ne193 own_nin0))
  have F241 : Fld Z T222.heap r_49 "java/lang/String" "coder" "B" (.int (0 : Int32)) := (F216.keep K222 (own_ninC ne193 own_nin0))
  have F242 : Arv Z T222.heap tb_49 kk_49 .byte (1 : Int32) [(.int (nar .byte (((((pc.toUInt32 >>> ((24 : Int32) &&& 31).toUInt32).toInt32) &&& (255 : Int32)).toUInt32.toUInt16.toUInt32.toInt32).toInt8.toInt32)))] (.int (0 : Int32)) := (F217.keep K222 (own_ninC ne194 own_nin0))
  have F243 : Exa Z T222.heap b69 "com/example/fort_river/fortriver/trec/Judgment" := (F218.keep K222)
  have F244 : Fld Z T222.heap b69 "com/example/fort_river/fortriver/trec/Judgment" "relevance" "I" (.int p1) := (F219.keep K222 (own_ninC ne195 own_nin0))
  have F245 : Exa Z T222.heap b115 "com/example/fort_river/fortriver/trec/Judgment" := (F220.keep K222)
  have F246 : Fld Z T222.heap b115 "com/example/fort_river/fortriver/trec/Judgment" "relevance" "I" (.int p2) := (F221.keep K222 (own_ninC ne196 own_nin0))
  obtain ⟨T226, h226, X226, e226, E226, A226, D226, -, st226⟩ := newO X222 hx hZ hown (hw _ (List.mem_of_getElem? (i := 26) rfl)) (hw _ (List.mem_of_getElem? (i := 27) rfl)) (hw _ (List.mem_of_getElem? (i := 28) rfl)) rfl (g := (mkF m 98 #[.val (.int p1), .val (.int p2), .val (.int pc), .val (.ref r_1), .val (.ref r_9), .val (.ref r_25), .val (.ref r_49), .val (.ref b69), .val (.ref b115), .val (.ref b168), .unset, .unset, .unset] [])) rfl (hb hby at_98) (by decide) (by decide)
  obtain ⟨b226, g226⟩ : ∃ z, z = T222.heap.size := ⟨_, rfl⟩
  rw [← g226] at A226 D226 st226
  refine Go.via st226 ?_
  have ne247 : r_1 ≠ b226 := Nat.ne_of_lt (Nat.lt_of_lt_of_le F227.lt (Nat.le_of_eq g226.symm))
  have ne248 : tb_1 ≠ b226 := Nat.ne_of_lt (Nat.lt_of_lt_of_le F230.lt (Nat.le_of_eq g226.symm))
  have ne249 : r_9 ≠ b226 := Nat.ne_of_lt (Nat.lt_of_lt_of_le F231.lt (Nat.le_of_eq g226.symm))
  have ne250 : tb_9 ≠ b226 := Nat.ne_of_lt (Nat.lt_of_lt_of_le F234.lt (Nat.le_of_eq g226.symm))
  have ne251 : r_25 ≠ b226 := Nat.ne_of_lt (Nat.lt_of_lt_of_le F235.lt (Nat.le_of_eq g226.symm))
  have ne252 : tb_25 ≠ b226 := Nat.ne_of_lt (Nat.lt_of_lt_of_le F238.lt (Nat.le_of_eq g226.symm))
  have ne253 : r_49 ≠ b226 := Nat.ne_of_lt (Nat.lt_of_lt_of_le F239.lt (Nat.le_of_eq g226.symm))
  have ne254 : tb_49 ≠ b226 := Nat.ne_of_lt (Nat.lt_of_lt_of_le F242.lt (Nat.le_of_eq g226.symm))
  have ne255 : b69 ≠ b226 := Nat.ne_of_lt (Nat.lt_of_lt_of_le F243.lt (Nat.le_of_eq g226.symm))
  have ne256 : b115 ≠ b226 := Nat.ne_of_lt (Nat.lt_of_lt_of_le F245.lt (Nat.le_of_eq g226.symm))
  have ne257 : b168 ≠ b226 := Nat.ne_of_lt (Nat.lt_of_lt_of_le u222_0.lt (Nat.le_of_eq g226.symm))
  have g258 : n0 ≤ b226 := Nat.le_trans Z223 (Nat.le_of_eq g226.symm)
  have sz259 : h0.size ≤ b226 := Nat.le_trans K224.1 (Nat.le_of_eq g226.symm)
  have Z260 : n0 ≤ h226.size := Nat.le_trans Z223 E226.1
  have K261 : Keep h0 h226 [] := K224.ext E226
  have O262 : Old Z n0 h226 := O225.ext E226
  show Go p.tables e below P T226 (mkF m 101 #[.val (.int p1), .val (.int p2), .val (.int pc), .val (.ref r_1), .val (.ref r_9), .val (.ref r_25), .val (.ref r_49), .val (.ref b69), .val (.ref b115), .val (.ref b168), .unset, .unset, .unset] [(.ref b226)])
  refine Go.via (fun t k => XS.dup X226.here hx rfl (hb hby at_101) rfl rfl k) ?_
  show Go p.tables e below P T226 (mkF m 102 #[.val (.int p1), .val (.int p2), .val (.int pc), .val (.ref r_1), .val (.ref r_9), .val (.ref r_25), .val (.ref r_49), .val (.ref b69), .val (.ref b115), .val (.ref b168), .unset, .unset, .unset] [(.ref b226), (.ref b226)])
  refine Go.via (fun t k => XS.aload X226.here hx rfl (hb hby at_102) rfl rfl k) ?_
  show Go p.tables e below P T226 (mkF m 104 #[.val (.int p1), .val (.int p2), .val (.int pc), .val (.ref r_1), .val (.ref r_9), .val (.ref r_25), .val (.ref r_49), .val (.ref b69), .val (.ref b115), .val (.ref b168), .unset, .unset, .unset] [(.ref r_49), (.ref b226), (.ref b226)])
  refine Go.via (fun t k => XS.aload X226.here hx rfl (hb hby at_104) rfl rfl k) ?_
  show Go p.tables e below P T226 (mkF m 106 #[.val (.int p1), .val (.int p2), .val (.int pc), .val (.ref r_1), .val (.ref r_9), .val (.ref r_25), .val (.ref r_49), .val (.ref b69), .val (.ref b115), .val (.ref b168), .unset, .unset, .unset] [(.ref r_25), (.ref r_49), (.ref b226), (.ref b226)])
  refine Go.via (fun t k => XS.aload X226.here hx rfl (hb hby at_106) rfl rfl k) ?_
  show Go p.tables e below P T226 (mkF m 108 #[.val (.int p1), .val (.int p2), .val (.int pc), .val (.ref r_1), .val (.ref r_9), .val (.ref r_25), .val (.ref r_49), .val (.ref b69), .val (.ref b115), .val (.ref b168), .unset, .unset, .unset] [(.ref r_9), (.ref r_25), (.ref r_49), (.ref b226), (.ref b226)])
  refine Go.via (fun t k => XS.iconst X226.here hx rfl (hb hby at_108) k) ?_
  show Go p.tables e below P T226 (mkF m 109 #[.val (.int p1), .val (.int p2), .val (.int pc), .val (.ref r_1), .val (.ref r_9), .val (.ref r_25), .val (.ref r_49), .val (.ref b69), .val (.ref b115), .val (.ref b168), .unset, .unset, .unset] [(.int (1 : Int32)), (.ref r_9), (.ref r_25), (.ref r_49), (.ref b226), (.ref b226)])
  have F263 : Exa Z h226 r_1 "java/lang/String" := (F227.ext E226)
  have F264 : Fld Z h226 r_1 "java/lang/String" "value" "[B" (.ref tb_1) := (F228.ext E226)
  have F265 : Fld Z h226 r_1 "java/lang/String" "coder" "B" (.int (0 : Int32)) := (F229.ext E226)
  have F266 : Arv Z h226 tb_1 kk_1 .byte (1 : Int32) [(.int (nar .byte (((pc &&& (255 : Int32)).toUInt32.toUInt16.toUInt32.toInt32).toInt8.toInt32)))] (.int (0 : Int32)) := (F230.ext E226)
  have F267 : Exa Z h226 r_9 "java/lang/String" := (F231.ext E226)
  have F268 : Fld Z h226 r_9 "java/lang/String" "value" "[B" (.ref tb_9) := (F232.ext E226)
  have F269 : Fld Z h226 r_9 "java/lang/String" "coder" "B" (.int (0 : Int32)) := (F233.ext E226)
  have F270 : Arv Z h226 tb_9 kk_9 .byte (1 : Int32) [(.int (nar .byte (((((pc.toUInt32 >>> ((8 : Int32) &&& 31).toUInt32).toInt32) &&& (255 : Int32)).toUInt32.toUInt16.toUInt32.toInt32).toInt8.toInt32)))] (.int (0 : Int32)) := (F234.ext E226)
  have F271 : Exa Z h226 r_25 "java/lang/String" := (F235.ext E226)
  have F272 : Fld Z h226 r_25 "java/lang/String" "value" "[B" (.ref tb_25) := (F236.ext E226)
  have F273 : Fld Z h226 r_25 "java/lang/String" "coder" "B" (.int (0 : Int32)) := (F237.ext E226)
  have F274 : Arv Z h226 tb_25 kk_25 .byte (1 : Int32) [(.int (nar .byte (((((pc.toUInt32 >>> ((16 : Int32) &&& 31).toUInt32).toInt32) &&& (255 : Int32)).toUInt32.toUInt16.toUInt32.toInt32).toInt8.toInt32)))] (.int (0 : Int32)) := (F238.ext E226)
  have F275 : Exa Z h226 r_49 "java/lang/String" := (F239.ext E226)
  have F276 : Fld Z h226 r_49 "java/lang/String" "value" "[B" (.ref tb_49) := (F240.ext E226)
  have F277 : Fld Z h226 r_49 "java/lang/String" "coder" "B" (.int (0 : Int32)) := (F241.ext E226)
  have F278 : Arv Z h226 tb_49 kk_49 .byte (1 : Int32) [(.int (nar .byte (((((pc.toUInt32 >>> ((24 : Int32) &&& 31).toUInt32).toInt32) &&& (255 : Int32)).toUInt32.toUInt16.toUInt32.toInt32).toInt8.toInt32)))] (.int (0 : Int32)) := (F242.ext E226)
  have F279 : Exa Z h226 b69 "com/example/fort_river/fortriver/trec/Judgment" := (F243.ext E226)
  have F280 : Fld Z h226 b69 "com/example/fort_river/fortriver/trec/Judgment" "relevance" "I" (.int p1) := (F244.ext E226)
  have F281 : Exa Z h226 b115 "com/example/fort_river/fortriver/trec/Judgment" := (F245.ext E226)
  have F282 : Fld Z h226 b115 "com/example/fort_river/fortriver/trec/Judgment" "relevance" "I" (.int p2) := (F246.ext E226)
  have F283 : Exa Z h226 b168 "com/example/fort_river/fortriver/trec/Judgment" := (u222_0.ext E226)
  have F284 : Fld Z h226 b168 "com/example/fort_river/fortriver/trec/Judgment" "relevance" "I" (.int (0 : Int32)) := (u222_1.ext E226)
  obtain ⟨_, _, ⟨T285, L285, k285, n285⟩, -, X285, ⟨Lc285, hQ285, l285, y285, z285⟩, st285⟩ := X226.specialBack hx (y := (⟨"com/example/fort_river/fortriver/trec/Judgment", "<init>", "(Ljava/lang/String;Ljava/lang/String;Ljava/lang/String;I)V"⟩ : MethodName)) rfl hown (mvT hZ (hw _ (List.mem_of_getElem? (i := 29) rfl))) (mvT hZ (hw _ (List.mem_of_getElem? (i := 30) rfl))) (mvT hZ (hw _ (List.mem_of_getElem? (i := 31) rfl))) (by decide) (backOf (W := 1) (rm6 l Z a0 hw [] b226 r_49 r_25 r_9 (1 : Int32) h226 n0 Z260 A226 (D226 (Or.inr (hw _ (List.mem_of_getElem? (i := 39) rfl))) (ty := (.object "java/lang/String")) (by decide) : Fld Z h226 b226 "com/example/fort_river/fortriver/trec/Judgment" "topic" "Ljava/lang/String;" .null) (D226 (Or.inr (hw _ (List.mem_of_getElem? (i := 41) rfl))) (ty := (.object "java/lang/String")) (by decide) : Fld Z h226 b226 "com/example/fort_river/fortriver/trec/Judgment" "iteration" "Ljava/lang/String;" .null) (D226 (Or.inr (hw _ (List.mem_of_getElem? (i := 43) rfl))) (ty := (.object "java/lang/String")) (by decide) : Fld Z h226 b226 "com/example/fort_river/fortriver/trec/Judgment" "docno" "Ljava/lang/String;" .null) (D226 (Or.inr (hw _ (List.mem_of_getElem? (i := 45) rfl))) (ty := .int) (by decide) : Fld Z h226 b226 "com/example/fort_river/fortriver/trec/Judgment" "relevance" "I" (.int (0 : Int32))) g258) hZ (hw _ (List.mem_of_getElem? (i := 31) rfl)) (hw _ (List.mem_of_getElem? (i := 28) rfl)) (by decide) (by decide)) (g := (mkF m 109 #[.val (.int p1), .val (.int p2), .val (.int pc), .val (.ref r_1), .val (.ref r_9), .val (.ref r_25), .val (.ref r_49), .val (.ref b69), .val (.ref b115), .val (.ref b168), .unset, .unset, .unset] [(.int (1 : Int32)), (.ref r_9), (.ref r_25), (.ref r_49), (.ref b226), (.ref b226)])) rfl (by rw [hml]; rfl) (Steps.refl _) (a := b226) (argsL := [(.ref r_49), (.ref r_25), (.ref r_9), (.int (1 : Int32))]) (rest := [(.ref b226)]) (lenOf own_pd5 rfl) rfl (by show 2 * 0 + _ ≤ _; exact Nat.le_of_eq rfl) (hb hby at_109) (fun _ _ => ⟨rfl, e226, (by decide : 12 + 0 ≤ _), (by decide : 36 + 0 ≤ _)⟩)
  dsimp only [Pt.U, Pt.locs, Pt.cells, Pt.slots] at X285 l285 y285 z285 st285 hQ285
  subst l285 y285 z285
  obtain ⟨rfl, Nq285, K285, u285_0, u285_1⟩ := hQ285
  have N285 := Fr.app N222 Nq285
  refine Go.hop st285 ?_
  have Z286 : n0 ≤ T285.heap.size := Nat.le_trans Z260 K285.1
  have K287 : Keep h0 T285.heap [] := K261.trans K285 (own_allC (Or.inr sz259) own_all0)
  have O288 : Old Z n0 T285.heap := O262.keep K285 (own_allC g258 own_all0)
  show Go p.tables e below P T285 (mkF m 112 #[.val (.int p1), .val (.int p2), .val (.int pc), .val (.ref r_1), .val (.ref r_9), .val (.ref r_25), .val (.ref r_49), .val (.ref b69), .val (.ref b115), .val (.ref b168), .unset, .unset, .unset] [(.ref b226)])
  refine Go.via (fun t k => XS.astore X285.here hx rfl (hb hby at_112) rfl rfl (l' := #[.val (.int p1), .val (.int p2), .val (.int pc), .val (.ref r_1), .val (.ref r_9), .val (.ref r_25), .val (.ref r_49), .val (.ref b69), .val (.ref b115), .val (.ref b168), .val (.ref b226), .unset, .unset]) rfl k) ?_
  show Go p.tables e below P T285 (mkF m 114 #[.val (.int p1), .val (.int p2), .val (.int pc), .val (.ref r_1), .val (.ref r_9), .val (.ref r_25), .val (.ref r_49), .val (.ref b69), .val (.ref b115), .val (.ref b168), .val (.ref b226), .unset, .unset] [])
  refine Go.via (fun t k => XS.aload X285.here hx rfl (hb hby at_114) rfl rfl k) ?_
  show Go p.tables e below P T285 (mkF m 116 #[.val (.int p1), .val (.int p2), .val (.int pc), .val (.ref r_1), .val (.ref r_9), .val (.ref r_25), .val (.ref r_49), .val (.ref b69), .val (.ref b115), .val (.ref b168), .val (.ref b226), .unset, .unset] [(.ref b69)])
  have F289 : Fld Z T285.heap b69 "com/example/fort_river/fortriver/trec/Judgment" "relevance" "I" (.int p1) := (F280.keep K285 (own_ninC ne255 own_nin0))
  have F290 : Exa Z T285.heap r_1 "java/lang/String" := (F263.keep K285)
  have F291 : Fld Z T285.heap r_1 "java/lang/String" "value" "[B" (.ref tb_1) := (F264.keep K285 (own_ninC ne247 own_nin0))
  have F292 : Fld Z T285.heap r_1 "java/lang/String" "coder" "B" (.int (0 : Int32)) := (F265.keep K285 (own_ninC ne247 own_nin0))
  have F293 : Arv Z T285.heap tb_1 kk_1 .byte (1 : Int32) [(.int (nar .byte (((pc &&& (255 : Int32)).toUInt32.toUInt16.toUInt32.toInt32).toInt8.toInt32)))] (.int (0 : Int32)) := (F266.keep K285 (own_ninC ne248 own_nin0))
  have F294 : Exa Z T285.heap r_9 "java/lang/String" := (F267.keep K285)
  have F295 : Fld Z T285.heap r_9 "java/lang/String" "value" "[B" (.ref tb_9) := (F268.keep K285 (own_ninC ne249 own_nin0))
  have F296 : Fld Z T285.heap r_9 "java/lang/String" "coder" "B" (.int (0 : Int32)) := (F269.keep K285 (own_ninC ne249 own_nin0))
  have F297 : Arv Z T285.heap tb_9 kk_9 .byte (1 : Int32) [(.int (nar .byte (((((pc.toUInt32 >>> ((8 : Int32) &&& 31).toUInt32).toInt32) &&& (255 : Int32)).toUInt32.toUInt16.toUInt32.toInt32).toInt8.toInt32)))] (.int (0 : Int32)) := (F270.keep K285 (own_ninC ne250 own_nin0))
  have F298 : Exa Z T285.heap r_25 "java/lang/String" := (F271.keep K285)
  have F299 : Fld Z T285.heap r_25 "java/lang/String" "value" "[B" (.ref tb_25) := (F272.keep K285 (own_ninC ne251 own_nin0))
  have F300 : Fld Z T285.heap r_25 "java/lang/String" "coder" "B" (.int (0 : Int32)) := (F273.keep K285 (own_ninC ne251 own_nin0))
  have F301 : Arv Z T285.heap tb_25 kk_25 .byte (1 : Int32) [(.int (nar .byte (((((pc.toUInt32 >>> ((16 : Int32) &&& 31).toUInt32).toInt32) &&& (255 : Int32)).toUInt32.toUInt16.toUInt32.toInt32).toInt8.toInt32)))] (.int (0 : Int32)) := (F274.keep K285 (own_ninC ne252 own_nin0))
  have F302 : Exa Z T285.heap r_49 "java/lang/String" := (F275.keep K285)
  have F303 : Fld Z T285.heap r_49 "java/lang/String" "value" "[B" (.ref tb_49) := (F276.keep K285 (own_ninC ne253 own_nin0))
  have F304 : Fld Z T285.heap r_49 "java/lang/String" "coder" "B" (.int (0 : Int32)) := (F277.keep K285 (own_ninC ne253 own_nin0))
  have F305 : Arv Z T285.heap tb_49 kk_49 .byte (1 : Int32) [(.int (nar .byte (((((pc.toUInt32 >>> ((24 : Int32) &&& 31).toUInt32).toInt32) &&& (255 : Int32)).toUInt32.toUInt16.toUInt32.toInt32).toInt8.toInt32)))] (.int (0 : Int32)) := (F278.keep K285 (own_ninC ne254 own_nin0))
  have F306 : Exa Z T285.heap b69 "com/example/fort_river/fortriver/trec/Judgment" := (F279.keep K285)
  have F307 : Exa Z T285.heap b115 "com/example/fort_river/fortriver/trec/Judgment" := (F281.keep K285)
  have F308 : Fld Z T285.heap b115 "com/example/fort_river/fortriver/trec/Judgment" "relevance" "I" (.int p2) := (F282.keep K285 (own_ninC ne256 own_nin0))
  have F309 : Exa Z T285.heap b168 "com/example/fort_river/fortriver/trec/Judgment" := (F283.keep K285)
  have F310 : Fld Z T285.heap b168 "com/example/fort_river/fortriver/trec/Judgment" "relevance" "I" (.int (0 : Int32)) := (F284.keep K285 (own_ninC ne257 own_nin0))
  obtain ⟨cq311, kq311, q311a, q311b, q311c⟩ := isOf hZ rfl F306
  obtain ⟨_, _, ⟨T311, L311, k311, n311⟩, -, X311, ⟨Lc311, hQ311, l311, y311, z311⟩, st311⟩ := X285.virtualBack hx (y := (⟨"com/example/fort_river/fortriver/trec/Judgment", "isRelevant", "()Z"⟩ : MethodName)) (z := (⟨"com/example/fort_river/fortriver/trec/Judgment", "isRelevant", "()Z"⟩ : MethodName)) hown (mvT hZ (hw _ (List.mem_of_getElem? (i := 46) rfl))) (mvT hZ (hw _ (List.mem_of_getElem? (i := 47) rfl))) (notFace_of_selects (args := #[]) (mvT hZ (hw _ (List.mem_of_getElem? (i := 49) rfl)))) (mvT hZ (hw _ (List.mem_of_getElem? (i := 49) rfl))) (mvT hZ (hw _ (List.mem_of_getElem? (i := 48) rfl))) (by decide) (backOf (W := 0) (rm8 l Z a0 hw [] b69 p1 T285.heap n0 Z286 F289) hZ (hw _ (List.mem_of_getElem? (i := 50) rfl)) (hw _ (List.mem_of_getElem? (i := 28) rfl)) (by decide) (by decide)) q311a q311c (g := (mkF m 116 #[.val (.int p1), .val (.int p2), .val (.int pc), .val (.ref r_1), .val (.ref r_9), .val (.ref r_25), .val (.ref r_49), .val (.ref b69), .val (.ref b115), .val (.ref b168), .val (.ref b226), .unset, .unset] [(.ref b69)])) rfl (by rw [hml]; rfl) (Steps.refl _) (argsL := []) (rest := []) (lenOf own_pd6 rfl) rfl (by show 2 * 0 + _ ≤ _; exact Nat.le_of_eq rfl) (hb hby at_116) (fun _ _ => ⟨rfl, rfl, (by decide : 12 + 0 ≤ _), (by decide : 36 + 0 ≤ _)⟩)
  dsimp only [Pt.U, Pt.locs, Pt.cells, Pt.slots] at X311 l311 y311 z311 st311 hQ311
  subst l311 y311 z311
  obtain ⟨rfl, Nq311, hh311⟩ := hQ311
  have N311 := Fr.app N285 Nq311
  refine Go.hop st311 ?_
  show Go p.tables e below P T311 (mkF m 119 #[.val (.int p1), .val (.int p2), .val (.int pc), .val (.ref r_1), .val (.ref r_9), .val (.ref r_25), .val (.ref r_49), .val (.ref b69), .val (.ref b115), .val (.ref b168), .val (.ref b226), .unset, .unset] [(.int (if (0 : Int32) < p1 then (1 : Int32) else (0 : Int32)))])
  refine Go.via (fun t k => XS.istore X311.here hx rfl (hb hby at_119) rfl (l' := #[.val (.int p1), .val (.int p2), .val (.int pc), .val (.ref r_1), .val (.ref r_9), .val (.ref r_25), .val (.ref r_49), .val (.ref b69), .val (.ref b115), .val (.ref b168), .val (.ref b226), .val (.int (if (0 : Int32) < p1 then (1 : Int32) else (0 : Int32))), .unset]) rfl k) ?_
  show Go p.tables e below P T311 (mkF m 121 #[.val (.int p1), .val (.int p2), .val (.int pc), .val (.ref r_1), .val (.ref r_9), .val (.ref r_25), .val (.ref r_49), .val (.ref b69), .val (.ref b115), .val (.ref b168), .val (.ref b226), .val (.int (if (0 : Int32) < p1 then (1 : Int32) else (0 : Int32))), .unset] [])
  refine Go.via (fun t k => XS.aload X311.here hx rfl (hb hby at_121) rfl rfl k) ?_
  show Go p.tables e below P T311 (mkF m 123 #[.val (.int p1), .val (.int p2), .val (.int pc), .val (.ref r_1), .val (.ref r_9), .val (.ref r_25), .val (.ref r_49), .val (.ref b69), .val (.ref b115), .val (.ref b168), .val (.ref b226), .val (.int (if (0 : Int32) < p1 then (1 : Int32) else (0 : Int32))), .unset] [(.ref b115)])
  obtain ⟨cq312, kq312, q312a, q312b, q312c⟩ := isOf hZ hh311 F307
  obtain ⟨_, _, ⟨T312, L312, k312, n312⟩, -, X312, ⟨Lc312, hQ312, l312, y312, z312⟩, st312⟩ := X311.virtualBack hx (y := (⟨"com/example/fort_river/fortriver/trec/Judgment", "isRelevant", "()Z"⟩ : MethodName)) (z := (⟨"com/example/fort_river/fortriver/trec/Judgment", "isRelevant", "()Z"⟩ : MethodName)) hown (mvT hZ (hw _ (List.mem_of_getElem? (i := 46) rfl))) (mvT hZ (hw _ (List.mem_of_getElem? (i := 47) rfl))) (notFace_of_selects (args := #[]) (mvT hZ (hw _ (List.mem_of_getElem? (i := 49) rfl)))) (mvT hZ (hw _ (List.mem_of_getElem? (i := 49) rfl))) (mvT hZ (hw _ (List.mem_of_getElem? (i := 48) rfl))) (by decide) (backOf (W := 0) (rm8 l Z a0 hw [] b115 p2 T285.heap n0 Z286 F308) hZ (hw _ (List.mem_of_getElem? (i := 50) rfl)) (hw _ (List.mem_of_getElem? (i := 28) rfl)) (by decide) (by decide)) q312a q312c (g := (mkF m 123 #[.val (.int p1), .val (.int p2), .val (.int pc), .val (.ref r_1), .val (.ref r_9), .val (.ref r_25), .val (.ref r_49), .val (.ref b69), .val (.ref b115), .val (.ref b168), .val (.ref b226), .val (.int (if (0 : Int32) < p1 then (1 : Int32) else (0 : Int32))), .unset] [(.ref b115)])) rfl (by rw [hml]; rfl) (Steps.refl _) (argsL := []) (rest := []) (lenOf own_pd6 rfl) rfl (by show 2 * 0 + _ ≤ _; exact Nat.le_of_eq rfl) (hb hby at_123) (fun _ _ => ⟨rfl, hh311, (by decide : 12 + 0 ≤ _), (by decide : 36 + 0 ≤ _)⟩)
  dsimp only [Pt.U, Pt.locs, Pt.cells, Pt.slots] at X312 l312 y312 z312 st312 hQ312
  subst l312 y312 z312
  obtain ⟨rfl, Nq312, hh312⟩ := hQ312
  have N312 := Fr.app N311 Nq312
  refine Go.hop st312 ?_
  show Go p.tables e below P T312 (mkF m 126 #[.val (.int p1), .val (.int p2), .val (.int pc), .val (.ref r_1), .val (.ref r_9), .val (.ref r_25), .val (.ref r_49), .val (.ref b69), .val (.ref b115), .val (.ref b168), .val (.ref b226), .val (.int (if (0 : Int32) < p1 then (1 : Int32) else (0 : Int32))), .unset] [(.int (if (0 : Int32) < p2 then (1 : Int32) else (0 : Int32)))])
  refine Go.via (fun t k => XS.istore X312.here hx rfl (hb hby at_126) rfl (l' := #[.val (.int p1), .val (.int p2), .val (.int pc), .val (.ref r_1), .val (.ref r_9), .val (.ref r_25), .val (.ref r_49), .val (.ref b69), .val (.ref b115), .val (.ref b168), .val (.ref b226), .val (.int (if (0 : Int32) < p1 then (1 : Int32) else (0 : Int32))), .val (.int (if (0 : Int32) < p2 then (1 : Int32) else (0 : Int32)))]) rfl k) ?_
  show Go p.tables e below P T312 (mkF m 128 #[.val (.int p1), .val (.int p2), .val (.int pc), .val (.ref r_1), .val (.ref r_9), .val (.ref r_25), .val (.ref r_49), .val (.ref b69), .val (.ref b115), .val (.ref b168), .val (.ref b226), .val (.int (if (0 : Int32) < p1 then (1 : Int32) else (0 : Int32))), .val (.int (if (0 : Int32) < p2 then (1 : Int32) else (0 : Int32)))] [])
  refine Go.via (fun t k => XS.aload X312.here hx rfl (hb hby at_128) rfl rfl k) ?_
  show Go p.tables e below P T312 (mkF m 130 #[.val (.int p1), .val (.int p2), .val (.int pc), .val (.ref r_1), .val (.ref r_9), .val (.ref r_25), .val (.ref r_49), .val (.ref b69), .val (.ref b115), .val (.ref b168), .val (.ref b226), .val (.int (if (0 : Int32) < p1 then (1 : Int32) else (0 : Int32))), .val (.int (if (0 : Int32) < p2 then (1 : Int32) else (0 : Int32)))] [(.ref b168)])
  obtain ⟨cq313, kq313, q313a, q313b, q313c⟩ := isOf hZ hh312 F309
  obtain ⟨_, _, ⟨T313, L313, k313, n313⟩, -, X313, ⟨Lc313, hQ313, l313, y313, z313⟩, st313⟩ := X312.virtualBack hx (y := (⟨"com/example/fort_river/fortriver/trec/Judgment", "isRelevant", "()Z"⟩ : MethodName)) (z := (⟨"com/example/fort_river/fortriver/trec/Judgment", "isRelevant", "()Z"⟩ : MethodName)) hown (mvT hZ (hw _ (List.mem_of_getElem? (i := 46) rfl))) (mvT hZ (hw _ (List.mem_of_getElem? (i := 47) rfl))) (notFace_of_selects (args := #[]) (mvT hZ (hw _ (List.mem_of_getElem? (i := 49) rfl)))) (mvT hZ (hw _ (List.mem_of_getElem? (i := 49) rfl))) (mvT hZ (hw _ (List.mem_of_getElem? (i := 48) rfl))) (by decide) (backOf (W := 0) (rm8 l Z a0 hw [] b168 (0 : Int32) T285.heap n0 Z286 F310) hZ (hw _ (List.mem_of_getElem? (i := 50) rfl)) (hw _ (List.mem_of_getElem? (i := 28) rfl)) (by decide) (by decide)) q313a q313c (g := (mkF m 130 #[.val (.int p1), .val (.int p2), .val (.int pc), .val (.ref r_1), .val (.ref r_9), .val (.ref r_25), .val (.ref r_49), .val (.ref b69), .val (.ref b115), .val (.ref b168), .val (.ref b226), .val (.int (if (0 : Int32) < p1 then (1 : Int32) else (0 : Int32))), .val (.int (if (0 : Int32) < p2 then (1 : Int32) else (0 : Int32)))] [(.ref b168)])) rfl (by rw [hml]; rfl) (Steps.refl _) (argsL := []) (rest := []) (lenOf own_pd6 rfl) rfl (by show 2 * 0 + _ ≤ _; exact Nat.le_of_eq rfl) (hb hby at_130) (fun _ _ => ⟨rfl, hh312, (by decide : 12 + 0 ≤ _), (by decide : 36 + 0 ≤ _)⟩)
  dsimp only [Pt.U, Pt.locs, Pt.cells, Pt.slots] at X313 l313 y313 z313 st313 hQ313
  subst l313 y313 z313
  obtain ⟨rfl, Nq313, hh313⟩ := hQ313
  have N313 := Fr.app N312 Nq313
  refine Go.hop st313 ?_
  show Go p.tables e below P T313 (mkF m 133 #[.val (.int p1), .val (.int p2), .val (.int pc), .val (.ref r_1), .val (.ref r_9), .val (.ref r_25), .val (.ref r_49), .val (.ref b69), .val (.ref b115), .val (.ref b168), .val (.ref b226), .val (.int (if (0 : Int32) < p1 then (1 : Int32) else (0 : Int32))), .val (.int (if (0 : Int32) < p2 then (1 : Int32) else (0 : Int32)))] [(.int (if (0 : Int32) < (0 : Int32) then (1 : Int32) else (0 : Int32)))])
  refine Go.via (fun t k => XS.ifYes X313.here hx rfl (pc0 := 133) (pc' := 138) rfl (hb hby at_133) rfl ((if0 _ _).trans (teq (by decide)).1) (by decide) (by decide) k) ?_
  show Go p.tables e below P T313 (mkF m 138 #[.val (.int p1), .val (.int p2), .val (.int pc), .val (.ref r_1), .val (.ref r_9), .val (.ref r_25), .val (.ref r_49), .val (.ref b69), .val (.ref b115), .val (.ref b168), .val (.ref b226), .val (.int (if (0 : Int32) < p1 then (1 : Int32) else (0 : Int32))), .val (.int (if (0 : Int32) < p2 then (1 : Int32) else (0 : Int32)))] [])
  refine Go.via (fun t k => XS.aload X313.here hx rfl (hb hby at_138) rfl rfl k) ?_
  show Go p.tables e below P T313 (mkF m 140 #[.val (.int p1), .val (.int p2), .val (.int pc), .val (.ref r_1), .val (.ref r_9), .val (.ref r_25), .val (.ref r_49), .val (.ref b69), .val (.ref b115), .val (.ref b168), .val (.ref b226), .val (.int (if (0 : Int32) < p1 then (1 : Int32) else (0 : Int32))), .val (.int (if (0 : Int32) < p2 then (1 : Int32) else (0 : Int32)))] [(.ref b226)])
  obtain ⟨cq314, kq314, q314a, q314b, q314c⟩ := isOf hZ hh313 u285_0
  obtain ⟨_, _, ⟨T314, L314, k314, n314⟩, -, X314, ⟨Lc314, hQ314, l314, y314, z314⟩, st314⟩ := X313.virtualBack hx (y := (⟨"com/example/fort_river/fortriver/trec/Judgment", "isRelevant", "()Z"⟩ : MethodName)) (z := (⟨"com/example/fort_river/fortriver/trec/Judgment", "isRelevant", "()Z"⟩ : MethodName)) hown (mvT hZ (hw _ (List.mem_of_getElem? (i := 46) rfl))) (mvT hZ (hw _ (List.mem_of_getElem? (i := 47) rfl))) (notFace_of_selects (args := #[]) (mvT hZ (hw _ (List.mem_of_getElem? (i := 49) rfl)))) (mvT hZ (hw _ (List.mem_of_getElem? (i := 49) rfl))) (mvT hZ (hw _ (List.mem_of_getElem? (i := 48) rfl))) (by decide) (backOf (W := 0) (rm8 l Z a0 hw [] b226 (1 : Int32) T285.heap n0 Z286 u285_1) hZ (hw _ (List.mem_of_getElem? (i := 50) rfl)) (hw _ (List.mem_of_getElem? (i := 28) rfl)) (by decide) (by decide)) q314a q314c (g := (mkF m 140 #[.val (.int p1), .val (.int p2), .val (.int pc), .val (.ref r_1), .val (.ref r_9), .val (.ref r_25), .val (.ref r_49), .val (.ref b69), .val (.ref b115), .val (.ref b168), .val (.ref b226), .val (.int (if (0 : Int32) < p1 then (1 : Int32) else (0 : Int32))), .val (.int (if (0 : Int32) < p2 then (1 : Int32) else (0 : Int32)))] [(.ref b226)])) rfl (by rw [hml]; rfl) (Steps.refl _) (argsL := []) (rest := []) (lenOf own_pd6 rfl) rfl (by show 2 * 0 + _ ≤ _; exact Nat.le_of_eq rfl) (hb hby at_140) (fun _ _ => ⟨rfl, hh313, (by decide : 12 + 0 ≤ _), (by decide : 36 + 0 ≤ _)⟩)
  dsimp only [Pt.U, Pt.locs, Pt.cells, Pt.slots] at X314 l314 y314 z314 st314 hQ314
  subst l314 y314 z314
  obtain ⟨rfl, Nq314, hh314⟩ := hQ314
  have N314 := Fr.app N313 Nq314
  refine Go.hop st314 ?_
  show Go p.tables e below P T314 (mkF m 143 #[.val (.int p1), .val (.int p2), .val (.int pc), .val (.ref r_1), .val (.ref r_9), .val (.ref r_25), .val (.ref r_49), .val (.ref b69), .val (.ref b115), .val (.ref b168), .val (.ref b226), .val (.int (if (0 : Int32) < p1 then (1 : Int32) else (0 : Int32))), .val (.int (if (0 : Int32) < p2 then (1 : Int32) else (0 : Int32)))] [(.int (if (0 : Int32) < (1 : Int32) then (1 : Int32) else (0 : Int32)))])
  refine Go.via (fun t k => XS.ifYes X314.here hx rfl (pc0 := 143) (pc' := 148) rfl (hb hby at_143) rfl ((if0 _ _).trans (feq (by decide)).2) (by decide) (by decide) k) ?_
  show Go p.tables e below P T314 (mkF m 148 #[.val (.int p1), .val (.int p2), .val (.int pc), .val (.ref r_1), .val (.ref r_9), .val (.ref r_25), .val (.ref r_49), .val (.ref b69), .val (.ref b115), .val (.ref b168), .val (.ref b226), .val (.int (if (0 : Int32) < p1 then (1 : Int32) else (0 : Int32))), .val (.int (if (0 : Int32) < p2 then (1 : Int32) else (0 : Int32)))] [])
  refine Go.via (fun t k => XS.iloadN X314.here hx rfl (hb hby at_148) rfl k) ?_
  show Go p.tables e below P T314 (mkF m 149 #[.val (.int p1), .val (.int p2), .val (.int pc), .val (.ref r_1), .val (.ref r_9), .val (.ref r_25), .val (.ref r_49), .val (.ref b69), .val (.ref b115), .val (.ref b168), .val (.ref b226), .val (.int (if (0 : Int32) < p1 then (1 : Int32) else (0 : Int32))), .val (.int (if (0 : Int32) < p2 then (1 : Int32) else (0 : Int32)))] [(.int p1)])
  refine Go.via (fun t k => XS.iloadN X314.here hx rfl (hb hby at_149) rfl k) ?_
  show Go p.tables e below P T314 (mkF m 150 #[.val (.int p1), .val (.int p2), .val (.int pc), .val (.ref r_1), .val (.ref r_9), .val (.ref r_25), .val (.ref r_49), .val (.ref b69), .val (.ref b115), .val (.ref b168), .val (.ref b226), .val (.int (if (0 : Int32) < p1 then (1 : Int32) else (0 : Int32))), .val (.int (if (0 : Int32) < p2 then (1 : Int32) else (0 : Int32)))] [(.int p2), (.int p1)])
  by_cases hc315 : p2 < p1
  · refine Go.via (fun t k => XS.icmpYes X314.here hx rfl (pc0 := 150) (pc' := 165) rfl (hb hby at_150) rfl (tlt hc315).2.2.1 (by decide) (by decide) k) ?_
    show Go p.tables e below P T314 (mkF m 165 #[.val (.int p1), .val (.int p2), .val (.int pc), .val (.ref r_1), .val (.ref r_9), .val (.ref r_25), .val (.ref r_49), .val (.ref b69), .val (.ref b115), .val (.ref b168), .val (.ref b226), .val (.int (if (0 : Int32) < p1 then (1 : Int32) else (0 : Int32))), .val (.int (if (0 : Int32) < p2 then (1 : Int32) else (0 : Int32)))] [])
    refine Go.via (fun t k => XS.iloadN X314.here hx rfl (hb hby at_165) rfl k) ?_
    show Go p.tables e below P T314 (mkF m 166 #[.val (.int p1), .val (.int p2), .val (.int pc), .val (.ref r_1), .val (.ref r_9), .val (.ref r_25), .val (.ref r_49), .val (.ref b69), .val (.ref b115), .val (.ref b168), .val (.ref b226), .val (.int (if (0 : Int32) < p1 then (1 : Int32) else (0 : Int32))), .val (.int (if (0 : Int32) < p2 then (1 : Int32) else (0 : Int32)))] [(.int p2)])
    refine Go.via (fun t k => XS.iloadN X314.here hx rfl (hb hby at_166) rfl k) ?_
    show Go p.tables e below P T314 (mkF m 167 #[.val (.int p1), .val (.int p2), .val (.int pc), .val (.ref r_1), .val (.ref r_9), .val (.ref r_25), .val (.ref r_49), .val (.ref b69), .val (.ref b115), .val (.ref b168), .val (.ref b226), .val (.int (if (0 : Int32) < p1 then (1 : Int32) else (0 : Int32))), .val (.int (if (0 : Int32) < p2 then (1 : Int32) else (0 : Int32)))] [(.int p1), (.int p2)])
    by_cases hc316 : p1 < p2
    · refine Go.via (fun t k => XS.icmpYes X314.here hx rfl (pc0 := 167) (pc' := 182) rfl (hb hby at_167) rfl (tlt hc316).2.2.1 (by decide) (by decide) k) ?_
      show Go p.tables e below P T314 (mkF m 182 #[.val (.int p1), .val (.int p2), .val (.int pc), .val (.ref r_1), .val (.ref r_9), .val (.ref r_25), .val (.ref r_49), .val (.ref b69), .val (.ref b115), .val (.ref b168), .val (.ref b226), .val (.int (if (0 : Int32) < p1 then (1 : Int32) else (0 : Int32))), .val (.int (if (0 : Int32) < p2 then (1 : Int32) else (0 : Int32)))] [])
      refine Go.via (fun t k => XS.iconst X314.here hx rfl (hb hby at_182) k) ?_
      show Go p.tables e below P T314 (mkF m 183 #[.val (.int p1), .val (.int p2), .val (.int pc), .val (.ref r_1), .val (.ref r_9), .val (.ref r_25), .val (.ref r_49), .val (.ref b69), .val (.ref b115), .val (.ref b168), .val (.ref b226), .val (.int (if (0 : Int32) < p1 then (1 : Int32) else (0 : Int32))), .val (.int (if (0 : Int32) < p2 then (1 : Int32) else (0 : Int32)))] [(.int (1 : Int32))])
      obtain ⟨fs, hr, hrun, hended, hW, hsame⟩ := X314.leave (v := some (.int (1 : Int32))) (fun h => by rw [Bd.returns] at h; cases h)
      refine ⟨_, _, retZ X314 hx (t := .boolean) Bd.returns (by simp) (hb hby at_183) rfl hr, hrun, hended, hP _ _ ⟨_, _, rfl, ?_, ⟨_, rfl⟩, hW, hsame.mono (by decide) (by decide)⟩⟩
      show Q0 Z p1 p2 pc cs h0 n0 _ T314.heap _
      rw [hh314]
      exact ⟨rfl, N314⟩
    · refine Go.via (fun t k => XS.icmpNo X314.here hx rfl (hb hby at_167) rfl (flt hc316).2.2.1 k) ?_
      show Go p.tables e below P T314 (mkF m 170 #[.val (.int p1), .val (.int p2), .val (.int pc), .val (.ref r_1), .val (.ref r_9), .val (.ref r_25), .val (.ref r_49), .val (.ref b69), .val (.ref b115), .val (.ref b168), .val (.ref b226), .val (.int (if (0 : Int32) < p1 then (1 : Int32) else (0 : Int32))), .val (.int (if (0 : Int32) < p2 then (1 : Int32) else (0 : Int32)))] [])
      refine Go.via (fun t k => XS.iload X314.here hx rfl (hb hby at_170) rfl k) ?_
      show Go p.tables e below P T314 (mkF m 172 #[.val (.int p1), .val (.int p2), .val (.int pc), .val (.ref r_1), .val (.ref r_9), .val (.ref r_25), .val (.ref r_49), .val (.ref b69), .val (.ref b115), .val (.ref b168), .val (.ref b226), .val (.int (if (0 : Int32) < p1 then (1 : Int32) else (0 : Int32))), .val (.int (if (0 : Int32) < p2 then (1 : Int32) else (0 : Int32)))] [(.int (if (0 : Int32) < p2 then (1 : Int32) else (0 : Int32)))])
      by_cases hc318 : (if (0 : Int32) < p2 then (1 : Int32) else (0 : Int32)) = (0 : Int32)
      · refine Go.via (fun t k => XS.ifYes X314.here hx rfl (pc0 := 172) (pc' := 182) rfl (hb hby at_172) rfl ((if0 _ _).trans (teq hc318).1) (by decide) (by decide) k) ?_
        show Go p.tables e below P T314 (mkF m 182 #[.val (.int p1), .val (.int p2), .val (.int pc), .val (.ref r_1), .val (.ref r_9), .val (.ref r_25), .val (.ref r_49), .val (.ref b69), .val (.ref b115), .val (.ref b168), .val (.ref b226), .val (.int (if (0 : Int32) < p1 then (1 : Int32) else (0 : Int32))), .val (.int (if (0 : Int32) < p2 then (1 : Int32) else (0 : Int32)))] [])
        refine Go.via (fun t k => XS.iconst X314.here hx rfl (hb hby at_182) k) ?_
        show Go p.tables e below P T314 (mkF m 183 #[.val (.int p1), .val (.int p2), .val (.int pc), .val (.ref r_1), .val (.ref r_9), .val (.ref r_25), .val (.ref r_49), .val (.ref b69), .val (.ref b115), .val (.ref b168), .val (.ref b226), .val (.int (if (0 : Int32) < p1 then (1 : Int32) else (0 : Int32))), .val (.int (if (0 : Int32) < p2 then (1 : Int32) else (0 : Int32)))] [(.int (1 : Int32))])
        obtain ⟨fs, hr, hrun, hended, hW, hsame⟩ := X314.leave (v := some (.int (1 : Int32))) (fun h => by rw [Bd.returns] at h; cases h)
        refine ⟨_, _, retZ X314 hx (t := .boolean) Bd.returns (by simp) (hb hby at_183) rfl hr, hrun, hended, hP _ _ ⟨_, _, rfl, ?_, ⟨_, rfl⟩, hW, hsame.mono (by decide) (by decide)⟩⟩
        show Q0 Z p1 p2 pc cs h0 n0 _ T314.heap _
        rw [hh314]
        exact ⟨rfl, N314⟩
      · refine Go.via (fun t k => XS.ifNo X314.here hx rfl (hb hby at_172) rfl ((if0 _ _).trans (feq hc318).1) k) ?_
        show Go p.tables e below P T314 (mkF m 175 #[.val (.int p1), .val (.int p2), .val (.int pc), .val (.ref r_1), .val (.ref r_9), .val (.ref r_25), .val (.ref r_49), .val (.ref b69), .val (.ref b115), .val (.ref b168), .val (.ref b226), .val (.int (if (0 : Int32) < p1 then (1 : Int32) else (0 : Int32))), .val (.int (if (0 : Int32) < p2 then (1 : Int32) else (0 : Int32)))] [])
        refine Go.via (fun t k => XS.iload X314.here hx rfl (hb hby at_175) rfl k) ?_
        show Go p.tables e below P T314 (mkF m 177 #[.val (.int p1), .val (.int p2), .val (.int pc), .val (.ref r_1), .val (.ref r_9), .val (.ref r_25), .val (.ref r_49), .val (.ref b69), .val (.ref b115), .val (.ref b168), .val (.ref b226), .val (.int (if (0 : Int32) < p1 then (1 : Int32) else (0 : Int32))), .val (.int (if (0 : Int32) < p2 then (1 : Int32) else (0 : Int32)))] [(.int (if (0 : Int32) < p1 then (1 : Int32) else (0 : Int32)))])
        refine Go.via (fun t k => XS.ifYes X314.here hx rfl (pc0 := 177) (pc' := 182) rfl (hb hby at_177) rfl ((if0 _ _).trans (feq (own_mono hc316 hc318)).2) (by decide) (by decide) k) ?_
        show Go p.tables e below P T314 (mkF m 182 #[.val (.int p1), .val (.int p2), .val (.int pc), .val (.ref r_1), .val (.ref r_9), .val (.ref r_25), .val (.ref r_49), .val (.ref b69), .val (.ref b115), .val (.ref b168), .val (.ref b226), .val (.int (if (0 : Int32) < p1 then (1 : Int32) else (0 : Int32))), .val (.int (if (0 : Int32) < p2 then (1 : Int32) else (0 : Int32)))] [])
        refine Go.via (fun t k => XS.iconst X314.here hx rfl (hb hby at_182) k) ?_
        show Go p.tables e below P T314 (mkF m 183 #[.val (.int p1), .val (.int p2), .val (.int pc), .val (.ref r_1), .val (.ref r_9), .val (.ref r_25), .val (.ref r_49), .val (.ref b69), .val (.ref b115), .val (.ref b168), .val (.ref b226), .val (.int (if (0 : Int32) < p1 then (1 : Int32) else (0 : Int32))), .val (.int (if (0 : Int32) < p2 then (1 : Int32) else (0 : Int32)))] [(.int (1 : Int32))])
        obtain ⟨fs, hr, hrun, hended, hW, hsame⟩ := X314.leave (v := some (.int (1 : Int32))) (fun h => by rw [Bd.returns] at h; cases h)
        refine ⟨_, _, retZ X314 hx (t := .boolean) Bd.returns (by simp) (hb hby at_183) rfl hr, hrun, hended, hP _ _ ⟨_, _, rfl, ?_, ⟨_, rfl⟩, hW, hsame.mono (by decide) (by decide)⟩⟩
        show Q0 Z p1 p2 pc cs h0 n0 _ T314.heap _
        rw [hh314]
        exact ⟨rfl, N314⟩
  · refine Go.via (fun t k => XS.icmpNo X314.here hx rfl (hb hby at_150) rfl (flt hc315).2.2.1 k) ?_
    show Go p.tables e below P T314 (mkF m 153 #[.val (.int p1), .val (.int p2), .val (.int pc), .val (.ref r_1), .val (.ref r_9), .val (.ref r_25), .val (.ref r_49), .val (.ref b69), .val (.ref b115), .val (.ref b168), .val (.ref b226), .val (.int (if (0 : Int32) < p1 then (1 : Int32) else (0 : Int32))), .val (.int (if (0 : Int32) < p2 then (1 : Int32) else (0 : Int32)))] [])
    refine Go.via (fun t k => XS.iload X314.here hx rfl (hb hby at_153) rfl k) ?_
    show Go p.tables e below P T314 (mkF m 155 #[.val (.int p1), .val (.int p2), .val (.int pc), .val (.ref r_1), .val (.ref r_9), .val (.ref r_25), .val (.ref r_49), .val (.ref b69), .val (.ref b115), .val (.ref b168), .val (.ref b226), .val (.int (if (0 : Int32) < p1 then (1 : Int32) else (0 : Int32))), .val (.int (if (0 : Int32) < p2 then (1 : Int32) else (0 : Int32)))] [(.int (if (0 : Int32) < p1 then (1 : Int32) else (0 : Int32)))])
    by_cases hc321 : (if (0 : Int32) < p1 then (1 : Int32) else (0 : Int32)) = (0 : Int32)
    · refine Go.via (fun t k => XS.ifYes X314.here hx rfl (pc0 := 155) (pc' := 165) rfl (hb hby at_155) rfl ((if0 _ _).trans (teq hc321).1) (by decide) (by decide) k) ?_
      show Go p.tables e below P T314 (mkF m 165 #[.val (.int p1), .val (.int p2), .val (.int pc), .val (.ref r_1), .val (.ref r_9), .val (.ref r_25), .val (.ref r_49), .val (.ref b69), .val (.ref b115), .val (.ref b168), .val (.ref b226), .val (.int (if (0 : Int32) < p1 then (1 : Int32) else (0 : Int32))), .val (.int (if (0 : Int32) < p2 then (1 : Int32) else (0 : Int32)))] [])
      refine Go.via (fun t k => XS.iloadN X314.here hx rfl (hb hby at_165) rfl k) ?_
      show Go p.tables e below P T314 (mkF m 166 #[.val (.int p1), .val (.int p2), .val (.int pc), .val (.ref r_1), .val (.ref r_9), .val (.ref r_25), .val (.ref r_49), .val (.ref b69), .val (.ref b115), .val (.ref b168), .val (.ref b226), .val (.int (if (0 : Int32) < p1 then (1 : Int32) else (0 : Int32))), .val (.int (if (0 : Int32) < p2 then (1 : Int32) else (0 : Int32)))] [(.int p2)])
      refine Go.via (fun t k => XS.iloadN X314.here hx rfl (hb hby at_166) rfl k) ?_
      show Go p.tables e below P T314 (mkF m 167 #[.val (.int p1), .val (.int p2), .val (.int pc), .val (.ref r_1), .val (.ref r_9), .val (.ref r_25), .val (.ref r_49), .val (.ref b69), .val (.ref b115), .val (.ref b168), .val (.ref b226), .val (.int (if (0 : Int32) < p1 then (1 : Int32) else (0 : Int32))), .val (.int (if (0 : Int32) < p2 then (1 : Int32) else (0 : Int32)))] [(.int p1), (.int p2)])
      by_cases hc322 : p1 < p2
      · refine Go.via (fun t k => XS.icmpYes X314.here hx rfl (pc0 := 167) (pc' := 182) rfl (hb hby at_167) rfl (tlt hc322).2.2.1 (by decide) (by decide) k) ?_
        show Go p.tables e below P T314 (mkF m 182 #[.val (.int p1), .val (.int p2), .val (.int pc), .val (.ref r_1), .val (.ref r_9), .val (.ref r_25), .val (.ref r_49), .val (.ref b69), .val (.ref b115), .val (.ref b168), .val (.ref b226), .val (.int (if (0 : Int32) < p1 then (1 : Int32) else (0 : Int32))), .val (.int (if (0 : Int32) < p2 then (1 : Int32) else (0 : Int32)))] [])
        refine Go.via (fun t k => XS.iconst X314.here hx rfl (hb hby at_182) k) ?_
        show Go p.tables e below P T314 (mkF m 183 #[.val (.int p1), .val (.int p2), .val (.int pc), .val (.ref r_1), .val (.ref r_9), .val (.ref r_25), .val (.ref r_49), .val (.ref b69), .val (.ref b115), .val (.ref b168), .val (.ref b226), .val (.int (if (0 : Int32) < p1 then (1 : Int32) else (0 : Int32))), .val (.int (if (0 : Int32) < p2 then (1 : Int32) else (0 : Int32)))] [(.int (1 : Int32))])
        obtain ⟨fs, hr, hrun, hended, hW, hsame⟩ := X314.leave (v := some (.int (1 : Int32))) (fun h => by rw [Bd.returns] at h; cases h)
        refine ⟨_, _, retZ X314 hx (t := .boolean) Bd.returns (by simp) (hb hby at_183) rfl hr, hrun, hended, hP _ _ ⟨_, _, rfl, ?_, ⟨_, rfl⟩, hW, hsame.mono (by decide) (by decide)⟩⟩
        show Q0 Z p1 p2 pc cs h0 n0 _ T314.heap _
        rw [hh314]
        exact ⟨rfl, N314⟩
      · refine Go.via (fun t k => XS.icmpNo X314.here hx rfl (hb hby at_167) rfl (flt hc322).2.2.1 k) ?_
        show Go p.tables e below P T314 (mkF m 170 #[.val (.int p1), .val (.int p2), .val (.int pc), .val (.ref r_1), .val (.ref r_9), .val (.ref r_25), .val (.ref r_49), .val (.ref b69), .val (.ref b115), .val (.ref b168), .val (.ref b226), .val (.int (if (0 : Int32) < p1 then (1 : Int32) else (0 : Int32))), .val (.int (if (0 : Int32) < p2 then (1 : Int32) else (0 : Int32)))] [])
        refine Go.via (fun t k => XS.iload X314.here hx rfl (hb hby at_170) rfl k) ?_
        show Go p.tables e below P T314 (mkF m 172 #[.val (.int p1), .val (.int p2), .val (.int pc), .val (.ref r_1), .val (.ref r_9), .val (.ref r_25), .val (.ref r_49), .val (.ref b69), .val (.ref b115), .val (.ref b168), .val (.ref b226), .val (.int (if (0 : Int32) < p1 then (1 : Int32) else (0 : Int32))), .val (.int (if (0 : Int32) < p2 then (1 : Int32) else (0 : Int32)))] [(.int (if (0 : Int32) < p2 then (1 : Int32) else (0 : Int32)))])
        by_cases hc324 : (if (0 : Int32) < p2 then (1 : Int32) else (0 : Int32)) = (0 : Int32)
        · refine Go.via (fun t k => XS.ifYes X314.here hx rfl (pc0 := 172) (pc' := 182) rfl (hb hby at_172) rfl ((if0 _ _).trans (teq hc324).1) (by decide) (by decide) k) ?_
          show Go p.tables e below P T314 (mkF m 182 #[.val (.int p1), .val (.int p2), .val (.int pc), .val (.ref r_1), .val (.ref r_9), .val (.ref r_25), .val (.ref r_49), .val (.ref b69), .val (.ref b115), .val (.ref b168), .val (.ref b226), .val (.int (if (0 : Int32) < p1 then (1 : Int32) else (0 : Int32))), .val (.int (if (0 : Int32) < p2 then (1 : Int32) else (0 : Int32)))] [])
          refine Go.via (fun t k => XS.iconst X314.here hx rfl (hb hby at_182) k) ?_
          show Go p.tables e below P T314 (mkF m 183 #[.val (.int p1), .val (.int p2), .val (.int pc), .val (.ref r_1), .val (.ref r_9), .val (.ref r_25), .val (.ref r_49), .val (.ref b69), .val (.ref b115), .val (.ref b168), .val (.ref b226), .val (.int (if (0 : Int32) < p1 then (1 : Int32) else (0 : Int32))), .val (.int (if (0 : Int32) < p2 then (1 : Int32) else (0 : Int32)))] [(.int (1 : Int32))])
          obtain ⟨fs, hr, hrun, hended, hW, hsame⟩ := X314.leave (v := some (.int (1 : Int32))) (fun h => by rw [Bd.returns] at h; cases h)
          refine ⟨_, _, retZ X314 hx (t := .boolean) Bd.returns (by simp) (hb hby at_183) rfl hr, hrun, hended, hP _ _ ⟨_, _, rfl, ?_, ⟨_, rfl⟩, hW, hsame.mono (by decide) (by decide)⟩⟩
          show Q0 Z p1 p2 pc cs h0 n0 _ T314.heap _
          rw [hh314]
          exact ⟨rfl, N314⟩
        · refine Go.via (fun t k => XS.ifNo X314.here hx rfl (hb hby at_172) rfl ((if0 _ _).trans (feq hc324).1) k) ?_
          show Go p.tables e below P T314 (mkF m 175 #[.val (.int p1), .val (.int p2), .val (.int pc), .val (.ref r_1), .val (.ref r_9), .val (.ref r_25), .val (.ref r_49), .val (.ref b69), .val (.ref b115), .val (.ref b168), .val (.ref b226), .val (.int (if (0 : Int32) < p1 then (1 : Int32) else (0 : Int32))), .val (.int (if (0 : Int32) < p2 then (1 : Int32) else (0 : Int32)))] [])
          refine Go.via (fun t k => XS.iload X314.here hx rfl (hb hby at_175) rfl k) ?_
          show Go p.tables e below P T314 (mkF m 177 #[.val (.int p1), .val (.int p2), .val (.int pc), .val (.ref r_1), .val (.ref r_9), .val (.ref r_25), .val (.ref r_49), .val (.ref b69), .val (.ref b115), .val (.ref b168), .val (.ref b226), .val (.int (if (0 : Int32) < p1 then (1 : Int32) else (0 : Int32))), .val (.int (if (0 : Int32) < p2 then (1 : Int32) else (0 : Int32)))] [(.int (if (0 : Int32) < p1 then (1 : Int32) else (0 : Int32)))])
          refine Go.via (fun t k => XS.ifYes X314.here hx rfl (pc0 := 177) (pc' := 182) rfl (hb hby at_177) rfl ((if0 _ _).trans (feq (own_mono hc322 hc324)).2) (by decide) (by decide) k) ?_
          show Go p.tables e below P T314 (mkF m 182 #[.val (.int p1), .val (.int p2), .val (.int pc), .val (.ref r_1), .val (.ref r_9), .val (.ref r_25), .val (.ref r_49), .val (.ref b69), .val (.ref b115), .val (.ref b168), .val (.ref b226), .val (.int (if (0 : Int32) < p1 then (1 : Int32) else (0 : Int32))), .val (.int (if (0 : Int32) < p2 then (1 : Int32) else (0 : Int32)))] [])
          refine Go.via (fun t k => XS.iconst X314.here hx rfl (hb hby at_182) k) ?_
          show Go p.tables e below P T314 (mkF m 183 #[.val (.int p1), .val (.int p2), .val (.int pc), .val (.ref r_1), .val (.ref r_9), .val (.ref r_25), .val (.ref r_49), .val (.ref b69), .val (.ref b115), .val (.ref b168), .val (.ref b226), .val (.int (if (0 : Int32) < p1 then (1 : Int32) else (0 : Int32))), .val (.int (if (0 : Int32) < p2 then (1 : Int32) else (0 : Int32)))] [(.int (1 : Int32))])
          obtain ⟨fs, hr, hrun, hended, hW, hsame⟩ := X314.leave (v := some (.int (1 : Int32))) (fun h => by rw [Bd.returns] at h; cases h)
          refine ⟨_, _, retZ X314 hx (t := .boolean) Bd.returns (by simp) (hb hby at_183) rfl hr, hrun, hended, hP _ _ ⟨_, _, rfl, ?_, ⟨_, rfl⟩, hW, hsame.mono (by decide) (by decide)⟩⟩
          show Q0 Z p1 p2 pc cs h0 n0 _ T314.heap _
          rw [hh314]
          exact ⟨rfl, N314⟩
    · refine Go.via (fun t k => XS.ifNo X314.here hx rfl (hb hby at_155) rfl ((if0 _ _).trans (feq hc321).1) k) ?_
      show Go p.tables e below P T314 (mkF m 158 #[.val (.int p1), .val (.int p2), .val (.int pc), .val (.ref r_1), .val (.ref r_9), .val (.ref r_25), .val (.ref r_49), .val (.ref b69), .val (.ref b115), .val (.ref b168), .val (.ref b226), .val (.int (if (0 : Int32) < p1 then (1 : Int32) else (0 : Int32))), .val (.int (if (0 : Int32) < p2 then (1 : Int32) else (0 : Int32)))] [])
      refine Go.via (fun t k => XS.iload X314.here hx rfl (hb hby at_158) rfl k) ?_
      show Go p.tables e below P T314 (mkF m 160 #[.val (.int p1), .val (.int p2), .val (.int pc), .val (.ref r_1), .val (.ref r_9), .val (.ref r_25), .val (.ref r_49), .val (.ref b69), .val (.ref b115), .val (.ref b168), .val (.ref b226), .val (.int (if (0 : Int32) < p1 then (1 : Int32) else (0 : Int32))), .val (.int (if (0 : Int32) < p2 then (1 : Int32) else (0 : Int32)))] [(.int (if (0 : Int32) < p2 then (1 : Int32) else (0 : Int32)))])
      refine Go.via (fun t k => XS.ifYes X314.here hx rfl (pc0 := 160) (pc' := 165) rfl (hb hby at_160) rfl ((if0 _ _).trans (feq (own_mono hc315 hc321)).2) (by decide) (by decide) k) ?_
      show Go p.tables e below P T314 (mkF m 165 #[.val (.int p1), .val (.int p2), .val (.int pc), .val (.ref r_1), .val (.ref r_9), .val (.ref r_25), .val (.ref r_49), .val (.ref b69), .val (.ref b115), .val (.ref b168), .val (.ref b226), .val (.int (if (0 : Int32) < p1 then (1 : Int32) else (0 : Int32))), .val (.int (if (0 : Int32) < p2 then (1 : Int32) else (0 : Int32)))] [])
      refine Go.via (fun t k => XS.iloadN X314.here hx rfl (hb hby at_165) rfl k) ?_
      show Go p.tables e below P T314 (mkF m 166 #[.val (.int p1), .val (.int p2), .val (.int pc), .val (.ref r_1), .val (.ref r_9), .val (.ref r_25), .val (.ref r_49), .val (.ref b69), .val (.ref b115), .val (.ref b168), .val (.ref b226), .val (.int (if (0 : Int32) < p1 then (1 : Int32) else (0 : Int32))), .val (.int (if (0 : Int32) < p2 then (1 : Int32) else (0 : Int32)))] [(.int p2)])
      refine Go.via (fun t k => XS.iloadN X314.here hx rfl (hb hby at_166) rfl k) ?_
      show Go p.tables e below P T314 (mkF m 167 #[.val (.int p1), .val (.int p2), .val (.int pc), .val (.ref r_1), .val (.ref r_9), .val (.ref r_25), .val (.ref r_49), .val (.ref b69), .val (.ref b115), .val (.ref b168), .val (.ref b226), .val (.int (if (0 : Int32) < p1 then (1 : Int32) else (0 : Int32))), .val (.int (if (0 : Int32) < p2 then (1 : Int32) else (0 : Int32)))] [(.int p1), (.int p2)])
      by_cases hc327 : p1 < p2
      · refine Go.via (fun t k => XS.icmpYes X314.here hx rfl (pc0 := 167) (pc' := 182) rfl (hb hby at_167) rfl (tlt hc327).2.2.1 (by decide) (by decide) k) ?_
        show Go p.tables e below P T314 (mkF m 182 #[.val (.int p1), .val (.int p2), .val (.int pc), .val (.ref r_1), .val (.ref r_9), .val (.ref r_25), .val (.ref r_49), .val (.ref b69), .val (.ref b115), .val (.ref b168), .val (.ref b226), .val (.int (if (0 : Int32) < p1 then (1 : Int32) else (0 : Int32))), .val (.int (if (0 : Int32) < p2 then (1 : Int32) else (0 : Int32)))] [])
        refine Go.via (fun t k => XS.iconst X314.here hx rfl (hb hby at_182) k) ?_
        show Go p.tables e below P T314 (mkF m 183 #[.val (.int p1), .val (.int p2), .val (.int pc), .val (.ref r_1), .val (.ref r_9), .val (.ref r_25), .val (.ref r_49), .val (.ref b69), .val (.ref b115), .val (.ref b168), .val (.ref b226), .val (.int (if (0 : Int32) < p1 then (1 : Int32) else (0 : Int32))), .val (.int (if (0 : Int32) < p2 then (1 : Int32) else (0 : Int32)))] [(.int (1 : Int32))])
        obtain ⟨fs, hr, hrun, hended, hW, hsame⟩ := X314.leave (v := some (.int (1 : Int32))) (fun h => by rw [Bd.returns] at h; cases h)
        refine ⟨_, _, retZ X314 hx (t := .boolean) Bd.returns (by simp) (hb hby at_183) rfl hr, hrun, hended, hP _ _ ⟨_, _, rfl, ?_, ⟨_, rfl⟩, hW, hsame.mono (by decide) (by decide)⟩⟩
        show Q0 Z p1 p2 pc cs h0 n0 _ T314.heap _
        rw [hh314]
        exact ⟨rfl, N314⟩
      · refine Go.via (fun t k => XS.icmpNo X314.here hx rfl (hb hby at_167) rfl (flt hc327).2.2.1 k) ?_
        show Go p.tables e below P T314 (mkF m 170 #[.val (.int p1), .val (.int p2), .val (.int pc), .val (.ref r_1), .val (.ref r_9), .val (.ref r_25), .val (.ref r_49), .val (.ref b69), .val (.ref b115), .val (.ref b168), .val (.ref b226), .val (.int (if (0 : Int32) < p1 then (1 : Int32) else (0 : Int32))), .val (.int (if (0 : Int32) < p2 then (1 : Int32) else (0 : Int32)))] [])
        refine Go.via (fun t k => XS.iload X314.here hx rfl (hb hby at_170) rfl k) ?_
        show Go p.tables e below P T314 (mkF m 172 #[.val (.int p1), .val (.int p2), .val (.int pc), .val (.ref r_1), .val (.ref r_9), .val (.ref r_25), .val (.ref r_49), .val (.ref b69), .val (.ref b115), .val (.ref b168), .val (.ref b226), .val (.int (if (0 : Int32) < p1 then (1 : Int32) else (0 : Int32))), .val (.int (if (0 : Int32) < p2 then (1 : Int32) else (0 : Int32)))] [(.int (if (0 : Int32) < p2 then (1 : Int32) else (0 : Int32)))])
        by_cases hc329 : (if (0 : Int32) < p2 then (1 : Int32) else (0 : Int32)) = (0 : Int32)
        · refine Go.via (fun t k => XS.ifYes X314.here hx rfl (pc0 := 172) (pc' := 182) rfl (hb hby at_172) rfl ((if0 _ _).trans (teq hc329).1) (by decide) (by decide) k) ?_
          show Go p.tables e below P T314 (mkF m 182 #[.val (.int p1), .val (.int p2), .val (.int pc), .val (.ref r_1), .val (.ref r_9), .val (.ref r_25), .val (.ref r_49), .val (.ref b69), .val (.ref b115), .val (.ref b168), .val (.ref b226), .val (.int (if (0 : Int32) < p1 then (1 : Int32) else (0 : Int32))), .val (.int (if (0 : Int32) < p2 then (1 : Int32) else (0 : Int32)))] [])
          refine Go.via (fun t k => XS.iconst X314.here hx rfl (hb hby at_182) k) ?_
          show Go p.tables e below P T314 (mkF m 183 #[.val (.int p1), .val (.int p2), .val (.int pc), .val (.ref r_1), .val (.ref r_9), .val (.ref r_25), .val (.ref r_49), .val (.ref b69), .val (.ref b115), .val (.ref b168), .val (.ref b226), .val (.int (if (0 : Int32) < p1 then (1 : Int32) else (0 : Int32))), .val (.int (if (0 : Int32) < p2 then (1 : Int32) else (0 : Int32)))] [(.int (1 : Int32))])
          obtain ⟨fs, hr, hrun, hended, hW, hsame⟩ := X314.leave (v := some (.int (1 : Int32))) (fun h => by rw [Bd.returns] at h; cases h)
          refine ⟨_, _, retZ X314 hx (t := .boolean) Bd.returns (by simp) (hb hby at_183) rfl hr, hrun, hended, hP _ _ ⟨_, _, rfl, ?_, ⟨_, rfl⟩, hW, hsame.mono (by decide) (by decide)⟩⟩
          show Q0 Z p1 p2 pc cs h0 n0 _ T314.heap _
          rw [hh314]
          exact ⟨rfl, N314⟩
        · refine Go.via (fun t k => XS.ifNo X314.here hx rfl (hb hby at_172) rfl ((if0 _ _).trans (feq hc329).1) k) ?_
          show Go p.tables e below P T314 (mkF m 175 #[.val (.int p1), .val (.int p2), .val (.int pc), .val (.ref r_1), .val (.ref r_9), .val (.ref r_25), .val (.ref r_49), .val (.ref b69), .val (.ref b115), .val (.ref b168), .val (.ref b226), .val (.int (if (0 : Int32) < p1 then (1 : Int32) else (0 : Int32))), .val (.int (if (0 : Int32) < p2 then (1 : Int32) else (0 : Int32)))] [])
          refine Go.via (fun t k => XS.iload X314.here hx rfl (hb hby at_175) rfl k) ?_
          show Go p.tables e below P T314 (mkF m 177 #[.val (.int p1), .val (.int p2), .val (.int pc), .val (.ref r_1), .val (.ref r_9), .val (.ref r_25), .val (.ref r_49), .val (.ref b69), .val (.ref b115), .val (.ref b168), .val (.ref b226), .val (.int (if (0 : Int32) < p1 then (1 : Int32) else (0 : Int32))), .val (.int (if (0 : Int32) < p2 then (1 : Int32) else (0 : Int32)))] [(.int (if (0 : Int32) < p1 then (1 : Int32) else (0 : Int32)))])
          refine Go.via (fun t k => XS.ifYes X314.here hx rfl (pc0 := 177) (pc' := 182) rfl (hb hby at_177) rfl ((if0 _ _).trans (feq (own_mono hc327 hc329)).2) (by decide) (by decide) k) ?_
          show Go p.tables e below P T314 (mkF m 182 #[.val (.int p1), .val (.int p2), .val (.int pc), .val (.ref r_1), .val (.ref r_9), .val (.ref r_25), .val (.ref r_49), .val (.ref b69), .val (.ref b115), .val (.ref b168), .val (.ref b226), .val (.int (if (0 : Int32) < p1 then (1 : Int32) else (0 : Int32))), .val (.int (if (0 : Int32) < p2 then (1 : Int32) else (0 : Int32)))] [])
          refine Go.via (fun t k => XS.iconst X314.here hx rfl (hb hby at_182) k) ?_
          show Go p.tables e below P T314 (mkF m 183 #[.val (.int p1), .val (.int p2), .val (.int pc), .val (.ref r_1), .val (.ref r_9), .val (.ref r_25), .val (.ref r_49), .val (.ref b69), .val (.ref b115), .val (.ref b168), .val (.ref b226), .val (.int (if (0 : Int32) < p1 then (1 : Int32) else (0 : Int32))), .val (.int (if (0 : Int32) < p2 then (1 : Int32) else (0 : Int32)))] [(.int (1 : Int32))])
          obtain ⟨fs, hr, hrun, hended, hW, hsame⟩ := X314.leave (v := some (.int (1 : Int32))) (fun h => by rw [Bd.returns] at h; cases h)
          refine ⟨_, _, retZ X314 hx (t := .boolean) Bd.returns (by simp) (hb hby at_183) rfl hr, hrun, hended, hP _ _ ⟨_, _, rfl, ?_, ⟨_, rfl⟩, hW, hsame.mono (by decide) (by decide)⟩⟩
          show Q0 Z p1 p2 pc cs h0 n0 _ T314.heap _
          rw [hh314]
          exact ⟨rfl, N314⟩
set_option maxRecDepth 65536 in
set_option maxHeartbeats 40000000 in
theorem comes_1 {Post : Tables → Env → Array Value → State → Outcome → State → Prop} (hpost : ∀ tb e args s v u, (limb_1_1.after args s (.returned v) u = true ∧ limb_1_2.after args s (.returned v) u = true ∧ True) → FrameEnd s (.returned v) u (Jvm.fieldLocs frame_1_writes args s ++ Jvm.arrayLocs frame_1_arrays args s ++ Jvm.staticLocs frame_1_statics s) 32 192 → Post tb e args s (.returned v) u) :
    ArmFor flags0 classFile x code maxLocals ret World_1 tables_1 room_1 Calls_1 rest_1 Pre_1 Post := by
  intro l hfl _ _ p e ha hc hk s m args below hf hA hF happ hP
  obtain ⟨hcalls, hrest, hpre⟩ := hP
  obtain ⟨-, -, -, hnamed, -, -, -, hat⟩ := (Spec.applies_iff hf).mp happ
  obtain ⟨hg, hn⟩ := and_e (Cond.before_iff.mp (show (Jvm.Cond.and given_1 narrow_1).before args s = true from hpre))
  obtain ⟨hv0, hr0⟩ := and_e hg
  obtain ⟨hv1, hr1⟩ := and_e hr0
  obtain ⟨hv2, hr2⟩ := and_e hr1
  obtain ⟨w0, w1, w2, rfl⟩ : ∃ w0 w1 w2 : Value, args = #[w0, w1, w2] := by
    have hs : args.size = 3 := by simpa [Cond.value, given_1] using hv0
    obtain ⟨L⟩ := args
    match L, hs with
    | [w0, w1, w2], _ => exact ⟨w0, w1, w2, rfl⟩
  have hw := fun d (hd : d ∈ tables_1) => atoms_spec (ws := Jvm.Cond.code x code maxLocals ret :: tables_1) hat d (List.mem_cons_of_mem _ hd)
  have hfit : Fit s := fun {y c} hc i hi => by
    obtain ⟨ha, rfl⟩ := Array.getElem?_eq_some_iff.mp hc
    have q := List.all_eq_true.mp ((Array.all_eq_true_iff_forall_mem.mp hF) _ (Array.getElem_mem ha)) i (List.mem_range.mpr hi)
    simpa [Array.getElem?_eq_getElem hi] using q
  obtain ⟨hsets, hown0⟩ := atoms_of _ (rest_1_c_eq ▸ (show rest_1_c.before _ s = true from hrest))
  have hr00 := Cond.before_iff.mp hown0
  obtain ⟨i0, ei0⟩ := is_v hv1
  obtain rfl : w0 = (.int i0) := Option.some.inj ei0
  obtain ⟨i1, ei1⟩ := is_v hv2
  obtain rfl : w1 = (.int i1) := Option.some.inj ei1
  obtain ⟨i2, ei2⟩ := is_v hr2
  obtain rfl : w2 = (.int i2) := Option.some.inj ei2
  have ncs := not_v (Cond.before_iff.mp (hsets _ (List.mem_of_getElem? (i := 2) rfl)))
  obtain ⟨cs, ecs⟩ := is_v (Cond.before_iff.mp (hsets _ (List.mem_of_getElem? (i := 1) rfl)))
  have Scs : Sta s s.heap "java/lang/String" "COMPACT_STRINGS" "Z" (.int cs) := Sta.start ecs (Or.inl (hsets _ (List.mem_of_getElem? (i := 0) rfl)))
  have hcs : ¬ (cs = (0 : Int32)) := gotF (Cond.eq_ints ecs (Term.int_eval (0))) ncs
  obtain ⟨n, o, h1, h2, h3, _, L, rfl, ⟨rfl, N⟩, hq⟩ := rm0 l s _ hw tables_1 i0 i1 i2 cs s.heap s.heap.size (Nat.le_refl _) (Old.start s) Scs hcs p e ha hc hk s m _ below hf ((Spec.applies_iff_loose hf).mp happ).1 ⟨rfl, State.Warmed39.refl s, rfl⟩ trivial
  refine ⟨n, _, h1, h2, h3, hpost _ _ _ _ _ _ ⟨Cond.after_iff.mpr rfl, Cond.after_iff.mpr (eq_i res_at (Term.int_eval (1)) rfl), trivial⟩ ⟨hq.1, hq.2.1, (hq.2.2.sift fun y hy => Or.inr (N y hy)).mono (by decide) (by decide)⟩⟩
theorem main_1_1 : Claimed_1_1 := comes_1 fun _ _ _ _ _ _ h hF => ⟨h.1, hF⟩
theorem main_1_2 : Claimed_1_2 := comes_1 fun _ _ _ _ _ _ h hF => ⟨h.2.1, hF⟩
end Jvm.Pilot.@@N@@
namespace Jvm.Pilot.@@N@@
open Jvm Jvm.ClassFile Sem Op Lib Jvm.Free Jvm.Stand Jvm.Pilot.@@N@@.Jvm.D
/-! MADE BY PROGRAM (witnessworld.py) out of the Statement's table words and the real class files: 18 classes; the members and pool entries that the words name. The judged class is class 1, her method 1. -/
namespace start1
open Jvm.ClassFile
def u (s : String) : CpInfo := .utf8 (stringToUtf16 s)
/-- a pool by its gaps: so many unusable entries, then the entry; so many at the end -/
def gap : Nat → List CpInfo → List CpInfo
  | 0, r => r
  | n + 1, r => .unusable :: gap n r
def poolList (es : List (Nat × CpInfo)) (last : Nat) : List CpInfo := es.foldr (fun e r => gap e.1 (e.2 :: r)) (gap last [])
def pool (es : List (Nat × CpInfo)) (last : Nat) : Array CpInfo := ⟨poolList es last⟩
def fileOf (pool : Array CpInfo) (this : Nat) (attrs : Array Attribute := #[]) (ms : Array MethodInfo := #[]) (fl : Nat := 33) (sup : Nat := 0) (ifs : Array Nat := #[]) (fds : Array FieldInfo := #[]) : ClassFile where
  minorVersion := 0
  majorVersion := 65
  constantPool := pool
  accessFlags := fl
  thisClass := this
  superClass := sup
  interfaces := ifs
  fields := fds
  methods := ms
  attributes := attrs
def plain (name : String) (sup : Option ClassId) : Class where
  name := name
  kind := .ordinary
  loader := none
  accessFlags := 33
  super := sup
  interfaces := #[]
  cf := none
  fields := #[]
  methods := #[]
  instanceTypes := #[]
  staticTypes := #[]
  resolved := #[]
  callSites := []
  init := .initialized
  statics := none
  mirror := none

def pool0 : Array CpInfo := pool [(5, u "<init>"), (0, u "()V"), (1, .class_ 10), (1, u "java/lang/Object")] 113

def k0c0 : Code := { maxStack := 0, maxLocals := 1, code := object_method_1_code, exceptionTable := #[], attributes := #[] }
def k0m0 : Method := { name := "<init>", desc := "()V", sig := { parameters := [], returnType := none }, accessFlags := 1, code := some k0c0 }
/-- java/lang/Object -/
def k0 : Class := { plain "java/lang/Object" none with
  accessFlags := 33
  interfaces := #[]
  cf := some (fileOf pool0 8 #[] #[{ accessFlags := 1, nameIndex := 5, descriptorIndex := 6, attributes := #[] }] 33 0 #[] #[])
  fields := #[]
  methods := #[k0m0]
  instanceTypes := #[]
  staticTypes := #[]
  resolved := Array.replicate 124 none
  statics := none }

def pool1 : Array CpInfo := pool [(2, .class_ 4), (1, u "java/lang/Object"), (0, u "<init>"), (0, u "()V"), (0, .methodref 8 9), (0, .class_ 10), (0, .nameAndType 11 12), (0, u "java/lang/String"), (0, u "valueOf"), (0, u "(C)Ljava/lang/String;"), (0, .class_ 14), (0, u "com/example/fort_river/fortriver/trec/Judgment"), (0, .methodref 13 16), (0, .nameAndType 5 17), (0, u "(Ljava/lang/String;Ljava/lang/String;Ljava/lang/String;I)V"), (0, .methodref 13 19), (0, .nameAndType 20 21), (0, u "isRelevant"), (0, u "()Z"), (0, .class_ 23), (0, u "com/example/fort_river/fortriver/trec/JudgmentIsRelevantPinLaw"), (2, u "law"), (0, u "(III)Z")] 3

def k1m0 : Method := { name := "<init>", desc := "()V", sig := { parameters := [], returnType := none }, accessFlags := 1, code := none }
def k1c1 : Code := { maxStack := 6, maxLocals := 13, code := code, exceptionTable := #[], attributes := #[] }
def k1m1 : Method := { name := "law", desc := "(III)Z", sig := { parameters := [.int, .int, .int], returnType := some .boolean }, accessFlags := 9, code := some k1c1 }
/-- com/example/fort_river/fortriver/trec/JudgmentIsRelevantPinLaw -/
def k1 : Class := { plain "com/example/fort_river/fortriver/trec/JudgmentIsRelevantPinLaw" (some 0) with
  accessFlags := 49
  interfaces := #[]
  cf := some (fileOf pool1 22 #[] #[{ accessFlags := 1, nameIndex := 5, descriptorIndex := 6, attributes := #[] }, { accessFlags := 9, nameIndex := 26, descriptorIndex := 27, attributes := #[] }] 49 2 #[] #[])
  fields := #[]
  methods := #[k1m0, k1m1]
  instanceTypes := #[]
  staticTypes := #[]
  resolved := Array.replicate 31 none
  statics := none }

def pool2 : Array CpInfo := pool [(1, .class_ 2), (0, u "java/io/Serializable"), (0, .class_ 4), (0, u "java/lang/Object")] 2

/-- java/io/Serializable -/
def k2 : Class := { plain "java/io/Serializable" (some 0) with
  accessFlags := 1537
  interfaces := #[]
  cf := some (fileOf pool2 1 #[] #[] 1537 3 #[] #[])
  fields := #[]
  methods := #[]
  instanceTypes := #[]
  staticTypes := #[]
  resolved := Array.replicate 7 none
  statics := none }

def pool3 : Array CpInfo := pool [(1, .class_ 2), (0, u "java/lang/Comparable"), (0, .class_ 4), (0, u "java/lang/Object")] 7

/-- java/lang/Comparable -/
def k3 : Class := { plain "java/lang/Comparable" (some 0) with
  accessFlags := 1537
  interfaces := #[]
  cf := some (fileOf pool3 1 #[] #[] 1537 3 #[] #[])
  fields := #[]
  methods := #[]
  instanceTypes := #[]
  staticTypes := #[]
  resolved := Array.replicate 12 none
  statics := none }

def pool4 : Array CpInfo := pool [(2, .class_ 4), (1, u "java/lang/CharSequence"), (42, .class_ 48), (0, u "java/lang/CharSequence$1CodePointIterator"), (10, .class_ 60), (0, u "java/lang/CharSequence$1CharIterator"), (5, .class_ 67), (0, u "java/lang/Object")] 63

/-- java/lang/CharSequence -/
def k4 : Class := { plain "java/lang/CharSequence" (some 0) with
  accessFlags := 1537
  interfaces := #[]
  cf := some (fileOf pool4 2 #[.nestMembers #[47, 59]] #[] 1537 66 #[] #[])
  fields := #[]
  methods := #[]
  instanceTypes := #[]
  staticTypes := #[]
  resolved := Array.replicate 131 none
  statics := none }

def pool5 : Array CpInfo := pool [(1, .class_ 2), (0, u "java/lang/constant/Constable"), (0, .class_ 4), (0, u "java/lang/Object")] 6

/-- java/lang/constant/Constable -/
def k5 : Class := { plain "java/lang/constant/Constable" (some 0) with
  accessFlags := 1537
  interfaces := #[]
  cf := some (fileOf pool5 1 #[] #[] 1537 3 #[] #[])
  fields := #[]
  methods := #[]
  instanceTypes := #[]
  staticTypes := #[]
  resolved := Array.replicate 11 none
  statics := none }

def pool6 : Array CpInfo := pool [(1, .class_ 2), (0, u "java/lang/constant/ConstantDesc"), (0, .class_ 4), (0, u "java/lang/Object")] 32

/-- java/lang/constant/ConstantDesc -/
def k6 : Class := { plain "java/lang/constant/ConstantDesc" (some 0) with
  accessFlags := 1537
  interfaces := #[]
  cf := some (fileOf pool6 1 #[] #[] 1537 3 #[] #[])
  fields := #[]
  methods := #[]
  instanceTypes := #[]
  staticTypes := #[]
  resolved := Array.replicate 37 none
  statics := none }

def pool7 : Array CpInfo := pool [(1, .methodref 2 3), (0, .class_ 4), (0, .nameAndType 5 6), (0, u "java/lang/Object"), (0, u "<init>"), (0, u "()V"), (2, .fieldref 10 11), (0, .class_ 12), (0, .nameAndType 13 14), (0, u "java/lang/String"), (0, u "value"), (0, u "[B"), (0, .fieldref 10 16), (0, .nameAndType 17 18), (0, u "coder"), (0, u "B"), (2, u "hash"), (0, u "I"), (2, u "hashIsZero"), (0, u "Z"), (11, .fieldref 10 39), (0, .nameAndType 40 26), (0, u "COMPACT_STRINGS"), (12, u "toBytes"), (53, .class_ 109), (1, u "java/lang/StringLatin1"), (99, .methodref 10 210), (0, .nameAndType 5 211), (0, u "([BB)V"), (157, u "(C)Z"), (205, .class_ 576), (0, u "java/lang/CharSequence"), (22, u "CASE_INSENSITIVE_ORDER"), (0, u "Ljava/util/Comparator;"), (181, u "valueOf"), (0, u "(C)Ljava/lang/String;"), (231, .methodref 107 1016), (0, .nameAndType 1017 369), (0, u "canEncode"), (0, .methodref 107 1019), (0, .nameAndType 53 1020), (0, u "(C)[B"), (80, u "serialPersistentFields"), (0, u "[Ljava/io/ObjectStreamField;"), (0, .class_ 1104), (0, u "java/lang/String$CaseInsensitiveComparator"), (1, .class_ 1107), (0, u "java/io/Serializable"), (0, .class_ 1109), (0, u "java/lang/Comparable"), (0, .class_ 1111), (0, u "java/lang/constant/Constable"), (0, .class_ 1113), (0, u "java/lang/constant/ConstantDesc"), (2, u "serialVersionUID"), (0, u "J"), (3, u "REPL"), (0, u "C"), (2, u "LATIN1"), (1, u "UTF16")] 323

def k7m0 : Method := { name := "<init>", desc := "()V", sig := { parameters := [], returnType := none }, accessFlags := 1, code := none }
def k7c1 : Code := { maxStack := 4, maxLocals := 1, code := jdk_42_method_139_code, exceptionTable := #[], attributes := #[] }
def k7m1 : Method := { name := "valueOf", desc := "(C)Ljava/lang/String;", sig := { parameters := [.char], returnType := some (.object "java/lang/String") }, accessFlags := 9, code := some k7c1 }
def k7c2 : Code := { maxStack := 2, maxLocals := 3, code := jdk_42_method_151_code, exceptionTable := #[], attributes := #[] }
def k7m2 : Method := { name := "<init>", desc := "([BB)V", sig := { parameters := [(.array .byte), .byte], returnType := none }, accessFlags := 0, code := some k7c2 }
/-- java/lang/String -/
def k7 : Class := { plain "java/lang/String" (some 0) with
  accessFlags := 49
  interfaces := #[2, 3, 4, 5, 6]
  cf := some (fileOf pool7 10 #[.nestMembers #[1103]] #[{ accessFlags := 1, nameIndex := 5, descriptorIndex := 6, attributes := #[] }, { accessFlags := 9, nameIndex := 782, descriptorIndex := 783, attributes := #[] }, { accessFlags := 0, nameIndex := 5, descriptorIndex := 211, attributes := #[] }] 49 2 #[1106, 1108, 575, 1110, 1112] #[{ accessFlags := 18, nameIndex := 13, descriptorIndex := 14, attributes := #[] }, { accessFlags := 18, nameIndex := 17, descriptorIndex := 18, attributes := #[] }, { accessFlags := 2, nameIndex := 21, descriptorIndex := 22, attributes := #[] }, { accessFlags := 2, nameIndex := 25, descriptorIndex := 26, attributes := #[] }, { accessFlags := 26, nameIndex := 1116, descriptorIndex := 1117, attributes := #[] }, { accessFlags := 24, nameIndex := 40, descriptorIndex := 26, attributes := #[] }, { accessFlags := 26, nameIndex := 1101, descriptorIndex := 1102, attributes := #[] }, { accessFlags := 26, nameIndex := 1121, descriptorIndex := 1122, attributes := #[] }, { accessFlags := 25, nameIndex := 599, descriptorIndex := 600, attributes := #[] }, { accessFlags := 24, nameIndex := 1125, descriptorIndex := 18, attributes := #[] }, { accessFlags := 24, nameIndex := 1127, descriptorIndex := 18, attributes := #[] }])
  fields := #[{ name := "value", type := (.array .byte), accessFlags := 18, slot := 0, constantValue := 0 }, { name := "coder", type := .byte, accessFlags := 18, slot := 1, constantValue := 0 }, { name := "hash", type := .int, accessFlags := 2, slot := 2, constantValue := 0 }, { name := "hashIsZero", type := .boolean, accessFlags := 2, slot := 3, constantValue := 0 }, { name := "serialVersionUID", type := .long, accessFlags := 26, slot := 0, constantValue := 0 }, { name := "COMPACT_STRINGS", type := .boolean, accessFlags := 24, slot := 1, constantValue := 0 }, { name := "serialPersistentFields", type := (.array (.object "java/io/ObjectStreamField")), accessFlags := 26, slot := 2, constantValue := 0 }, { name := "REPL", type := .char, accessFlags := 26, slot := 3, constantValue := 0 }, { name := "CASE_INSENSITIVE_ORDER", type := (.object "java/util/Comparator"), accessFlags := 25, slot := 4, constantValue := 0 }, { name := "LATIN1", type := .byte, accessFlags := 24, slot := 5, constantValue := 0 }, { name := "UTF16", type := .byte, accessFlags := 24, slot := 6, constantValue := 0 }]
  methods := #[k7m0, k7m1, k7m2]
  instanceTypes := #[(.array .byte), .byte, .int, .boolean]
  staticTypes := #[.long, .boolean, (.array (.object "java/io/ObjectStreamField")), .char, (.object "java/util/Comparator"), .byte, .byte]
  resolved := Array.replicate 1451 none
  statics := some 0 }

def pool8 : Array CpInfo := pool [(4, .class_ 6), (1, u "java/lang/Object"), (0, u "<init>"), (0, u "()V"), (5, .class_ 16), (1, u "java/lang/StringLatin1"), (73, u "canEncode"), (14, u "(C)Z"), (15, u "$assertionsDisabled"), (0, u "Z"), (98, .class_ 223), (1, u "java/lang/StringLatin1$LinesSpliterator"), (156, u "toBytes"), (1, u "(C)[B"), (7, .class_ 391), (0, u "java/lang/StringLatin1$CharsSpliterator")] 3

def k8m0 : Method := { name := "<init>", desc := "()V", sig := { parameters := [], returnType := none }, accessFlags := 0, code := none }
def k8c1 : Code := { maxStack := 2, maxLocals := 1, code := jdk_43_method_3_code, exceptionTable := #[], attributes := #[] }
def k8m1 : Method := { name := "canEncode", desc := "(C)Z", sig := { parameters := [.char], returnType := some .boolean }, accessFlags := 9, code := some k8c1 }
def k8c2 : Code := { maxStack := 4, maxLocals := 1, code := jdk_43_method_46_code, exceptionTable := #[], attributes := #[] }
def k8m2 : Method := { name := "toBytes", desc := "(C)[B", sig := { parameters := [.char], returnType := some (.array .byte) }, accessFlags := 9, code := some k8c2 }
/-- java/lang/StringLatin1 -/
def k8 : Class := { plain "java/lang/StringLatin1" (some 0) with
  accessFlags := 48
  interfaces := #[]
  cf := some (fileOf pool8 14 #[.nestMembers #[390, 221]] #[{ accessFlags := 0, nameIndex := 7, descriptorIndex := 8, attributes := #[] }, { accessFlags := 9, nameIndex := 90, descriptorIndex := 105, attributes := #[] }, { accessFlags := 9, nameIndex := 380, descriptorIndex := 382, attributes := #[] }] 48 4 #[] #[{ accessFlags := 4120, nameIndex := 121, descriptorIndex := 122, attributes := #[] }])
  fields := #[{ name := "$assertionsDisabled", type := .boolean, accessFlags := 4120, slot := 0, constantValue := 0 }]
  methods := #[k8m0, k8m1, k8m2]
  instanceTypes := #[]
  staticTypes := #[.boolean]
  resolved := Array.replicate 395 none
  statics := none }

def pool9 : Array CpInfo := pool [(1, .methodref 2 3), (0, .class_ 4), (0, .nameAndType 5 6), (0, u "java/lang/Object"), (0, u "<init>"), (0, u "()V"), (0, .class_ 8), (0, u "java/lang/Record")] 13

def k9c0 : Code := { maxStack := 1, maxLocals := 1, code := jdk_30_method_1_code, exceptionTable := #[], attributes := #[] }
def k9m0 : Method := { name := "<init>", desc := "()V", sig := { parameters := [], returnType := none }, accessFlags := 4, code := some k9c0 }
/-- java/lang/Record -/
def k9 : Class := { plain "java/lang/Record" (some 0) with
  accessFlags := 1057
  interfaces := #[]
  cf := some (fileOf pool9 7 #[] #[{ accessFlags := 4, nameIndex := 5, descriptorIndex := 6, attributes := #[] }] 1057 2 #[] #[])
  fields := #[]
  methods := #[k9m0]
  instanceTypes := #[]
  staticTypes := #[]
  resolved := Array.replicate 22 none
  statics := none }

def pool10 : Array CpInfo := pool [(1, .methodref 2 3), (0, .class_ 4), (0, .nameAndType 5 6), (0, u "java/lang/Record"), (0, u "<init>"), (0, u "()V"), (0, .fieldref 8 9), (0, .class_ 10), (0, .nameAndType 11 12), (0, u "com/example/fort_river/fortriver/trec/Judgment"), (0, u "topic"), (0, u "Ljava/lang/String;"), (0, .fieldref 8 14), (0, .nameAndType 15 12), (0, u "iteration"), (0, .fieldref 8 17), (0, .nameAndType 18 12), (0, u "docno"), (0, .fieldref 8 20), (0, .nameAndType 21 22), (0, u "relevance"), (0, u "I"), (2, u "FIELD_NAMES"), (0, u "[Ljava/lang/String;"), (33, u "(Ljava/lang/String;Ljava/lang/String;Ljava/lang/String;I)V"), (23, u "isRelevant"), (0, u "()Z")] 35

def k10c0 : Code := { maxStack := 2, maxLocals := 5, code := prog_46_method_1_code, exceptionTable := #[], attributes := #[] }
def k10m0 : Method := { name := "<init>", desc := "(Ljava/lang/String;Ljava/lang/String;Ljava/lang/String;I)V", sig := { parameters := [(.object "java/lang/String"), (.object "java/lang/String"), (.object "java/lang/String"), .int], returnType := none }, accessFlags := 1, code := some k10c0 }
def k10c1 : Code := { maxStack := 1, maxLocals := 1, code := prog_46_method_3_code, exceptionTable := #[], attributes := #[] }
def k10m1 : Method := { name := "isRelevant", desc := "()Z", sig := { parameters := [], returnType := some .boolean }, accessFlags := 1, code := some k10c1 }
/-- com/example/fort_river/fortriver/trec/Judgment -/
def k10 : Class := { plain "com/example/fort_river/fortriver/trec/Judgment" (some 9) with
  accessFlags := 49
  interfaces := #[]
  cf := some (fileOf pool10 8 #[] #[{ accessFlags := 1, nameIndex := 5, descriptorIndex := 60, attributes := #[] }, { accessFlags := 1, nameIndex := 84, descriptorIndex := 85, attributes := #[] }] 49 2 #[] #[{ accessFlags := 18, nameIndex := 11, descriptorIndex := 12, attributes := #[] }, { accessFlags := 18, nameIndex := 15, descriptorIndex := 12, attributes := #[] }, { accessFlags := 18, nameIndex := 18, descriptorIndex := 12, attributes := #[] }, { accessFlags := 18, nameIndex := 21, descriptorIndex := 22, attributes := #[] }, { accessFlags := 26, nameIndex := 25, descriptorIndex := 26, attributes := #[] }])
  fields := #[{ name := "topic", type := (.object "java/lang/String"), accessFlags := 18, slot := 0, constantValue := 0 }, { name := "iteration", type := (.object "java/lang/String"), accessFlags := 18, slot := 1, constantValue := 0 }, { name := "docno", type := (.object "java/lang/String"), accessFlags := 18, slot := 2, constantValue := 0 }, { name := "relevance", type := .int, accessFlags := 18, slot := 3, constantValue := 0 }, { name := "FIELD_NAMES", type := (.array (.object "java/lang/String")), accessFlags := 26, slot := 0, constantValue := 0 }]
  methods := #[k10m0, k10m1]
  instanceTypes := #[(.object "java/lang/String"), (.object "java/lang/String"), (.object "java/lang/String"), .int]
  staticTypes := #[(.array (.object "java/lang/String"))]
  resolved := Array.replicate 121 none
  statics := none }

def pool11 : Array CpInfo := pool [(2, .class_ 4), (1, u "java/lang/Object"), (0, u "<init>"), (0, u "()V"), (17, .class_ 26), (1, u "jdk/internal/util/Preconditions"), (28, .class_ 56), (0, u "jdk/internal/util/Preconditions$4"), (57, .class_ 115), (0, u "jdk/internal/util/Preconditions$1"), (7, u "SIOOBE_FORMATTER"), (0, u "Ljava/util/function/BiFunction;"), (0, .class_ 126), (0, u "jdk/internal/util/Preconditions$2"), (3, u "AIOOBE_FORMATTER"), (0, .class_ 132), (0, u "jdk/internal/util/Preconditions$3"), (3, u "IOOBE_FORMATTER")] 57

def k11m0 : Method := { name := "<init>", desc := "()V", sig := { parameters := [], returnType := none }, accessFlags := 1, code := none }
/-- jdk/internal/util/Preconditions -/
def k11 : Class := { plain "jdk/internal/util/Preconditions" (some 0) with
  accessFlags := 33
  interfaces := #[]
  cf := some (fileOf pool11 24 #[.nestMembers #[55, 131, 125, 114]] #[{ accessFlags := 1, nameIndex := 5, descriptorIndex := 6, attributes := #[] }] 33 2 #[] #[{ accessFlags := 25, nameIndex := 123, descriptorIndex := 124, attributes := #[] }, { accessFlags := 25, nameIndex := 130, descriptorIndex := 124, attributes := #[] }, { accessFlags := 25, nameIndex := 136, descriptorIndex := 124, attributes := #[] }])
  fields := #[{ name := "SIOOBE_FORMATTER", type := (.object "java/util/function/BiFunction"), accessFlags := 25, slot := 0, constantValue := 0 }, { name := "AIOOBE_FORMATTER", type := (.object "java/util/function/BiFunction"), accessFlags := 25, slot := 1, constantValue := 0 }, { name := "IOOBE_FORMATTER", type := (.object "java/util/function/BiFunction"), accessFlags := 25, slot := 2, constantValue := 0 }]
  methods := #[k11m0]
  instanceTypes := #[]
  staticTypes := #[(.object "java/util/function/BiFunction"), (.object "java/util/function/BiFunction"), (.object "java/util/function/BiFunction")]
  resolved := Array.replicate 194 none
  statics := some 1 }

def pool12 : Array CpInfo := pool [(9, u "<init>"), (6, .class_ 18), (1, u "java/lang/Object"), (0, u "()V"), (1, .class_ 23), (1, u "jdk/internal/util/ArraysSupport"), (0, u "LOG2_ARRAY_LONG_INDEX_SCALE"), (0, u "I"), (2, u "U"), (0, u "Ljdk/internal/misc/Unsafe;"), (8, u "BIG_ENDIAN"), (0, u "Z"), (8, u "LOG2_BYTE_BIT_SIZE"), (4, u "LOG2_ARRAY_INT_INDEX_SCALE"), (54, u "JLA"), (0, u "Ljdk/internal/access/JavaLangAccess;"), (11, u "LOG2_ARRAY_BOOLEAN_INDEX_SCALE"), (9, u "LOG2_ARRAY_BYTE_INDEX_SCALE"), (5, u "LOG2_ARRAY_CHAR_INDEX_SCALE"), (5, u "LOG2_ARRAY_SHORT_INDEX_SCALE"), (18, u "LOG2_ARRAY_FLOAT_INDEX_SCALE"), (24, u "LOG2_ARRAY_DOUBLE_INDEX_SCALE"), (89, u "T_BOOLEAN"), (2, u "T_CHAR"), (1, u "T_FLOAT"), (1, u "T_DOUBLE"), (1, u "T_BYTE"), (1, u "T_SHORT"), (1, u "T_INT"), (1, u "T_LONG"), (1, u "SOFT_MAX_ARRAY_LENGTH")] 83

def k12m0 : Method := { name := "<init>", desc := "()V", sig := { parameters := [], returnType := none }, accessFlags := 2, code := none }
/-- jdk/internal/util/ArraysSupport -/
def k12 : Class := { plain "jdk/internal/util/ArraysSupport" (some 0) with
  accessFlags := 33
  interfaces := #[]
  cf := some (fileOf pool12 21 #[] #[{ accessFlags := 2, nameIndex := 9, descriptorIndex := 19, attributes := #[] }] 33 16 #[] #[{ accessFlags := 24, nameIndex := 28, descriptorIndex := 29, attributes := #[] }, { accessFlags := 26, nameIndex := 38, descriptorIndex := 39, attributes := #[] }, { accessFlags := 25, nameIndex := 121, descriptorIndex := 25, attributes := #[] }, { accessFlags := 25, nameIndex := 131, descriptorIndex := 25, attributes := #[] }, { accessFlags := 25, nameIndex := 137, descriptorIndex := 25, attributes := #[] }, { accessFlags := 25, nameIndex := 143, descriptorIndex := 25, attributes := #[] }, { accessFlags := 25, nameIndex := 53, descriptorIndex := 25, attributes := #[] }, { accessFlags := 25, nameIndex := 24, descriptorIndex := 25, attributes := #[] }, { accessFlags := 25, nameIndex := 162, descriptorIndex := 25, attributes := #[] }, { accessFlags := 25, nameIndex := 187, descriptorIndex := 25, attributes := #[] }, { accessFlags := 26, nameIndex := 48, descriptorIndex := 25, attributes := #[] }, { accessFlags := 25, nameIndex := 277, descriptorIndex := 25, attributes := #[] }, { accessFlags := 25, nameIndex := 280, descriptorIndex := 25, attributes := #[] }, { accessFlags := 25, nameIndex := 282, descriptorIndex := 25, attributes := #[] }, { accessFlags := 25, nameIndex := 284, descriptorIndex := 25, attributes := #[] }, { accessFlags := 25, nameIndex := 286, descriptorIndex := 25, attributes := #[] }, { accessFlags := 25, nameIndex := 288, descriptorIndex := 25, attributes := #[] }, { accessFlags := 25, nameIndex := 290, descriptorIndex := 25, attributes := #[] }, { accessFlags := 25, nameIndex := 292, descriptorIndex := 25, attributes := #[] }, { accessFlags := 26, nameIndex := 108, descriptorIndex := 109, attributes := #[] }, { accessFlags := 25, nameIndex := 294, descriptorIndex := 25, attributes := #[] }])
  fields := #[{ name := "U", type := (.object "jdk/internal/misc/Unsafe"), accessFlags := 24, slot := 0, constantValue := 0 }, { name := "BIG_ENDIAN", type := .boolean, accessFlags := 26, slot := 1, constantValue := 0 }, { name := "LOG2_ARRAY_BOOLEAN_INDEX_SCALE", type := .int, accessFlags := 25, slot := 2, constantValue := 0 }, { name := "LOG2_ARRAY_BYTE_INDEX_SCALE", type := .int, accessFlags := 25, slot := 3, constantValue := 0 }, { name := "LOG2_ARRAY_CHAR_INDEX_SCALE", type := .int, accessFlags := 25, slot := 4, constantValue := 0 }, { name := "LOG2_ARRAY_SHORT_INDEX_SCALE", type := .int, accessFlags := 25, slot := 5, constantValue := 0 }, { name := "LOG2_ARRAY_INT_INDEX_SCALE", type := .int, accessFlags := 25, slot := 6, constantValue := 0 }, { name := "LOG2_ARRAY_LONG_INDEX_SCALE", type := .int, accessFlags := 25, slot := 7, constantValue := 0 }, { name := "LOG2_ARRAY_FLOAT_INDEX_SCALE", type := .int, accessFlags := 25, slot := 8, constantValue := 0 }, { name := "LOG2_ARRAY_DOUBLE_INDEX_SCALE", type := .int, accessFlags := 25, slot := 9, constantValue := 0 }, { name := "LOG2_BYTE_BIT_SIZE", type := .int, accessFlags := 26, slot := 10, constantValue := 0 }, { name := "T_BOOLEAN", type := .int, accessFlags := 25, slot := 11, constantValue := 0 }, { name := "T_CHAR", type := .int, accessFlags := 25, slot := 12, constantValue := 0 }, { name := "T_FLOAT", type := .int, accessFlags := 25, slot := 13, constantValue := 0 }, { name := "T_DOUBLE", type := .int, accessFlags := 25, slot := 14, constantValue := 0 }, { name := "T_BYTE", type := .int, accessFlags := 25, slot := 15, constantValue := 0 }, { name := "T_SHORT", type := .int, accessFlags := 25, slot := 16, constantValue := 0 }, { name := "T_INT", type := .int, accessFlags := 25, slot := 17, constantValue := 0 }, { name := "T_LONG", type := .int, accessFlags := 25, slot := 18, constantValue := 0 }, { name := "JLA", type := (.object "jdk/internal/access/JavaLangAccess"), accessFlags := 26, slot := 19, constantValue := 0 }, { name := "SOFT_MAX_ARRAY_LENGTH", type := .int, accessFlags := 25, slot := 20, constantValue := 0 }]
  methods := #[k12m0]
  instanceTypes := #[]
  staticTypes := #[(.object "jdk/internal/misc/Unsafe"), .boolean, .int, .int, .int, .int, .int, .int, .int, .int, .int, .int, .int, .int, .int, .int, .int, .int, .int, (.object "jdk/internal/access/JavaLangAccess"), .int]
  resolved := Array.replicate 378 none
  statics := none }

def pool13 : Array CpInfo := pool [(1, u "java/lang/Cloneable"), (0, .class_ 1), (0, u "java/lang/Object"), (0, .class_ 3)] 3

/-- java/lang/Cloneable -/
def k13 : Class := { plain "java/lang/Cloneable" (some 0) with
  accessFlags := 1537
  interfaces := #[]
  cf := some (fileOf pool13 2 #[] #[] 1537 4 #[] #[])
  fields := #[]
  methods := #[]
  instanceTypes := #[]
  staticTypes := #[]
  resolved := Array.replicate 8 none
  statics := none }

/-- the primitive byte -/
def k14 : Class := { plain "byte" none with kind := .primitive 'B', accessFlags := 0x411 }
/-- [B -/
def k15 : Class := { plain "[B" (some 0) with kind := .array 14 .byte, interfaces := #[13, 2], accessFlags := 1041 }

/-- the primitive int -/
def k16 : Class := { plain "int" none with kind := .primitive 'I', accessFlags := 0x411 }
/-- [I -/
def k17 : Class := { plain "[I" (some 0) with kind := .array 16 .int, interfaces := #[13, 2], accessFlags := 1041 }

def heap : Heap := #[{ cls := 7, slots := #[.long 0, .int 1, .null, .int 0, .null, .int 0, .int 0], vm := .statics 7 },
  { cls := 11, slots := #[.null, .null, .null], vm := .statics 11 }]
def classes : Array Class := #[k0, k1, k2, k3, k4, k5, k6, k7, k8, k9, k10, k11, k12, k13, k14, k15, k16, k17]
def interned : List (Array UInt16 × Addr) := []
def slotsUsed : Nat := 10
def theMethod : MethodId := ⟨1, 1⟩
def args0 : Array Value := #[.int 5, .int 7, .int 70]
def aboutOver (below : List Frame) : State where
  vm := { classes := classes, interned := interned.toArray }
  heap := heap
  slotsUsed := slotsUsed
  threads := #[{ frames := .invoking theMethod args0 :: below }]
def below0 : List Frame := [.native { method := ⟨0, 0⟩, args := #[] }]
def about1 : State := aboutOver below0
def p0 : Program := .bare "" "" ""
def e0 : Env := launch0.env 0 0 0
theorem w_frames : about1.frames = Frame.invoking theMethod args0 :: below0 := rfl
set_option maxRecDepth 65536 in
theorem w_args : argsFit about1.vm theMethod args0 = true := by decide +kernel
set_option maxRecDepth 65536 in
theorem w_heap : heapFits about1 = true := by decide +kernel
set_option maxRecDepth 65536 in
theorem w_runnable : about1.curStatus? = some .runnable := by decide +kernel
set_option maxRecDepth 65536 in
theorem w_alone : about1.alone = true := by decide +kernel
set_option maxRecDepth 65536 in
theorem w_named : about1.methodNamed? x = some theMethod := by decide +kernel
set_option maxRecDepth 65536 in
theorem w_hears : about1.hears theMethod below0 = true := by decide +kernel
set_option maxRecDepth 65536 in
theorem w_ripe : about1.ripe theMethod args0 below0 = true := by decide +kernel
theorem w_running : about1.status = .running := rfl
set_option maxRecDepth 65536 in
theorem w_room : about1.hasRoom e0.platform room_1 = true :=
  launch0.hasRoom_least _ room_1 (by decide +kernel) (by decide +kernel) (by decide +kernel) (by decide +kernel) (by decide +kernel) (by decide +kernel)
theorem allAtoms_all (ts : List Jvm.Cond) (a : Array Jvm.Value) (st : Jvm.State) : (allAtoms ts).before a st = ts.all (fun c => c.before a st) := by
  induction ts with
  | nil => rfl
  | cons c t ih =>
    show (Jvm.Cond.and c (allAtoms t)).before a st = _
    rw [Jvm.Cond.before_and, ih, List.all_cons]
def words1 : List Jvm.Cond := Jvm.Cond.code x code maxLocals ret :: tables_1
/-- a 'code' word, met by the world's own term for the bytes: nothing is compared byte by byte -/
theorem code_word {y : MethodName} {bytes : ByteArray} {mx : Nat} {rt : Option FieldType} {a : Array Value} {s : State} {m : MethodId} {meth : Method} {c : Code} (h1 : s.methodNamed? y = some m) (h2 : s.vm.method? m = some meth) (h3 : meth.code = some c) (h4 : c.code = bytes)
    (h5 : (c.maxLocals == mx && c.exceptionTable.isEmpty && decide (c.maxStack ≤ mostOperands) && decide (meth.sig.returnType = rt) && !meth.locks && decide (parseMethodDescriptor y.desc = some meth.sig)) = true) : (Jvm.Cond.code y bytes mx rt).before a s = true := by
  simp only [Bool.and_eq_true, beq_iff_eq, Bool.not_eq_true', decide_eq_true_eq] at h5
  obtain ⟨⟨⟨⟨⟨g1, g2⟩, g3⟩, g4⟩, g5⟩, g6⟩ := h5
  simp [Cond.before, Cond.holds, Cond.value, h1, h2, h3, h4, g1, g2, g3, g4, g5, g6]
def isCode : Jvm.Cond → Bool
  | .code _ _ _ _ => true
  | _ => false
theorem all_split {L : List Jvm.Cond} {P : Jvm.Cond → Bool} (h1 : L.all (fun c => isCode c || P c) = true) (h2 : ∀ c ∈ L.filter isCode, P c = true) : L.all P = true := by
  refine List.all_eq_true.mpr fun c hc => ?_
  have h := List.all_eq_true.mp h1 c hc
  rcases Bool.eq_false_or_eq_true (isCode c) with hi | hi
  · exact h2 c (List.mem_filter.mpr ⟨hc, hi⟩)
  · simpa [hi] using h
set_option maxRecDepth 65536 in
theorem w_c0 : (Jvm.Cond.code x code maxLocals ret).before args0 about1 = true := code_word (m := ⟨1, 1⟩) (meth := k1m1) (c := k1c1) (by decide +kernel) rfl rfl rfl (by decide +kernel)
set_option maxRecDepth 65536 in
theorem w_c1 : (Jvm.Cond.code ({ cls := "java/lang/String", name := "valueOf", desc := "(C)Ljava/lang/String;" } : Jvm.MethodName) jdk_42_method_139_code (1 : Nat) (Option.some (Jvm.ClassFile.FieldType.object "java/lang/String"))).before args0 about1 = true := code_word (m := ⟨7, 1⟩) (meth := k7m1) (c := k7c1) (by decide +kernel) rfl rfl rfl (by decide +kernel)
set_option maxRecDepth 65536 in
theorem w_c2 : (Jvm.Cond.code ({ cls := "java/lang/StringLatin1", name := "canEncode", desc := "(C)Z" } : Jvm.MethodName) jdk_43_method_3_code (1 : Nat) (Option.some Jvm.ClassFile.FieldType.boolean)).before args0 about1 = true := code_word (m := ⟨8, 1⟩) (meth := k8m1) (c := k8c1) (by decide +kernel) rfl rfl rfl (by decide +kernel)
set_option maxRecDepth 65536 in
theorem w_c3 : (Jvm.Cond.code ({ cls := "java/lang/StringLatin1", name := "toBytes", desc := "(C)[B" } : Jvm.MethodName) jdk_43_method_46_code (1 : Nat) (Option.some (Jvm.ClassFile.FieldType.array Jvm.ClassFile.FieldType.byte))).before args0 about1 = true := code_word (m := ⟨8, 2⟩) (meth := k8m2) (c := k8c2) (by decide +kernel) rfl rfl rfl (by decide +kernel)
set_option maxRecDepth 65536 in
theorem w_c4 : (Jvm.Cond.code ({ cls := "java/lang/String", name := "<init>", desc := "([BB)V" } : Jvm.MethodName) jdk_42_method_151_code (3 : Nat) (Option.none : Option Jvm.ClassFile.FieldType)).before args0 about1 = true := code_word (m := ⟨7, 2⟩) (meth := k7m2) (c := k7c2) (by decide +kernel) rfl rfl rfl (by decide +kernel)
set_option maxRecDepth 65536 in
theorem w_c5 : (Jvm.Cond.code ({ cls := "java/lang/Object", name := "<init>", desc := "()V" } : Jvm.MethodName) object_method_1_code (1 : Nat) (Option.none : Option Jvm.ClassFile.FieldType)).before args0 about1 = true := code_word (m := ⟨0, 0⟩) (meth := k0m0) (c := k0c0) (by decide +kernel) rfl rfl rfl (by decide +kernel)
set_option maxRecDepth 65536 in
theorem w_c6 : (Jvm.Cond.code ({ cls := "com/example/fort_river/fortriver/trec/Judgment", name := "<init>", desc := "(Ljava/lang/String;Ljava/lang/String;Ljava/lang/String;I)V" } : Jvm.MethodName) prog_46_method_1_code (5 : Nat) (Option.none : Option Jvm.ClassFile.FieldType)).before args0 about1 = true := code_word (m := ⟨10, 0⟩) (meth := k10m0) (c := k10c0) (by decide +kernel) rfl rfl rfl (by decide +kernel)
set_option maxRecDepth 65536 in
theorem w_c7 : (Jvm.Cond.code ({ cls := "java/lang/Record", name := "<init>", desc := "()V" } : Jvm.MethodName) jdk_30_method_1_code (1 : Nat) (Option.none : Option Jvm.ClassFile.FieldType)).before args0 about1 = true := code_word (m := ⟨9, 0⟩) (meth := k9m0) (c := k9c0) (by decide +kernel) rfl rfl rfl (by decide +kernel)
set_option maxRecDepth 65536 in
theorem w_c8 : (Jvm.Cond.code ({ cls := "com/example/fort_river/fortriver/trec/Judgment", name := "isRelevant", desc := "()Z" } : Jvm.MethodName) prog_46_method_3_code (1 : Nat) (Option.some Jvm.ClassFile.FieldType.boolean)).before args0 about1 = true := code_word (m := ⟨10, 1⟩) (meth := k10m1) (c := k10c1) (by decide +kernel) rfl rfl rfl (by decide +kernel)
def codes1 : List Jvm.Cond := [Jvm.Cond.code x code maxLocals ret, Jvm.Cond.code ({ cls := "java/lang/String", name := "valueOf", desc := "(C)Ljava/lang/String;" } : Jvm.MethodName) jdk_42_method_139_code (1 : Nat) (Option.some (Jvm.ClassFile.FieldType.object "java/lang/String")), Jvm.Cond.code ({ cls := "java/lang/StringLatin1", name := "canEncode", desc := "(C)Z" } : Jvm.MethodName) jdk_43_method_3_code (1 : Nat) (Option.some Jvm.ClassFile.FieldType.boolean), Jvm.Cond.code ({ cls := "java/lang/StringLatin1", name := "toBytes", desc := "(C)[B" } : Jvm.MethodName) jdk_43_method_46_code (1 : Nat) (Option.some (Jvm.ClassFile.FieldType.array Jvm.ClassFile.FieldType.byte)), Jvm.Cond.code ({ cls := "java/lang/String", name := "<init>", desc := "([BB)V" } : Jvm.MethodName) jdk_42_method_151_code (3 : Nat) (Option.none : Option Jvm.ClassFile.FieldType), Jvm.Cond.code ({ cls := "java/lang/Object", name := "<init>", desc := "()V" } : Jvm.MethodName) object_method_1_code (1 : Nat) (Option.none : Option Jvm.ClassFile.FieldType), Jvm.Cond.code ({ cls := "com/example/fort_river/fortriver/trec/Judgment", name := "<init>", desc := "(Ljava/lang/String;Ljava/lang/String;Ljava/lang/String;I)V" } : Jvm.MethodName) prog_46_method_1_code (5 : Nat) (Option.none : Option Jvm.ClassFile.FieldType), Jvm.Cond.code ({ cls := "java/lang/Record", name := "<init>", desc := "()V" } : Jvm.MethodName) jdk_30_method_1_code (1 : Nat) (Option.none : Option Jvm.ClassFile.FieldType), Jvm.Cond.code ({ cls := "com/example/fort_river/fortriver/trec/Judgment", name := "isRelevant", desc := "()Z" } : Jvm.MethodName) prog_46_method_3_code (1 : Nat) (Option.some Jvm.ClassFile.FieldType.boolean)]
set_option maxRecDepth 65536 in
theorem codes_eq : words1.filter isCode = codes1 := rfl
theorem w_codes : ∀ c ∈ words1.filter isCode, c.before args0 about1 = true := by
  rw [codes_eq]
  intro c hc
  simp only [codes1, List.mem_cons, List.not_mem_nil, or_false] at hc
  rcases hc with rfl | rfl | rfl | rfl | rfl | rfl | rfl | rfl | rfl
  · exact w_c0
  · exact w_c1
  · exact w_c2
  · exact w_c3
  · exact w_c4
  · exact w_c5
  · exact w_c6
  · exact w_c7
  · exact w_c8
set_option maxRecDepth 65536 in
theorem w_t1 : (words1.take 24).all (fun c => isCode c || c.before args0 about1) = true := by decide +kernel
set_option maxRecDepth 65536 in
theorem w_t2 : ((words1.drop 24).take 24).all (fun c => isCode c || c.before args0 about1) = true := by decide +kernel
set_option maxRecDepth 65536 in
theorem w_t3 : ((words1.drop 24).drop 24).all (fun c => isCode c || c.before args0 about1) = true := by decide +kernel
theorem w_tables : (allAtoms (Jvm.Cond.code x code maxLocals ret :: tables_1)).before args0 about1 = true := by
  rw [allAtoms_all]
  show words1.all (fun c => c.before args0 about1) = true
  refine all_split ?_ w_codes
  rw [← List.take_append_drop 24 words1, List.all_append, w_t1, ← List.take_append_drop 24 (words1.drop 24), List.all_append, w_t2, w_t3]
  rfl
set_option maxRecDepth 65536 in
theorem w_rest : rest_1_c.before args0 about1 = true := by decide +kernel
set_option maxRecDepth 65536 in
theorem w_case : (Jvm.Cond.and given_1 narrow_1).before args0 about1 = true := by decide +kernel
theorem w_applies : (headSpec (Jvm.Cond.code x code maxLocals ret :: tables_1) room_1).applies x e0.platform about1 = true :=
  (Spec.applies_iff w_frames).mpr ⟨w_running, w_runnable, w_alone, w_named, w_hears, w_ripe, w_room, w_tables⟩
theorem atStart : AtStart classFile x code maxLocals ret World_1 tables_1 room_1 Calls_1 rest_1 Pre_1 launch0 p0 e0 about1 theMethod args0 below0 :=
  ⟨lists_1, trivial, launch0.admits_env _ _ _, launch0.least_env, fairChoices_fair.cas, fairChoices_fair.clock, w_frames, w_args, w_heap, w_applies, trivial, w_rest, w_case⟩
end start1
theorem witness_1 : WitnessClaimed_1 := ⟨start1.p0, start1.e0, start1.about1, start1.theMethod, start1.args0, start1.below0, start1.atStart⟩
end Jvm.Pilot.@@N@@
